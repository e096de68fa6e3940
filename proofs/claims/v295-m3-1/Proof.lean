import JvmDerived
import JvmDerived.Pilot.@@N@@Statement
import JvmDerived.Pilot.@@N@@Code
set_option linter.unusedVariables false
set_option linter.unusedSimpArgs false

namespace Jvm.RoadKit
open Sem ClassFile Op Lib Jvm.Stand Jvm.Free Jvm.LawKit
section New
variable {p : Program} {l : Launch} {e : Env} {R : Room} {s : State} {m : MethodId} {args : Array Value} {below : List Frame} {meth : Method} {c : Code} {T : State} {locs : List Loc} {cells slots : Nat}
theorem retI (X : Stand p l e R s m args below meth c T locs cells slots) (hx : p.tables.exec = Jvm.exec) {pc : Nat} {Ls : Array Slot} {z : Int32} {rest : List Value} (hret : meth.sig.returnType = some .int) (hd : decode c.code pc = .ok (.ireturn, 1)) {fs : List Frame}
    (hl : ∀ (f : JFrame) (acts : List Action), f.method = m → f.locked = none → f.entered = [] → (doReturn e (T.setTop f) acts (some (.int z))).1 = T.setFrames fs) : Steps p.tables e below (T.setTop (mkF m pc Ls (.int z :: rest))) (T.setFrames fs) := by
  have hm' : T.vm.method? m = some meth := X.method'
  have hn : narrow .int (.int z) = .int z := rfl
  show Steps p.tables e below (T.setTop { method := m, pc := pc, locals := Ls, stack := _ :: rest, locked := none }) _
  jvm_step X.here [X.here.top, hx, hd, hm', hret, hn]
  first | (intro acts; rw [hl _ acts rfl rfl rfl]) | rw [hl _ _ rfl rfl rfl]
  exact Steps.refl _
end New
end Jvm.RoadKit
namespace Jvm.Pilot.@@N@@
open Jvm Jvm.ClassFile Sem Op Lib Jvm.Free Jvm.Stand Jvm.LawKit Jvm.RoadKit Bundle Jvm.Pilot.@@N@@.Jvm.D
def EL : List (String × Nat) := []
theorem hEL {Z : State} {a0 : Array Value} (hw : ∀ d ∈ tables_1, d.before a0 Z = true) : EW Z a0 EL := EW.nil
theorem own_since (s : State) : s.Since s.vm s.heap.size := (State.WarmedH.refl s).since _
theorem own_monoW {s t : State} {o : Outcome} {L : List Loc} {k n k' n' : Nat} (h : ReturnedEndW s o t L k n) (h1 : k ≤ k') (h2 : n ≤ n') : ReturnedEndW s o t L k' n' := ⟨h.1, h.2.1, h.2.2.1, h.2.2.2.mono h1 h2⟩
theorem Safe.fresh {Z : State} {vm : Vm} {h : Heap} {x : Addr} (hal : Z.vm.Alike vm) (E : Exa Z h x "java/lang/String") (V : Fld Z h x "java/lang/String" "value" "[B" .null) : Safe Z EL vm h x := fun B => by
  obtain ⟨p, -, u, a, -, q, -, F, rfl | rfl⟩ := B
  · obtain ⟨cell, cf, k, i, f, v1, v2, v3, v4, v5, v6, v7⟩ := V
    cases (show h[q.sa]? = some q.sC from F.ha).symm.trans v1
    obtain ⟨cS, ⟨⟨s1, s2, s3, ⟨cv, kv, iv, s4, s4'⟩, ⟨cc, kc, ic, s5, s5'⟩, s6, s7, s8, s9, s10, s11, s12, s13, s14, s15, s16⟩, hfS, hcS⟩, -⟩ := F
    obtain ⟨kv', z4⟩ := ff_back (U := Wst Z vm h) hal s4
    cases v2.symm.trans z4
    cases s8.symm.trans v7
  · obtain ⟨cell, k, e1, e2, e3, -, -⟩ := E
    cases (show h[q.sd]? = some q.SA from F.hd).symm.trans e1
    obtain ⟨cS, -, -, f, -⟩ := F
    have f' : vm.findClass "[B" = some q.SA.cls := f
    rw [hal.findClass] at f'
    obtain ⟨k1, q1, q2⟩ := Vm.findClass_spec f'
    obtain ⟨k2, q3, q4⟩ := Vm.findClass_spec e2
    cases q1.symm.trans q3
    exact absurd (q2.symm.trans q4) (by decide)
theorem own_fits {v : Value} (h : v.isRef = true) {C : String} : fits (.object C) v = true := by rcases ref_cases h with rfl | ⟨a, rfl⟩ <;> rfl
theorem own_ch (x : Int32) : ¬ nar .char ((x &&& (255 : Int32)).toUInt32.toUInt16.toUInt32.toInt32) < 0 ∧ ¬ (255 : Int32) < nar .char ((x &&& (255 : Int32)).toUInt32.toUInt16.toUInt32.toInt32) := by
  have t : ∀ k : Fin 256, ¬ nar .char ((Int32.ofNat k.val).toUInt32.toUInt16.toUInt32.toInt32) < 0 ∧ ¬ (255 : Int32) < nar .char ((Int32.ofNat k.val).toUInt32.toUInt16.toUInt32.toInt32) := by decide +kernel
  have h : (x &&& 255).toBitVec.toNat < 256 := by
    simp only [Int32.toBitVec_and, BitVec.toNat_and]
    exact Nat.lt_succ_of_le Nat.and_le_right
  have e : (x &&& 255) = Int32.ofNat (x &&& 255).toBitVec.toNat := by
    apply Int32.toBitVec_inj.mp
    show _ = BitVec.ofNat 32 _
    rw [BitVec.ofNat_toNat]; simp
  rw [e]
  exact t ⟨_, h⟩
theorem own_cs0 {P : Int32 → Prop} : ∀ c ∈ ([] : List Int32), P c := fun _ q => nomatch q
theorem own_csS {P : Int32 → Prop} {y : Int32} {L : List Int32} (q : P y) (r : ∀ x ∈ L, P x) : ∀ x ∈ y :: L, P x := fun x z => (List.mem_cons.mp z).elim (fun u => u ▸ q) (r x)
theorem own_chx (x : Int32) : ¬ (255 : Int32) < ((x &&& (255 : Int32)).toUInt32.toUInt16.toUInt32.toInt32) := by
  have a := c_and x 255 (by decide)
  have b := c_i2c (x &&& 255)
  have e : (255 : Int32).toInt = 255 := by decide
  rw [Int32.lt_iff_toInt_lt]
  rw [e] at a ⊢
  omega
theorem own_idx {q : Int64} (h1 : ¬ lcmpW q (-128 : Int64) < (0 : Int32)) (h2 : ¬ (0 : Int32) < lcmpW q (127 : Int64)) : 0 ≤ (q.toInt32 + (128 : Int32)).toInt ∧ (q.toInt32 + (128 : Int32)).toInt < 256 := by
  rw [lw_lt, Int64.lt_iff_toInt_lt] at h1
  rw [lw_gt, Int64.lt_iff_toInt_lt] at h2
  have e1 : (-128 : Int64).toInt = -128 := by decide
  have e2 : (127 : Int64).toInt = 127 := by decide
  have e3 : (128 : Int32).toInt = 128 := by decide
  have c1 := c_l2i q
  have c2 := c_iadd q.toInt32 128
  have r1 := rng32 q.toInt32
  have r2 := rng32 (q.toInt32 + 128)
  omega
theorem own_in {q : Int64} {cl : Cell} (S : cl.slots.size = (256 : Int32).toNatClampNeg) (h1 : ¬ lcmpW q (-128 : Int64) < (0 : Int32)) (h2 : ¬ (0 : Int32) < lcmpW q (127 : Int64)) : ¬ ((q.toInt32 + (128 : Int32)) < 0 ∨ cl.slots.size ≤ (q.toInt32 + (128 : Int32)).toNatClampNeg) := by
  have i := own_idx h1 h2
  refine inb_of S ⟨?_, ?_⟩
  · rw [Int32.lt_iff_toInt_lt, show (0 : Int32).toInt = 0 from by decide]; omega
  · rw [Int32.lt_iff_toInt_lt, show (256 : Int32).toInt = 256 from by decide]; omega
theorem d2_0 : decode jdk_30_method_1_code 0 = .ok (.aload_n 0, 1) := by decide +kernel
theorem d2_1 : decode jdk_30_method_1_code 1 = .ok (.invokespecial 1, 3) := by decide +kernel
theorem d2_4 : decode jdk_30_method_1_code 4 = .ok (.return_, 1) := by decide +kernel
theorem pn_java_lang_Record : plainName "java/lang/Record" = true := by first | (simp [plainName, overriddenIn]; done) | decide +kernel
theorem ef_2 (m : MethodId) (u0 : Addr) : entryFrame m #[(.ref u0)] 1 = mkF m 0 #[.val (.ref u0)] [] := by first | (simp [entryFrame, mkF, argsToLocals, Value.category]; done) | rfl
def Q2 (Z : State) (u0 : Addr) (h0 : Heap) (n0 : Nat) (v : Option Value) (h : Heap) (L : List Loc) : Prop := v = none ∧ Fr n0 L ∧ h = h0
set_option maxRecDepth 65536 in
set_option maxHeartbeats 40000000 in
theorem rm2 (l : Launch) (Z : State) (a0 : Array Value) (hw : ∀ d ∈ tables_1, d.before a0 Z = true) (ws : List Jvm.Cond) (u0 : Addr) (h0 : Heap) (n0 : Nat) (Z0 : n0 ≤ h0.size) :
    MetFree l (⟨"java/lang/Record", "<init>", "()V"⟩ : MethodName) (head1 (Jvm.Cond.code (⟨"java/lang/Record", "<init>", "()V"⟩ : MethodName) jdk_30_method_1_code 1 none :: ws) ({ frames := 1, cells := 0, slots := 0, locals := 12 } : Room)) (fun a U => a = #[(.ref u0)] ∧ Z.Warmed39 U.vm ∧ U.heap = h0) (fun _ _ _ _ _ => True) (fun _ U o U' => ∃ v L, o = .returned v ∧ Q2 Z u0 h0 n0 v U'.heap L ∧ FrameEnd U o U' L ({ frames := 1, cells := 0, slots := 0, locals := 12 } : Room).cells ({ frames := 1, cells := 0, slots := 0, locals := 12 } : Room).slots) := by
  refine MetFree.of_bodySF (plainFor_of_name pn_java_lang_Record) hisR ?_
  intro p e s m args below meth c s₁ Bd hml0 hP hK
  obtain ⟨rfl, hZ, hh⟩ := hP
  have hx := Bd.exec
  have hby := Bd.bytes
  have hml : c.maxLocals = 1 := hml0
  have hown : s.vm.findClass "java/lang/Record" = some m.cls := findClass_of_methodNamed Bd.named
  have hnm := (name_of_methodNamed Bd.named Bd.method).1
  have X0 : Stand p l e ({ frames := 1, cells := 0, slots := 0, locals := 12 } : Room) s m #[(.ref u0)] below meth c s₁ [] 0 0 := Stand.of_body Bd
  have e0 : s₁.heap = h0 := by rw [← hh, Bd.state]; rfl
  have N0 := Fr.nil n0
  have pre0 : ∀ t, Steps p.tables e below (s₁.setTop (mkF m 0 #[.val (.ref u0)] [])) t → Steps p.tables e below (s₁.setTop (entryFrame m #[(.ref u0)] 1)) t := fun t k => castTop (ef_2 m u0) k
  obtain ⟨T1, X1, e1, st1⟩ := initO X0 hx hZ hown (hw _ (List.mem_of_getElem? (i := 15) rfl)) (hw _ (List.mem_of_getElem? (i := 16) rfl)) (hw _ (List.mem_of_getElem? (i := 17) rfl)) e0 (g := (mkF m 1 #[.val (.ref u0)] [(.ref u0)])) rfl (by rw [hml]; rfl) rfl (hb hby d2_1) (by decide) (W := 0) (by show 2 * 0 + _ ≤ _; exact Nat.le_of_eq rfl) (by decide)
  obtain ⟨fs, hr, hrun, hended, hW, hsame⟩ := X1.leave (v := none) (fun _ => rfl)
  refine ⟨_, _, pre0 _ ?_, hrun, hended, _, _, rfl, ?_, ⟨_, rfl⟩, hW, hsame.mono (by decide) (by decide)⟩
  · show Steps p.tables e below (s₁.setTop (mkF m 0 #[.val (.ref u0)] [])) _
    refine XS.aloadN X0.here hx rfl (hb hby d2_0) rfl rfl ?_
    show Steps p.tables e below (s₁.setTop (mkF m 1 #[.val (.ref u0)] [(.ref u0)])) _
    refine st1 _ ?_
    show Steps p.tables e below (T1.setTop (mkF m 4 #[.val (.ref u0)] [])) _
    exact X1.returnOut hx Bd.returns (hb hby d2_4) hr
  · show Q2 Z u0 h0 n0 _ T1.heap _
    rw [e1]
    exact ⟨rfl, N0, rfl⟩
theorem d14_0 : decode jdk_18_method_1_code 0 = .ok (.aload_n 0, 1) := by decide +kernel
theorem d14_1 : decode jdk_18_method_1_code 1 = .ok (.invokespecial 1, 3) := by decide +kernel
theorem d14_4 : decode jdk_18_method_1_code 4 = .ok (.return_, 1) := by decide +kernel
theorem pn_java_lang_Number : plainName "java/lang/Number" = true := by first | (simp [plainName, overriddenIn]; done) | decide +kernel
theorem ef_14 (m : MethodId) (u0 : Addr) : entryFrame m #[(.ref u0)] 1 = mkF m 0 #[.val (.ref u0)] [] := by first | (simp [entryFrame, mkF, argsToLocals, Value.category]; done) | rfl
def Q14 (Z : State) (u0 : Addr) (h0 : Heap) (n0 : Nat) (v : Option Value) (h : Heap) (L : List Loc) : Prop := v = none ∧ Fr n0 L ∧ h = h0
set_option maxRecDepth 65536 in
set_option maxHeartbeats 40000000 in
theorem rm14 (l : Launch) (Z : State) (a0 : Array Value) (hw : ∀ d ∈ tables_1, d.before a0 Z = true) (ws : List Jvm.Cond) (u0 : Addr) (h0 : Heap) (n0 : Nat) (Z0 : n0 ≤ h0.size) :
    MetFree l (⟨"java/lang/Number", "<init>", "()V"⟩ : MethodName) (head1 (Jvm.Cond.code (⟨"java/lang/Number", "<init>", "()V"⟩ : MethodName) jdk_18_method_1_code 1 none :: ws) ({ frames := 1, cells := 0, slots := 0, locals := 12 } : Room)) (fun a U => a = #[(.ref u0)] ∧ Z.Warmed39 U.vm ∧ U.heap = h0) (fun _ _ _ _ _ => True) (fun _ U o U' => ∃ v L, o = .returned v ∧ Q14 Z u0 h0 n0 v U'.heap L ∧ FrameEnd U o U' L ({ frames := 1, cells := 0, slots := 0, locals := 12 } : Room).cells ({ frames := 1, cells := 0, slots := 0, locals := 12 } : Room).slots) := by
  refine MetFree.of_bodySF (plainFor_of_name pn_java_lang_Number) hisR ?_
  intro p e s m args below meth c s₁ Bd hml0 hP hK
  obtain ⟨rfl, hZ, hh⟩ := hP
  have hx := Bd.exec
  have hby := Bd.bytes
  have hml : c.maxLocals = 1 := hml0
  have hown : s.vm.findClass "java/lang/Number" = some m.cls := findClass_of_methodNamed Bd.named
  have hnm := (name_of_methodNamed Bd.named Bd.method).1
  have X0 : Stand p l e ({ frames := 1, cells := 0, slots := 0, locals := 12 } : Room) s m #[(.ref u0)] below meth c s₁ [] 0 0 := Stand.of_body Bd
  have e0 : s₁.heap = h0 := by rw [← hh, Bd.state]; rfl
  have N0 := Fr.nil n0
  have pre0 : ∀ t, Steps p.tables e below (s₁.setTop (mkF m 0 #[.val (.ref u0)] [])) t → Steps p.tables e below (s₁.setTop (entryFrame m #[(.ref u0)] 1)) t := fun t k => castTop (ef_14 m u0) k
  obtain ⟨T1, X1, e1, st1⟩ := initO X0 hx hZ hown (hw _ (List.mem_of_getElem? (i := 104) rfl)) (hw _ (List.mem_of_getElem? (i := 16) rfl)) (hw _ (List.mem_of_getElem? (i := 17) rfl)) e0 (g := (mkF m 1 #[.val (.ref u0)] [(.ref u0)])) rfl (by rw [hml]; rfl) rfl (hb hby d14_1) (by decide) (W := 0) (by show 2 * 0 + _ ≤ _; exact Nat.le_of_eq rfl) (by decide)
  obtain ⟨fs, hr, hrun, hended, hW, hsame⟩ := X1.leave (v := none) (fun _ => rfl)
  refine ⟨_, _, pre0 _ ?_, hrun, hended, _, _, rfl, ?_, ⟨_, rfl⟩, hW, hsame.mono (by decide) (by decide)⟩
  · show Steps p.tables e below (s₁.setTop (mkF m 0 #[.val (.ref u0)] [])) _
    refine XS.aloadN X0.here hx rfl (hb hby d14_0) rfl rfl ?_
    show Steps p.tables e below (s₁.setTop (mkF m 1 #[.val (.ref u0)] [(.ref u0)])) _
    refine st1 _ ?_
    show Steps p.tables e below (T1.setTop (mkF m 4 #[.val (.ref u0)] [])) _
    exact X1.returnOut hx Bd.returns (hb hby d14_4) hr
  · show Q14 Z u0 h0 n0 _ T1.heap _
    rw [e1]
    exact ⟨rfl, N0, rfl⟩
theorem d4_0 : decode jdk_31_method_11_code 0 = .ok (.aload_n 0, 1) := by decide +kernel
theorem d4_1 : decode jdk_31_method_11_code 1 = .ok (.ifnonnull 12, 3) := by decide +kernel
theorem d4_13 : decode jdk_31_method_11_code 13 = .ok (.aload_n 0, 1) := by decide +kernel
theorem d4_14 : decode jdk_31_method_11_code 14 = .ok (.areturn, 1) := by decide +kernel
theorem pn_java_util_Objects : plainName "java/util/Objects" = true := by first | (simp [plainName, overriddenIn]; done) | decide +kernel
theorem ef_4 (m : MethodId) (u0 : Addr) (u1 : Addr) : entryFrame m #[(.ref u0), (.ref u1)] 2 = mkF m 0 #[.val (.ref u0), .val (.ref u1)] [] := by first | (simp [entryFrame, mkF, argsToLocals, Value.category]; done) | rfl
def Q4 (Z : State) (u0 : Addr) (u1 : Addr) (h0 : Heap) (n0 : Nat) (v : Option Value) (h : Heap) (L : List Loc) : Prop := v = some (.ref u0) ∧ Fr n0 L ∧ h = h0
set_option maxRecDepth 65536 in
set_option maxHeartbeats 40000000 in
theorem rm4 (l : Launch) (Z : State) (a0 : Array Value) (hw : ∀ d ∈ tables_1, d.before a0 Z = true) (ws : List Jvm.Cond) (u0 : Addr) (u1 : Addr) (h0 : Heap) (n0 : Nat) (Z0 : n0 ≤ h0.size) :
    MetFree l (⟨"java/util/Objects", "requireNonNull", "(Ljava/lang/Object;Ljava/lang/String;)Ljava/lang/Object;"⟩ : MethodName) (head1 (Jvm.Cond.code (⟨"java/util/Objects", "requireNonNull", "(Ljava/lang/Object;Ljava/lang/String;)Ljava/lang/Object;"⟩ : MethodName) jdk_31_method_11_code 2 (some (.object "java/lang/Object")) :: ws) ({ frames := 0, cells := 0, slots := 0, locals := 0 } : Room)) (fun a U => a = #[(.ref u0), (.ref u1)] ∧ Z.Warmed39 U.vm ∧ U.heap = h0) (fun _ _ _ _ _ => True) (fun _ U o U' => ∃ v L, o = .returned v ∧ Q4 Z u0 u1 h0 n0 v U'.heap L ∧ FrameEnd U o U' L ({ frames := 0, cells := 0, slots := 0, locals := 0 } : Room).cells ({ frames := 0, cells := 0, slots := 0, locals := 0 } : Room).slots) := by
  refine MetFree.of_bodySF (plainFor_of_name pn_java_util_Objects) hisR ?_
  intro p e s m args below meth c s₁ Bd hml0 hP hK
  obtain ⟨rfl, hZ, hh⟩ := hP
  have hx := Bd.exec
  have hby := Bd.bytes
  have hml : c.maxLocals = 2 := hml0
  have hown : s.vm.findClass "java/util/Objects" = some m.cls := findClass_of_methodNamed Bd.named
  have hnm := (name_of_methodNamed Bd.named Bd.method).1
  have X0 : Stand p l e ({ frames := 0, cells := 0, slots := 0, locals := 0 } : Room) s m #[(.ref u0), (.ref u1)] below meth c s₁ [] 0 0 := Stand.of_body Bd
  have e0 : s₁.heap = h0 := by rw [← hh, Bd.state]; rfl
  have N0 := Fr.nil n0
  have pre0 : ∀ t, Steps p.tables e below (s₁.setTop (mkF m 0 #[.val (.ref u0), .val (.ref u1)] [])) t → Steps p.tables e below (s₁.setTop (entryFrame m #[(.ref u0), (.ref u1)] 2)) t := fun t k => castTop (ef_4 m u0 u1) k
  obtain ⟨fs, hr, hrun, hended, hW, hsame⟩ := X0.leave (v := some (.ref u0)) (fun h => by rw [Bd.returns] at h; cases h)
  refine ⟨_, _, pre0 _ ?_, hrun, hended, _, _, rfl, ?_, ⟨_, rfl⟩, hW, hsame.mono (by decide) (by decide)⟩
  · show Steps p.tables e below (s₁.setTop (mkF m 0 #[.val (.ref u0), .val (.ref u1)] [])) _
    refine XS.aloadN X0.here hx rfl (hb hby d4_0) rfl rfl ?_
    show Steps p.tables e below (s₁.setTop (mkF m 1 #[.val (.ref u0), .val (.ref u1)] [(.ref u0)])) _
    refine XS.ifnonnullYes X0.here hx rfl (pc0 := 1) (pc' := 13) rfl (hb hby d4_1) rfl (by decide) (by decide) ?_
    show Steps p.tables e below (s₁.setTop (mkF m 13 #[.val (.ref u0), .val (.ref u1)] [])) _
    refine XS.aloadN X0.here hx rfl (hb hby d4_13) rfl rfl ?_
    show Steps p.tables e below (s₁.setTop (mkF m 14 #[.val (.ref u0), .val (.ref u1)] [(.ref u0)])) _
    jvm_step X0.here [X0.here.top, hx, (hb hby d4_14), X0.method', Bd.returns, Value.isRef, FieldType.isReference]
    first | (intro acts; rw [hr _ acts rfl rfl rfl]) | rw [hr _ _ rfl rfl rfl]
    exact Steps.refl _
  · show Q4 Z u0 u1 h0 n0 _ s₁.heap _
    rw [e0]
    exact ⟨rfl, N0, rfl⟩
theorem pd_0 : parseMethodDescriptor "()V" = some ⟨[], none⟩ := by decide +kernel
theorem pd_10 : parseMethodDescriptor "(Ljava/lang/Object;Ljava/lang/String;)Ljava/lang/Object;" = some ⟨[(.object "java/lang/Object"), (.object "java/lang/String")], some (.object "java/lang/Object")⟩ := by decide +kernel
theorem d1_0 : decode prog_63_method_1_code 0 = .ok (.aload_n 0, 1) := by decide +kernel
theorem d1_1 : decode prog_63_method_1_code 1 = .ok (.invokespecial 1, 3) := by decide +kernel
theorem d1_4 : decode prog_63_method_1_code 4 = .ok (.aload_n 3, 1) := by decide +kernel
theorem d1_5 : decode prog_63_method_1_code 5 = .ok (.ldc 7, 2) := by decide +kernel
theorem d1_7 : decode prog_63_method_1_code 7 = .ok (.invokestatic 9, 3) := by decide +kernel
theorem d1_10 : decode prog_63_method_1_code 10 = .ok (.pop, 1) := by decide +kernel
theorem d1_11 : decode prog_63_method_1_code 11 = .ok (.aload_n 0, 1) := by decide +kernel
theorem d1_12 : decode prog_63_method_1_code 12 = .ok (.lload_n 1, 1) := by decide +kernel
theorem d1_13 : decode prog_63_method_1_code 13 = .ok (.putfield 15, 3) := by decide +kernel
theorem d1_16 : decode prog_63_method_1_code 16 = .ok (.aload_n 0, 1) := by decide +kernel
theorem d1_17 : decode prog_63_method_1_code 17 = .ok (.aload_n 3, 1) := by decide +kernel
theorem d1_18 : decode prog_63_method_1_code 18 = .ok (.putfield 21, 3) := by decide +kernel
theorem d1_21 : decode prog_63_method_1_code 21 = .ok (.aload_n 0, 1) := by decide +kernel
theorem d1_22 : decode prog_63_method_1_code 22 = .ok (.aload 4, 2) := by decide +kernel
theorem d1_24 : decode prog_63_method_1_code 24 = .ok (.putfield 24, 3) := by decide +kernel
theorem d1_27 : decode prog_63_method_1_code 27 = .ok (.aload_n 0, 1) := by decide +kernel
theorem d1_28 : decode prog_63_method_1_code 28 = .ok (.lload 5, 2) := by decide +kernel
theorem d1_30 : decode prog_63_method_1_code 30 = .ok (.putfield 28, 3) := by decide +kernel
theorem d1_33 : decode prog_63_method_1_code 33 = .ok (.return_, 1) := by decide +kernel
theorem pn_com_example_compact_settings_compactsettings_extender_Written : plainName "com/example/compact_settings/compactsettings/extender/Written" = true := by first | (simp [plainName, overriddenIn]; done) | decide +kernel
theorem ef_1 (m : MethodId) (u0 : Addr) (u1 : Int64) (u2 : Addr) (u3 : Int64) : entryFrame m #[(.ref u0), (.long u1), (.ref u2), .null, (.long u3)] 7 = mkF m 0 #[.val (.ref u0), .val (.long u1), .second, .val (.ref u2), .val .null, .val (.long u3), .second] [] := by first | (simp [entryFrame, mkF, argsToLocals, Value.category]; done) | rfl
def Q1 (Z : State) (u0 : Addr) (u1 : Int64) (u2 : Addr) (u3 : Int64) (h0 : Heap) (n0 : Nat) (v : Option Value) (h : Heap) (L : List Loc) : Prop := v = none ∧ Fr n0 L ∧ Keep h0 h [u0] ∧ Exa Z h u0 "com/example/compact_settings/compactsettings/extender/Written" ∧ Fld Z h u0 "com/example/compact_settings/compactsettings/extender/Written" "changeCount" "J" (.long u1) ∧ Fld Z h u0 "com/example/compact_settings/compactsettings/extender/Written" "policy" "Lcom/example/compact_settings/compactsettings/Policy;" (.ref u2) ∧ Fld Z h u0 "com/example/compact_settings/compactsettings/extender/Written" "fingerprint" "Ljava/lang/String;" .null ∧ Fld Z h u0 "com/example/compact_settings/compactsettings/extender/Written" "adminBundle" "J" (.long u3)
set_option maxRecDepth 65536 in
set_option maxHeartbeats 40000000 in
theorem rm1 (l : Launch) (Z : State) (a0 : Array Value) (hw : ∀ d ∈ tables_1, d.before a0 Z = true) (ws : List Jvm.Cond) (u0 : Addr) (u1 : Int64) (u2 : Addr) (u3 : Int64) (h0 : Heap) (n0 : Nat) (Z0 : n0 ≤ h0.size) (g_u0 : n0 ≤ u0) (E_u0 : Exa Z h0 u0 "com/example/compact_settings/compactsettings/extender/Written") (F_changeCount_u0 : Fld Z h0 u0 "com/example/compact_settings/compactsettings/extender/Written" "changeCount" "J" (.long (0 : Int64))) (F_policy_u0 : Fld Z h0 u0 "com/example/compact_settings/compactsettings/extender/Written" "policy" "Lcom/example/compact_settings/compactsettings/Policy;" .null) (F_fingerprint_u0 : Fld Z h0 u0 "com/example/compact_settings/compactsettings/extender/Written" "fingerprint" "Ljava/lang/String;" .null) (F_adminBundle_u0 : Fld Z h0 u0 "com/example/compact_settings/compactsettings/extender/Written" "adminBundle" "J" (.long (0 : Int64))) :
    MetFree l (⟨"com/example/compact_settings/compactsettings/extender/Written", "<init>", "(JLcom/example/compact_settings/compactsettings/Policy;Ljava/lang/String;J)V"⟩ : MethodName) (head1 (Jvm.Cond.code (⟨"com/example/compact_settings/compactsettings/extender/Written", "<init>", "(JLcom/example/compact_settings/compactsettings/Policy;Ljava/lang/String;J)V"⟩ : MethodName) prog_63_method_1_code 7 none :: ws) ({ frames := 2, cells := 2, slots := 28, locals := 25 } : Room)) (fun a U => a = #[(.ref u0), (.long u1), (.ref u2), .null, (.long u3)] ∧ Z.Warmed39 U.vm ∧ U.heap = h0 ∧ CHv Z EL U.vm h0) (fun _ _ _ _ _ => True) (fun _ U o U' => ∃ v L, o = .returned v ∧ Q1 Z u0 u1 u2 u3 h0 n0 v U'.heap L ∧ CHr Z EL U.vm U.heap U'.vm U'.heap ∧ ReturnedEndW U o U' L ({ frames := 2, cells := 2, slots := 28, locals := 25 } : Room).cells ({ frames := 2, cells := 2, slots := 28, locals := 25 } : Room).slots) := by
  refine MetFree.of_bodySF (plainFor_of_name pn_com_example_compact_settings_compactsettings_extender_Written) hisR ?_
  intro p e s m args below meth c s₁ Bd hml0 hP hK
  obtain ⟨rfl, hZ, hh, hC0⟩ := hP
  replace hZ : Z.Warmed39 (s.setVm s.vm).vm := hZ
  have hx := Bd.exec
  have hby := Bd.bytes
  have hml : c.maxLocals = 7 := hml0
  have hown : (s.setVm s.vm).vm.findClass "com/example/compact_settings/compactsettings/extender/Written" = some m.cls := findClass_of_methodNamed Bd.named
  have hnm := (name_of_methodNamed Bd.named Bd.method).1
  have X0 : Stand p l e ({ frames := 2, cells := 2, slots := 28, locals := 25 } : Room) (s.setVm s.vm) m #[(.ref u0), (.long u1), (.ref u2), .null, (.long u3)] below meth c s₁ [] 0 0 := Stand.of_body Bd
  have e0 : s₁.heap = h0 := by rw [← hh, Bd.state]; rfl
  have N0 := Fr.nil n0
  have pre0 : ∀ t, Steps p.tables e below (s₁.setTop (mkF m 0 #[.val (.ref u0), .val (.long u1), .second, .val (.ref u2), .val .null, .val (.long u3), .second] [])) t → Steps p.tables e below (s₁.setTop (entryFrame m #[(.ref u0), (.long u1), (.ref u2), .null, (.long u3)] 7)) t := fun t k => castTop (ef_1 m u0 u1 u2 u3) k
  have hS0 : s.Since s.vm s.heap.size := own_since s
  have hk0 : s.heap.size ≤ h0.size := Nat.le_of_eq (congrArg Array.size hh)
  have C0 : CHr Z EL s.vm h0 s.vm h0 := CHr.refl hC0
  have wS : ∀ d ∈ Bundle.stringAtoms, d.before a0 Z = true := fun d hd => hw d ((by decide +kernel : ∀ d ∈ Bundle.stringAtoms, d ∈ tables_1) d hd)
  obtain ⟨_, _, ⟨T1, L1, k1, n1⟩, -, X1, ⟨Lc1, hQ1, l1, y1, z1⟩, st1⟩ := X0.specialBack hx (y := (⟨"java/lang/Record", "<init>", "()V"⟩ : MethodName)) rfl hown (mvT hZ (hw _ (List.mem_of_getElem? (i := 10) rfl))) (mvT hZ (hw _ (List.mem_of_getElem? (i := 11) rfl))) (mvT hZ (hw _ (List.mem_of_getElem? (i := 14) rfl))) (by decide) (backOf (W := 0) (rm2 l Z a0 hw [] u0 h0 n0 Z0 ) hZ (hw _ (List.mem_of_getElem? (i := 14) rfl)) (hw _ (List.mem_of_getElem? (i := 13) rfl)) (by decide) (by decide)) (g := (mkF m 1 #[.val (.ref u0), .val (.long u1), .second, .val (.ref u2), .val .null, .val (.long u3), .second] [(.ref u0)])) rfl (by rw [hml]; rfl) (Steps.refl _) (a := u0) (argsL := []) (rest := []) (lenOf pd_0 rfl) rfl (by show 2 * 0 + _ ≤ _; exact Nat.le_of_eq rfl) (hb hby d1_1) (fun _ _ => ⟨rfl, e0, (by decide : 0 + 0 ≤ _), (by decide : 0 + 0 ≤ _)⟩)
  dsimp only [Pt.U, Pt.locs, Pt.cells, Pt.slots] at X1 l1 y1 z1 st1 hQ1
  replace y1 : k1 = 0 := y1
  replace z1 : n1 = 0 := z1
  rw [y1, z1] at X1
  obtain ⟨rfl, N1q, e1⟩ := hQ1
  have N1 : Fr n0 L1 := l1 ▸ Fr.app N0 N1q
  obtain ⟨s2, T2, h2, q2, X2, e2, E2, hS2, hk2, hZ, hown, Cq2, Lt2, st2⟩ := ldcOH X1 hx hZ hown (hw _ (List.mem_of_getElem? (i := 18) rfl)) wS e1 hS0 hk0 (hEL hw) C0.1 (g := (mkF m 5 #[.val (.ref u0), .val (.long u1), .second, .val (.ref u2), .val .null, .val (.long u3), .second] [(.ref u2)])) rfl (hb hby d1_5) (n := 24) (by decide +kernel) (by decide) (by decide) (by decide)
  have Z2 : n0 ≤ h2.size := Nat.le_trans Z0 E2.1
  have KK2 := (Keep.refl h0 [u0]).ext E2
  have C2 := C0.trans Cq2
  obtain ⟨_, _, ⟨T3, L3, k3, n3⟩, -, X3, ⟨Lc3, hQ3, l3, y3, z3⟩, st3⟩ := Jvm.LawKit.callS X2 hx (y := (⟨"java/util/Objects", "requireNonNull", "(Ljava/lang/Object;Ljava/lang/String;)Ljava/lang/Object;"⟩ : MethodName)) hown (mvT hZ (hw _ (List.mem_of_getElem? (i := 26) rfl))) (mvT hZ (hw _ (List.mem_of_getElem? (i := 27) rfl))) (mvT hZ (hw _ (List.mem_of_getElem? (i := 28) rfl))) (mvT hZ (hw _ (List.mem_of_getElem? (i := 29) rfl))) (by decide) (backOf (W := 0) (rm4 l Z a0 hw [] u2 s2 h2 n0 Z2 ) hZ (hw _ (List.mem_of_getElem? (i := 29) rfl)) (hw _ (List.mem_of_getElem? (i := 28) rfl)) (by decide) (by decide)) (g := (mkF m 7 #[.val (.ref u0), .val (.long u1), .second, .val (.ref u2), .val .null, .val (.long u3), .second] [(.ref s2), (.ref u2)])) rfl (by rw [hml]; rfl) (argsL := [(.ref u2), (.ref s2)]) (rest := []) (lenOf pd_10 rfl) rfl (by show 2 * 0 + _ ≤ _; exact Nat.le_of_eq rfl) (hb hby d1_7) (fun _ _ => ⟨rfl, e2, (by decide : 2 + 0 ≤ _), (by decide : 28 + 0 ≤ _)⟩)
  dsimp only [Pt.U, Pt.locs, Pt.cells, Pt.slots] at X3 l3 y3 z3 st3 hQ3
  replace y3 : k3 = 2 := y3
  replace z3 : n3 = 28 := z3
  rw [y3, z3] at X3
  obtain ⟨rfl, N3q, e3⟩ := hQ3
  have N3 : Fr n0 L3 := l3 ▸ Fr.app N1 N3q
  obtain ⟨T4, h4, X4, e4, W4, st4⟩ := putF X3 hx hZ hown (host := "") (Or.inl (hw _ (List.mem_of_getElem? (i := 30) rfl))) Via.refl e3 (F_changeCount_u0.ext E2) (E_u0.ext E2) (Or.inr ⟨(hw _ (List.mem_of_getElem? (i := 31) rfl)), rfl, hnm⟩) (hw _ (List.mem_of_getElem? (i := 5) rfl)) (ty := .long) (by decide) rfl rfl (g := (mkF m 13 #[.val (.ref u0), .val (.long u1), .second, .val (.ref u2), .val .null, .val (.long u3), .second] [(.long u1), (.ref u0)])) rfl rfl (hb hby d1_13)
  have Fw4 := (F_changeCount_u0.ext E2).same W4
  have N4 := Fr.snoc X4 N3 g_u0
  have Z4 : n0 ≤ h4.size := Nat.le_trans Z2 (Keep.of_wr W4).1
  have KK4 := KK2.wr W4 (Or.inl (List.mem_of_getElem? (i := 0) rfl))
  have C4 := C2.trans (CHr.wr W4 (Safe.exa hZ.alike (E_u0.ext E2) (by decide) (by decide)) C2.1)
  have hk4 := Nat.le_trans hk2 (Keep.of_wr W4).1
  obtain ⟨T5, h5, X5, e5, W5, st5⟩ := putF X4 hx hZ hown (host := "") (Or.inl (hw _ (List.mem_of_getElem? (i := 32) rfl))) Via.refl e4 ((F_policy_u0.ext E2).other W4 (Or.inr (slot_ne (Or.inr (hw _ (List.mem_of_getElem? (i := 33) rfl))) (Or.inr (hw _ (List.mem_of_getElem? (i := 31) rfl))) (by decide) (t := (.object "com/example/compact_settings/compactsettings/Policy")) (t' := .long) (by decide) (by decide)))) ((E_u0.ext E2).wr W4) (Or.inr ⟨(hw _ (List.mem_of_getElem? (i := 33) rfl)), rfl, hnm⟩) (hw _ (List.mem_of_getElem? (i := 5) rfl)) (ty := (.object "com/example/compact_settings/compactsettings/Policy")) (by decide) rfl rfl (g := (mkF m 18 #[.val (.ref u0), .val (.long u1), .second, .val (.ref u2), .val .null, .val (.long u3), .second] [(.ref u2), (.ref u0)])) rfl rfl (hb hby d1_18)
  have Fw5 := ((F_policy_u0.ext E2).other W4 (Or.inr (slot_ne (Or.inr (hw _ (List.mem_of_getElem? (i := 33) rfl))) (Or.inr (hw _ (List.mem_of_getElem? (i := 31) rfl))) (by decide) (t := (.object "com/example/compact_settings/compactsettings/Policy")) (t' := .long) (by decide) (by decide)))).same W5
  have N5 := Fr.snoc X5 N4 g_u0
  have Z5 : n0 ≤ h5.size := Nat.le_trans Z4 (Keep.of_wr W5).1
  have KK5 := KK4.wr W5 (Or.inl (List.mem_of_getElem? (i := 0) rfl))
  have C5 := C4.trans (CHr.wr W5 (Safe.exa hZ.alike ((E_u0.ext E2).wr W4) (by decide) (by decide)) C4.1)
  have hk5 := Nat.le_trans hk4 (Keep.of_wr W5).1
  obtain ⟨T6, h6, X6, e6, W6, st6⟩ := putF X5 hx hZ hown (host := "") (Or.inl (hw _ (List.mem_of_getElem? (i := 34) rfl))) Via.refl e5 (((F_fingerprint_u0.ext E2).other W4 (Or.inr (slot_ne (Or.inr (hw _ (List.mem_of_getElem? (i := 35) rfl))) (Or.inr (hw _ (List.mem_of_getElem? (i := 31) rfl))) (by decide) (t := (.object "java/lang/String")) (t' := .long) (by decide) (by decide)))).other W5 (Or.inr (slot_ne (Or.inr (hw _ (List.mem_of_getElem? (i := 35) rfl))) (Or.inr (hw _ (List.mem_of_getElem? (i := 33) rfl))) (by decide) (t := (.object "java/lang/String")) (t' := (.object "com/example/compact_settings/compactsettings/Policy")) (by decide) (by decide)))) (((E_u0.ext E2).wr W4).wr W5) (Or.inr ⟨(hw _ (List.mem_of_getElem? (i := 35) rfl)), rfl, hnm⟩) (hw _ (List.mem_of_getElem? (i := 5) rfl)) (ty := (.object "java/lang/String")) (by decide) rfl rfl (g := (mkF m 24 #[.val (.ref u0), .val (.long u1), .second, .val (.ref u2), .val .null, .val (.long u3), .second] [.null, (.ref u0)])) rfl rfl (hb hby d1_24)
  have Fw6 := (((F_fingerprint_u0.ext E2).other W4 (Or.inr (slot_ne (Or.inr (hw _ (List.mem_of_getElem? (i := 35) rfl))) (Or.inr (hw _ (List.mem_of_getElem? (i := 31) rfl))) (by decide) (t := (.object "java/lang/String")) (t' := .long) (by decide) (by decide)))).other W5 (Or.inr (slot_ne (Or.inr (hw _ (List.mem_of_getElem? (i := 35) rfl))) (Or.inr (hw _ (List.mem_of_getElem? (i := 33) rfl))) (by decide) (t := (.object "java/lang/String")) (t' := (.object "com/example/compact_settings/compactsettings/Policy")) (by decide) (by decide)))).same W6
  have N6 := Fr.snoc X6 N5 g_u0
  have Z6 : n0 ≤ h6.size := Nat.le_trans Z5 (Keep.of_wr W6).1
  have KK6 := KK5.wr W6 (Or.inl (List.mem_of_getElem? (i := 0) rfl))
  have C6 := C5.trans (CHr.wr W6 (Safe.exa hZ.alike (((E_u0.ext E2).wr W4).wr W5) (by decide) (by decide)) C5.1)
  have hk6 := Nat.le_trans hk5 (Keep.of_wr W6).1
  obtain ⟨T7, h7, X7, e7, W7, st7⟩ := putF X6 hx hZ hown (host := "") (Or.inl (hw _ (List.mem_of_getElem? (i := 36) rfl))) Via.refl e6 ((((F_adminBundle_u0.ext E2).other W4 (Or.inr (slot_ne (Or.inr (hw _ (List.mem_of_getElem? (i := 37) rfl))) (Or.inr (hw _ (List.mem_of_getElem? (i := 31) rfl))) (by decide) (t := .long) (t' := .long) (by decide) (by decide)))).other W5 (Or.inr (slot_ne (Or.inr (hw _ (List.mem_of_getElem? (i := 37) rfl))) (Or.inr (hw _ (List.mem_of_getElem? (i := 33) rfl))) (by decide) (t := .long) (t' := (.object "com/example/compact_settings/compactsettings/Policy")) (by decide) (by decide)))).other W6 (Or.inr (slot_ne (Or.inr (hw _ (List.mem_of_getElem? (i := 37) rfl))) (Or.inr (hw _ (List.mem_of_getElem? (i := 35) rfl))) (by decide) (t := .long) (t' := (.object "java/lang/String")) (by decide) (by decide)))) ((((E_u0.ext E2).wr W4).wr W5).wr W6) (Or.inr ⟨(hw _ (List.mem_of_getElem? (i := 37) rfl)), rfl, hnm⟩) (hw _ (List.mem_of_getElem? (i := 5) rfl)) (ty := .long) (by decide) rfl rfl (g := (mkF m 30 #[.val (.ref u0), .val (.long u1), .second, .val (.ref u2), .val .null, .val (.long u3), .second] [(.long u3), (.ref u0)])) rfl rfl (hb hby d1_30)
  have Fw7 := ((((F_adminBundle_u0.ext E2).other W4 (Or.inr (slot_ne (Or.inr (hw _ (List.mem_of_getElem? (i := 37) rfl))) (Or.inr (hw _ (List.mem_of_getElem? (i := 31) rfl))) (by decide) (t := .long) (t' := .long) (by decide) (by decide)))).other W5 (Or.inr (slot_ne (Or.inr (hw _ (List.mem_of_getElem? (i := 37) rfl))) (Or.inr (hw _ (List.mem_of_getElem? (i := 33) rfl))) (by decide) (t := .long) (t' := (.object "com/example/compact_settings/compactsettings/Policy")) (by decide) (by decide)))).other W6 (Or.inr (slot_ne (Or.inr (hw _ (List.mem_of_getElem? (i := 37) rfl))) (Or.inr (hw _ (List.mem_of_getElem? (i := 35) rfl))) (by decide) (t := .long) (t' := (.object "java/lang/String")) (by decide) (by decide)))).same W7
  have N7 := Fr.snoc X7 N6 g_u0
  have Z7 : n0 ≤ h7.size := Nat.le_trans Z6 (Keep.of_wr W7).1
  have KK7 := KK6.wr W7 (Or.inl (List.mem_of_getElem? (i := 0) rfl))
  have C7 := C6.trans (CHr.wr W7 (Safe.exa hZ.alike ((((E_u0.ext E2).wr W4).wr W5).wr W6) (by decide) (by decide)) C6.1)
  have hk7 := Nat.le_trans hk6 (Keep.of_wr W7).1
  obtain ⟨fs, hr, hrun, hended, hE⟩ := X7.leaveW hS2 (Nat.le_trans hk7 (Nat.le_of_eq (congrArg Array.size e7).symm)) (v := none) (fun _ => rfl)
  refine ⟨_, _, pre0 _ ?_, hrun, hended, _, _, rfl, ?_, ?_, own_monoW hE (by decide) (by decide)⟩
  · show Steps p.tables e below (s₁.setTop (mkF m 0 #[.val (.ref u0), .val (.long u1), .second, .val (.ref u2), .val .null, .val (.long u3), .second] [])) _
    refine XS.aloadN X0.here hx rfl (hb hby d1_0) rfl rfl ?_
    show Steps p.tables e below (s₁.setTop (mkF m 1 #[.val (.ref u0), .val (.long u1), .second, .val (.ref u2), .val .null, .val (.long u3), .second] [(.ref u0)])) _
    refine st1.trans ?_
    show Steps p.tables e below (T1.setTop (mkF m 4 #[.val (.ref u0), .val (.long u1), .second, .val (.ref u2), .val .null, .val (.long u3), .second] [])) _
    refine XS.aloadN X1.here hx rfl (hb hby d1_4) rfl rfl ?_
    show Steps p.tables e below (T1.setTop (mkF m 5 #[.val (.ref u0), .val (.long u1), .second, .val (.ref u2), .val .null, .val (.long u3), .second] [(.ref u2)])) _
    refine st2 _ ?_
    show Steps p.tables e below (T2.setTop (mkF m 7 #[.val (.ref u0), .val (.long u1), .second, .val (.ref u2), .val .null, .val (.long u3), .second] [(.ref s2), (.ref u2)])) _
    refine st3 _ ?_
    show Steps p.tables e below (T3.setTop (mkF m 10 #[.val (.ref u0), .val (.long u1), .second, .val (.ref u2), .val .null, .val (.long u3), .second] [(.ref u2)])) _
    refine XS.pop X3.here hx rfl (hb hby d1_10) rfl rfl ?_
    show Steps p.tables e below (T3.setTop (mkF m 11 #[.val (.ref u0), .val (.long u1), .second, .val (.ref u2), .val .null, .val (.long u3), .second] [])) _
    refine XS.aloadN X3.here hx rfl (hb hby d1_11) rfl rfl ?_
    show Steps p.tables e below (T3.setTop (mkF m 12 #[.val (.ref u0), .val (.long u1), .second, .val (.ref u2), .val .null, .val (.long u3), .second] [(.ref u0)])) _
    refine XS.lloadN X3.here hx rfl (hb hby d1_12) rfl ?_
    show Steps p.tables e below (T3.setTop (mkF m 13 #[.val (.ref u0), .val (.long u1), .second, .val (.ref u2), .val .null, .val (.long u3), .second] [(.long u1), (.ref u0)])) _
    refine st4 _ ?_
    show Steps p.tables e below (T4.setTop (mkF m 16 #[.val (.ref u0), .val (.long u1), .second, .val (.ref u2), .val .null, .val (.long u3), .second] [])) _
    refine XS.aloadN X4.here hx rfl (hb hby d1_16) rfl rfl ?_
    show Steps p.tables e below (T4.setTop (mkF m 17 #[.val (.ref u0), .val (.long u1), .second, .val (.ref u2), .val .null, .val (.long u3), .second] [(.ref u0)])) _
    refine XS.aloadN X4.here hx rfl (hb hby d1_17) rfl rfl ?_
    show Steps p.tables e below (T4.setTop (mkF m 18 #[.val (.ref u0), .val (.long u1), .second, .val (.ref u2), .val .null, .val (.long u3), .second] [(.ref u2), (.ref u0)])) _
    refine st5 _ ?_
    show Steps p.tables e below (T5.setTop (mkF m 21 #[.val (.ref u0), .val (.long u1), .second, .val (.ref u2), .val .null, .val (.long u3), .second] [])) _
    refine XS.aloadN X5.here hx rfl (hb hby d1_21) rfl rfl ?_
    show Steps p.tables e below (T5.setTop (mkF m 22 #[.val (.ref u0), .val (.long u1), .second, .val (.ref u2), .val .null, .val (.long u3), .second] [(.ref u0)])) _
    refine XS.aload X5.here hx rfl (hb hby d1_22) rfl rfl ?_
    show Steps p.tables e below (T5.setTop (mkF m 24 #[.val (.ref u0), .val (.long u1), .second, .val (.ref u2), .val .null, .val (.long u3), .second] [.null, (.ref u0)])) _
    refine st6 _ ?_
    show Steps p.tables e below (T6.setTop (mkF m 27 #[.val (.ref u0), .val (.long u1), .second, .val (.ref u2), .val .null, .val (.long u3), .second] [])) _
    refine XS.aloadN X6.here hx rfl (hb hby d1_27) rfl rfl ?_
    show Steps p.tables e below (T6.setTop (mkF m 28 #[.val (.ref u0), .val (.long u1), .second, .val (.ref u2), .val .null, .val (.long u3), .second] [(.ref u0)])) _
    refine XS.lload X6.here hx rfl (hb hby d1_28) rfl ?_
    show Steps p.tables e below (T6.setTop (mkF m 30 #[.val (.ref u0), .val (.long u1), .second, .val (.ref u2), .val .null, .val (.long u3), .second] [(.long u3), (.ref u0)])) _
    refine st7 _ ?_
    show Steps p.tables e below (T7.setTop (mkF m 33 #[.val (.ref u0), .val (.long u1), .second, .val (.ref u2), .val .null, .val (.long u3), .second] [])) _
    exact X7.returnOut hx Bd.returns (hb hby d1_33) hr
  · show Q1 Z u0 u1 u2 u3 h0 n0 _ T7.heap _
    rw [e7]
    exact ⟨rfl, N7, KK7, (((((E_u0.ext E2).wr W4).wr W5).wr W6).wr W7), (((Fw4.other W5 (Or.inr (slot_ne (Or.inr (hw _ (List.mem_of_getElem? (i := 31) rfl))) (Or.inr (hw _ (List.mem_of_getElem? (i := 33) rfl))) (by decide) (t := .long) (t' := (.object "com/example/compact_settings/compactsettings/Policy")) (by decide) (by decide)))).other W6 (Or.inr (slot_ne (Or.inr (hw _ (List.mem_of_getElem? (i := 31) rfl))) (Or.inr (hw _ (List.mem_of_getElem? (i := 35) rfl))) (by decide) (t := .long) (t' := (.object "java/lang/String")) (by decide) (by decide)))).other W7 (Or.inr (slot_ne (Or.inr (hw _ (List.mem_of_getElem? (i := 31) rfl))) (Or.inr (hw _ (List.mem_of_getElem? (i := 37) rfl))) (by decide) (t := .long) (t' := .long) (by decide) (by decide)))), ((Fw5.other W6 (Or.inr (slot_ne (Or.inr (hw _ (List.mem_of_getElem? (i := 33) rfl))) (Or.inr (hw _ (List.mem_of_getElem? (i := 35) rfl))) (by decide) (t := (.object "com/example/compact_settings/compactsettings/Policy")) (t' := (.object "java/lang/String")) (by decide) (by decide)))).other W7 (Or.inr (slot_ne (Or.inr (hw _ (List.mem_of_getElem? (i := 33) rfl))) (Or.inr (hw _ (List.mem_of_getElem? (i := 37) rfl))) (by decide) (t := (.object "com/example/compact_settings/compactsettings/Policy")) (t' := .long) (by decide) (by decide)))), (Fw6.other W7 (Or.inr (slot_ne (Or.inr (hw _ (List.mem_of_getElem? (i := 35) rfl))) (Or.inr (hw _ (List.mem_of_getElem? (i := 37) rfl))) (by decide) (t := (.object "java/lang/String")) (t' := .long) (by decide) (by decide)))), Fw7⟩
  · show CHr Z EL s.vm s.heap T7.vm T7.heap
    rw [e7]
    rw [hh]
    exact C7.trans (CHv.at X7 hZ (hEL hw) C7.1)
theorem d9_0 : decode prog_53_method_1_code 0 = .ok (.aload_n 0, 1) := by decide +kernel
theorem d9_1 : decode prog_53_method_1_code 1 = .ok (.invokespecial 1, 3) := by decide +kernel
theorem d9_4 : decode prog_53_method_1_code 4 = .ok (.aload_n 0, 1) := by decide +kernel
theorem d9_5 : decode prog_53_method_1_code 5 = .ok (.aload_n 1, 1) := by decide +kernel
theorem d9_6 : decode prog_53_method_1_code 6 = .ok (.putfield 7, 3) := by decide +kernel
theorem d9_9 : decode prog_53_method_1_code 9 = .ok (.aload_n 0, 1) := by decide +kernel
theorem d9_10 : decode prog_53_method_1_code 10 = .ok (.aload_n 2, 1) := by decide +kernel
theorem d9_11 : decode prog_53_method_1_code 11 = .ok (.putfield 13, 3) := by decide +kernel
theorem d9_14 : decode prog_53_method_1_code 14 = .ok (.aload_n 0, 1) := by decide +kernel
theorem d9_15 : decode prog_53_method_1_code 15 = .ok (.aload_n 3, 1) := by decide +kernel
theorem d9_16 : decode prog_53_method_1_code 16 = .ok (.putfield 17, 3) := by decide +kernel
theorem d9_19 : decode prog_53_method_1_code 19 = .ok (.aload_n 0, 1) := by decide +kernel
theorem d9_20 : decode prog_53_method_1_code 20 = .ok (.aload 4, 2) := by decide +kernel
theorem d9_22 : decode prog_53_method_1_code 22 = .ok (.putfield 21, 3) := by decide +kernel
theorem d9_25 : decode prog_53_method_1_code 25 = .ok (.aload_n 0, 1) := by decide +kernel
theorem d9_26 : decode prog_53_method_1_code 26 = .ok (.lload 5, 2) := by decide +kernel
theorem d9_28 : decode prog_53_method_1_code 28 = .ok (.putfield 25, 3) := by decide +kernel
theorem d9_31 : decode prog_53_method_1_code 31 = .ok (.return_, 1) := by decide +kernel
theorem pn_com_example_compact_settings_compactsettings_extender_Intent : plainName "com/example/compact_settings/compactsettings/extender/Intent" = true := by first | (simp [plainName, overriddenIn]; done) | decide +kernel
theorem ef_9 (m : MethodId) (u0 : Addr) (u1 : Value) (u2 : Value) (u3 : Value) (u4 : Value) (u5 : Int64) (r_u1 : u1.isRef = true) (r_u2 : u2.isRef = true) (r_u3 : u3.isRef = true) (r_u4 : u4.isRef = true) : entryFrame m #[(.ref u0), u1, u2, u3, u4, (.long u5)] 7 = mkF m 0 #[.val (.ref u0), .val u1, .val u2, .val u3, .val u4, .val (.long u5), .second] [] := by
  rcases ref_cases r_u1 with rfl | ⟨_, rfl⟩ <;> rcases ref_cases r_u2 with rfl | ⟨_, rfl⟩ <;> rcases ref_cases r_u3 with rfl | ⟨_, rfl⟩ <;> rcases ref_cases r_u4 with rfl | ⟨_, rfl⟩
  all_goals first | (simp [entryFrame, mkF, argsToLocals, Value.category]; done) | rfl
def Q9 (Z : State) (u0 : Addr) (u1 : Value) (u2 : Value) (u3 : Value) (u4 : Value) (u5 : Int64) (h0 : Heap) (n0 : Nat) (v : Option Value) (h : Heap) (L : List Loc) : Prop := v = none ∧ Fr n0 L ∧ Keep h0 h [u0] ∧ Exa Z h u0 "com/example/compact_settings/compactsettings/extender/Intent" ∧ Fld Z h u0 "com/example/compact_settings/compactsettings/extender/Intent" "before" "Lcom/example/compact_settings/compactsettings/extender/Written;" u1 ∧ Fld Z h u0 "com/example/compact_settings/compactsettings/extender/Intent" "policy" "Lcom/example/compact_settings/compactsettings/Policy;" u2 ∧ Fld Z h u0 "com/example/compact_settings/compactsettings/extender/Intent" "fingerprint" "Ljava/lang/String;" u3 ∧ Fld Z h u0 "com/example/compact_settings/compactsettings/extender/Intent" "changeCountBefore" "Ljava/lang/Long;" u4 ∧ Fld Z h u0 "com/example/compact_settings/compactsettings/extender/Intent" "adminBundle" "J" (.long u5)
set_option maxRecDepth 65536 in
set_option maxHeartbeats 40000000 in
theorem rm9 (l : Launch) (Z : State) (a0 : Array Value) (hw : ∀ d ∈ tables_1, d.before a0 Z = true) (ws : List Jvm.Cond) (u0 : Addr) (u1 : Value) (u2 : Value) (u3 : Value) (u4 : Value) (u5 : Int64) (h0 : Heap) (n0 : Nat) (Z0 : n0 ≤ h0.size) (r_u1 : u1.isRef = true) (r_u2 : u2.isRef = true) (r_u3 : u3.isRef = true) (r_u4 : u4.isRef = true) (g_u0 : n0 ≤ u0) (E_u0 : Exa Z h0 u0 "com/example/compact_settings/compactsettings/extender/Intent") (F_before_u0 : Fld Z h0 u0 "com/example/compact_settings/compactsettings/extender/Intent" "before" "Lcom/example/compact_settings/compactsettings/extender/Written;" .null) (F_policy_u0 : Fld Z h0 u0 "com/example/compact_settings/compactsettings/extender/Intent" "policy" "Lcom/example/compact_settings/compactsettings/Policy;" .null) (F_fingerprint_u0 : Fld Z h0 u0 "com/example/compact_settings/compactsettings/extender/Intent" "fingerprint" "Ljava/lang/String;" .null) (F_changeCountBefore_u0 : Fld Z h0 u0 "com/example/compact_settings/compactsettings/extender/Intent" "changeCountBefore" "Ljava/lang/Long;" .null) (F_adminBundle_u0 : Fld Z h0 u0 "com/example/compact_settings/compactsettings/extender/Intent" "adminBundle" "J" (.long (0 : Int64))) :
    MetFree l (⟨"com/example/compact_settings/compactsettings/extender/Intent", "<init>", "(Lcom/example/compact_settings/compactsettings/extender/Written;Lcom/example/compact_settings/compactsettings/Policy;Ljava/lang/String;Ljava/lang/Long;J)V"⟩ : MethodName) (head1 (Jvm.Cond.code (⟨"com/example/compact_settings/compactsettings/extender/Intent", "<init>", "(Lcom/example/compact_settings/compactsettings/extender/Written;Lcom/example/compact_settings/compactsettings/Policy;Ljava/lang/String;Ljava/lang/Long;J)V"⟩ : MethodName) prog_53_method_1_code 7 none :: ws) ({ frames := 2, cells := 0, slots := 0, locals := 24 } : Room)) (fun a U => a = #[(.ref u0), u1, u2, u3, u4, (.long u5)] ∧ Z.Warmed39 U.vm ∧ U.heap = h0) (fun _ _ _ _ _ => True) (fun _ U o U' => ∃ v L, o = .returned v ∧ Q9 Z u0 u1 u2 u3 u4 u5 h0 n0 v U'.heap L ∧ FrameEnd U o U' L ({ frames := 2, cells := 0, slots := 0, locals := 24 } : Room).cells ({ frames := 2, cells := 0, slots := 0, locals := 24 } : Room).slots) := by
  refine MetFree.of_bodySF (plainFor_of_name pn_com_example_compact_settings_compactsettings_extender_Intent) hisR ?_
  intro p e s m args below meth c s₁ Bd hml0 hP hK
  obtain ⟨rfl, hZ, hh⟩ := hP
  have hx := Bd.exec
  have hby := Bd.bytes
  have hml : c.maxLocals = 7 := hml0
  have hown : s.vm.findClass "com/example/compact_settings/compactsettings/extender/Intent" = some m.cls := findClass_of_methodNamed Bd.named
  have hnm := (name_of_methodNamed Bd.named Bd.method).1
  have X0 : Stand p l e ({ frames := 2, cells := 0, slots := 0, locals := 24 } : Room) s m #[(.ref u0), u1, u2, u3, u4, (.long u5)] below meth c s₁ [] 0 0 := Stand.of_body Bd
  have e0 : s₁.heap = h0 := by rw [← hh, Bd.state]; rfl
  have N0 := Fr.nil n0
  have pre0 : ∀ t, Steps p.tables e below (s₁.setTop (mkF m 0 #[.val (.ref u0), .val u1, .val u2, .val u3, .val u4, .val (.long u5), .second] [])) t → Steps p.tables e below (s₁.setTop (entryFrame m #[(.ref u0), u1, u2, u3, u4, (.long u5)] 7)) t := fun t k => castTop (ef_9 m u0 u1 u2 u3 u4 u5 r_u1 r_u2 r_u3 r_u4) k
  obtain ⟨_, _, ⟨T1, L1, k1, n1⟩, -, X1, ⟨Lc1, hQ1, l1, y1, z1⟩, st1⟩ := X0.specialBack hx (y := (⟨"java/lang/Record", "<init>", "()V"⟩ : MethodName)) rfl hown (mvT hZ (hw _ (List.mem_of_getElem? (i := 63) rfl))) (mvT hZ (hw _ (List.mem_of_getElem? (i := 11) rfl))) (mvT hZ (hw _ (List.mem_of_getElem? (i := 14) rfl))) (by decide) (backOf (W := 0) (rm2 l Z a0 hw [] u0 h0 n0 Z0 ) hZ (hw _ (List.mem_of_getElem? (i := 14) rfl)) (hw _ (List.mem_of_getElem? (i := 13) rfl)) (by decide) (by decide)) (g := (mkF m 1 #[.val (.ref u0), .val u1, .val u2, .val u3, .val u4, .val (.long u5), .second] [(.ref u0)])) rfl (by rw [hml]; rfl) (Steps.refl _) (a := u0) (argsL := []) (rest := []) (lenOf pd_0 rfl) rfl (by show 2 * 0 + _ ≤ _; exact Nat.le_of_eq rfl) (hb hby d9_1) (fun _ _ => ⟨rfl, e0, (by decide : 0 + 0 ≤ _), (by decide : 0 + 0 ≤ _)⟩)
  dsimp only [Pt.U, Pt.locs, Pt.cells, Pt.slots] at X1 l1 y1 z1 st1 hQ1
  replace y1 : k1 = 0 := y1
  replace z1 : n1 = 0 := z1
  rw [y1, z1] at X1
  obtain ⟨rfl, N1q, e1⟩ := hQ1
  have N1 : Fr n0 L1 := l1 ▸ Fr.app N0 N1q
  obtain ⟨T2, h2, X2, e2, W2, st2⟩ := putF X1 hx hZ hown (host := "") (Or.inl (hw _ (List.mem_of_getElem? (i := 64) rfl))) Via.refl e1 F_before_u0 E_u0 (Or.inr ⟨(hw _ (List.mem_of_getElem? (i := 65) rfl)), rfl, hnm⟩) (hw _ (List.mem_of_getElem? (i := 58) rfl)) (ty := (.object "com/example/compact_settings/compactsettings/extender/Written")) (by decide) rfl (own_fits r_u1) (g := (mkF m 6 #[.val (.ref u0), .val u1, .val u2, .val u3, .val u4, .val (.long u5), .second] [u1, (.ref u0)])) rfl rfl (hb hby d9_6)
  have Fw2 := F_before_u0.same W2
  have N2 := Fr.snoc X2 N1 g_u0
  have Z2 : n0 ≤ h2.size := Nat.le_trans Z0 (Keep.of_wr W2).1
  have KK2 := (Keep.refl h0 [u0]).wr W2 (Or.inl (List.mem_of_getElem? (i := 0) rfl))
  obtain ⟨T3, h3, X3, e3, W3, st3⟩ := putF X2 hx hZ hown (host := "") (Or.inl (hw _ (List.mem_of_getElem? (i := 66) rfl))) Via.refl e2 (F_policy_u0.other W2 (Or.inr (slot_ne (Or.inr (hw _ (List.mem_of_getElem? (i := 67) rfl))) (Or.inr (hw _ (List.mem_of_getElem? (i := 65) rfl))) (by decide) (t := (.object "com/example/compact_settings/compactsettings/Policy")) (t' := (.object "com/example/compact_settings/compactsettings/extender/Written")) (by decide) (by decide)))) (E_u0.wr W2) (Or.inr ⟨(hw _ (List.mem_of_getElem? (i := 67) rfl)), rfl, hnm⟩) (hw _ (List.mem_of_getElem? (i := 58) rfl)) (ty := (.object "com/example/compact_settings/compactsettings/Policy")) (by decide) rfl (own_fits r_u2) (g := (mkF m 11 #[.val (.ref u0), .val u1, .val u2, .val u3, .val u4, .val (.long u5), .second] [u2, (.ref u0)])) rfl rfl (hb hby d9_11)
  have Fw3 := (F_policy_u0.other W2 (Or.inr (slot_ne (Or.inr (hw _ (List.mem_of_getElem? (i := 67) rfl))) (Or.inr (hw _ (List.mem_of_getElem? (i := 65) rfl))) (by decide) (t := (.object "com/example/compact_settings/compactsettings/Policy")) (t' := (.object "com/example/compact_settings/compactsettings/extender/Written")) (by decide) (by decide)))).same W3
  have N3 := Fr.snoc X3 N2 g_u0
  have Z3 : n0 ≤ h3.size := Nat.le_trans Z2 (Keep.of_wr W3).1
  have KK3 := KK2.wr W3 (Or.inl (List.mem_of_getElem? (i := 0) rfl))
  obtain ⟨T4, h4, X4, e4, W4, st4⟩ := putF X3 hx hZ hown (host := "") (Or.inl (hw _ (List.mem_of_getElem? (i := 68) rfl))) Via.refl e3 ((F_fingerprint_u0.other W2 (Or.inr (slot_ne (Or.inr (hw _ (List.mem_of_getElem? (i := 69) rfl))) (Or.inr (hw _ (List.mem_of_getElem? (i := 65) rfl))) (by decide) (t := (.object "java/lang/String")) (t' := (.object "com/example/compact_settings/compactsettings/extender/Written")) (by decide) (by decide)))).other W3 (Or.inr (slot_ne (Or.inr (hw _ (List.mem_of_getElem? (i := 69) rfl))) (Or.inr (hw _ (List.mem_of_getElem? (i := 67) rfl))) (by decide) (t := (.object "java/lang/String")) (t' := (.object "com/example/compact_settings/compactsettings/Policy")) (by decide) (by decide)))) ((E_u0.wr W2).wr W3) (Or.inr ⟨(hw _ (List.mem_of_getElem? (i := 69) rfl)), rfl, hnm⟩) (hw _ (List.mem_of_getElem? (i := 58) rfl)) (ty := (.object "java/lang/String")) (by decide) rfl (own_fits r_u3) (g := (mkF m 16 #[.val (.ref u0), .val u1, .val u2, .val u3, .val u4, .val (.long u5), .second] [u3, (.ref u0)])) rfl rfl (hb hby d9_16)
  have Fw4 := ((F_fingerprint_u0.other W2 (Or.inr (slot_ne (Or.inr (hw _ (List.mem_of_getElem? (i := 69) rfl))) (Or.inr (hw _ (List.mem_of_getElem? (i := 65) rfl))) (by decide) (t := (.object "java/lang/String")) (t' := (.object "com/example/compact_settings/compactsettings/extender/Written")) (by decide) (by decide)))).other W3 (Or.inr (slot_ne (Or.inr (hw _ (List.mem_of_getElem? (i := 69) rfl))) (Or.inr (hw _ (List.mem_of_getElem? (i := 67) rfl))) (by decide) (t := (.object "java/lang/String")) (t' := (.object "com/example/compact_settings/compactsettings/Policy")) (by decide) (by decide)))).same W4
  have N4 := Fr.snoc X4 N3 g_u0
  have Z4 : n0 ≤ h4.size := Nat.le_trans Z3 (Keep.of_wr W4).1
  have KK4 := KK3.wr W4 (Or.inl (List.mem_of_getElem? (i := 0) rfl))
  obtain ⟨T5, h5, X5, e5, W5, st5⟩ := putF X4 hx hZ hown (host := "") (Or.inl (hw _ (List.mem_of_getElem? (i := 70) rfl))) Via.refl e4 (((F_changeCountBefore_u0.other W2 (Or.inr (slot_ne (Or.inr (hw _ (List.mem_of_getElem? (i := 71) rfl))) (Or.inr (hw _ (List.mem_of_getElem? (i := 65) rfl))) (by decide) (t := (.object "java/lang/Long")) (t' := (.object "com/example/compact_settings/compactsettings/extender/Written")) (by decide) (by decide)))).other W3 (Or.inr (slot_ne (Or.inr (hw _ (List.mem_of_getElem? (i := 71) rfl))) (Or.inr (hw _ (List.mem_of_getElem? (i := 67) rfl))) (by decide) (t := (.object "java/lang/Long")) (t' := (.object "com/example/compact_settings/compactsettings/Policy")) (by decide) (by decide)))).other W4 (Or.inr (slot_ne (Or.inr (hw _ (List.mem_of_getElem? (i := 71) rfl))) (Or.inr (hw _ (List.mem_of_getElem? (i := 69) rfl))) (by decide) (t := (.object "java/lang/Long")) (t' := (.object "java/lang/String")) (by decide) (by decide)))) (((E_u0.wr W2).wr W3).wr W4) (Or.inr ⟨(hw _ (List.mem_of_getElem? (i := 71) rfl)), rfl, hnm⟩) (hw _ (List.mem_of_getElem? (i := 58) rfl)) (ty := (.object "java/lang/Long")) (by decide) rfl (own_fits r_u4) (g := (mkF m 22 #[.val (.ref u0), .val u1, .val u2, .val u3, .val u4, .val (.long u5), .second] [u4, (.ref u0)])) rfl rfl (hb hby d9_22)
  have Fw5 := (((F_changeCountBefore_u0.other W2 (Or.inr (slot_ne (Or.inr (hw _ (List.mem_of_getElem? (i := 71) rfl))) (Or.inr (hw _ (List.mem_of_getElem? (i := 65) rfl))) (by decide) (t := (.object "java/lang/Long")) (t' := (.object "com/example/compact_settings/compactsettings/extender/Written")) (by decide) (by decide)))).other W3 (Or.inr (slot_ne (Or.inr (hw _ (List.mem_of_getElem? (i := 71) rfl))) (Or.inr (hw _ (List.mem_of_getElem? (i := 67) rfl))) (by decide) (t := (.object "java/lang/Long")) (t' := (.object "com/example/compact_settings/compactsettings/Policy")) (by decide) (by decide)))).other W4 (Or.inr (slot_ne (Or.inr (hw _ (List.mem_of_getElem? (i := 71) rfl))) (Or.inr (hw _ (List.mem_of_getElem? (i := 69) rfl))) (by decide) (t := (.object "java/lang/Long")) (t' := (.object "java/lang/String")) (by decide) (by decide)))).same W5
  have N5 := Fr.snoc X5 N4 g_u0
  have Z5 : n0 ≤ h5.size := Nat.le_trans Z4 (Keep.of_wr W5).1
  have KK5 := KK4.wr W5 (Or.inl (List.mem_of_getElem? (i := 0) rfl))
  obtain ⟨T6, h6, X6, e6, W6, st6⟩ := putF X5 hx hZ hown (host := "") (Or.inl (hw _ (List.mem_of_getElem? (i := 72) rfl))) Via.refl e5 ((((F_adminBundle_u0.other W2 (Or.inr (slot_ne (Or.inr (hw _ (List.mem_of_getElem? (i := 73) rfl))) (Or.inr (hw _ (List.mem_of_getElem? (i := 65) rfl))) (by decide) (t := .long) (t' := (.object "com/example/compact_settings/compactsettings/extender/Written")) (by decide) (by decide)))).other W3 (Or.inr (slot_ne (Or.inr (hw _ (List.mem_of_getElem? (i := 73) rfl))) (Or.inr (hw _ (List.mem_of_getElem? (i := 67) rfl))) (by decide) (t := .long) (t' := (.object "com/example/compact_settings/compactsettings/Policy")) (by decide) (by decide)))).other W4 (Or.inr (slot_ne (Or.inr (hw _ (List.mem_of_getElem? (i := 73) rfl))) (Or.inr (hw _ (List.mem_of_getElem? (i := 69) rfl))) (by decide) (t := .long) (t' := (.object "java/lang/String")) (by decide) (by decide)))).other W5 (Or.inr (slot_ne (Or.inr (hw _ (List.mem_of_getElem? (i := 73) rfl))) (Or.inr (hw _ (List.mem_of_getElem? (i := 71) rfl))) (by decide) (t := .long) (t' := (.object "java/lang/Long")) (by decide) (by decide)))) ((((E_u0.wr W2).wr W3).wr W4).wr W5) (Or.inr ⟨(hw _ (List.mem_of_getElem? (i := 73) rfl)), rfl, hnm⟩) (hw _ (List.mem_of_getElem? (i := 58) rfl)) (ty := .long) (by decide) rfl rfl (g := (mkF m 28 #[.val (.ref u0), .val u1, .val u2, .val u3, .val u4, .val (.long u5), .second] [(.long u5), (.ref u0)])) rfl rfl (hb hby d9_28)
  have Fw6 := ((((F_adminBundle_u0.other W2 (Or.inr (slot_ne (Or.inr (hw _ (List.mem_of_getElem? (i := 73) rfl))) (Or.inr (hw _ (List.mem_of_getElem? (i := 65) rfl))) (by decide) (t := .long) (t' := (.object "com/example/compact_settings/compactsettings/extender/Written")) (by decide) (by decide)))).other W3 (Or.inr (slot_ne (Or.inr (hw _ (List.mem_of_getElem? (i := 73) rfl))) (Or.inr (hw _ (List.mem_of_getElem? (i := 67) rfl))) (by decide) (t := .long) (t' := (.object "com/example/compact_settings/compactsettings/Policy")) (by decide) (by decide)))).other W4 (Or.inr (slot_ne (Or.inr (hw _ (List.mem_of_getElem? (i := 73) rfl))) (Or.inr (hw _ (List.mem_of_getElem? (i := 69) rfl))) (by decide) (t := .long) (t' := (.object "java/lang/String")) (by decide) (by decide)))).other W5 (Or.inr (slot_ne (Or.inr (hw _ (List.mem_of_getElem? (i := 73) rfl))) (Or.inr (hw _ (List.mem_of_getElem? (i := 71) rfl))) (by decide) (t := .long) (t' := (.object "java/lang/Long")) (by decide) (by decide)))).same W6
  have N6 := Fr.snoc X6 N5 g_u0
  have Z6 : n0 ≤ h6.size := Nat.le_trans Z5 (Keep.of_wr W6).1
  have KK6 := KK5.wr W6 (Or.inl (List.mem_of_getElem? (i := 0) rfl))
  obtain ⟨fs, hr, hrun, hended, hW, hsame⟩ := X6.leave (v := none) (fun _ => rfl)
  refine ⟨_, _, pre0 _ ?_, hrun, hended, _, _, rfl, ?_, ⟨_, rfl⟩, hW, hsame.mono (by decide) (by decide)⟩
  · show Steps p.tables e below (s₁.setTop (mkF m 0 #[.val (.ref u0), .val u1, .val u2, .val u3, .val u4, .val (.long u5), .second] [])) _
    refine XS.aloadN X0.here hx rfl (hb hby d9_0) rfl rfl ?_
    show Steps p.tables e below (s₁.setTop (mkF m 1 #[.val (.ref u0), .val u1, .val u2, .val u3, .val u4, .val (.long u5), .second] [(.ref u0)])) _
    refine st1.trans ?_
    show Steps p.tables e below (T1.setTop (mkF m 4 #[.val (.ref u0), .val u1, .val u2, .val u3, .val u4, .val (.long u5), .second] [])) _
    refine XS.aloadN X1.here hx rfl (hb hby d9_4) rfl rfl ?_
    show Steps p.tables e below (T1.setTop (mkF m 5 #[.val (.ref u0), .val u1, .val u2, .val u3, .val u4, .val (.long u5), .second] [(.ref u0)])) _
    refine XS.aloadN X1.here hx rfl (hb hby d9_5) rfl r_u1 ?_
    show Steps p.tables e below (T1.setTop (mkF m 6 #[.val (.ref u0), .val u1, .val u2, .val u3, .val u4, .val (.long u5), .second] [u1, (.ref u0)])) _
    refine st2 _ ?_
    show Steps p.tables e below (T2.setTop (mkF m 9 #[.val (.ref u0), .val u1, .val u2, .val u3, .val u4, .val (.long u5), .second] [])) _
    refine XS.aloadN X2.here hx rfl (hb hby d9_9) rfl rfl ?_
    show Steps p.tables e below (T2.setTop (mkF m 10 #[.val (.ref u0), .val u1, .val u2, .val u3, .val u4, .val (.long u5), .second] [(.ref u0)])) _
    refine XS.aloadN X2.here hx rfl (hb hby d9_10) rfl r_u2 ?_
    show Steps p.tables e below (T2.setTop (mkF m 11 #[.val (.ref u0), .val u1, .val u2, .val u3, .val u4, .val (.long u5), .second] [u2, (.ref u0)])) _
    refine st3 _ ?_
    show Steps p.tables e below (T3.setTop (mkF m 14 #[.val (.ref u0), .val u1, .val u2, .val u3, .val u4, .val (.long u5), .second] [])) _
    refine XS.aloadN X3.here hx rfl (hb hby d9_14) rfl rfl ?_
    show Steps p.tables e below (T3.setTop (mkF m 15 #[.val (.ref u0), .val u1, .val u2, .val u3, .val u4, .val (.long u5), .second] [(.ref u0)])) _
    refine XS.aloadN X3.here hx rfl (hb hby d9_15) rfl r_u3 ?_
    show Steps p.tables e below (T3.setTop (mkF m 16 #[.val (.ref u0), .val u1, .val u2, .val u3, .val u4, .val (.long u5), .second] [u3, (.ref u0)])) _
    refine st4 _ ?_
    show Steps p.tables e below (T4.setTop (mkF m 19 #[.val (.ref u0), .val u1, .val u2, .val u3, .val u4, .val (.long u5), .second] [])) _
    refine XS.aloadN X4.here hx rfl (hb hby d9_19) rfl rfl ?_
    show Steps p.tables e below (T4.setTop (mkF m 20 #[.val (.ref u0), .val u1, .val u2, .val u3, .val u4, .val (.long u5), .second] [(.ref u0)])) _
    refine XS.aload X4.here hx rfl (hb hby d9_20) rfl r_u4 ?_
    show Steps p.tables e below (T4.setTop (mkF m 22 #[.val (.ref u0), .val u1, .val u2, .val u3, .val u4, .val (.long u5), .second] [u4, (.ref u0)])) _
    refine st5 _ ?_
    show Steps p.tables e below (T5.setTop (mkF m 25 #[.val (.ref u0), .val u1, .val u2, .val u3, .val u4, .val (.long u5), .second] [])) _
    refine XS.aloadN X5.here hx rfl (hb hby d9_25) rfl rfl ?_
    show Steps p.tables e below (T5.setTop (mkF m 26 #[.val (.ref u0), .val u1, .val u2, .val u3, .val u4, .val (.long u5), .second] [(.ref u0)])) _
    refine XS.lload X5.here hx rfl (hb hby d9_26) rfl ?_
    show Steps p.tables e below (T5.setTop (mkF m 28 #[.val (.ref u0), .val u1, .val u2, .val u3, .val u4, .val (.long u5), .second] [(.long u5), (.ref u0)])) _
    refine st6 _ ?_
    show Steps p.tables e below (T6.setTop (mkF m 31 #[.val (.ref u0), .val u1, .val u2, .val u3, .val u4, .val (.long u5), .second] [])) _
    exact X6.returnOut hx Bd.returns (hb hby d9_31) hr
  · show Q9 Z u0 u1 u2 u3 u4 u5 h0 n0 _ T6.heap _
    rw [e6]
    exact ⟨rfl, N6, KK6, (((((E_u0.wr W2).wr W3).wr W4).wr W5).wr W6), ((((Fw2.other W3 (Or.inr (slot_ne (Or.inr (hw _ (List.mem_of_getElem? (i := 65) rfl))) (Or.inr (hw _ (List.mem_of_getElem? (i := 67) rfl))) (by decide) (t := (.object "com/example/compact_settings/compactsettings/extender/Written")) (t' := (.object "com/example/compact_settings/compactsettings/Policy")) (by decide) (by decide)))).other W4 (Or.inr (slot_ne (Or.inr (hw _ (List.mem_of_getElem? (i := 65) rfl))) (Or.inr (hw _ (List.mem_of_getElem? (i := 69) rfl))) (by decide) (t := (.object "com/example/compact_settings/compactsettings/extender/Written")) (t' := (.object "java/lang/String")) (by decide) (by decide)))).other W5 (Or.inr (slot_ne (Or.inr (hw _ (List.mem_of_getElem? (i := 65) rfl))) (Or.inr (hw _ (List.mem_of_getElem? (i := 71) rfl))) (by decide) (t := (.object "com/example/compact_settings/compactsettings/extender/Written")) (t' := (.object "java/lang/Long")) (by decide) (by decide)))).other W6 (Or.inr (slot_ne (Or.inr (hw _ (List.mem_of_getElem? (i := 65) rfl))) (Or.inr (hw _ (List.mem_of_getElem? (i := 73) rfl))) (by decide) (t := (.object "com/example/compact_settings/compactsettings/extender/Written")) (t' := .long) (by decide) (by decide)))), (((Fw3.other W4 (Or.inr (slot_ne (Or.inr (hw _ (List.mem_of_getElem? (i := 67) rfl))) (Or.inr (hw _ (List.mem_of_getElem? (i := 69) rfl))) (by decide) (t := (.object "com/example/compact_settings/compactsettings/Policy")) (t' := (.object "java/lang/String")) (by decide) (by decide)))).other W5 (Or.inr (slot_ne (Or.inr (hw _ (List.mem_of_getElem? (i := 67) rfl))) (Or.inr (hw _ (List.mem_of_getElem? (i := 71) rfl))) (by decide) (t := (.object "com/example/compact_settings/compactsettings/Policy")) (t' := (.object "java/lang/Long")) (by decide) (by decide)))).other W6 (Or.inr (slot_ne (Or.inr (hw _ (List.mem_of_getElem? (i := 67) rfl))) (Or.inr (hw _ (List.mem_of_getElem? (i := 73) rfl))) (by decide) (t := (.object "com/example/compact_settings/compactsettings/Policy")) (t' := .long) (by decide) (by decide)))), ((Fw4.other W5 (Or.inr (slot_ne (Or.inr (hw _ (List.mem_of_getElem? (i := 69) rfl))) (Or.inr (hw _ (List.mem_of_getElem? (i := 71) rfl))) (by decide) (t := (.object "java/lang/String")) (t' := (.object "java/lang/Long")) (by decide) (by decide)))).other W6 (Or.inr (slot_ne (Or.inr (hw _ (List.mem_of_getElem? (i := 69) rfl))) (Or.inr (hw _ (List.mem_of_getElem? (i := 73) rfl))) (by decide) (t := (.object "java/lang/String")) (t' := .long) (by decide) (by decide)))), (Fw5.other W6 (Or.inr (slot_ne (Or.inr (hw _ (List.mem_of_getElem? (i := 71) rfl))) (Or.inr (hw _ (List.mem_of_getElem? (i := 73) rfl))) (by decide) (t := (.object "java/lang/Long")) (t' := .long) (by decide) (by decide)))), Fw6⟩
theorem pd_9 : parseMethodDescriptor "(Lcom/example/compact_settings/compactsettings/extender/Written;Lcom/example/compact_settings/compactsettings/Policy;Ljava/lang/String;Ljava/lang/Long;J)V" = some ⟨[(.object "com/example/compact_settings/compactsettings/extender/Written"), (.object "com/example/compact_settings/compactsettings/Policy"), (.object "java/lang/String"), (.object "java/lang/Long"), .long], none⟩ := by decide +kernel
theorem d10_0 : decode prog_53_method_2_code 0 = .ok (.new 8, 3) := by decide +kernel
theorem d10_3 : decode prog_53_method_2_code 3 = .ok (.dup, 1) := by decide +kernel
theorem d10_4 : decode prog_53_method_2_code 4 = .ok (.aload_n 0, 1) := by decide +kernel
theorem d10_5 : decode prog_53_method_2_code 5 = .ok (.aconst_null, 1) := by decide +kernel
theorem d10_6 : decode prog_53_method_2_code 6 = .ok (.aconst_null, 1) := by decide +kernel
theorem d10_7 : decode prog_53_method_2_code 7 = .ok (.aconst_null, 1) := by decide +kernel
theorem d10_8 : decode prog_53_method_2_code 8 = .ok (.lload_n 1, 1) := by decide +kernel
theorem d10_9 : decode prog_53_method_2_code 9 = .ok (.invokespecial 29, 3) := by decide +kernel
theorem d10_12 : decode prog_53_method_2_code 12 = .ok (.areturn, 1) := by decide +kernel
theorem ef_10 (m : MethodId) (u0 : Value) (u1 : Int64) (r_u0 : u0.isRef = true) : entryFrame m #[u0, (.long u1)] 3 = mkF m 0 #[.val u0, .val (.long u1), .second] [] := by
  rcases ref_cases r_u0 with rfl | ⟨_, rfl⟩
  all_goals first | (simp [entryFrame, mkF, argsToLocals, Value.category]; done) | rfl
def Q10 (Z : State) (u0 : Value) (u1 : Int64) (h0 : Heap) (n0 : Nat) (v : Option Value) (h : Heap) (L : List Loc) : Prop := v = some (.ref h0.size) ∧ Fr n0 L ∧ Keep h0 h [] ∧ Exa Z h h0.size "com/example/compact_settings/compactsettings/extender/Intent" ∧ Fld Z h h0.size "com/example/compact_settings/compactsettings/extender/Intent" "before" "Lcom/example/compact_settings/compactsettings/extender/Written;" u0 ∧ Fld Z h h0.size "com/example/compact_settings/compactsettings/extender/Intent" "policy" "Lcom/example/compact_settings/compactsettings/Policy;" .null ∧ Fld Z h h0.size "com/example/compact_settings/compactsettings/extender/Intent" "fingerprint" "Ljava/lang/String;" .null ∧ Fld Z h h0.size "com/example/compact_settings/compactsettings/extender/Intent" "changeCountBefore" "Ljava/lang/Long;" .null ∧ Fld Z h h0.size "com/example/compact_settings/compactsettings/extender/Intent" "adminBundle" "J" (.long u1)
set_option maxRecDepth 65536 in
set_option maxHeartbeats 40000000 in
theorem rm10 (l : Launch) (Z : State) (a0 : Array Value) (hw : ∀ d ∈ tables_1, d.before a0 Z = true) (ws : List Jvm.Cond) (u0 : Value) (u1 : Int64) (h0 : Heap) (n0 : Nat) (Z0 : n0 ≤ h0.size) (r_u0 : u0.isRef = true) :
    MetFree l (⟨"com/example/compact_settings/compactsettings/extender/Intent", "deletion", "(Lcom/example/compact_settings/compactsettings/extender/Written;J)Lcom/example/compact_settings/compactsettings/extender/Intent;"⟩ : MethodName) (head1 (Jvm.Cond.code (⟨"com/example/compact_settings/compactsettings/extender/Intent", "deletion", "(Lcom/example/compact_settings/compactsettings/extender/Written;J)Lcom/example/compact_settings/compactsettings/extender/Intent;"⟩ : MethodName) prog_53_method_2_code 3 (some (.object "com/example/compact_settings/compactsettings/extender/Intent")) :: ws) ({ frames := 3, cells := 1, slots := 5, locals := 43 } : Room)) (fun a U => a = #[u0, (.long u1)] ∧ Z.Warmed39 U.vm ∧ U.heap = h0) (fun _ _ _ _ _ => True) (fun _ U o U' => ∃ v L, o = .returned v ∧ Q10 Z u0 u1 h0 n0 v U'.heap L ∧ FrameEnd U o U' L ({ frames := 3, cells := 1, slots := 5, locals := 43 } : Room).cells ({ frames := 3, cells := 1, slots := 5, locals := 43 } : Room).slots) := by
  refine MetFree.of_bodySF (plainFor_of_name pn_com_example_compact_settings_compactsettings_extender_Intent) hisR ?_
  intro p e s m args below meth c s₁ Bd hml0 hP hK
  obtain ⟨rfl, hZ, hh⟩ := hP
  have hx := Bd.exec
  have hby := Bd.bytes
  have hml : c.maxLocals = 3 := hml0
  have hown : s.vm.findClass "com/example/compact_settings/compactsettings/extender/Intent" = some m.cls := findClass_of_methodNamed Bd.named
  have hnm := (name_of_methodNamed Bd.named Bd.method).1
  have X0 : Stand p l e ({ frames := 3, cells := 1, slots := 5, locals := 43 } : Room) s m #[u0, (.long u1)] below meth c s₁ [] 0 0 := Stand.of_body Bd
  have e0 : s₁.heap = h0 := by rw [← hh, Bd.state]; rfl
  have N0 := Fr.nil n0
  have pre0 : ∀ t, Steps p.tables e below (s₁.setTop (mkF m 0 #[.val u0, .val (.long u1), .second] [])) t → Steps p.tables e below (s₁.setTop (entryFrame m #[u0, (.long u1)] 3)) t := fun t k => castTop (ef_10 m u0 u1 r_u0) k
  obtain ⟨T1, h1, X1, e1, E1, A1, D1, -, st1⟩ := newO X0 hx hZ hown (hw _ (List.mem_of_getElem? (i := 77) rfl)) (hw _ (List.mem_of_getElem? (i := 58) rfl)) (hw _ (List.mem_of_getElem? (i := 59) rfl)) e0 (g := (mkF m 0 #[.val u0, .val (.long u1), .second] [])) rfl (hb hby d10_0) (by decide) (by decide)
  obtain ⟨b1, g1⟩ : ∃ z, z = h0.size := ⟨_, rfl⟩
  rw [← g1] at A1 D1 st1
  have g_b1 : n0 ≤ b1 := Nat.le_trans Z0 (Nat.le_of_eq g1.symm)
  have sz_b1 : h0.size ≤ b1 := Nat.le_trans (Keep.refl h0 []).1 (Nat.le_of_eq g1.symm)
  have Z1 : n0 ≤ h1.size := Nat.le_trans Z0 E1.1
  have KK1 := (Keep.refl h0 []).ext E1
  have F1_before : Fld Z h1 b1 "com/example/compact_settings/compactsettings/extender/Intent" "before" "Lcom/example/compact_settings/compactsettings/extender/Written;" .null := D1 (Or.inr (hw _ (List.mem_of_getElem? (i := 65) rfl))) (ty := (.object "com/example/compact_settings/compactsettings/extender/Written")) (by decide)
  have F1_policy : Fld Z h1 b1 "com/example/compact_settings/compactsettings/extender/Intent" "policy" "Lcom/example/compact_settings/compactsettings/Policy;" .null := D1 (Or.inr (hw _ (List.mem_of_getElem? (i := 67) rfl))) (ty := (.object "com/example/compact_settings/compactsettings/Policy")) (by decide)
  have F1_fingerprint : Fld Z h1 b1 "com/example/compact_settings/compactsettings/extender/Intent" "fingerprint" "Ljava/lang/String;" .null := D1 (Or.inr (hw _ (List.mem_of_getElem? (i := 69) rfl))) (ty := (.object "java/lang/String")) (by decide)
  have F1_changeCountBefore : Fld Z h1 b1 "com/example/compact_settings/compactsettings/extender/Intent" "changeCountBefore" "Ljava/lang/Long;" .null := D1 (Or.inr (hw _ (List.mem_of_getElem? (i := 71) rfl))) (ty := (.object "java/lang/Long")) (by decide)
  have F1_adminBundle : Fld Z h1 b1 "com/example/compact_settings/compactsettings/extender/Intent" "adminBundle" "J" (.long (0 : Int64)) := D1 (Or.inr (hw _ (List.mem_of_getElem? (i := 73) rfl))) (ty := .long) (by decide)
  obtain ⟨_, _, ⟨T2, L2, k2, n2⟩, -, X2, ⟨Lc2, hQ2, l2, y2, z2⟩, st2⟩ := X1.specialBack hx (y := (⟨"com/example/compact_settings/compactsettings/extender/Intent", "<init>", "(Lcom/example/compact_settings/compactsettings/extender/Written;Lcom/example/compact_settings/compactsettings/Policy;Ljava/lang/String;Ljava/lang/Long;J)V"⟩ : MethodName)) rfl hown (mvT hZ (hw _ (List.mem_of_getElem? (i := 78) rfl))) (mvT hZ (hw _ (List.mem_of_getElem? (i := 61) rfl))) (mvT hZ (hw _ (List.mem_of_getElem? (i := 62) rfl))) (by decide) (backOf (W := 1) (rm9 l Z a0 hw [] b1 u0 .null .null .null u1 h1 n0 Z1 r_u0 rfl rfl rfl g_b1 A1 F1_before F1_policy F1_fingerprint F1_changeCountBefore F1_adminBundle) hZ (hw _ (List.mem_of_getElem? (i := 62) rfl)) (hw _ (List.mem_of_getElem? (i := 59) rfl)) (by decide) (by decide)) (g := (mkF m 9 #[.val u0, .val (.long u1), .second] [(.long u1), .null, .null, .null, u0, (.ref b1), (.ref b1)])) rfl (by rw [hml]; rfl) (Steps.refl _) (a := b1) (argsL := [u0, .null, .null, .null, (.long u1)]) (rest := [(.ref b1)]) (lenOf pd_9 rfl) rfl (by show 2 * 0 + _ ≤ _; exact Nat.le_of_eq rfl) (hb hby d10_9) (fun _ _ => ⟨rfl, e1, (by decide : 1 + 0 ≤ _), (by decide : 5 + 0 ≤ _)⟩)
  dsimp only [Pt.U, Pt.locs, Pt.cells, Pt.slots] at X2 l2 y2 z2 st2 hQ2
  replace y2 : k2 = 1 := y2
  replace z2 : n2 = 5 := z2
  rw [y2, z2] at X2
  obtain ⟨rfl, N2q, K2, A2, F2_before, F2_policy, F2_fingerprint, F2_changeCountBefore, F2_adminBundle⟩ := hQ2
  have N2 : Fr n0 L2 := l2 ▸ Fr.app N0 N2q
  have Z2 : n0 ≤ T2.heap.size := Nat.le_trans Z1 K2.1
  have KK2 := KK1.trans K2 (allS (P := fun x => x ∈ [] ∨ h0.size ≤ x) (Or.inr sz_b1) all0)
  obtain ⟨fs, hr, hrun, hended, hW, hsame⟩ := X2.leave (v := some (.ref b1)) (fun h => by rw [Bd.returns] at h; cases h)
  refine ⟨_, _, pre0 _ ?_, hrun, hended, _, _, rfl, ?_, ⟨_, rfl⟩, hW, hsame.mono (by decide) (by decide)⟩
  · show Steps p.tables e below (s₁.setTop (mkF m 0 #[.val u0, .val (.long u1), .second] [])) _
    refine st1 _ ?_
    show Steps p.tables e below (T1.setTop (mkF m 3 #[.val u0, .val (.long u1), .second] [(.ref b1)])) _
    refine XS.dup X1.here hx rfl (hb hby d10_3) rfl rfl ?_
    show Steps p.tables e below (T1.setTop (mkF m 4 #[.val u0, .val (.long u1), .second] [(.ref b1), (.ref b1)])) _
    refine XS.aloadN X1.here hx rfl (hb hby d10_4) rfl r_u0 ?_
    show Steps p.tables e below (T1.setTop (mkF m 5 #[.val u0, .val (.long u1), .second] [u0, (.ref b1), (.ref b1)])) _
    refine XS.aconstNull X1.here hx rfl (hb hby d10_5) ?_
    show Steps p.tables e below (T1.setTop (mkF m 6 #[.val u0, .val (.long u1), .second] [.null, u0, (.ref b1), (.ref b1)])) _
    refine XS.aconstNull X1.here hx rfl (hb hby d10_6) ?_
    show Steps p.tables e below (T1.setTop (mkF m 7 #[.val u0, .val (.long u1), .second] [.null, .null, u0, (.ref b1), (.ref b1)])) _
    refine XS.aconstNull X1.here hx rfl (hb hby d10_7) ?_
    show Steps p.tables e below (T1.setTop (mkF m 8 #[.val u0, .val (.long u1), .second] [.null, .null, .null, u0, (.ref b1), (.ref b1)])) _
    refine XS.lloadN X1.here hx rfl (hb hby d10_8) rfl ?_
    show Steps p.tables e below (T1.setTop (mkF m 9 #[.val u0, .val (.long u1), .second] [(.long u1), .null, .null, .null, u0, (.ref b1), (.ref b1)])) _
    refine st2.trans ?_
    show Steps p.tables e below (T2.setTop (mkF m 12 #[.val u0, .val (.long u1), .second] [(.ref b1)])) _
    jvm_step X2.here [X2.here.top, hx, (hb hby d10_12), X2.method', Bd.returns, Value.isRef, FieldType.isReference]
    first | (intro acts; rw [hr _ acts rfl rfl rfl]) | rw [hr _ _ rfl rfl rfl]
    exact Steps.refl _
  · show Q10 Z u0 u1 h0 n0 _ T2.heap _
    exact ⟨(by rw [g1]), N2, KK2, (by rw [← g1]; exact A2), (by rw [← g1]; exact F2_before), (by rw [← g1]; exact F2_policy), (by rw [← g1]; exact F2_fingerprint), (by rw [← g1]; exact F2_changeCountBefore), (by rw [← g1]; exact F2_adminBundle)⟩
theorem d11_0 : decode prog_53_method_3_code 0 = .ok (.aload_n 0, 1) := by decide +kernel
theorem d11_1 : decode prog_53_method_3_code 1 = .ok (.getfield 13, 3) := by decide +kernel
theorem d11_4 : decode prog_53_method_3_code 4 = .ok (.ifnonnull 7, 3) := by decide +kernel
theorem d11_7 : decode prog_53_method_3_code 7 = .ok (.iconst 1, 1) := by decide +kernel
theorem d11_8 : decode prog_53_method_3_code 8 = .ok (.goto 4, 3) := by decide +kernel
theorem d11_12 : decode prog_53_method_3_code 12 = .ok (.ireturn, 1) := by decide +kernel
theorem ef_DN (m : MethodId) (u0 : Addr) : entryFrame m #[(.ref u0)] 1 = mkF m 0 #[.val (.ref u0)] [] := by first | (simp [entryFrame, mkF, argsToLocals, Value.category]; done) | rfl
def QDN (Z : State) (u0 : Addr) (h0 : Heap) (n0 : Nat) (v : Option Value) (h : Heap) (L : List Loc) : Prop := v = some (.int (1 : Int32)) ∧ Fr n0 L ∧ h = h0
set_option maxRecDepth 65536 in
set_option maxHeartbeats 40000000 in
theorem rmDN (l : Launch) (Z : State) (a0 : Array Value) (hw : ∀ d ∈ tables_1, d.before a0 Z = true) (ws : List Jvm.Cond) (u0 : Addr) (h0 : Heap) (n0 : Nat) (Z0 : n0 ≤ h0.size) (F_u0 : Fld Z h0 u0 "com/example/compact_settings/compactsettings/extender/Intent" "policy" "Lcom/example/compact_settings/compactsettings/Policy;" .null) :
    MetFree l (⟨"com/example/compact_settings/compactsettings/extender/Intent", "isDeletion", "()Z"⟩ : MethodName) (head1 (Jvm.Cond.code (⟨"com/example/compact_settings/compactsettings/extender/Intent", "isDeletion", "()Z"⟩ : MethodName) prog_53_method_3_code 1 (some .boolean) :: ws) ({ frames := 0, cells := 0, slots := 0, locals := 0 } : Room)) (fun a U => a = #[(.ref u0)] ∧ Z.Warmed39 U.vm ∧ U.heap = h0) (fun _ _ _ _ _ => True) (fun _ U o U' => ∃ v L, o = .returned v ∧ QDN Z u0 h0 n0 v U'.heap L ∧ FrameEnd U o U' L ({ frames := 0, cells := 0, slots := 0, locals := 0 } : Room).cells ({ frames := 0, cells := 0, slots := 0, locals := 0 } : Room).slots) := by
  refine MetFree.of_bodySF (plainFor_of_name pn_com_example_compact_settings_compactsettings_extender_Intent) hisR ?_
  intro p e s m args below meth c s₁ Bd hml0 hP hK
  obtain ⟨rfl, hZ, hh⟩ := hP
  have hx := Bd.exec
  have hby := Bd.bytes
  have hml : c.maxLocals = 1 := hml0
  have hown : s.vm.findClass "com/example/compact_settings/compactsettings/extender/Intent" = some m.cls := findClass_of_methodNamed Bd.named
  have hnm := (name_of_methodNamed Bd.named Bd.method).1
  have X0 : Stand p l e ({ frames := 0, cells := 0, slots := 0, locals := 0 } : Room) s m #[(.ref u0)] below meth c s₁ [] 0 0 := Stand.of_body Bd
  have e0 : s₁.heap = h0 := by rw [← hh, Bd.state]; rfl
  have N0 := Fr.nil n0
  have pre0 : ∀ t, Steps p.tables e below (s₁.setTop (mkF m 0 #[.val (.ref u0)] [])) t → Steps p.tables e below (s₁.setTop (entryFrame m #[(.ref u0)] 1)) t := fun t k => castTop (ef_DN m u0) k
  obtain ⟨T1, X1, e1, st1⟩ := getF X0 hx hZ hown (host := "") (Or.inl (hw _ (List.mem_of_getElem? (i := 66) rfl))) Via.refl e0 F_u0 (g := (mkF m 1 #[.val (.ref u0)] [(.ref u0)])) rfl rfl (hb hby d11_1)
  obtain ⟨fs, hr, hrun, hended, hW, hsame⟩ := X1.leave (v := some (.int (1 : Int32))) (fun h => by rw [Bd.returns] at h; cases h)
  refine ⟨_, _, pre0 _ ?_, hrun, hended, _, _, rfl, ?_, ⟨_, rfl⟩, hW, hsame.mono (by decide) (by decide)⟩
  · show Steps p.tables e below (s₁.setTop (mkF m 0 #[.val (.ref u0)] [])) _
    refine XS.aloadN X0.here hx rfl (hb hby d11_0) rfl rfl ?_
    show Steps p.tables e below (s₁.setTop (mkF m 1 #[.val (.ref u0)] [(.ref u0)])) _
    refine st1 _ ?_
    show Steps p.tables e below (T1.setTop (mkF m 4 #[.val (.ref u0)] [.null])) _
    refine XS.ifnonnullNo X1.here hx rfl (hb hby d11_4) rfl ?_
    show Steps p.tables e below (T1.setTop (mkF m 7 #[.val (.ref u0)] [])) _
    refine XS.iconst X1.here hx rfl (hb hby d11_7) ?_
    show Steps p.tables e below (T1.setTop (mkF m 8 #[.val (.ref u0)] [(.int (1 : Int32))])) _
    refine XS.goto X1.here hx rfl (pc0 := 8) (pc' := 12) rfl (hb hby d11_8) (by decide) (by decide) ?_
    show Steps p.tables e below (T1.setTop (mkF m 12 #[.val (.ref u0)] [(.int (1 : Int32))])) _
    exact retN X1 hx (t := .boolean) Bd.returns (by simp) (hb hby d11_12) hr
  · show QDN Z u0 h0 n0 _ T1.heap _
    rw [e1]
    exact ⟨rfl, N0, rfl⟩
theorem d11_11 : decode prog_53_method_3_code 11 = .ok (.iconst 0, 1) := by decide +kernel
theorem ef_DR (m : MethodId) (u0 : Addr) : entryFrame m #[(.ref u0)] 1 = mkF m 0 #[.val (.ref u0)] [] := by first | (simp [entryFrame, mkF, argsToLocals, Value.category]; done) | rfl
def QDR (Z : State) (u0 : Addr) (w1 : Addr) (h0 : Heap) (n0 : Nat) (v : Option Value) (h : Heap) (L : List Loc) : Prop := v = some (.int (0 : Int32)) ∧ Fr n0 L ∧ h = h0
set_option maxRecDepth 65536 in
set_option maxHeartbeats 40000000 in
theorem rmDR (l : Launch) (Z : State) (a0 : Array Value) (hw : ∀ d ∈ tables_1, d.before a0 Z = true) (ws : List Jvm.Cond) (u0 : Addr) (w1 : Addr) (h0 : Heap) (n0 : Nat) (Z0 : n0 ≤ h0.size) (F_u0 : Fld Z h0 u0 "com/example/compact_settings/compactsettings/extender/Intent" "policy" "Lcom/example/compact_settings/compactsettings/Policy;" (.ref w1)) :
    MetFree l (⟨"com/example/compact_settings/compactsettings/extender/Intent", "isDeletion", "()Z"⟩ : MethodName) (head1 (Jvm.Cond.code (⟨"com/example/compact_settings/compactsettings/extender/Intent", "isDeletion", "()Z"⟩ : MethodName) prog_53_method_3_code 1 (some .boolean) :: ws) ({ frames := 0, cells := 0, slots := 0, locals := 0 } : Room)) (fun a U => a = #[(.ref u0)] ∧ Z.Warmed39 U.vm ∧ U.heap = h0) (fun _ _ _ _ _ => True) (fun _ U o U' => ∃ v L, o = .returned v ∧ QDR Z u0 w1 h0 n0 v U'.heap L ∧ FrameEnd U o U' L ({ frames := 0, cells := 0, slots := 0, locals := 0 } : Room).cells ({ frames := 0, cells := 0, slots := 0, locals := 0 } : Room).slots) := by
  refine MetFree.of_bodySF (plainFor_of_name pn_com_example_compact_settings_compactsettings_extender_Intent) hisR ?_
  intro p e s m args below meth c s₁ Bd hml0 hP hK
  obtain ⟨rfl, hZ, hh⟩ := hP
  have hx := Bd.exec
  have hby := Bd.bytes
  have hml : c.maxLocals = 1 := hml0
  have hown : s.vm.findClass "com/example/compact_settings/compactsettings/extender/Intent" = some m.cls := findClass_of_methodNamed Bd.named
  have hnm := (name_of_methodNamed Bd.named Bd.method).1
  have X0 : Stand p l e ({ frames := 0, cells := 0, slots := 0, locals := 0 } : Room) s m #[(.ref u0)] below meth c s₁ [] 0 0 := Stand.of_body Bd
  have e0 : s₁.heap = h0 := by rw [← hh, Bd.state]; rfl
  have N0 := Fr.nil n0
  have pre0 : ∀ t, Steps p.tables e below (s₁.setTop (mkF m 0 #[.val (.ref u0)] [])) t → Steps p.tables e below (s₁.setTop (entryFrame m #[(.ref u0)] 1)) t := fun t k => castTop (ef_DR m u0) k
  obtain ⟨T1, X1, e1, st1⟩ := getF X0 hx hZ hown (host := "") (Or.inl (hw _ (List.mem_of_getElem? (i := 66) rfl))) Via.refl e0 F_u0 (g := (mkF m 1 #[.val (.ref u0)] [(.ref u0)])) rfl rfl (hb hby d11_1)
  obtain ⟨fs, hr, hrun, hended, hW, hsame⟩ := X1.leave (v := some (.int (0 : Int32))) (fun h => by rw [Bd.returns] at h; cases h)
  refine ⟨_, _, pre0 _ ?_, hrun, hended, _, _, rfl, ?_, ⟨_, rfl⟩, hW, hsame.mono (by decide) (by decide)⟩
  · show Steps p.tables e below (s₁.setTop (mkF m 0 #[.val (.ref u0)] [])) _
    refine XS.aloadN X0.here hx rfl (hb hby d11_0) rfl rfl ?_
    show Steps p.tables e below (s₁.setTop (mkF m 1 #[.val (.ref u0)] [(.ref u0)])) _
    refine st1 _ ?_
    show Steps p.tables e below (T1.setTop (mkF m 4 #[.val (.ref u0)] [(.ref w1)])) _
    refine XS.ifnonnullYes X1.here hx rfl (pc0 := 4) (pc' := 11) rfl (hb hby d11_4) rfl (by decide) (by decide) ?_
    show Steps p.tables e below (T1.setTop (mkF m 11 #[.val (.ref u0)] [])) _
    refine XS.iconst X1.here hx rfl (hb hby d11_11) ?_
    show Steps p.tables e below (T1.setTop (mkF m 12 #[.val (.ref u0)] [(.int (0 : Int32))])) _
    exact retN X1 hx (t := .boolean) Bd.returns (by simp) (hb hby d11_12) hr
  · show QDR Z u0 w1 h0 n0 _ T1.heap _
    rw [e1]
    exact ⟨rfl, N0, rfl⟩
theorem d6_0 : decode jdk_43_method_3_code 0 = .ok (.iload_n 0, 1) := by decide +kernel
theorem d6_1 : decode jdk_43_method_3_code 1 = .ok (.sipush 255, 3) := by decide +kernel
theorem d6_4 : decode jdk_43_method_3_code 4 = .ok (.if_icmp .gt 7, 3) := by decide +kernel
theorem d6_7 : decode jdk_43_method_3_code 7 = .ok (.iconst 1, 1) := by decide +kernel
theorem d6_8 : decode jdk_43_method_3_code 8 = .ok (.goto 4, 3) := by decide +kernel
theorem d6_12 : decode jdk_43_method_3_code 12 = .ok (.ireturn, 1) := by decide +kernel
theorem pn_java_lang_StringLatin1 : plainName "java/lang/StringLatin1" = true := by first | (simp [plainName, overriddenIn]; done) | decide +kernel
theorem ef_6 (m : MethodId) (u0 : Int32) : entryFrame m #[(.int u0)] 1 = mkF m 0 #[.val (.int u0)] [] := by first | (simp [entryFrame, mkF, argsToLocals, Value.category]; done) | rfl
def Q6 (Z : State) (u0 : Int32) (h0 : Heap) (n0 : Nat) (v : Option Value) (h : Heap) (L : List Loc) : Prop := v = some (.int (1 : Int32)) ∧ Fr n0 L ∧ h = h0
set_option maxRecDepth 65536 in
set_option maxHeartbeats 40000000 in
theorem rm6 (l : Launch) (Z : State) (a0 : Array Value) (hw : ∀ d ∈ tables_1, d.before a0 Z = true) (ws : List Jvm.Cond) (u0 : Int32) (h0 : Heap) (n0 : Nat) (Z0 : n0 ≤ h0.size) (hle : ¬ (255 : Int32) < u0) :
    MetFree l (⟨"java/lang/StringLatin1", "canEncode", "(C)Z"⟩ : MethodName) (head1 (Jvm.Cond.code (⟨"java/lang/StringLatin1", "canEncode", "(C)Z"⟩ : MethodName) jdk_43_method_3_code 1 (some .boolean) :: ws) ({ frames := 0, cells := 0, slots := 0, locals := 0 } : Room)) (fun a U => a = #[(.int u0)] ∧ Z.Warmed39 U.vm ∧ U.heap = h0) (fun _ _ _ _ _ => True) (fun _ U o U' => ∃ v L, o = .returned v ∧ Q6 Z u0 h0 n0 v U'.heap L ∧ FrameEnd U o U' L ({ frames := 0, cells := 0, slots := 0, locals := 0 } : Room).cells ({ frames := 0, cells := 0, slots := 0, locals := 0 } : Room).slots) := by
  refine MetFree.of_bodySF (plainFor_of_name pn_java_lang_StringLatin1) hisR ?_
  intro p e s m args below meth c s₁ Bd hml0 hP hK
  obtain ⟨rfl, hZ, hh⟩ := hP
  have hx := Bd.exec
  have hby := Bd.bytes
  have hml : c.maxLocals = 1 := hml0
  have hown : s.vm.findClass "java/lang/StringLatin1" = some m.cls := findClass_of_methodNamed Bd.named
  have hnm := (name_of_methodNamed Bd.named Bd.method).1
  have X0 : Stand p l e ({ frames := 0, cells := 0, slots := 0, locals := 0 } : Room) s m #[(.int u0)] below meth c s₁ [] 0 0 := Stand.of_body Bd
  have e0 : s₁.heap = h0 := by rw [← hh, Bd.state]; rfl
  have N0 := Fr.nil n0
  have pre0 : ∀ t, Steps p.tables e below (s₁.setTop (mkF m 0 #[.val (.int u0)] [])) t → Steps p.tables e below (s₁.setTop (entryFrame m #[(.int u0)] 1)) t := fun t k => castTop (ef_6 m u0) k
  obtain ⟨fs, hr, hrun, hended, hW, hsame⟩ := X0.leave (v := some (.int (1 : Int32))) (fun h => by rw [Bd.returns] at h; cases h)
  refine ⟨_, _, pre0 _ ?_, hrun, hended, _, _, rfl, ?_, ⟨_, rfl⟩, hW, hsame.mono (by decide) (by decide)⟩
  · show Steps p.tables e below (s₁.setTop (mkF m 0 #[.val (.int u0)] [])) _
    refine XS.iloadN X0.here hx rfl (hb hby d6_0) rfl ?_
    show Steps p.tables e below (s₁.setTop (mkF m 1 #[.val (.int u0)] [(.int u0)])) _
    refine XS.sipush X0.here hx rfl (hb hby d6_1) ?_
    show Steps p.tables e below (s₁.setTop (mkF m 4 #[.val (.int u0)] [(.int (255 : Int32)), (.int u0)])) _
    refine XS.icmpNo X0.here hx rfl (hb hby d6_4) rfl (flt hle).2.2.1 ?_
    show Steps p.tables e below (s₁.setTop (mkF m 7 #[.val (.int u0)] [])) _
    refine XS.iconst X0.here hx rfl (hb hby d6_7) ?_
    show Steps p.tables e below (s₁.setTop (mkF m 8 #[.val (.int u0)] [(.int (1 : Int32))])) _
    refine XS.goto X0.here hx rfl (pc0 := 8) (pc' := 12) rfl (hb hby d6_8) (by decide) (by decide) ?_
    show Steps p.tables e below (s₁.setTop (mkF m 12 #[.val (.int u0)] [(.int (1 : Int32))])) _
    exact retN X0 hx (t := .boolean) Bd.returns (by simp) (hb hby d6_12) hr
  · show Q6 Z u0 h0 n0 _ s₁.heap _
    rw [e0]
    exact ⟨rfl, N0, rfl⟩
theorem d7_0 : decode jdk_43_method_46_code 0 = .ok (.iconst 1, 1) := by decide +kernel
theorem d7_1 : decode jdk_43_method_46_code 1 = .ok (.newarray .byte, 2) := by decide +kernel
theorem d7_3 : decode jdk_43_method_46_code 3 = .ok (.dup, 1) := by decide +kernel
theorem d7_4 : decode jdk_43_method_46_code 4 = .ok (.iconst 0, 1) := by decide +kernel
theorem d7_5 : decode jdk_43_method_46_code 5 = .ok (.iload_n 0, 1) := by decide +kernel
theorem d7_6 : decode jdk_43_method_46_code 6 = .ok (.i2b, 1) := by decide +kernel
theorem d7_7 : decode jdk_43_method_46_code 7 = .ok (.bastore, 1) := by decide +kernel
theorem d7_8 : decode jdk_43_method_46_code 8 = .ok (.areturn, 1) := by decide +kernel
theorem ef_7 (m : MethodId) (u0 : Int32) : entryFrame m #[(.int u0)] 1 = mkF m 0 #[.val (.int u0)] [] := by first | (simp [entryFrame, mkF, argsToLocals, Value.category]; done) | rfl
def Q7 (Z : State) (u0 : Int32) (h0 : Heap) (n0 : Nat) (v : Option Value) (h : Heap) (L : List Loc) : Prop := v = some (.ref h0.size) ∧ Fr n0 L ∧ Keep h0 h []
set_option maxRecDepth 65536 in
set_option maxHeartbeats 40000000 in
theorem rm7 (l : Launch) (Z : State) (a0 : Array Value) (hw : ∀ d ∈ tables_1, d.before a0 Z = true) (ws : List Jvm.Cond) (u0 : Int32) (h0 : Heap) (n0 : Nat) (Z0 : n0 ≤ h0.size) :
    MetFree l (⟨"java/lang/StringLatin1", "toBytes", "(C)[B"⟩ : MethodName) (head1 (Jvm.Cond.code (⟨"java/lang/StringLatin1", "toBytes", "(C)[B"⟩ : MethodName) jdk_43_method_46_code 1 (some (.array .byte)) :: ws) ({ frames := 0, cells := 1, slots := 1, locals := 0 } : Room)) (fun a U => a = #[(.int u0)] ∧ Z.Warmed39 U.vm ∧ U.heap = h0) (fun _ _ _ _ _ => True) (fun _ U o U' => ∃ v L, o = .returned v ∧ Q7 Z u0 h0 n0 v U'.heap L ∧ FrameEnd U o U' L ({ frames := 0, cells := 1, slots := 1, locals := 0 } : Room).cells ({ frames := 0, cells := 1, slots := 1, locals := 0 } : Room).slots) := by
  refine MetFree.of_bodySF (plainFor_of_name pn_java_lang_StringLatin1) hisR ?_
  intro p e s m args below meth c s₁ Bd hml0 hP hK
  obtain ⟨rfl, hZ, hh⟩ := hP
  have hx := Bd.exec
  have hby := Bd.bytes
  have hml : c.maxLocals = 1 := hml0
  have hown : s.vm.findClass "java/lang/StringLatin1" = some m.cls := findClass_of_methodNamed Bd.named
  have hnm := (name_of_methodNamed Bd.named Bd.method).1
  have X0 : Stand p l e ({ frames := 0, cells := 1, slots := 1, locals := 0 } : Room) s m #[(.int u0)] below meth c s₁ [] 0 0 := Stand.of_body Bd
  have e0 : s₁.heap = h0 := by rw [← hh, Bd.state]; rfl
  have N0 := Fr.nil n0
  have pre0 : ∀ t, Steps p.tables e below (s₁.setTop (mkF m 0 #[.val (.int u0)] [])) t → Steps p.tables e below (s₁.setTop (entryFrame m #[(.int u0)] 1)) t := fun t k => castTop (ef_7 m u0) k
  obtain ⟨T1, h1, k1, X1, e1, E1, A1, st1⟩ := newP X0 hx hZ (hw _ (List.mem_of_getElem? (i := 21) rfl)) e0 (g := (mkF m 1 #[.val (.int u0)] [(.int (1 : Int32))])) rfl (hb hby d7_1) rfl (by decide) (cap := 1) (by decide) (by decide) (by decide) (by decide)
  obtain ⟨b1, g1⟩ : ∃ z, z = h0.size := ⟨_, rfl⟩
  rw [← g1] at A1 st1
  have g_b1 : n0 ≤ b1 := Nat.le_trans Z0 (Nat.le_of_eq g1.symm)
  have sz_b1 : h0.size ≤ b1 := Nat.le_trans (Keep.refl h0 []).1 (Nat.le_of_eq g1.symm)
  have V1 : Arv Z h1 b1 k1 .byte (1 : Int32) [(.int (0 : Int32))] (.int (0 : Int32)) := (Arv.new A1 (by decide)).pad (pad_rep [] (.int (0 : Int32)) 1)
  have Z1 : n0 ≤ h1.size := Nat.le_trans Z0 E1.1
  have KK1 := (Keep.refl h0 []).ext E1
  obtain ⟨cl2, Ar2, qa2, Sa2, Na2, Ha2, Ga2⟩ := id V1
  obtain ⟨T3, h3, X3, e3, W3, st3⟩ := stB X1 hx hZ e1 Ar2 (j := (0 : Int32)) (inb_of Sa2 ⟨by decide, by decide⟩) (g := (mkF m 7 #[.val (.int u0)] [(.int (u0.toInt8.toInt32)), (.int (0 : Int32)), (.ref b1), (.ref b1)])) rfl rfl (hb hby d7_7)
  have V3 : Arv Z h3 b1 k1 .byte (1 : Int32) [(.int (nar .byte (u0.toInt8.toInt32)))] (.int (0 : Int32)) := Arv.set Ar2 qa2 Sa2 Na2 Ha2 Ga2 (fits_nar_byte _) W3 0 rfl (Nat.le_of_ble_eq_true rfl)
  have N3 := Fr.snoc X3 N0 g_b1
  have Z3 : n0 ≤ h3.size := Nat.le_trans Z1 (Keep.of_wr W3).1
  have KK3 := KK1.wr W3 (Or.inr sz_b1)
  obtain ⟨fs, hr, hrun, hended, hW, hsame⟩ := X3.leave (v := some (.ref b1)) (fun h => by rw [Bd.returns] at h; cases h)
  refine ⟨_, _, pre0 _ ?_, hrun, hended, _, _, rfl, ?_, ⟨_, rfl⟩, hW, hsame.mono (by decide) (by decide)⟩
  · show Steps p.tables e below (s₁.setTop (mkF m 0 #[.val (.int u0)] [])) _
    refine XS.iconst X0.here hx rfl (hb hby d7_0) ?_
    show Steps p.tables e below (s₁.setTop (mkF m 1 #[.val (.int u0)] [(.int (1 : Int32))])) _
    refine st1 _ ?_
    show Steps p.tables e below (T1.setTop (mkF m 3 #[.val (.int u0)] [(.ref b1)])) _
    refine XS.dup X1.here hx rfl (hb hby d7_3) rfl rfl ?_
    show Steps p.tables e below (T1.setTop (mkF m 4 #[.val (.int u0)] [(.ref b1), (.ref b1)])) _
    refine XS.iconst X1.here hx rfl (hb hby d7_4) ?_
    show Steps p.tables e below (T1.setTop (mkF m 5 #[.val (.int u0)] [(.int (0 : Int32)), (.ref b1), (.ref b1)])) _
    refine XS.iloadN X1.here hx rfl (hb hby d7_5) rfl ?_
    show Steps p.tables e below (T1.setTop (mkF m 6 #[.val (.int u0)] [(.int u0), (.int (0 : Int32)), (.ref b1), (.ref b1)])) _
    refine XS.i2b X1.here hx rfl (hb hby d7_6) rfl ?_
    show Steps p.tables e below (T1.setTop (mkF m 7 #[.val (.int u0)] [(.int (u0.toInt8.toInt32)), (.int (0 : Int32)), (.ref b1), (.ref b1)])) _
    refine st3 _ ?_
    show Steps p.tables e below (T3.setTop (mkF m 8 #[.val (.int u0)] [(.ref b1)])) _
    jvm_step X3.here [X3.here.top, hx, (hb hby d7_8), X3.method', Bd.returns, Value.isRef, FieldType.isReference]
    first | (intro acts; rw [hr _ acts rfl rfl rfl]) | rw [hr _ _ rfl rfl rfl]
    exact Steps.refl _
  · show Q7 Z u0 h0 n0 _ T3.heap _
    rw [e3]
    exact ⟨(by rw [g1]), N3, KK3⟩
theorem d8_0 : decode jdk_42_method_151_code 0 = .ok (.aload_n 0, 1) := by decide +kernel
theorem d8_1 : decode jdk_42_method_151_code 1 = .ok (.invokespecial 1, 3) := by decide +kernel
theorem d8_4 : decode jdk_42_method_151_code 4 = .ok (.aload_n 0, 1) := by decide +kernel
theorem d8_5 : decode jdk_42_method_151_code 5 = .ok (.aload_n 1, 1) := by decide +kernel
theorem d8_6 : decode jdk_42_method_151_code 6 = .ok (.putfield 9, 3) := by decide +kernel
theorem d8_9 : decode jdk_42_method_151_code 9 = .ok (.aload_n 0, 1) := by decide +kernel
theorem d8_10 : decode jdk_42_method_151_code 10 = .ok (.iload_n 2, 1) := by decide +kernel
theorem d8_11 : decode jdk_42_method_151_code 11 = .ok (.putfield 15, 3) := by decide +kernel
theorem d8_14 : decode jdk_42_method_151_code 14 = .ok (.return_, 1) := by decide +kernel
theorem pn_java_lang_String : plainName "java/lang/String" = true := by first | (simp [plainName, overriddenIn]; done) | decide +kernel
theorem ef_8 (m : MethodId) (u0 : Addr) (u1 : Addr) : entryFrame m #[(.ref u0), (.ref u1), (.int (0 : Int32))] 3 = mkF m 0 #[.val (.ref u0), .val (.ref u1), .val (.int (0 : Int32))] [] := by first | (simp [entryFrame, mkF, argsToLocals, Value.category]; done) | rfl
def Q8 (Z : State) (u0 : Addr) (u1 : Addr) (h0 : Heap) (n0 : Nat) (v : Option Value) (h : Heap) (L : List Loc) : Prop := v = none ∧ Fr n0 L ∧ Keep h0 h [u0] ∧ Exa Z h u0 "java/lang/String" ∧ Fld Z h u0 "java/lang/String" "value" "[B" (.ref u1) ∧ Fld Z h u0 "java/lang/String" "coder" "B" (.int (0 : Int32))
set_option maxRecDepth 65536 in
set_option maxHeartbeats 40000000 in
theorem rm8 (l : Launch) (Z : State) (a0 : Array Value) (hw : ∀ d ∈ tables_1, d.before a0 Z = true) (ws : List Jvm.Cond) (u0 : Addr) (u1 : Addr) (h0 : Heap) (n0 : Nat) (Z0 : n0 ≤ h0.size) (g_u0 : n0 ≤ u0) (E_u0 : Exa Z h0 u0 "java/lang/String") (F_value_u0 : Fld Z h0 u0 "java/lang/String" "value" "[B" .null) (F_coder_u0 : Fld Z h0 u0 "java/lang/String" "coder" "B" (.int (0 : Int32))) :
    MetFree l (⟨"java/lang/String", "<init>", "([BB)V"⟩ : MethodName) (head1 (Jvm.Cond.code (⟨"java/lang/String", "<init>", "([BB)V"⟩ : MethodName) jdk_42_method_151_code 3 none :: ws) ({ frames := 1, cells := 0, slots := 0, locals := 12 } : Room)) (fun a U => a = #[(.ref u0), (.ref u1), (.int (0 : Int32))] ∧ Z.Warmed39 U.vm ∧ U.heap = h0) (fun _ _ _ _ _ => True) (fun _ U o U' => ∃ v L, o = .returned v ∧ Q8 Z u0 u1 h0 n0 v U'.heap L ∧ FrameEnd U o U' L ({ frames := 1, cells := 0, slots := 0, locals := 12 } : Room).cells ({ frames := 1, cells := 0, slots := 0, locals := 12 } : Room).slots) := by
  refine MetFree.of_bodySF (plainFor_of_name pn_java_lang_String) hisR ?_
  intro p e s m args below meth c s₁ Bd hml0 hP hK
  obtain ⟨rfl, hZ, hh⟩ := hP
  have hx := Bd.exec
  have hby := Bd.bytes
  have hml : c.maxLocals = 3 := hml0
  have hown : s.vm.findClass "java/lang/String" = some m.cls := findClass_of_methodNamed Bd.named
  have hnm := (name_of_methodNamed Bd.named Bd.method).1
  have X0 : Stand p l e ({ frames := 1, cells := 0, slots := 0, locals := 12 } : Room) s m #[(.ref u0), (.ref u1), (.int (0 : Int32))] below meth c s₁ [] 0 0 := Stand.of_body Bd
  have e0 : s₁.heap = h0 := by rw [← hh, Bd.state]; rfl
  have N0 := Fr.nil n0
  have pre0 : ∀ t, Steps p.tables e below (s₁.setTop (mkF m 0 #[.val (.ref u0), .val (.ref u1), .val (.int (0 : Int32))] [])) t → Steps p.tables e below (s₁.setTop (entryFrame m #[(.ref u0), (.ref u1), (.int (0 : Int32))] 3)) t := fun t k => castTop (ef_8 m u0 u1) k
  obtain ⟨T1, X1, e1, st1⟩ := initO X0 hx hZ hown (hw _ (List.mem_of_getElem? (i := 54) rfl)) (hw _ (List.mem_of_getElem? (i := 16) rfl)) (hw _ (List.mem_of_getElem? (i := 17) rfl)) e0 (g := (mkF m 1 #[.val (.ref u0), .val (.ref u1), .val (.int (0 : Int32))] [(.ref u0)])) rfl (by rw [hml]; rfl) rfl (hb hby d8_1) (by decide) (W := 0) (by show 2 * 0 + _ ≤ _; exact Nat.le_of_eq rfl) (by decide)
  obtain ⟨T2, h2, X2, e2, W2, st2⟩ := putF X1 hx hZ hown (host := "") (Or.inl (hw _ (List.mem_of_getElem? (i := 55) rfl))) Via.refl e1 F_value_u0 E_u0 (Or.inr ⟨(hw _ (List.mem_of_getElem? (i := 22) rfl)), rfl, hnm⟩) (hw _ (List.mem_of_getElem? (i := 20) rfl)) (ty := (.array .byte)) (by decide) rfl rfl (g := (mkF m 6 #[.val (.ref u0), .val (.ref u1), .val (.int (0 : Int32))] [(.ref u1), (.ref u0)])) rfl rfl (hb hby d8_6)
  have Fw2 := F_value_u0.same W2
  have N2 := Fr.snoc X2 N0 g_u0
  have Z2 : n0 ≤ h2.size := Nat.le_trans Z0 (Keep.of_wr W2).1
  have KK2 := (Keep.refl h0 [u0]).wr W2 (Or.inl (List.mem_of_getElem? (i := 0) rfl))
  obtain ⟨T3, h3, X3, e3, W3, st3⟩ := putFN X2 hx hZ hown (hw _ (List.mem_of_getElem? (i := 56) rfl)) Via.refl e2 (F_coder_u0.other W2 (Or.inr (slot_ne (Or.inr (hw _ (List.mem_of_getElem? (i := 23) rfl))) (Or.inr (hw _ (List.mem_of_getElem? (i := 22) rfl))) (by decide) (t := .byte) (t' := (.array .byte)) (by decide) (by decide)))) (E_u0.wr W2) (Or.inr ⟨(hw _ (List.mem_of_getElem? (i := 23) rfl)), rfl, hnm⟩) (hw _ (List.mem_of_getElem? (i := 20) rfl)) (ty := .byte) (v' := (.int (nar .byte (0 : Int32)))) (by decide) rfl (fits_nar_byte _) (g := (mkF m 11 #[.val (.ref u0), .val (.ref u1), .val (.int (0 : Int32))] [(.int (0 : Int32)), (.ref u0)])) rfl rfl (hb hby d8_11)
  have Fw3 := (F_coder_u0.other W2 (Or.inr (slot_ne (Or.inr (hw _ (List.mem_of_getElem? (i := 23) rfl))) (Or.inr (hw _ (List.mem_of_getElem? (i := 22) rfl))) (by decide) (t := .byte) (t' := (.array .byte)) (by decide) (by decide)))).same W3
  have N3 := Fr.snoc X3 N2 g_u0
  have Z3 : n0 ≤ h3.size := Nat.le_trans Z2 (Keep.of_wr W3).1
  have KK3 := KK2.wr W3 (Or.inl (List.mem_of_getElem? (i := 0) rfl))
  obtain ⟨fs, hr, hrun, hended, hW, hsame⟩ := X3.leave (v := none) (fun _ => rfl)
  refine ⟨_, _, pre0 _ ?_, hrun, hended, _, _, rfl, ?_, ⟨_, rfl⟩, hW, hsame.mono (by decide) (by decide)⟩
  · show Steps p.tables e below (s₁.setTop (mkF m 0 #[.val (.ref u0), .val (.ref u1), .val (.int (0 : Int32))] [])) _
    refine XS.aloadN X0.here hx rfl (hb hby d8_0) rfl rfl ?_
    show Steps p.tables e below (s₁.setTop (mkF m 1 #[.val (.ref u0), .val (.ref u1), .val (.int (0 : Int32))] [(.ref u0)])) _
    refine st1 _ ?_
    show Steps p.tables e below (T1.setTop (mkF m 4 #[.val (.ref u0), .val (.ref u1), .val (.int (0 : Int32))] [])) _
    refine XS.aloadN X1.here hx rfl (hb hby d8_4) rfl rfl ?_
    show Steps p.tables e below (T1.setTop (mkF m 5 #[.val (.ref u0), .val (.ref u1), .val (.int (0 : Int32))] [(.ref u0)])) _
    refine XS.aloadN X1.here hx rfl (hb hby d8_5) rfl rfl ?_
    show Steps p.tables e below (T1.setTop (mkF m 6 #[.val (.ref u0), .val (.ref u1), .val (.int (0 : Int32))] [(.ref u1), (.ref u0)])) _
    refine st2 _ ?_
    show Steps p.tables e below (T2.setTop (mkF m 9 #[.val (.ref u0), .val (.ref u1), .val (.int (0 : Int32))] [])) _
    refine XS.aloadN X2.here hx rfl (hb hby d8_9) rfl rfl ?_
    show Steps p.tables e below (T2.setTop (mkF m 10 #[.val (.ref u0), .val (.ref u1), .val (.int (0 : Int32))] [(.ref u0)])) _
    refine XS.iloadN X2.here hx rfl (hb hby d8_10) rfl ?_
    show Steps p.tables e below (T2.setTop (mkF m 11 #[.val (.ref u0), .val (.ref u1), .val (.int (0 : Int32))] [(.int (0 : Int32)), (.ref u0)])) _
    refine st3 _ ?_
    show Steps p.tables e below (T3.setTop (mkF m 14 #[.val (.ref u0), .val (.ref u1), .val (.int (0 : Int32))] [])) _
    exact X3.returnOut hx Bd.returns (hb hby d8_14) hr
  · show Q8 Z u0 u1 h0 n0 _ T3.heap _
    rw [e3]
    exact ⟨rfl, N3, KK3, ((E_u0.wr W2).wr W3), (Fw2.other W3 (Or.inr (slot_ne (Or.inr (hw _ (List.mem_of_getElem? (i := 22) rfl))) (Or.inr (hw _ (List.mem_of_getElem? (i := 23) rfl))) (by decide) (t := (.array .byte)) (t' := .byte) (by decide) (by decide)))), Fw3⟩
theorem pd_3 : parseMethodDescriptor "(C)Z" = some ⟨[.char], some .boolean⟩ := by decide +kernel
theorem pd_4 : parseMethodDescriptor "(C)[B" = some ⟨[.char], some (.array .byte)⟩ := by decide +kernel
theorem pd_11 : parseMethodDescriptor "([BB)V" = some ⟨[(.array .byte), .byte], none⟩ := by decide +kernel
theorem d5_0 : decode jdk_42_method_139_code 0 = .ok (.getstatic 38, 3) := by decide +kernel
theorem d5_3 : decode jdk_42_method_139_code 3 = .ok (.ifCond .eq 23, 3) := by decide +kernel
theorem d5_6 : decode jdk_42_method_139_code 6 = .ok (.iload_n 0, 1) := by decide +kernel
theorem d5_7 : decode jdk_42_method_139_code 7 = .ok (.invokestatic 1015, 3) := by decide +kernel
theorem d5_10 : decode jdk_42_method_139_code 10 = .ok (.ifCond .eq 16, 3) := by decide +kernel
theorem d5_13 : decode jdk_42_method_139_code 13 = .ok (.new 10, 3) := by decide +kernel
theorem d5_16 : decode jdk_42_method_139_code 16 = .ok (.dup, 1) := by decide +kernel
theorem d5_17 : decode jdk_42_method_139_code 17 = .ok (.iload_n 0, 1) := by decide +kernel
theorem d5_18 : decode jdk_42_method_139_code 18 = .ok (.invokestatic 1018, 3) := by decide +kernel
theorem d5_21 : decode jdk_42_method_139_code 21 = .ok (.iconst 0, 1) := by decide +kernel
theorem d5_22 : decode jdk_42_method_139_code 22 = .ok (.invokespecial 209, 3) := by decide +kernel
theorem d5_25 : decode jdk_42_method_139_code 25 = .ok (.areturn, 1) := by decide +kernel
theorem ef_5 (m : MethodId) (u0 : Int32) : entryFrame m #[(.int u0)] 1 = mkF m 0 #[.val (.int u0)] [] := by first | (simp [entryFrame, mkF, argsToLocals, Value.category]; done) | rfl
def Q5 (Z : State) (u0 : Int32) (G_COMPACT : Int32) (h0 : Heap) (n0 : Nat) (v : Option Value) (h : Heap) (L : List Loc) : Prop := v = some (.ref h0.size) ∧ Fr n0 L ∧ Keep h0 h []
set_option maxRecDepth 65536 in
set_option maxHeartbeats 40000000 in
theorem rm5 (l : Launch) (Z : State) (a0 : Array Value) (hw : ∀ d ∈ tables_1, d.before a0 Z = true) (ws : List Jvm.Cond) (u0 : Int32) (G_COMPACT : Int32) (h0 : Heap) (n0 : Nat) (Z0 : n0 ≤ h0.size) (O0 : Old Z n0 h0) (S_COMPACT : Sta Z Z.heap "java/lang/String" "COMPACT_STRINGS" "Z" (.int G_COMPACT)) (P_COMPACT : ¬ G_COMPACT = 0) (hle : ¬ (255 : Int32) < u0) :
    MetFree l (⟨"java/lang/String", "valueOf", "(C)Ljava/lang/String;"⟩ : MethodName) (head1 (Jvm.Cond.code (⟨"java/lang/String", "valueOf", "(C)Ljava/lang/String;"⟩ : MethodName) jdk_42_method_139_code 1 (some (.object "java/lang/String")) :: ws) ({ frames := 2, cells := 2, slots := 5, locals := 27 } : Room)) (fun a U => a = #[(.int u0)] ∧ Z.Warmed39 U.vm ∧ U.heap = h0) (fun _ _ _ _ _ => True) (fun _ U o U' => ∃ v L, o = .returned v ∧ Q5 Z u0 G_COMPACT h0 n0 v U'.heap L ∧ FrameEnd U o U' L ({ frames := 2, cells := 2, slots := 5, locals := 27 } : Room).cells ({ frames := 2, cells := 2, slots := 5, locals := 27 } : Room).slots) := by
  refine MetFree.of_bodySF (plainFor_of_name pn_java_lang_String) hisR ?_
  intro p e s m args below meth c s₁ Bd hml0 hP hK
  obtain ⟨rfl, hZ, hh⟩ := hP
  have hx := Bd.exec
  have hby := Bd.bytes
  have hml : c.maxLocals = 1 := hml0
  have hown : s.vm.findClass "java/lang/String" = some m.cls := findClass_of_methodNamed Bd.named
  have hnm := (name_of_methodNamed Bd.named Bd.method).1
  have X0 : Stand p l e ({ frames := 2, cells := 2, slots := 5, locals := 27 } : Room) s m #[(.int u0)] below meth c s₁ [] 0 0 := Stand.of_body Bd
  have e0 : s₁.heap = h0 := by rw [← hh, Bd.state]; rfl
  have N0 := Fr.nil n0
  have pre0 : ∀ t, Steps p.tables e below (s₁.setTop (mkF m 0 #[.val (.int u0)] [])) t → Steps p.tables e below (s₁.setTop (entryFrame m #[(.int u0)] 1)) t := fun t k => castTop (ef_5 m u0) k
  obtain ⟨T1, X1, e1, st1⟩ := getS2 X0 hx hZ hown (host := "") (Or.inl (hw _ (List.mem_of_getElem? (i := 41) rfl))) Via.refl e0 (S_COMPACT.ext O0.2) (g := (mkF m 0 #[.val (.int u0)] [])) rfl (hb hby d5_0)
  obtain ⟨_, _, ⟨T2, L2, k2, n2⟩, -, X2, ⟨Lc2, hQ2, l2, y2, z2⟩, st2⟩ := Jvm.LawKit.callS X1 hx (y := (⟨"java/lang/StringLatin1", "canEncode", "(C)Z"⟩ : MethodName)) hown (mvT hZ (hw _ (List.mem_of_getElem? (i := 42) rfl))) (mvT hZ (hw _ (List.mem_of_getElem? (i := 43) rfl))) (mvT hZ (hw _ (List.mem_of_getElem? (i := 44) rfl))) (mvT hZ (hw _ (List.mem_of_getElem? (i := 45) rfl))) (by decide) (backOf (W := 0) (rm6 l Z a0 hw [] u0 h0 n0 Z0 hle) hZ (hw _ (List.mem_of_getElem? (i := 45) rfl)) (hw _ (List.mem_of_getElem? (i := 44) rfl)) (by decide) (by decide)) (g := (mkF m 7 #[.val (.int u0)] [(.int u0)])) rfl (by rw [hml]; rfl) (argsL := [(.int u0)]) (rest := []) (lenOf pd_3 rfl) rfl (by show 2 * 0 + _ ≤ _; exact Nat.le_of_eq rfl) (hb hby d5_7) (fun _ _ => ⟨rfl, e1, (by decide : 0 + 0 ≤ _), (by decide : 0 + 0 ≤ _)⟩)
  dsimp only [Pt.U, Pt.locs, Pt.cells, Pt.slots] at X2 l2 y2 z2 st2 hQ2
  replace y2 : k2 = 0 := y2
  replace z2 : n2 = 0 := z2
  rw [y2, z2] at X2
  obtain ⟨rfl, N2q, e2⟩ := hQ2
  have N2 : Fr n0 L2 := l2 ▸ Fr.app N0 N2q
  obtain ⟨T3, h3, X3, e3, E3, A3, D3, -, st3⟩ := newO X2 hx hZ hown (hw _ (List.mem_of_getElem? (i := 46) rfl)) (hw _ (List.mem_of_getElem? (i := 20) rfl)) (hw _ (List.mem_of_getElem? (i := 19) rfl)) e2 (g := (mkF m 13 #[.val (.int u0)] [])) rfl (hb hby d5_13) (by decide) (by decide)
  obtain ⟨b3, g3⟩ : ∃ z, z = h0.size := ⟨_, rfl⟩
  rw [← g3] at A3 D3 st3
  have g_b3 : n0 ≤ b3 := Nat.le_trans Z0 (Nat.le_of_eq g3.symm)
  have sz_b3 : h0.size ≤ b3 := Nat.le_trans (Keep.refl h0 []).1 (Nat.le_of_eq g3.symm)
  have Z3 : n0 ≤ h3.size := Nat.le_trans Z0 E3.1
  have KK3 := (Keep.refl h0 []).ext E3
  have O3 := O0.ext E3
  have F3_value : Fld Z h3 b3 "java/lang/String" "value" "[B" .null := D3 (Or.inr (hw _ (List.mem_of_getElem? (i := 22) rfl))) (ty := (.array .byte)) (by decide)
  have F3_coder : Fld Z h3 b3 "java/lang/String" "coder" "B" (.int (0 : Int32)) := D3 (Or.inr (hw _ (List.mem_of_getElem? (i := 23) rfl))) (ty := .byte) (by decide)
  obtain ⟨_, _, ⟨T4, L4, k4, n4⟩, -, X4, ⟨Lc4, hQ4, l4, y4, z4⟩, st4⟩ := Jvm.LawKit.callS X3 hx (y := (⟨"java/lang/StringLatin1", "toBytes", "(C)[B"⟩ : MethodName)) hown (mvT hZ (hw _ (List.mem_of_getElem? (i := 47) rfl))) (mvT hZ (hw _ (List.mem_of_getElem? (i := 48) rfl))) (mvT hZ (hw _ (List.mem_of_getElem? (i := 44) rfl))) (mvT hZ (hw _ (List.mem_of_getElem? (i := 49) rfl))) (by decide) (backOf (W := 2) (rm7 l Z a0 hw [] u0 h3 n0 Z3 ) hZ (hw _ (List.mem_of_getElem? (i := 49) rfl)) (hw _ (List.mem_of_getElem? (i := 44) rfl)) (by decide) (by decide)) (g := (mkF m 18 #[.val (.int u0)] [(.int u0), (.ref b3), (.ref b3)])) rfl (by rw [hml]; rfl) (argsL := [(.int u0)]) (rest := [(.ref b3), (.ref b3)]) (lenOf pd_4 rfl) rfl (by show 2 * 0 + _ ≤ _; exact Nat.le_of_eq rfl) (hb hby d5_18) (fun _ _ => ⟨rfl, e3, (by decide : 1 + 1 ≤ _), (by decide : 4 + 1 ≤ _)⟩)
  dsimp only [Pt.U, Pt.locs, Pt.cells, Pt.slots] at X4 l4 y4 z4 st4 hQ4
  replace y4 : k4 = 2 := y4
  replace z4 : n4 = 5 := z4
  rw [y4, z4] at X4
  obtain ⟨hv4, N4q, K4⟩ := hQ4
  obtain ⟨b4, g4⟩ : ∃ z, z = h3.size := ⟨_, rfl⟩
  rw [← g4] at hv4
  subst hv4
  have N4 : Fr n0 L4 := l4 ▸ Fr.app N2 N4q
  have Z4 : n0 ≤ T4.heap.size := Nat.le_trans Z3 K4.1
  have KK4 := KK3.trans K4 all0
  have O4 := O3.keep K4 all0
  obtain ⟨_, _, ⟨T5, L5, k5, n5⟩, -, X5, ⟨Lc5, hQ5, l5, y5, z5⟩, st5⟩ := X4.specialBack hx (y := (⟨"java/lang/String", "<init>", "([BB)V"⟩ : MethodName)) rfl hown (mvT hZ (hw _ (List.mem_of_getElem? (i := 50) rfl))) (mvT hZ (hw _ (List.mem_of_getElem? (i := 51) rfl))) (mvT hZ (hw _ (List.mem_of_getElem? (i := 53) rfl))) (by decide) (backOf (W := 1) (rm8 l Z a0 hw [] b3 b4 T4.heap n0 Z4 g_b3 (A3.keep K4) (F3_value.keep K4 nin0) (F3_coder.keep K4 nin0)) hZ (hw _ (List.mem_of_getElem? (i := 53) rfl)) (hw _ (List.mem_of_getElem? (i := 19) rfl)) (by decide) (by decide)) (g := (mkF m 22 #[.val (.int u0)] [(.int (0 : Int32)), (.ref b4), (.ref b3), (.ref b3)])) rfl (by rw [hml]; rfl) (Steps.refl _) (a := b3) (argsL := [(.ref b4), (.int (0 : Int32))]) (rest := [(.ref b3)]) (lenOf pd_11 rfl) rfl (by show 2 * 0 + _ ≤ _; exact Nat.le_of_eq rfl) (hb hby d5_22) (fun _ _ => ⟨rfl, rfl, (by decide : 2 + 0 ≤ _), (by decide : 5 + 0 ≤ _)⟩)
  dsimp only [Pt.U, Pt.locs, Pt.cells, Pt.slots] at X5 l5 y5 z5 st5 hQ5
  replace y5 : k5 = 2 := y5
  replace z5 : n5 = 5 := z5
  rw [y5, z5] at X5
  obtain ⟨rfl, N5q, K5, A5, F5_value, F5_coder⟩ := hQ5
  have N5 : Fr n0 L5 := l5 ▸ Fr.app N4 N5q
  have Z5 : n0 ≤ T5.heap.size := Nat.le_trans Z4 K5.1
  have KK5 := KK4.trans K5 (allS (P := fun x => x ∈ [] ∨ h0.size ≤ x) (Or.inr sz_b3) all0)
  have O5 := O4.keep K5 (allS g_b3 all0)
  obtain ⟨fs, hr, hrun, hended, hW, hsame⟩ := X5.leave (v := some (.ref b3)) (fun h => by rw [Bd.returns] at h; cases h)
  refine ⟨_, _, pre0 _ ?_, hrun, hended, _, _, rfl, ?_, ⟨_, rfl⟩, hW, hsame.mono (by decide) (by decide)⟩
  · show Steps p.tables e below (s₁.setTop (mkF m 0 #[.val (.int u0)] [])) _
    refine st1 _ ?_
    show Steps p.tables e below (T1.setTop (mkF m 3 #[.val (.int u0)] [(.int G_COMPACT)])) _
    refine XS.ifNo X1.here hx rfl (hb hby d5_3) rfl ((if0 _ _).trans (feq P_COMPACT).1) ?_
    show Steps p.tables e below (T1.setTop (mkF m 6 #[.val (.int u0)] [])) _
    refine XS.iloadN X1.here hx rfl (hb hby d5_6) rfl ?_
    show Steps p.tables e below (T1.setTop (mkF m 7 #[.val (.int u0)] [(.int u0)])) _
    refine st2 _ ?_
    show Steps p.tables e below (T2.setTop (mkF m 10 #[.val (.int u0)] [(.int (1 : Int32))])) _
    refine XS.ifNo X2.here hx rfl (hb hby d5_10) rfl ((if0 _ _).trans (feq (by decide)).1) ?_
    show Steps p.tables e below (T2.setTop (mkF m 13 #[.val (.int u0)] [])) _
    refine st3 _ ?_
    show Steps p.tables e below (T3.setTop (mkF m 16 #[.val (.int u0)] [(.ref b3)])) _
    refine XS.dup X3.here hx rfl (hb hby d5_16) rfl rfl ?_
    show Steps p.tables e below (T3.setTop (mkF m 17 #[.val (.int u0)] [(.ref b3), (.ref b3)])) _
    refine XS.iloadN X3.here hx rfl (hb hby d5_17) rfl ?_
    show Steps p.tables e below (T3.setTop (mkF m 18 #[.val (.int u0)] [(.int u0), (.ref b3), (.ref b3)])) _
    refine st4 _ ?_
    show Steps p.tables e below (T4.setTop (mkF m 21 #[.val (.int u0)] [(.ref b4), (.ref b3), (.ref b3)])) _
    refine XS.iconst X4.here hx rfl (hb hby d5_21) ?_
    show Steps p.tables e below (T4.setTop (mkF m 22 #[.val (.int u0)] [(.int (0 : Int32)), (.ref b4), (.ref b3), (.ref b3)])) _
    refine st5.trans ?_
    show Steps p.tables e below (T5.setTop (mkF m 25 #[.val (.int u0)] [(.ref b3)])) _
    jvm_step X5.here [X5.here.top, hx, (hb hby d5_25), X5.method', Bd.returns, Value.isRef, FieldType.isReference]
    first | (intro acts; rw [hr _ acts rfl rfl rfl]) | rw [hr _ _ rfl rfl rfl]
    exact Steps.refl _
  · show Q5 Z u0 G_COMPACT h0 n0 _ T5.heap _
    exact ⟨(by rw [g3]), N5, KK5⟩
theorem d13_0 : decode jdk_35_method_26_code 0 = .ok (.aload_n 0, 1) := by decide +kernel
theorem d13_1 : decode jdk_35_method_26_code 1 = .ok (.invokespecial 270, 3) := by decide +kernel
theorem d13_4 : decode jdk_35_method_26_code 4 = .ok (.aload_n 0, 1) := by decide +kernel
theorem d13_5 : decode jdk_35_method_26_code 5 = .ok (.lload_n 1, 1) := by decide +kernel
theorem d13_6 : decode jdk_35_method_26_code 6 = .ok (.putfield 273, 3) := by decide +kernel
theorem d13_9 : decode jdk_35_method_26_code 9 = .ok (.return_, 1) := by decide +kernel
theorem pn_java_lang_Long : plainName "java/lang/Long" = true := by first | (simp [plainName, overriddenIn]; done) | decide +kernel
theorem ef_13 (m : MethodId) (u0 : Addr) (u1 : Int64) : entryFrame m #[(.ref u0), (.long u1)] 3 = mkF m 0 #[.val (.ref u0), .val (.long u1), .second] [] := by first | (simp [entryFrame, mkF, argsToLocals, Value.category]; done) | rfl
def Q13 (Z : State) (u0 : Addr) (u1 : Int64) (h0 : Heap) (n0 : Nat) (v : Option Value) (h : Heap) (L : List Loc) : Prop := v = none ∧ Fr n0 L ∧ Keep h0 h [u0] ∧ Exa Z h u0 "java/lang/Long" ∧ Fld Z h u0 "java/lang/Long" "value" "J" (.long u1)
set_option maxRecDepth 65536 in
set_option maxHeartbeats 40000000 in
theorem rm13 (l : Launch) (Z : State) (a0 : Array Value) (hw : ∀ d ∈ tables_1, d.before a0 Z = true) (ws : List Jvm.Cond) (u0 : Addr) (u1 : Int64) (h0 : Heap) (n0 : Nat) (Z0 : n0 ≤ h0.size) (g_u0 : n0 ≤ u0) (E_u0 : Exa Z h0 u0 "java/lang/Long") (F_value_u0 : Fld Z h0 u0 "java/lang/Long" "value" "J" (.long (0 : Int64))) :
    MetFree l (⟨"java/lang/Long", "<init>", "(J)V"⟩ : MethodName) (head1 (Jvm.Cond.code (⟨"java/lang/Long", "<init>", "(J)V"⟩ : MethodName) jdk_35_method_26_code 3 none :: ws) ({ frames := 2, cells := 0, slots := 0, locals := 24 } : Room)) (fun a U => a = #[(.ref u0), (.long u1)] ∧ Z.Warmed39 U.vm ∧ U.heap = h0) (fun _ _ _ _ _ => True) (fun _ U o U' => ∃ v L, o = .returned v ∧ Q13 Z u0 u1 h0 n0 v U'.heap L ∧ FrameEnd U o U' L ({ frames := 2, cells := 0, slots := 0, locals := 24 } : Room).cells ({ frames := 2, cells := 0, slots := 0, locals := 24 } : Room).slots) := by
  refine MetFree.of_bodySF (plainFor_of_name pn_java_lang_Long) hisR ?_
  intro p e s m args below meth c s₁ Bd hml0 hP hK
  obtain ⟨rfl, hZ, hh⟩ := hP
  have hx := Bd.exec
  have hby := Bd.bytes
  have hml : c.maxLocals = 3 := hml0
  have hown : s.vm.findClass "java/lang/Long" = some m.cls := findClass_of_methodNamed Bd.named
  have hnm := (name_of_methodNamed Bd.named Bd.method).1
  have X0 : Stand p l e ({ frames := 2, cells := 0, slots := 0, locals := 24 } : Room) s m #[(.ref u0), (.long u1)] below meth c s₁ [] 0 0 := Stand.of_body Bd
  have e0 : s₁.heap = h0 := by rw [← hh, Bd.state]; rfl
  have N0 := Fr.nil n0
  have pre0 : ∀ t, Steps p.tables e below (s₁.setTop (mkF m 0 #[.val (.ref u0), .val (.long u1), .second] [])) t → Steps p.tables e below (s₁.setTop (entryFrame m #[(.ref u0), (.long u1)] 3)) t := fun t k => castTop (ef_13 m u0 u1) k
  obtain ⟨_, _, ⟨T1, L1, k1, n1⟩, -, X1, ⟨Lc1, hQ1, l1, y1, z1⟩, st1⟩ := X0.specialBack hx (y := (⟨"java/lang/Number", "<init>", "()V"⟩ : MethodName)) rfl hown (mvT hZ (hw _ (List.mem_of_getElem? (i := 98) rfl))) (mvT hZ (hw _ (List.mem_of_getElem? (i := 99) rfl))) (mvT hZ (hw _ (List.mem_of_getElem? (i := 103) rfl))) (by decide) (backOf (W := 0) (rm14 l Z a0 hw [] u0 h0 n0 Z0 ) hZ (hw _ (List.mem_of_getElem? (i := 103) rfl)) (hw _ (List.mem_of_getElem? (i := 102) rfl)) (by decide) (by decide)) (g := (mkF m 1 #[.val (.ref u0), .val (.long u1), .second] [(.ref u0)])) rfl (by rw [hml]; rfl) (Steps.refl _) (a := u0) (argsL := []) (rest := []) (lenOf pd_0 rfl) rfl (by show 2 * 0 + _ ≤ _; exact Nat.le_of_eq rfl) (hb hby d13_1) (fun _ _ => ⟨rfl, e0, (by decide : 0 + 0 ≤ _), (by decide : 0 + 0 ≤ _)⟩)
  dsimp only [Pt.U, Pt.locs, Pt.cells, Pt.slots] at X1 l1 y1 z1 st1 hQ1
  replace y1 : k1 = 0 := y1
  replace z1 : n1 = 0 := z1
  rw [y1, z1] at X1
  obtain ⟨rfl, N1q, e1⟩ := hQ1
  have N1 : Fr n0 L1 := l1 ▸ Fr.app N0 N1q
  obtain ⟨T2, h2, X2, e2, W2, st2⟩ := putF X1 hx hZ hown (host := "") (Or.inl (hw _ (List.mem_of_getElem? (i := 105) rfl))) Via.refl e1 F_value_u0 E_u0 (Or.inr ⟨(hw _ (List.mem_of_getElem? (i := 106) rfl)), rfl, hnm⟩) (hw _ (List.mem_of_getElem? (i := 93) rfl)) (ty := .long) (by decide) rfl rfl (g := (mkF m 6 #[.val (.ref u0), .val (.long u1), .second] [(.long u1), (.ref u0)])) rfl rfl (hb hby d13_6)
  have Fw2 := F_value_u0.same W2
  have N2 := Fr.snoc X2 N1 g_u0
  have Z2 : n0 ≤ h2.size := Nat.le_trans Z0 (Keep.of_wr W2).1
  have KK2 := (Keep.refl h0 [u0]).wr W2 (Or.inl (List.mem_of_getElem? (i := 0) rfl))
  obtain ⟨fs, hr, hrun, hended, hW, hsame⟩ := X2.leave (v := none) (fun _ => rfl)
  refine ⟨_, _, pre0 _ ?_, hrun, hended, _, _, rfl, ?_, ⟨_, rfl⟩, hW, hsame.mono (by decide) (by decide)⟩
  · show Steps p.tables e below (s₁.setTop (mkF m 0 #[.val (.ref u0), .val (.long u1), .second] [])) _
    refine XS.aloadN X0.here hx rfl (hb hby d13_0) rfl rfl ?_
    show Steps p.tables e below (s₁.setTop (mkF m 1 #[.val (.ref u0), .val (.long u1), .second] [(.ref u0)])) _
    refine st1.trans ?_
    show Steps p.tables e below (T1.setTop (mkF m 4 #[.val (.ref u0), .val (.long u1), .second] [])) _
    refine XS.aloadN X1.here hx rfl (hb hby d13_4) rfl rfl ?_
    show Steps p.tables e below (T1.setTop (mkF m 5 #[.val (.ref u0), .val (.long u1), .second] [(.ref u0)])) _
    refine XS.lloadN X1.here hx rfl (hb hby d13_5) rfl ?_
    show Steps p.tables e below (T1.setTop (mkF m 6 #[.val (.ref u0), .val (.long u1), .second] [(.long u1), (.ref u0)])) _
    refine st2 _ ?_
    show Steps p.tables e below (T2.setTop (mkF m 9 #[.val (.ref u0), .val (.long u1), .second] [])) _
    exact X2.returnOut hx Bd.returns (hb hby d13_9) hr
  · show Q13 Z u0 u1 h0 n0 _ T2.heap _
    rw [e2]
    exact ⟨rfl, N2, KK2, (E_u0.wr W2), Fw2⟩
theorem pd_6 : parseMethodDescriptor "(J)V" = some ⟨[.long], none⟩ := by decide +kernel
theorem d12_0 : decode jdk_35_method_24_code 0 = .ok (.sipush 128, 3) := by decide +kernel
theorem d12_3 : decode jdk_35_method_24_code 3 = .ok (.istore_n 2, 1) := by decide +kernel
theorem d12_4 : decode jdk_35_method_24_code 4 = .ok (.lload_n 0, 1) := by decide +kernel
theorem d12_5 : decode jdk_35_method_24_code 5 = .ok (.ldc2_w 230, 3) := by decide +kernel
theorem d12_8 : decode jdk_35_method_24_code 8 = .ok (.lcmp, 1) := by decide +kernel
theorem d12_9 : decode jdk_35_method_24_code 9 = .ok (.ifCond .lt 22, 3) := by decide +kernel
theorem d12_12 : decode jdk_35_method_24_code 12 = .ok (.lload_n 0, 1) := by decide +kernel
theorem d12_13 : decode jdk_35_method_24_code 13 = .ok (.ldc2_w 232, 3) := by decide +kernel
theorem d12_16 : decode jdk_35_method_24_code 16 = .ok (.lcmp, 1) := by decide +kernel
theorem d12_17 : decode jdk_35_method_24_code 17 = .ok (.ifCond .gt 14, 3) := by decide +kernel
theorem d12_20 : decode jdk_35_method_24_code 20 = .ok (.getstatic 234, 3) := by decide +kernel
theorem d12_23 : decode jdk_35_method_24_code 23 = .ok (.lload_n 0, 1) := by decide +kernel
theorem d12_24 : decode jdk_35_method_24_code 24 = .ok (.l2i, 1) := by decide +kernel
theorem d12_25 : decode jdk_35_method_24_code 25 = .ok (.sipush 128, 3) := by decide +kernel
theorem d12_28 : decode jdk_35_method_24_code 28 = .ok (.iadd, 1) := by decide +kernel
theorem d12_29 : decode jdk_35_method_24_code 29 = .ok (.aaload, 1) := by decide +kernel
theorem d12_30 : decode jdk_35_method_24_code 30 = .ok (.areturn, 1) := by decide +kernel
theorem d12_31 : decode jdk_35_method_24_code 31 = .ok (.new 1, 3) := by decide +kernel
theorem d12_34 : decode jdk_35_method_24_code 34 = .ok (.dup, 1) := by decide +kernel
theorem d12_35 : decode jdk_35_method_24_code 35 = .ok (.lload_n 0, 1) := by decide +kernel
theorem d12_36 : decode jdk_35_method_24_code 36 = .ok (.invokespecial 240, 3) := by decide +kernel
theorem d12_39 : decode jdk_35_method_24_code 39 = .ok (.areturn, 1) := by decide +kernel
theorem ef_12 (m : MethodId) (u0 : Int64) : entryFrame m #[(.long u0)] 3 = mkF m 0 #[.val (.long u0), .second, .unset] [] := by first | (simp [entryFrame, mkF, argsToLocals, Value.category]; done) | rfl
def Q12 (Z : State) (u0 : Int64) (a_CACHE : Addr) (c_CACHE : Cell) (vf : Int32 → Value) (h0 : Heap) (n0 : Nat) (v : Option Value) (h : Heap) (L : List Loc) : Prop := ∃ bx : Addr, v = some (.ref bx) ∧ Fr n0 L ∧ Keep h0 h []
set_option maxRecDepth 65536 in
set_option maxHeartbeats 40000000 in
theorem rm12 (l : Launch) (Z : State) (a0 : Array Value) (hw : ∀ d ∈ tables_1, d.before a0 Z = true) (ws : List Jvm.Cond) (u0 : Int64) (a_CACHE : Addr) (c_CACHE : Cell) (vf : Int32 → Value) (h0 : Heap) (n0 : Nat) (Z0 : n0 ≤ h0.size) (O0 : Old Z n0 h0) (S_CACHE : Sta Z Z.heap "java/lang/Long$LongCache" "cache" "[Ljava/lang/Long;" (.ref a_CACHE)) (B_CACHE : Bxs Z a_CACHE c_CACHE "java/lang/Long" "J" (256 : Int32) vf) :
    MetFree l (⟨"java/lang/Long", "valueOf", "(J)Ljava/lang/Long;"⟩ : MethodName) (head1 (Jvm.Cond.code (⟨"java/lang/Long", "valueOf", "(J)Ljava/lang/Long;"⟩ : MethodName) jdk_35_method_24_code 3 (some (.object "java/lang/Long")) :: ws) ({ frames := 3, cells := 1, slots := 1, locals := 40 } : Room)) (fun a U => a = #[(.long u0)] ∧ Z.Warmed39 U.vm ∧ U.heap = h0) (fun _ _ _ _ _ => True) (fun _ U o U' => ∃ v L, o = .returned v ∧ Q12 Z u0 a_CACHE c_CACHE vf h0 n0 v U'.heap L ∧ FrameEnd U o U' L ({ frames := 3, cells := 1, slots := 1, locals := 40 } : Room).cells ({ frames := 3, cells := 1, slots := 1, locals := 40 } : Room).slots) := by
  refine MetFree.of_bodySF (plainFor_of_name pn_java_lang_Long) hisR ?_
  intro p e s m args below meth c s₁ Bd hml0 hP hK
  obtain ⟨rfl, hZ, hh⟩ := hP
  have hx := Bd.exec
  have hby := Bd.bytes
  have hml : c.maxLocals = 3 := hml0
  have hown : s.vm.findClass "java/lang/Long" = some m.cls := findClass_of_methodNamed Bd.named
  have hnm := (name_of_methodNamed Bd.named Bd.method).1
  have X0 : Stand p l e ({ frames := 3, cells := 1, slots := 1, locals := 40 } : Room) s m #[(.long u0)] below meth c s₁ [] 0 0 := Stand.of_body Bd
  have e0 : s₁.heap = h0 := by rw [← hh, Bd.state]; rfl
  have N0 := Fr.nil n0
  have pre0 : ∀ t, Steps p.tables e below (s₁.setTop (mkF m 0 #[.val (.long u0), .second, .unset] [])) t → Steps p.tables e below (s₁.setTop (entryFrame m #[(.long u0)] 3)) t := fun t k => castTop (ef_12 m u0) k
  have st1 := X0.ldc2Long hx hown (mvT hZ (hw _ (List.mem_of_getElem? (i := 90) rfl))) (g := (mkF m 5 #[.val (.long u0), .second, .val (.int (128 : Int32))] [(.long u0)])) rfl (hb hby d12_5)
  by_cases hc9 : (lcmpW u0 (-128 : Int64)) < (0 : Int32)
  · obtain ⟨T2, h2, X2, e2, E2, A2, D2, -, st2⟩ := newO X0 hx hZ hown (hw _ (List.mem_of_getElem? (i := 92) rfl)) (hw _ (List.mem_of_getElem? (i := 93) rfl)) (hw _ (List.mem_of_getElem? (i := 88) rfl)) e0 (g := (mkF m 31 #[.val (.long u0), .second, .val (.int (128 : Int32))] [])) rfl (hb hby d12_31) (by decide) (by decide)
    obtain ⟨b2, g2⟩ : ∃ z, z = h0.size := ⟨_, rfl⟩
    rw [← g2] at A2 D2 st2
    have g_b2 : n0 ≤ b2 := Nat.le_trans Z0 (Nat.le_of_eq g2.symm)
    have sz_b2 : h0.size ≤ b2 := Nat.le_trans (Keep.refl h0 []).1 (Nat.le_of_eq g2.symm)
    have Z2 : n0 ≤ h2.size := Nat.le_trans Z0 E2.1
    have KK2 := (Keep.refl h0 []).ext E2
    have O2 := O0.ext E2
    have F2_value : Fld Z h2 b2 "java/lang/Long" "value" "J" (.long (0 : Int64)) := D2 (Or.inr (hw _ (List.mem_of_getElem? (i := 106) rfl))) (ty := .long) (by decide)
    obtain ⟨_, _, ⟨T3, L3, k3, n3⟩, -, X3, ⟨Lc3, hQ3, l3, y3, z3⟩, st3⟩ := X2.specialBack hx (y := (⟨"java/lang/Long", "<init>", "(J)V"⟩ : MethodName)) rfl hown (mvT hZ (hw _ (List.mem_of_getElem? (i := 94) rfl))) (mvT hZ (hw _ (List.mem_of_getElem? (i := 95) rfl))) (mvT hZ (hw _ (List.mem_of_getElem? (i := 97) rfl))) (by decide) (backOf (W := 1) (rm13 l Z a0 hw [] b2 u0 h2 n0 Z2 g_b2 A2 F2_value) hZ (hw _ (List.mem_of_getElem? (i := 97) rfl)) (hw _ (List.mem_of_getElem? (i := 88) rfl)) (by decide) (by decide)) (g := (mkF m 36 #[.val (.long u0), .second, .val (.int (128 : Int32))] [(.long u0), (.ref b2), (.ref b2)])) rfl (by rw [hml]; rfl) (Steps.refl _) (a := b2) (argsL := [(.long u0)]) (rest := [(.ref b2)]) (lenOf pd_6 rfl) rfl (by show 2 * 0 + _ ≤ _; exact Nat.le_of_eq rfl) (hb hby d12_36) (fun _ _ => ⟨rfl, e2, (by decide : 1 + 0 ≤ _), (by decide : 1 + 0 ≤ _)⟩)
    dsimp only [Pt.U, Pt.locs, Pt.cells, Pt.slots] at X3 l3 y3 z3 st3 hQ3
    replace y3 : k3 = 1 := y3
    replace z3 : n3 = 1 := z3
    rw [y3, z3] at X3
    obtain ⟨rfl, N3q, K3, A3, F3_value⟩ := hQ3
    have N3 : Fr n0 L3 := l3 ▸ Fr.app N0 N3q
    have Z3 : n0 ≤ T3.heap.size := Nat.le_trans Z2 K3.1
    have KK3 := KK2.trans K3 (allS (P := fun x => x ∈ [] ∨ h0.size ≤ x) (Or.inr sz_b2) all0)
    have O3 := O2.keep K3 (allS g_b2 all0)
    obtain ⟨fs, hr, hrun, hended, hW, hsame⟩ := X3.leave (v := some (.ref b2)) (fun h => by rw [Bd.returns] at h; cases h)
    refine ⟨_, _, pre0 _ ?_, hrun, hended, _, _, rfl, ?_, ⟨_, rfl⟩, hW, hsame.mono (by decide) (by decide)⟩
    · show Steps p.tables e below (s₁.setTop (mkF m 0 #[.val (.long u0), .second, .unset] [])) _
      refine XS.sipush X0.here hx rfl (hb hby d12_0) ?_
      show Steps p.tables e below (s₁.setTop (mkF m 3 #[.val (.long u0), .second, .unset] [(.int (128 : Int32))])) _
      refine XS.istoreN X0.here hx rfl (hb hby d12_3) rfl (l' := #[.val (.long u0), .second, .val (.int (128 : Int32))]) rfl ?_
      show Steps p.tables e below (s₁.setTop (mkF m 4 #[.val (.long u0), .second, .val (.int (128 : Int32))] [])) _
      refine XS.lloadN X0.here hx rfl (hb hby d12_4) rfl ?_
      show Steps p.tables e below (s₁.setTop (mkF m 5 #[.val (.long u0), .second, .val (.int (128 : Int32))] [(.long u0)])) _
      refine st1 _ ?_
      show Steps p.tables e below (s₁.setTop (mkF m 8 #[.val (.long u0), .second, .val (.int (128 : Int32))] [(.long (-128 : Int64)), (.long u0)])) _
      refine XS.lcmp X0.here hx rfl (hb hby d12_8) rfl ?_
      show Steps p.tables e below (s₁.setTop (mkF m 9 #[.val (.long u0), .second, .val (.int (128 : Int32))] [(.int (lcmpW u0 (-128 : Int64)))])) _
      refine XS.ifYes X0.here hx rfl (pc0 := 9) (pc' := 31) rfl (hb hby d12_9) rfl ((if0 _ _).trans (tlt hc9).1) (by decide) (by decide) ?_
      show Steps p.tables e below (s₁.setTop (mkF m 31 #[.val (.long u0), .second, .val (.int (128 : Int32))] [])) _
      refine st2 _ ?_
      show Steps p.tables e below (T2.setTop (mkF m 34 #[.val (.long u0), .second, .val (.int (128 : Int32))] [(.ref b2)])) _
      refine XS.dup X2.here hx rfl (hb hby d12_34) rfl rfl ?_
      show Steps p.tables e below (T2.setTop (mkF m 35 #[.val (.long u0), .second, .val (.int (128 : Int32))] [(.ref b2), (.ref b2)])) _
      refine XS.lloadN X2.here hx rfl (hb hby d12_35) rfl ?_
      show Steps p.tables e below (T2.setTop (mkF m 36 #[.val (.long u0), .second, .val (.int (128 : Int32))] [(.long u0), (.ref b2), (.ref b2)])) _
      refine st3.trans ?_
      show Steps p.tables e below (T3.setTop (mkF m 39 #[.val (.long u0), .second, .val (.int (128 : Int32))] [(.ref b2)])) _
      jvm_step X3.here [X3.here.top, hx, (hb hby d12_39), X3.method', Bd.returns, Value.isRef, FieldType.isReference]
      first | (intro acts; rw [hr _ acts rfl rfl rfl]) | rw [hr _ _ rfl rfl rfl]
      exact Steps.refl _
    · show Q12 Z u0 a_CACHE c_CACHE vf h0 n0 _ T3.heap _
      exact ⟨b2, rfl, N3, KK3⟩
  · have st4 := X0.ldc2Long hx hown (mvT hZ (hw _ (List.mem_of_getElem? (i := 91) rfl))) (g := (mkF m 13 #[.val (.long u0), .second, .val (.int (128 : Int32))] [(.long u0)])) rfl (hb hby d12_13)
    by_cases hc17 : (0 : Int32) < (lcmpW u0 (127 : Int64))
    · obtain ⟨T5, h5, X5, e5, E5, A5, D5, -, st5⟩ := newO X0 hx hZ hown (hw _ (List.mem_of_getElem? (i := 92) rfl)) (hw _ (List.mem_of_getElem? (i := 93) rfl)) (hw _ (List.mem_of_getElem? (i := 88) rfl)) e0 (g := (mkF m 31 #[.val (.long u0), .second, .val (.int (128 : Int32))] [])) rfl (hb hby d12_31) (by decide) (by decide)
      obtain ⟨b5, g5⟩ : ∃ z, z = h0.size := ⟨_, rfl⟩
      rw [← g5] at A5 D5 st5
      have g_b5 : n0 ≤ b5 := Nat.le_trans Z0 (Nat.le_of_eq g5.symm)
      have sz_b5 : h0.size ≤ b5 := Nat.le_trans (Keep.refl h0 []).1 (Nat.le_of_eq g5.symm)
      have Z5 : n0 ≤ h5.size := Nat.le_trans Z0 E5.1
      have KK5 := (Keep.refl h0 []).ext E5
      have O5 := O0.ext E5
      have F5_value : Fld Z h5 b5 "java/lang/Long" "value" "J" (.long (0 : Int64)) := D5 (Or.inr (hw _ (List.mem_of_getElem? (i := 106) rfl))) (ty := .long) (by decide)
      obtain ⟨_, _, ⟨T6, L6, k6, n6⟩, -, X6, ⟨Lc6, hQ6, l6, y6, z6⟩, st6⟩ := X5.specialBack hx (y := (⟨"java/lang/Long", "<init>", "(J)V"⟩ : MethodName)) rfl hown (mvT hZ (hw _ (List.mem_of_getElem? (i := 94) rfl))) (mvT hZ (hw _ (List.mem_of_getElem? (i := 95) rfl))) (mvT hZ (hw _ (List.mem_of_getElem? (i := 97) rfl))) (by decide) (backOf (W := 1) (rm13 l Z a0 hw [] b5 u0 h5 n0 Z5 g_b5 A5 F5_value) hZ (hw _ (List.mem_of_getElem? (i := 97) rfl)) (hw _ (List.mem_of_getElem? (i := 88) rfl)) (by decide) (by decide)) (g := (mkF m 36 #[.val (.long u0), .second, .val (.int (128 : Int32))] [(.long u0), (.ref b5), (.ref b5)])) rfl (by rw [hml]; rfl) (Steps.refl _) (a := b5) (argsL := [(.long u0)]) (rest := [(.ref b5)]) (lenOf pd_6 rfl) rfl (by show 2 * 0 + _ ≤ _; exact Nat.le_of_eq rfl) (hb hby d12_36) (fun _ _ => ⟨rfl, e5, (by decide : 1 + 0 ≤ _), (by decide : 1 + 0 ≤ _)⟩)
      dsimp only [Pt.U, Pt.locs, Pt.cells, Pt.slots] at X6 l6 y6 z6 st6 hQ6
      replace y6 : k6 = 1 := y6
      replace z6 : n6 = 1 := z6
      rw [y6, z6] at X6
      obtain ⟨rfl, N6q, K6, A6, F6_value⟩ := hQ6
      have N6 : Fr n0 L6 := l6 ▸ Fr.app N0 N6q
      have Z6 : n0 ≤ T6.heap.size := Nat.le_trans Z5 K6.1
      have KK6 := KK5.trans K6 (allS (P := fun x => x ∈ [] ∨ h0.size ≤ x) (Or.inr sz_b5) all0)
      have O6 := O5.keep K6 (allS g_b5 all0)
      obtain ⟨fs, hr, hrun, hended, hW, hsame⟩ := X6.leave (v := some (.ref b5)) (fun h => by rw [Bd.returns] at h; cases h)
      refine ⟨_, _, pre0 _ ?_, hrun, hended, _, _, rfl, ?_, ⟨_, rfl⟩, hW, hsame.mono (by decide) (by decide)⟩
      · show Steps p.tables e below (s₁.setTop (mkF m 0 #[.val (.long u0), .second, .unset] [])) _
        refine XS.sipush X0.here hx rfl (hb hby d12_0) ?_
        show Steps p.tables e below (s₁.setTop (mkF m 3 #[.val (.long u0), .second, .unset] [(.int (128 : Int32))])) _
        refine XS.istoreN X0.here hx rfl (hb hby d12_3) rfl (l' := #[.val (.long u0), .second, .val (.int (128 : Int32))]) rfl ?_
        show Steps p.tables e below (s₁.setTop (mkF m 4 #[.val (.long u0), .second, .val (.int (128 : Int32))] [])) _
        refine XS.lloadN X0.here hx rfl (hb hby d12_4) rfl ?_
        show Steps p.tables e below (s₁.setTop (mkF m 5 #[.val (.long u0), .second, .val (.int (128 : Int32))] [(.long u0)])) _
        refine st1 _ ?_
        show Steps p.tables e below (s₁.setTop (mkF m 8 #[.val (.long u0), .second, .val (.int (128 : Int32))] [(.long (-128 : Int64)), (.long u0)])) _
        refine XS.lcmp X0.here hx rfl (hb hby d12_8) rfl ?_
        show Steps p.tables e below (s₁.setTop (mkF m 9 #[.val (.long u0), .second, .val (.int (128 : Int32))] [(.int (lcmpW u0 (-128 : Int64)))])) _
        refine XS.ifNo X0.here hx rfl (hb hby d12_9) rfl ((if0 _ _).trans (flt hc9).1) ?_
        show Steps p.tables e below (s₁.setTop (mkF m 12 #[.val (.long u0), .second, .val (.int (128 : Int32))] [])) _
        refine XS.lloadN X0.here hx rfl (hb hby d12_12) rfl ?_
        show Steps p.tables e below (s₁.setTop (mkF m 13 #[.val (.long u0), .second, .val (.int (128 : Int32))] [(.long u0)])) _
        refine st4 _ ?_
        show Steps p.tables e below (s₁.setTop (mkF m 16 #[.val (.long u0), .second, .val (.int (128 : Int32))] [(.long (127 : Int64)), (.long u0)])) _
        refine XS.lcmp X0.here hx rfl (hb hby d12_16) rfl ?_
        show Steps p.tables e below (s₁.setTop (mkF m 17 #[.val (.long u0), .second, .val (.int (128 : Int32))] [(.int (lcmpW u0 (127 : Int64)))])) _
        refine XS.ifYes X0.here hx rfl (pc0 := 17) (pc' := 31) rfl (hb hby d12_17) rfl ((if0 _ _).trans (tlt hc17).2.2.1) (by decide) (by decide) ?_
        show Steps p.tables e below (s₁.setTop (mkF m 31 #[.val (.long u0), .second, .val (.int (128 : Int32))] [])) _
        refine st5 _ ?_
        show Steps p.tables e below (T5.setTop (mkF m 34 #[.val (.long u0), .second, .val (.int (128 : Int32))] [(.ref b5)])) _
        refine XS.dup X5.here hx rfl (hb hby d12_34) rfl rfl ?_
        show Steps p.tables e below (T5.setTop (mkF m 35 #[.val (.long u0), .second, .val (.int (128 : Int32))] [(.ref b5), (.ref b5)])) _
        refine XS.lloadN X5.here hx rfl (hb hby d12_35) rfl ?_
        show Steps p.tables e below (T5.setTop (mkF m 36 #[.val (.long u0), .second, .val (.int (128 : Int32))] [(.long u0), (.ref b5), (.ref b5)])) _
        refine st6.trans ?_
        show Steps p.tables e below (T6.setTop (mkF m 39 #[.val (.long u0), .second, .val (.int (128 : Int32))] [(.ref b5)])) _
        jvm_step X6.here [X6.here.top, hx, (hb hby d12_39), X6.method', Bd.returns, Value.isRef, FieldType.isReference]
        first | (intro acts; rw [hr _ acts rfl rfl rfl]) | rw [hr _ _ rfl rfl rfl]
        exact Steps.refl _
      · show Q12 Z u0 a_CACHE c_CACHE vf h0 n0 _ T6.heap _
        exact ⟨b5, rfl, N6, KK6⟩
    · obtain ⟨T7, X7, e7, st7⟩ := getS2 X0 hx hZ hown (host := "") (Or.inl (hw _ (List.mem_of_getElem? (i := 107) rfl))) Via.refl e0 (S_CACHE.ext O0.2) (g := (mkF m 20 #[.val (.long u0), .second, .val (.int (128 : Int32))] [])) rfl (hb hby d12_20)
      have hi8 := own_in B_CACHE.2.1 hc9 hc17
      obtain ⟨bx8, hs8, -, -⟩ := B_CACHE.2.2.2 _ hi8
      have Ar8 := (B_CACHE.ext O0.2).1
      have st8 := X7.aaload hx (j := ((u0.toInt32) + (128 : Int32))) (v := (.ref bx8)) (by rw [e7]; exact Ar8.1) (State.isArrayOf_alike hZ.alike Ar8.2.1) rfl Ar8.2.2 hi8 hs8 (g := (mkF m 29 #[.val (.long u0), .second, .val (.int (128 : Int32))] [(.int ((u0.toInt32) + (128 : Int32))), (.ref a_CACHE)])) rfl rfl (hb hby d12_29)
      obtain ⟨fs, hr, hrun, hended, hW, hsame⟩ := X7.leave (v := some (.ref bx8)) (fun h => by rw [Bd.returns] at h; cases h)
      refine ⟨_, _, pre0 _ ?_, hrun, hended, _, _, rfl, ?_, ⟨_, rfl⟩, hW, hsame.mono (by decide) (by decide)⟩
      · show Steps p.tables e below (s₁.setTop (mkF m 0 #[.val (.long u0), .second, .unset] [])) _
        refine XS.sipush X0.here hx rfl (hb hby d12_0) ?_
        show Steps p.tables e below (s₁.setTop (mkF m 3 #[.val (.long u0), .second, .unset] [(.int (128 : Int32))])) _
        refine XS.istoreN X0.here hx rfl (hb hby d12_3) rfl (l' := #[.val (.long u0), .second, .val (.int (128 : Int32))]) rfl ?_
        show Steps p.tables e below (s₁.setTop (mkF m 4 #[.val (.long u0), .second, .val (.int (128 : Int32))] [])) _
        refine XS.lloadN X0.here hx rfl (hb hby d12_4) rfl ?_
        show Steps p.tables e below (s₁.setTop (mkF m 5 #[.val (.long u0), .second, .val (.int (128 : Int32))] [(.long u0)])) _
        refine st1 _ ?_
        show Steps p.tables e below (s₁.setTop (mkF m 8 #[.val (.long u0), .second, .val (.int (128 : Int32))] [(.long (-128 : Int64)), (.long u0)])) _
        refine XS.lcmp X0.here hx rfl (hb hby d12_8) rfl ?_
        show Steps p.tables e below (s₁.setTop (mkF m 9 #[.val (.long u0), .second, .val (.int (128 : Int32))] [(.int (lcmpW u0 (-128 : Int64)))])) _
        refine XS.ifNo X0.here hx rfl (hb hby d12_9) rfl ((if0 _ _).trans (flt hc9).1) ?_
        show Steps p.tables e below (s₁.setTop (mkF m 12 #[.val (.long u0), .second, .val (.int (128 : Int32))] [])) _
        refine XS.lloadN X0.here hx rfl (hb hby d12_12) rfl ?_
        show Steps p.tables e below (s₁.setTop (mkF m 13 #[.val (.long u0), .second, .val (.int (128 : Int32))] [(.long u0)])) _
        refine st4 _ ?_
        show Steps p.tables e below (s₁.setTop (mkF m 16 #[.val (.long u0), .second, .val (.int (128 : Int32))] [(.long (127 : Int64)), (.long u0)])) _
        refine XS.lcmp X0.here hx rfl (hb hby d12_16) rfl ?_
        show Steps p.tables e below (s₁.setTop (mkF m 17 #[.val (.long u0), .second, .val (.int (128 : Int32))] [(.int (lcmpW u0 (127 : Int64)))])) _
        refine XS.ifNo X0.here hx rfl (hb hby d12_17) rfl ((if0 _ _).trans (flt hc17).2.2.1) ?_
        show Steps p.tables e below (s₁.setTop (mkF m 20 #[.val (.long u0), .second, .val (.int (128 : Int32))] [])) _
        refine st7 _ ?_
        show Steps p.tables e below (T7.setTop (mkF m 23 #[.val (.long u0), .second, .val (.int (128 : Int32))] [(.ref a_CACHE)])) _
        refine XS.lloadN X7.here hx rfl (hb hby d12_23) rfl ?_
        show Steps p.tables e below (T7.setTop (mkF m 24 #[.val (.long u0), .second, .val (.int (128 : Int32))] [(.long u0), (.ref a_CACHE)])) _
        refine XS.l2i X7.here hx rfl (hb hby d12_24) rfl ?_
        show Steps p.tables e below (T7.setTop (mkF m 25 #[.val (.long u0), .second, .val (.int (128 : Int32))] [(.int (u0.toInt32)), (.ref a_CACHE)])) _
        refine XS.sipush X7.here hx rfl (hb hby d12_25) ?_
        show Steps p.tables e below (T7.setTop (mkF m 28 #[.val (.long u0), .second, .val (.int (128 : Int32))] [(.int (128 : Int32)), (.int (u0.toInt32)), (.ref a_CACHE)])) _
        refine XS.iadd X7.here hx rfl (hb hby d12_28) rfl ?_
        show Steps p.tables e below (T7.setTop (mkF m 29 #[.val (.long u0), .second, .val (.int (128 : Int32))] [(.int ((u0.toInt32) + (128 : Int32))), (.ref a_CACHE)])) _
        refine st8 _ ?_
        show Steps p.tables e below (T7.setTop (mkF m 30 #[.val (.long u0), .second, .val (.int (128 : Int32))] [(.ref bx8)])) _
        jvm_step X7.here [X7.here.top, hx, (hb hby d12_30), X7.method', Bd.returns, Value.isRef, FieldType.isReference]
        first | (intro acts; rw [hr _ acts rfl rfl rfl]) | rw [hr _ _ rfl rfl rfl]
        exact Steps.refl _
      · show Q12 Z u0 a_CACHE c_CACHE vf h0 n0 _ T7.heap _
        rw [e7]
        exact ⟨bx8, rfl, N0, (Keep.refl h0 [])⟩
theorem pd_7 : parseMethodDescriptor "(JLcom/example/compact_settings/compactsettings/Policy;Ljava/lang/String;J)V" = some ⟨[.long, (.object "com/example/compact_settings/compactsettings/Policy"), (.object "java/lang/String"), .long], none⟩ := by decide +kernel
theorem pd_2 : parseMethodDescriptor "(C)Ljava/lang/String;" = some ⟨[.char], some (.object "java/lang/String")⟩ := by decide +kernel
theorem pd_5 : parseMethodDescriptor "(J)Ljava/lang/Long;" = some ⟨[.long], some (.object "java/lang/Long")⟩ := by decide +kernel
theorem pd_8 : parseMethodDescriptor "(Lcom/example/compact_settings/compactsettings/extender/Written;J)Lcom/example/compact_settings/compactsettings/extender/Intent;" = some ⟨[(.object "com/example/compact_settings/compactsettings/extender/Written"), .long], some (.object "com/example/compact_settings/compactsettings/extender/Intent")⟩ := by decide +kernel
theorem pd_1 : parseMethodDescriptor "()Z" = some ⟨[], some .boolean⟩ := by decide +kernel
theorem pn_com_example_compact_settings_compactsettings_extender_IntentIsDeletionPinLaw : plainName "com/example/compact_settings/compactsettings/extender/IntentIsDeletionPinLaw" = true := by first | (simp [plainName, overriddenIn]; done) | decide +kernel
theorem ef_0 (m : MethodId) (u0 : Int32) (u1 : Int32) (u2 : Int64) (u3 : Int64) (u4 : Int64) : entryFrame m #[(.int u0), (.int u1), (.long u2), (.long u3), (.long u4)] maxLocals = mkF m 0 #[.val (.int u0), .val (.int u1), .val (.long u2), .second, .val (.long u3), .second, .val (.long u4), .second, .unset, .unset, .unset, .unset, .unset, .unset, .unset, .unset, .unset] [] := by first | (simp [entryFrame, mkF, argsToLocals, Value.category, maxLocals]; done) | rfl
def Q0 (Z : State) (u0 : Int32) (u1 : Int32) (u2 : Int64) (u3 : Int64) (u4 : Int64) (a_DEFAULT : Addr) (a_FORCE : Addr) (G_COMPACT : Int32) (a_CACHE : Addr) (c_CACHE : Cell) (vf : Int32 → Value) (h0 : Heap) (n0 : Nat) (v : Option Value) (h : Heap) (L : List Loc) : Prop := v = some (.int (1 : Int32)) ∧ Fr n0 L
set_option maxRecDepth 65536 in
set_option maxHeartbeats 40000000 in
theorem rm0 (l : Launch) (Z : State) (a0 : Array Value) (hw : ∀ d ∈ tables_1, d.before a0 Z = true) (ws : List Jvm.Cond) (u0 : Int32) (u1 : Int32) (u2 : Int64) (u3 : Int64) (u4 : Int64) (a_DEFAULT : Addr) (a_FORCE : Addr) (G_COMPACT : Int32) (a_CACHE : Addr) (c_CACHE : Cell) (vf : Int32 → Value) (h0 : Heap) (n0 : Nat) (Z0 : n0 ≤ h0.size) (O0 : Old Z n0 h0) (S_DEFAULT : Sta Z Z.heap "com/example/compact_settings/compactsettings/Policy" "DEFAULT" "Lcom/example/compact_settings/compactsettings/Policy;" (.ref a_DEFAULT)) (S_FORCE : Sta Z Z.heap "com/example/compact_settings/compactsettings/Policy" "FORCE" "Lcom/example/compact_settings/compactsettings/Policy;" (.ref a_FORCE)) (S_COMPACT : Sta Z Z.heap "java/lang/String" "COMPACT_STRINGS" "Z" (.int G_COMPACT)) (P_COMPACT : ¬ G_COMPACT = 0) (S_CACHE : Sta Z Z.heap "java/lang/Long$LongCache" "cache" "[Ljava/lang/Long;" (.ref a_CACHE)) (B_CACHE : Bxs Z a_CACHE c_CACHE "java/lang/Long" "J" (256 : Int32) vf) :
    MetFree l x (head1 (Jvm.Cond.code x code maxLocals ret :: ws) room_1) (fun a U => a = #[(.int u0), (.int u1), (.long u2), (.long u3), (.long u4)] ∧ Z.Warmed39 U.vm ∧ U.heap = h0 ∧ CHv Z EL U.vm h0) (fun _ _ _ _ _ => True) (fun _ U o U' => ∃ v L, o = .returned v ∧ Q0 Z u0 u1 u2 u3 u4 a_DEFAULT a_FORCE G_COMPACT a_CACHE c_CACHE vf h0 n0 v U'.heap L ∧ CHr Z EL U.vm U.heap U'.vm U'.heap ∧ ReturnedEndW U o U' L room_1.cells room_1.slots) := by
  refine MetFree.of_bodySF (plainFor_of_name pn_com_example_compact_settings_compactsettings_extender_IntentIsDeletionPinLaw) hisR ?_
  intro p e s m args below meth c s₁ Bd hml0 hP hK
  obtain ⟨rfl, hZ, hh, hC0⟩ := hP
  replace hZ : Z.Warmed39 (s.setVm s.vm).vm := hZ
  have hx := Bd.exec
  have hby := Bd.bytes
  have hml : c.maxLocals = 17 := hml0
  have hown : (s.setVm s.vm).vm.findClass "com/example/compact_settings/compactsettings/extender/IntentIsDeletionPinLaw" = some m.cls := findClass_of_methodNamed Bd.named
  have hnm := (name_of_methodNamed Bd.named Bd.method).1
  have X0 : Stand p l e room_1 (s.setVm s.vm) m #[(.int u0), (.int u1), (.long u2), (.long u3), (.long u4)] below meth c s₁ [] 0 0 := Stand.of_body Bd
  have e0 : s₁.heap = h0 := by rw [← hh, Bd.state]; rfl
  have N0 := Fr.nil n0
  have pre0 : ∀ t, Steps p.tables e below (s₁.setTop (mkF m 0 #[.val (.int u0), .val (.int u1), .val (.long u2), .second, .val (.long u3), .second, .val (.long u4), .second, .unset, .unset, .unset, .unset, .unset, .unset, .unset, .unset, .unset] [])) t → Steps p.tables e below (s₁.setTop (entryFrame m #[(.int u0), (.int u1), (.long u2), (.long u3), (.long u4)] maxLocals)) t := fun t k => castTop (ef_0 m u0 u1 u2 u3 u4) k
  have hS0 : s.Since s.vm s.heap.size := own_since s
  have hk0 : s.heap.size ≤ h0.size := Nat.le_of_eq (congrArg Array.size hh)
  have C0 : CHr Z EL s.vm h0 s.vm h0 := CHr.refl hC0
  have wS : ∀ d ∈ Bundle.stringAtoms, d.before a0 Z = true := fun d hd => hw d ((by decide +kernel : ∀ d ∈ Bundle.stringAtoms, d ∈ tables_1) d hd)
  have st1 := X0.ldcInt hx hown (mvT hZ (hw _ (List.mem_of_getElem? (i := 0) rfl))) (g := (mkF m 1 #[.val (.int u0), .val (.int u1), .val (.long u2), .second, .val (.long u3), .second, .val (.long u4), .second, .unset, .unset, .unset, .unset, .unset, .unset, .unset, .unset, .unset] [(.int u0)])) rfl (hb hby at_1)
  obtain ⟨vm2, T2, h2, locs2, q2, v2_0, X2, e2, K2, N2, hS2, hk2, hZ, hown, Cq2, rf2_0, st2⟩ : ∃ (vm' : Vm) (T' : State) (h' : Heap) (locs' : List Loc) (q' : Nat) (v2_0 : Value), Stand p l e room_1 (s.setVm vm') m #[(.int u0), (.int u1), (.long u2), (.long u3), (.long u4)] below meth c T' locs' 0 0 ∧ T'.heap = h' ∧ Keep h0 h' [] ∧ Fr n0 locs' ∧ s.Since vm' q' ∧ q' ≤ h'.size ∧ Z.Warmed39 (s.setVm vm').vm ∧ (s.setVm vm').vm.findClass "com/example/compact_settings/compactsettings/extender/IntentIsDeletionPinLaw" = some m.cls ∧ CHr Z EL s.vm h0 vm' h' ∧ v2_0.isRef = true ∧ ∀ target, Steps p.tables e below (T'.setTop (mkF m 34 #[.val (.int u0), .val (.int u1), .val (.long u2), .second, .val (.long u3), .second, .val (.long u4), .second, .val (.int ((u0 &&& (2147483647 : Int32)) % (3 : Int32))), .val v2_0, .unset, .unset, .unset, .unset, .unset, .unset, .unset] [])) target → Steps p.tables e below (s₁.setTop (mkF m 8 #[.val (.int u0), .val (.int u1), .val (.long u2), .second, .val (.long u3), .second, .val (.long u4), .second, .val (.int ((u0 &&& (2147483647 : Int32)) % (3 : Int32))), .unset, .unset, .unset, .unset, .unset, .unset, .unset, .unset] [])) target := by
    by_cases hc10 : ((u0 &&& (2147483647 : Int32)) % (3 : Int32)) = (0 : Int32)
    · refine ⟨_, s₁, h0, _, _, .null, X0.mono (by decide) (by decide), e0, (Keep.refl h0 []), N0, hS0, hk0, hZ, hown, (CHr.refl C0.1), rfl, fun target kt => ?_⟩
      show Steps p.tables e below (s₁.setTop (mkF m 8 #[.val (.int u0), .val (.int u1), .val (.long u2), .second, .val (.long u3), .second, .val (.long u4), .second, .val (.int ((u0 &&& (2147483647 : Int32)) % (3 : Int32))), .unset, .unset, .unset, .unset, .unset, .unset, .unset, .unset] [])) _
      refine XS.iload X0.here hx rfl (hb hby at_8) rfl ?_
      show Steps p.tables e below (s₁.setTop (mkF m 10 #[.val (.int u0), .val (.int u1), .val (.long u2), .second, .val (.long u3), .second, .val (.long u4), .second, .val (.int ((u0 &&& (2147483647 : Int32)) % (3 : Int32))), .unset, .unset, .unset, .unset, .unset, .unset, .unset, .unset] [(.int ((u0 &&& (2147483647 : Int32)) % (3 : Int32)))])) _
      refine XS.ifNo X0.here hx rfl (hb hby at_10) rfl ((if0 _ _).trans (teq hc10).2) ?_
      show Steps p.tables e below (s₁.setTop (mkF m 13 #[.val (.int u0), .val (.int u1), .val (.long u2), .second, .val (.long u3), .second, .val (.long u4), .second, .val (.int ((u0 &&& (2147483647 : Int32)) % (3 : Int32))), .unset, .unset, .unset, .unset, .unset, .unset, .unset, .unset] [])) _
      refine XS.aconstNull X0.here hx rfl (hb hby at_13) ?_
      show Steps p.tables e below (s₁.setTop (mkF m 14 #[.val (.int u0), .val (.int u1), .val (.long u2), .second, .val (.long u3), .second, .val (.long u4), .second, .val (.int ((u0 &&& (2147483647 : Int32)) % (3 : Int32))), .unset, .unset, .unset, .unset, .unset, .unset, .unset, .unset] [.null])) _
      refine XS.goto X0.here hx rfl (pc0 := 14) (pc' := 32) rfl (hb hby at_14) (by decide) (by decide) ?_
      show Steps p.tables e below (s₁.setTop (mkF m 32 #[.val (.int u0), .val (.int u1), .val (.long u2), .second, .val (.long u3), .second, .val (.long u4), .second, .val (.int ((u0 &&& (2147483647 : Int32)) % (3 : Int32))), .unset, .unset, .unset, .unset, .unset, .unset, .unset, .unset] [.null])) _
      refine XS.astore X0.here hx rfl (hb hby at_32) rfl rfl (l' := #[.val (.int u0), .val (.int u1), .val (.long u2), .second, .val (.long u3), .second, .val (.long u4), .second, .val (.int ((u0 &&& (2147483647 : Int32)) % (3 : Int32))), .val .null, .unset, .unset, .unset, .unset, .unset, .unset, .unset]) rfl ?_
      exact kt
    · by_cases hc20 : ((u0 &&& (2147483647 : Int32)) % (3 : Int32)) = (1 : Int32)
      · obtain ⟨T3, X3, e3, st3⟩ := getS2 X0 hx hZ hown (host := "") (Or.inl (hw _ (List.mem_of_getElem? (i := 1) rfl))) Via.refl e0 (S_DEFAULT.ext O0.2) (g := (mkF m 23 #[.val (.int u0), .val (.int u1), .val (.long u2), .second, .val (.long u3), .second, .val (.long u4), .second, .val (.int ((u0 &&& (2147483647 : Int32)) % (3 : Int32))), .unset, .unset, .unset, .unset, .unset, .unset, .unset, .unset] [])) rfl (hb hby at_23)
        refine ⟨_, T3, h0, _, _, (.ref a_DEFAULT), X3.mono (by decide) (by decide), e3, (Keep.refl h0 []), N0, hS0, hk0, hZ, hown, (CHr.refl C0.1), rfl, fun target kt => ?_⟩
        show Steps p.tables e below (s₁.setTop (mkF m 8 #[.val (.int u0), .val (.int u1), .val (.long u2), .second, .val (.long u3), .second, .val (.long u4), .second, .val (.int ((u0 &&& (2147483647 : Int32)) % (3 : Int32))), .unset, .unset, .unset, .unset, .unset, .unset, .unset, .unset] [])) _
        refine XS.iload X0.here hx rfl (hb hby at_8) rfl ?_
        show Steps p.tables e below (s₁.setTop (mkF m 10 #[.val (.int u0), .val (.int u1), .val (.long u2), .second, .val (.long u3), .second, .val (.long u4), .second, .val (.int ((u0 &&& (2147483647 : Int32)) % (3 : Int32))), .unset, .unset, .unset, .unset, .unset, .unset, .unset, .unset] [(.int ((u0 &&& (2147483647 : Int32)) % (3 : Int32)))])) _
        refine XS.ifYes X0.here hx rfl (pc0 := 10) (pc' := 17) rfl (hb hby at_10) rfl ((if0 _ _).trans (feq hc10).2) (by decide) (by decide) ?_
        show Steps p.tables e below (s₁.setTop (mkF m 17 #[.val (.int u0), .val (.int u1), .val (.long u2), .second, .val (.long u3), .second, .val (.long u4), .second, .val (.int ((u0 &&& (2147483647 : Int32)) % (3 : Int32))), .unset, .unset, .unset, .unset, .unset, .unset, .unset, .unset] [])) _
        refine XS.iload X0.here hx rfl (hb hby at_17) rfl ?_
        show Steps p.tables e below (s₁.setTop (mkF m 19 #[.val (.int u0), .val (.int u1), .val (.long u2), .second, .val (.long u3), .second, .val (.long u4), .second, .val (.int ((u0 &&& (2147483647 : Int32)) % (3 : Int32))), .unset, .unset, .unset, .unset, .unset, .unset, .unset, .unset] [(.int ((u0 &&& (2147483647 : Int32)) % (3 : Int32)))])) _
        refine XS.iconst X0.here hx rfl (hb hby at_19) ?_
        show Steps p.tables e below (s₁.setTop (mkF m 20 #[.val (.int u0), .val (.int u1), .val (.long u2), .second, .val (.long u3), .second, .val (.long u4), .second, .val (.int ((u0 &&& (2147483647 : Int32)) % (3 : Int32))), .unset, .unset, .unset, .unset, .unset, .unset, .unset, .unset] [(.int (1 : Int32)), (.int ((u0 &&& (2147483647 : Int32)) % (3 : Int32)))])) _
        refine XS.icmpNo X0.here hx rfl (hb hby at_20) rfl (teq hc20).2 ?_
        show Steps p.tables e below (s₁.setTop (mkF m 23 #[.val (.int u0), .val (.int u1), .val (.long u2), .second, .val (.long u3), .second, .val (.long u4), .second, .val (.int ((u0 &&& (2147483647 : Int32)) % (3 : Int32))), .unset, .unset, .unset, .unset, .unset, .unset, .unset, .unset] [])) _
        refine st3 _ ?_
        show Steps p.tables e below (T3.setTop (mkF m 26 #[.val (.int u0), .val (.int u1), .val (.long u2), .second, .val (.long u3), .second, .val (.long u4), .second, .val (.int ((u0 &&& (2147483647 : Int32)) % (3 : Int32))), .unset, .unset, .unset, .unset, .unset, .unset, .unset, .unset] [(.ref a_DEFAULT)])) _
        refine XS.goto X3.here hx rfl (pc0 := 26) (pc' := 32) rfl (hb hby at_26) (by decide) (by decide) ?_
        show Steps p.tables e below (T3.setTop (mkF m 32 #[.val (.int u0), .val (.int u1), .val (.long u2), .second, .val (.long u3), .second, .val (.long u4), .second, .val (.int ((u0 &&& (2147483647 : Int32)) % (3 : Int32))), .unset, .unset, .unset, .unset, .unset, .unset, .unset, .unset] [(.ref a_DEFAULT)])) _
        refine XS.astore X3.here hx rfl (hb hby at_32) rfl rfl (l' := #[.val (.int u0), .val (.int u1), .val (.long u2), .second, .val (.long u3), .second, .val (.long u4), .second, .val (.int ((u0 &&& (2147483647 : Int32)) % (3 : Int32))), .val (.ref a_DEFAULT), .unset, .unset, .unset, .unset, .unset, .unset, .unset]) rfl ?_
        exact kt
      · obtain ⟨T4, X4, e4, st4⟩ := getS2 X0 hx hZ hown (host := "") (Or.inl (hw _ (List.mem_of_getElem? (i := 84) rfl))) Via.refl e0 (S_FORCE.ext O0.2) (g := (mkF m 29 #[.val (.int u0), .val (.int u1), .val (.long u2), .second, .val (.long u3), .second, .val (.long u4), .second, .val (.int ((u0 &&& (2147483647 : Int32)) % (3 : Int32))), .unset, .unset, .unset, .unset, .unset, .unset, .unset, .unset] [])) rfl (hb hby at_29)
        refine ⟨_, T4, h0, _, _, (.ref a_FORCE), X4.mono (by decide) (by decide), e4, (Keep.refl h0 []), N0, hS0, hk0, hZ, hown, (CHr.refl C0.1), rfl, fun target kt => ?_⟩
        show Steps p.tables e below (s₁.setTop (mkF m 8 #[.val (.int u0), .val (.int u1), .val (.long u2), .second, .val (.long u3), .second, .val (.long u4), .second, .val (.int ((u0 &&& (2147483647 : Int32)) % (3 : Int32))), .unset, .unset, .unset, .unset, .unset, .unset, .unset, .unset] [])) _
        refine XS.iload X0.here hx rfl (hb hby at_8) rfl ?_
        show Steps p.tables e below (s₁.setTop (mkF m 10 #[.val (.int u0), .val (.int u1), .val (.long u2), .second, .val (.long u3), .second, .val (.long u4), .second, .val (.int ((u0 &&& (2147483647 : Int32)) % (3 : Int32))), .unset, .unset, .unset, .unset, .unset, .unset, .unset, .unset] [(.int ((u0 &&& (2147483647 : Int32)) % (3 : Int32)))])) _
        refine XS.ifYes X0.here hx rfl (pc0 := 10) (pc' := 17) rfl (hb hby at_10) rfl ((if0 _ _).trans (feq hc10).2) (by decide) (by decide) ?_
        show Steps p.tables e below (s₁.setTop (mkF m 17 #[.val (.int u0), .val (.int u1), .val (.long u2), .second, .val (.long u3), .second, .val (.long u4), .second, .val (.int ((u0 &&& (2147483647 : Int32)) % (3 : Int32))), .unset, .unset, .unset, .unset, .unset, .unset, .unset, .unset] [])) _
        refine XS.iload X0.here hx rfl (hb hby at_17) rfl ?_
        show Steps p.tables e below (s₁.setTop (mkF m 19 #[.val (.int u0), .val (.int u1), .val (.long u2), .second, .val (.long u3), .second, .val (.long u4), .second, .val (.int ((u0 &&& (2147483647 : Int32)) % (3 : Int32))), .unset, .unset, .unset, .unset, .unset, .unset, .unset, .unset] [(.int ((u0 &&& (2147483647 : Int32)) % (3 : Int32)))])) _
        refine XS.iconst X0.here hx rfl (hb hby at_19) ?_
        show Steps p.tables e below (s₁.setTop (mkF m 20 #[.val (.int u0), .val (.int u1), .val (.long u2), .second, .val (.long u3), .second, .val (.long u4), .second, .val (.int ((u0 &&& (2147483647 : Int32)) % (3 : Int32))), .unset, .unset, .unset, .unset, .unset, .unset, .unset, .unset] [(.int (1 : Int32)), (.int ((u0 &&& (2147483647 : Int32)) % (3 : Int32)))])) _
        refine XS.icmpYes X0.here hx rfl (pc0 := 20) (pc' := 29) rfl (hb hby at_20) rfl (feq hc20).2 (by decide) (by decide) ?_
        show Steps p.tables e below (s₁.setTop (mkF m 29 #[.val (.int u0), .val (.int u1), .val (.long u2), .second, .val (.long u3), .second, .val (.long u4), .second, .val (.int ((u0 &&& (2147483647 : Int32)) % (3 : Int32))), .unset, .unset, .unset, .unset, .unset, .unset, .unset, .unset] [])) _
        refine st4 _ ?_
        show Steps p.tables e below (T4.setTop (mkF m 32 #[.val (.int u0), .val (.int u1), .val (.long u2), .second, .val (.long u3), .second, .val (.long u4), .second, .val (.int ((u0 &&& (2147483647 : Int32)) % (3 : Int32))), .unset, .unset, .unset, .unset, .unset, .unset, .unset, .unset] [(.ref a_FORCE)])) _
        refine XS.astore X4.here hx rfl (hb hby at_32) rfl rfl (l' := #[.val (.int u0), .val (.int u1), .val (.long u2), .second, .val (.long u3), .second, .val (.long u4), .second, .val (.int ((u0 &&& (2147483647 : Int32)) % (3 : Int32))), .val (.ref a_FORCE), .unset, .unset, .unset, .unset, .unset, .unset, .unset]) rfl ?_
        exact kt
  have Z2 : n0 ≤ h2.size := Nat.le_trans Z0 K2.1
  have KK2 := (Keep.refl h0 []).trans K2 all0
  have O2 := O0.keep K2 all0
  have C2 := C0.trans Cq2
  obtain ⟨vm5, T5, h5, locs5, q5, v5_0, v5_1, X5, e5, K5, N5, hS5, hk5, hZ, hown, Cq5, rf5_0, rf5_1, st5⟩ : ∃ (vm' : Vm) (T' : State) (h' : Heap) (locs' : List Loc) (q' : Nat) (v5_0 v5_1 : Value), Stand p l e room_1 (s.setVm vm') m #[(.int u0), (.int u1), (.long u2), (.long u3), (.long u4)] below meth c T' locs' 3 32 ∧ T'.heap = h' ∧ Keep h2 h' [] ∧ Fr n0 locs' ∧ s.Since vm' q' ∧ q' ≤ h'.size ∧ Z.Warmed39 (s.setVm vm').vm ∧ (s.setVm vm').vm.findClass "com/example/compact_settings/compactsettings/extender/IntentIsDeletionPinLaw" = some m.cls ∧ CHr Z EL vm2 h2 vm' h' ∧ v5_0.isRef = true ∧ v5_1.isRef = true ∧ ∀ target, Steps p.tables e below (T'.setTop (mkF m 77 #[.val (.int u0), .val (.int u1), .val (.long u2), .second, .val (.long u3), .second, .val (.long u4), .second, .val (.int ((u0 &&& (2147483647 : Int32)) % (3 : Int32))), .val v2_0, .val v5_0, .val v5_1, .unset, .unset, .unset, .unset, .unset] [])) target → Steps p.tables e below (T2.setTop (mkF m 34 #[.val (.int u0), .val (.int u1), .val (.long u2), .second, .val (.long u3), .second, .val (.long u4), .second, .val (.int ((u0 &&& (2147483647 : Int32)) % (3 : Int32))), .val v2_0, .unset, .unset, .unset, .unset, .unset, .unset, .unset] [])) target := by
    by_cases hc38 : (u1 &&& (8 : Int32)) = (0 : Int32)
    · obtain ⟨T6, X6, e6, st6⟩ := getS2 X2 hx hZ hown (host := "") (Or.inl (hw _ (List.mem_of_getElem? (i := 1) rfl))) Via.refl e2 (S_DEFAULT.ext O2.2) (g := (mkF m 47 #[.val (.int u0), .val (.int u1), .val (.long u2), .second, .val (.long u3), .second, .val (.long u4), .second, .val (.int ((u0 &&& (2147483647 : Int32)) % (3 : Int32))), .val v2_0, .unset, .unset, .unset, .unset, .unset, .unset, .unset] [])) rfl (hb hby at_47)
      by_cases hc55 : (u1 &&& (1 : Int32)) = (0 : Int32)
      · refine ⟨_, T6, h2, _, _, (.ref a_DEFAULT), .null, X6.mono (by decide) (by decide), e6, (Keep.refl h2 []), N2, hS2, hk2, hZ, hown, (CHr.refl C2.1), rfl, rfl, fun target kt => ?_⟩
        show Steps p.tables e below (T2.setTop (mkF m 34 #[.val (.int u0), .val (.int u1), .val (.long u2), .second, .val (.long u3), .second, .val (.long u4), .second, .val (.int ((u0 &&& (2147483647 : Int32)) % (3 : Int32))), .val v2_0, .unset, .unset, .unset, .unset, .unset, .unset, .unset] [])) _
        refine XS.iloadN X2.here hx rfl (hb hby at_34) rfl ?_
        show Steps p.tables e below (T2.setTop (mkF m 35 #[.val (.int u0), .val (.int u1), .val (.long u2), .second, .val (.long u3), .second, .val (.long u4), .second, .val (.int ((u0 &&& (2147483647 : Int32)) % (3 : Int32))), .val v2_0, .unset, .unset, .unset, .unset, .unset, .unset, .unset] [(.int u1)])) _
        refine XS.bipush X2.here hx rfl (hb hby at_35) ?_
        show Steps p.tables e below (T2.setTop (mkF m 37 #[.val (.int u0), .val (.int u1), .val (.long u2), .second, .val (.long u3), .second, .val (.long u4), .second, .val (.int ((u0 &&& (2147483647 : Int32)) % (3 : Int32))), .val v2_0, .unset, .unset, .unset, .unset, .unset, .unset, .unset] [(.int (8 : Int32)), (.int u1)])) _
        refine XS.iand X2.here hx rfl (hb hby at_37) rfl ?_
        show Steps p.tables e below (T2.setTop (mkF m 38 #[.val (.int u0), .val (.int u1), .val (.long u2), .second, .val (.long u3), .second, .val (.long u4), .second, .val (.int ((u0 &&& (2147483647 : Int32)) % (3 : Int32))), .val v2_0, .unset, .unset, .unset, .unset, .unset, .unset, .unset] [(.int (u1 &&& (8 : Int32)))])) _
        refine XS.ifYes X2.here hx rfl (pc0 := 38) (pc' := 47) rfl (hb hby at_38) rfl ((if0 _ _).trans (teq hc38).1) (by decide) (by decide) ?_
        show Steps p.tables e below (T2.setTop (mkF m 47 #[.val (.int u0), .val (.int u1), .val (.long u2), .second, .val (.long u3), .second, .val (.long u4), .second, .val (.int ((u0 &&& (2147483647 : Int32)) % (3 : Int32))), .val v2_0, .unset, .unset, .unset, .unset, .unset, .unset, .unset] [])) _
        refine st6 _ ?_
        show Steps p.tables e below (T6.setTop (mkF m 50 #[.val (.int u0), .val (.int u1), .val (.long u2), .second, .val (.long u3), .second, .val (.long u4), .second, .val (.int ((u0 &&& (2147483647 : Int32)) % (3 : Int32))), .val v2_0, .unset, .unset, .unset, .unset, .unset, .unset, .unset] [(.ref a_DEFAULT)])) _
        refine XS.astore X6.here hx rfl (hb hby at_50) rfl rfl (l' := #[.val (.int u0), .val (.int u1), .val (.long u2), .second, .val (.long u3), .second, .val (.long u4), .second, .val (.int ((u0 &&& (2147483647 : Int32)) % (3 : Int32))), .val v2_0, .val (.ref a_DEFAULT), .unset, .unset, .unset, .unset, .unset, .unset]) rfl ?_
        show Steps p.tables e below (T6.setTop (mkF m 52 #[.val (.int u0), .val (.int u1), .val (.long u2), .second, .val (.long u3), .second, .val (.long u4), .second, .val (.int ((u0 &&& (2147483647 : Int32)) % (3 : Int32))), .val v2_0, .val (.ref a_DEFAULT), .unset, .unset, .unset, .unset, .unset, .unset] [])) _
        refine XS.iloadN X6.here hx rfl (hb hby at_52) rfl ?_
        show Steps p.tables e below (T6.setTop (mkF m 53 #[.val (.int u0), .val (.int u1), .val (.long u2), .second, .val (.long u3), .second, .val (.long u4), .second, .val (.int ((u0 &&& (2147483647 : Int32)) % (3 : Int32))), .val v2_0, .val (.ref a_DEFAULT), .unset, .unset, .unset, .unset, .unset, .unset] [(.int u1)])) _
        refine XS.iconst X6.here hx rfl (hb hby at_53) ?_
        show Steps p.tables e below (T6.setTop (mkF m 54 #[.val (.int u0), .val (.int u1), .val (.long u2), .second, .val (.long u3), .second, .val (.long u4), .second, .val (.int ((u0 &&& (2147483647 : Int32)) % (3 : Int32))), .val v2_0, .val (.ref a_DEFAULT), .unset, .unset, .unset, .unset, .unset, .unset] [(.int (1 : Int32)), (.int u1)])) _
        refine XS.iand X6.here hx rfl (hb hby at_54) rfl ?_
        show Steps p.tables e below (T6.setTop (mkF m 55 #[.val (.int u0), .val (.int u1), .val (.long u2), .second, .val (.long u3), .second, .val (.long u4), .second, .val (.int ((u0 &&& (2147483647 : Int32)) % (3 : Int32))), .val v2_0, .val (.ref a_DEFAULT), .unset, .unset, .unset, .unset, .unset, .unset] [(.int (u1 &&& (1 : Int32)))])) _
        refine XS.ifYes X6.here hx rfl (pc0 := 55) (pc' := 74) rfl (hb hby at_55) rfl ((if0 _ _).trans (teq hc55).1) (by decide) (by decide) ?_
        show Steps p.tables e below (T6.setTop (mkF m 74 #[.val (.int u0), .val (.int u1), .val (.long u2), .second, .val (.long u3), .second, .val (.long u4), .second, .val (.int ((u0 &&& (2147483647 : Int32)) % (3 : Int32))), .val v2_0, .val (.ref a_DEFAULT), .unset, .unset, .unset, .unset, .unset, .unset] [])) _
        refine XS.aconstNull X6.here hx rfl (hb hby at_74) ?_
        show Steps p.tables e below (T6.setTop (mkF m 75 #[.val (.int u0), .val (.int u1), .val (.long u2), .second, .val (.long u3), .second, .val (.long u4), .second, .val (.int ((u0 &&& (2147483647 : Int32)) % (3 : Int32))), .val v2_0, .val (.ref a_DEFAULT), .unset, .unset, .unset, .unset, .unset, .unset] [.null])) _
        refine XS.astore X6.here hx rfl (hb hby at_75) rfl rfl (l' := #[.val (.int u0), .val (.int u1), .val (.long u2), .second, .val (.long u3), .second, .val (.long u4), .second, .val (.int ((u0 &&& (2147483647 : Int32)) % (3 : Int32))), .val v2_0, .val (.ref a_DEFAULT), .val .null, .unset, .unset, .unset, .unset, .unset]) rfl ?_
        exact kt
      · obtain ⟨T7, h7, X7, e7, E7, A7, D7, -, st7⟩ := newO X6 hx hZ hown (hw _ (List.mem_of_getElem? (i := 4) rfl)) (hw _ (List.mem_of_getElem? (i := 5) rfl)) (hw _ (List.mem_of_getElem? (i := 6) rfl)) e6 (g := (mkF m 58 #[.val (.int u0), .val (.int u1), .val (.long u2), .second, .val (.long u3), .second, .val (.long u4), .second, .val (.int ((u0 &&& (2147483647 : Int32)) % (3 : Int32))), .val v2_0, .val (.ref a_DEFAULT), .unset, .unset, .unset, .unset, .unset, .unset] [])) rfl (hb hby at_58) (by decide) (by decide)
        obtain ⟨b7, g7⟩ : ∃ z, z = h2.size := ⟨_, rfl⟩
        rw [← g7] at A7 D7 st7
        have g_b7 : n0 ≤ b7 := Nat.le_trans Z2 (Nat.le_of_eq g7.symm)
        have sz_b7 : h2.size ≤ b7 := Nat.le_trans (Keep.refl h2 []).1 (Nat.le_of_eq g7.symm)
        have Z7 : n0 ≤ h7.size := Nat.le_trans Z2 E7.1
        have KK7 := (Keep.refl h2 []).ext E7
        have O7 := O2.ext E7
        have C7 := (CHr.refl C2.1).trans (CHr.ext E7 (CHr.refl C2.1).1)
        have hk7 := Nat.le_trans hk2 E7.1
        have F7_changeCount : Fld Z h7 b7 "com/example/compact_settings/compactsettings/extender/Written" "changeCount" "J" (.long (0 : Int64)) := D7 (Or.inr (hw _ (List.mem_of_getElem? (i := 31) rfl))) (ty := .long) (by decide)
        have F7_policy : Fld Z h7 b7 "com/example/compact_settings/compactsettings/extender/Written" "policy" "Lcom/example/compact_settings/compactsettings/Policy;" .null := D7 (Or.inr (hw _ (List.mem_of_getElem? (i := 33) rfl))) (ty := (.object "com/example/compact_settings/compactsettings/Policy")) (by decide)
        have F7_fingerprint : Fld Z h7 b7 "com/example/compact_settings/compactsettings/extender/Written" "fingerprint" "Ljava/lang/String;" .null := D7 (Or.inr (hw _ (List.mem_of_getElem? (i := 35) rfl))) (ty := (.object "java/lang/String")) (by decide)
        have F7_adminBundle : Fld Z h7 b7 "com/example/compact_settings/compactsettings/extender/Written" "adminBundle" "J" (.long (0 : Int64)) := D7 (Or.inr (hw _ (List.mem_of_getElem? (i := 37) rfl))) (ty := .long) (by decide)
        obtain ⟨_, _, ⟨T8, L8, k8, n8⟩, -, X8, hS8, gr8, ⟨Lc8, hQ8, l8, y8, z8, Cq8⟩, st8⟩ := X7.specialBackS hx (y := (⟨"com/example/compact_settings/compactsettings/extender/Written", "<init>", "(JLcom/example/compact_settings/compactsettings/Policy;Ljava/lang/String;J)V"⟩ : MethodName)) rfl hown (mvT hZ (hw _ (List.mem_of_getElem? (i := 7) rfl))) (mvT hZ (hw _ (List.mem_of_getElem? (i := 8) rfl))) (mvT hZ (hw _ (List.mem_of_getElem? (i := 9) rfl))) (by decide) (backOfSH (W := 1) (rm1 l Z a0 hw [] b7 u2 a_DEFAULT u4 h7 n0 Z7 g_b7 A7 F7_changeCount F7_policy F7_fingerprint F7_adminBundle) hZ (hw _ (List.mem_of_getElem? (i := 9) rfl)) (hw _ (List.mem_of_getElem? (i := 6) rfl)) (by decide) (by decide) (hEL hw) C7.1) (g := (mkF m 68 #[.val (.int u0), .val (.int u1), .val (.long u2), .second, .val (.long u3), .second, .val (.long u4), .second, .val (.int ((u0 &&& (2147483647 : Int32)) % (3 : Int32))), .val v2_0, .val (.ref a_DEFAULT), .unset, .unset, .unset, .unset, .unset, .unset] [(.long u4), .null, (.ref a_DEFAULT), (.long u2), (.ref b7), (.ref b7)])) rfl (by rw [hml]; rfl) (Steps.refl _) (a := b7) (argsL := [(.long u2), (.ref a_DEFAULT), .null, (.long u4)]) (rest := [(.ref b7)]) (lenOf pd_7 rfl) rfl (by show 2 * 0 + _ ≤ _; exact Nat.le_of_eq rfl) (hb hby at_68) (fun _ _ => ⟨rfl, e7, (by decide : 1 + 2 ≤ _), (by decide : 4 + 28 ≤ _)⟩)
        dsimp only [Pt.U, Pt.locs, Pt.cells, Pt.slots] at X8 l8 y8 z8 st8 hQ8 hS8 gr8 Cq8
        replace y8 : k8 = 3 := y8
        replace z8 : n8 = 32 := z8
        rw [y8, z8] at X8
        obtain ⟨X8, hS8, hZ, hown⟩ := rebS hS2 (Nat.le_trans hk7 (Nat.le_of_eq (congrArg Array.size e7).symm)) X8 hS8 gr8 hZ hown
        have hk8 := Nat.le_refl T8.heap.size
        obtain ⟨rfl, N8q, K8, A8, F8_changeCount, F8_policy, F8_fingerprint, F8_adminBundle⟩ := hQ8
        have N8 : Fr n0 L8 := l8 ▸ Fr.app N2 N8q
        have Z8 : n0 ≤ T8.heap.size := Nat.le_trans Z7 K8.1
        have KK8 := KK7.trans K8 (allS (P := fun x => x ∈ [] ∨ h2.size ≤ x) (Or.inr sz_b7) all0)
        have O8 := O7.keep K8 (allS g_b7 all0)
        have C8 := C7.trans Cq8
        refine ⟨_, T8, T8.heap, _, _, (.ref a_DEFAULT), (.ref b7), X8.mono (by decide) (by decide), rfl, KK8, N8, hS8, hk8, hZ, hown, C8, rfl, rfl, fun target kt => ?_⟩
        show Steps p.tables e below (T2.setTop (mkF m 34 #[.val (.int u0), .val (.int u1), .val (.long u2), .second, .val (.long u3), .second, .val (.long u4), .second, .val (.int ((u0 &&& (2147483647 : Int32)) % (3 : Int32))), .val v2_0, .unset, .unset, .unset, .unset, .unset, .unset, .unset] [])) _
        refine XS.iloadN X2.here hx rfl (hb hby at_34) rfl ?_
        show Steps p.tables e below (T2.setTop (mkF m 35 #[.val (.int u0), .val (.int u1), .val (.long u2), .second, .val (.long u3), .second, .val (.long u4), .second, .val (.int ((u0 &&& (2147483647 : Int32)) % (3 : Int32))), .val v2_0, .unset, .unset, .unset, .unset, .unset, .unset, .unset] [(.int u1)])) _
        refine XS.bipush X2.here hx rfl (hb hby at_35) ?_
        show Steps p.tables e below (T2.setTop (mkF m 37 #[.val (.int u0), .val (.int u1), .val (.long u2), .second, .val (.long u3), .second, .val (.long u4), .second, .val (.int ((u0 &&& (2147483647 : Int32)) % (3 : Int32))), .val v2_0, .unset, .unset, .unset, .unset, .unset, .unset, .unset] [(.int (8 : Int32)), (.int u1)])) _
        refine XS.iand X2.here hx rfl (hb hby at_37) rfl ?_
        show Steps p.tables e below (T2.setTop (mkF m 38 #[.val (.int u0), .val (.int u1), .val (.long u2), .second, .val (.long u3), .second, .val (.long u4), .second, .val (.int ((u0 &&& (2147483647 : Int32)) % (3 : Int32))), .val v2_0, .unset, .unset, .unset, .unset, .unset, .unset, .unset] [(.int (u1 &&& (8 : Int32)))])) _
        refine XS.ifYes X2.here hx rfl (pc0 := 38) (pc' := 47) rfl (hb hby at_38) rfl ((if0 _ _).trans (teq hc38).1) (by decide) (by decide) ?_
        show Steps p.tables e below (T2.setTop (mkF m 47 #[.val (.int u0), .val (.int u1), .val (.long u2), .second, .val (.long u3), .second, .val (.long u4), .second, .val (.int ((u0 &&& (2147483647 : Int32)) % (3 : Int32))), .val v2_0, .unset, .unset, .unset, .unset, .unset, .unset, .unset] [])) _
        refine st6 _ ?_
        show Steps p.tables e below (T6.setTop (mkF m 50 #[.val (.int u0), .val (.int u1), .val (.long u2), .second, .val (.long u3), .second, .val (.long u4), .second, .val (.int ((u0 &&& (2147483647 : Int32)) % (3 : Int32))), .val v2_0, .unset, .unset, .unset, .unset, .unset, .unset, .unset] [(.ref a_DEFAULT)])) _
        refine XS.astore X6.here hx rfl (hb hby at_50) rfl rfl (l' := #[.val (.int u0), .val (.int u1), .val (.long u2), .second, .val (.long u3), .second, .val (.long u4), .second, .val (.int ((u0 &&& (2147483647 : Int32)) % (3 : Int32))), .val v2_0, .val (.ref a_DEFAULT), .unset, .unset, .unset, .unset, .unset, .unset]) rfl ?_
        show Steps p.tables e below (T6.setTop (mkF m 52 #[.val (.int u0), .val (.int u1), .val (.long u2), .second, .val (.long u3), .second, .val (.long u4), .second, .val (.int ((u0 &&& (2147483647 : Int32)) % (3 : Int32))), .val v2_0, .val (.ref a_DEFAULT), .unset, .unset, .unset, .unset, .unset, .unset] [])) _
        refine XS.iloadN X6.here hx rfl (hb hby at_52) rfl ?_
        show Steps p.tables e below (T6.setTop (mkF m 53 #[.val (.int u0), .val (.int u1), .val (.long u2), .second, .val (.long u3), .second, .val (.long u4), .second, .val (.int ((u0 &&& (2147483647 : Int32)) % (3 : Int32))), .val v2_0, .val (.ref a_DEFAULT), .unset, .unset, .unset, .unset, .unset, .unset] [(.int u1)])) _
        refine XS.iconst X6.here hx rfl (hb hby at_53) ?_
        show Steps p.tables e below (T6.setTop (mkF m 54 #[.val (.int u0), .val (.int u1), .val (.long u2), .second, .val (.long u3), .second, .val (.long u4), .second, .val (.int ((u0 &&& (2147483647 : Int32)) % (3 : Int32))), .val v2_0, .val (.ref a_DEFAULT), .unset, .unset, .unset, .unset, .unset, .unset] [(.int (1 : Int32)), (.int u1)])) _
        refine XS.iand X6.here hx rfl (hb hby at_54) rfl ?_
        show Steps p.tables e below (T6.setTop (mkF m 55 #[.val (.int u0), .val (.int u1), .val (.long u2), .second, .val (.long u3), .second, .val (.long u4), .second, .val (.int ((u0 &&& (2147483647 : Int32)) % (3 : Int32))), .val v2_0, .val (.ref a_DEFAULT), .unset, .unset, .unset, .unset, .unset, .unset] [(.int (u1 &&& (1 : Int32)))])) _
        refine XS.ifNo X6.here hx rfl (hb hby at_55) rfl ((if0 _ _).trans (feq hc55).1) ?_
        show Steps p.tables e below (T6.setTop (mkF m 58 #[.val (.int u0), .val (.int u1), .val (.long u2), .second, .val (.long u3), .second, .val (.long u4), .second, .val (.int ((u0 &&& (2147483647 : Int32)) % (3 : Int32))), .val v2_0, .val (.ref a_DEFAULT), .unset, .unset, .unset, .unset, .unset, .unset] [])) _
        refine st7 _ ?_
        show Steps p.tables e below (T7.setTop (mkF m 61 #[.val (.int u0), .val (.int u1), .val (.long u2), .second, .val (.long u3), .second, .val (.long u4), .second, .val (.int ((u0 &&& (2147483647 : Int32)) % (3 : Int32))), .val v2_0, .val (.ref a_DEFAULT), .unset, .unset, .unset, .unset, .unset, .unset] [(.ref b7)])) _
        refine XS.dup X7.here hx rfl (hb hby at_61) rfl rfl ?_
        show Steps p.tables e below (T7.setTop (mkF m 62 #[.val (.int u0), .val (.int u1), .val (.long u2), .second, .val (.long u3), .second, .val (.long u4), .second, .val (.int ((u0 &&& (2147483647 : Int32)) % (3 : Int32))), .val v2_0, .val (.ref a_DEFAULT), .unset, .unset, .unset, .unset, .unset, .unset] [(.ref b7), (.ref b7)])) _
        refine XS.lloadN X7.here hx rfl (hb hby at_62) rfl ?_
        show Steps p.tables e below (T7.setTop (mkF m 63 #[.val (.int u0), .val (.int u1), .val (.long u2), .second, .val (.long u3), .second, .val (.long u4), .second, .val (.int ((u0 &&& (2147483647 : Int32)) % (3 : Int32))), .val v2_0, .val (.ref a_DEFAULT), .unset, .unset, .unset, .unset, .unset, .unset] [(.long u2), (.ref b7), (.ref b7)])) _
        refine XS.aload X7.here hx rfl (hb hby at_63) rfl rfl ?_
        show Steps p.tables e below (T7.setTop (mkF m 65 #[.val (.int u0), .val (.int u1), .val (.long u2), .second, .val (.long u3), .second, .val (.long u4), .second, .val (.int ((u0 &&& (2147483647 : Int32)) % (3 : Int32))), .val v2_0, .val (.ref a_DEFAULT), .unset, .unset, .unset, .unset, .unset, .unset] [(.ref a_DEFAULT), (.long u2), (.ref b7), (.ref b7)])) _
        refine XS.aconstNull X7.here hx rfl (hb hby at_65) ?_
        show Steps p.tables e below (T7.setTop (mkF m 66 #[.val (.int u0), .val (.int u1), .val (.long u2), .second, .val (.long u3), .second, .val (.long u4), .second, .val (.int ((u0 &&& (2147483647 : Int32)) % (3 : Int32))), .val v2_0, .val (.ref a_DEFAULT), .unset, .unset, .unset, .unset, .unset, .unset] [.null, (.ref a_DEFAULT), (.long u2), (.ref b7), (.ref b7)])) _
        refine XS.lload X7.here hx rfl (hb hby at_66) rfl ?_
        show Steps p.tables e below (T7.setTop (mkF m 68 #[.val (.int u0), .val (.int u1), .val (.long u2), .second, .val (.long u3), .second, .val (.long u4), .second, .val (.int ((u0 &&& (2147483647 : Int32)) % (3 : Int32))), .val v2_0, .val (.ref a_DEFAULT), .unset, .unset, .unset, .unset, .unset, .unset] [(.long u4), .null, (.ref a_DEFAULT), (.long u2), (.ref b7), (.ref b7)])) _
        refine st8.trans ?_
        show Steps p.tables e below (T8.setTop (mkF m 71 #[.val (.int u0), .val (.int u1), .val (.long u2), .second, .val (.long u3), .second, .val (.long u4), .second, .val (.int ((u0 &&& (2147483647 : Int32)) % (3 : Int32))), .val v2_0, .val (.ref a_DEFAULT), .unset, .unset, .unset, .unset, .unset, .unset] [(.ref b7)])) _
        refine XS.goto X8.here hx rfl (pc0 := 71) (pc' := 75) rfl (hb hby at_71) (by decide) (by decide) ?_
        show Steps p.tables e below (T8.setTop (mkF m 75 #[.val (.int u0), .val (.int u1), .val (.long u2), .second, .val (.long u3), .second, .val (.long u4), .second, .val (.int ((u0 &&& (2147483647 : Int32)) % (3 : Int32))), .val v2_0, .val (.ref a_DEFAULT), .unset, .unset, .unset, .unset, .unset, .unset] [(.ref b7)])) _
        refine XS.astore X8.here hx rfl (hb hby at_75) rfl rfl (l' := #[.val (.int u0), .val (.int u1), .val (.long u2), .second, .val (.long u3), .second, .val (.long u4), .second, .val (.int ((u0 &&& (2147483647 : Int32)) % (3 : Int32))), .val v2_0, .val (.ref a_DEFAULT), .val (.ref b7), .unset, .unset, .unset, .unset, .unset]) rfl ?_
        exact kt
    · obtain ⟨T9, X9, e9, st9⟩ := getS2 X2 hx hZ hown (host := "") (Or.inl (hw _ (List.mem_of_getElem? (i := 84) rfl))) Via.refl e2 (S_FORCE.ext O2.2) (g := (mkF m 41 #[.val (.int u0), .val (.int u1), .val (.long u2), .second, .val (.long u3), .second, .val (.long u4), .second, .val (.int ((u0 &&& (2147483647 : Int32)) % (3 : Int32))), .val v2_0, .unset, .unset, .unset, .unset, .unset, .unset, .unset] [])) rfl (hb hby at_41)
      by_cases hc55 : (u1 &&& (1 : Int32)) = (0 : Int32)
      · refine ⟨_, T9, h2, _, _, (.ref a_FORCE), .null, X9.mono (by decide) (by decide), e9, (Keep.refl h2 []), N2, hS2, hk2, hZ, hown, (CHr.refl C2.1), rfl, rfl, fun target kt => ?_⟩
        show Steps p.tables e below (T2.setTop (mkF m 34 #[.val (.int u0), .val (.int u1), .val (.long u2), .second, .val (.long u3), .second, .val (.long u4), .second, .val (.int ((u0 &&& (2147483647 : Int32)) % (3 : Int32))), .val v2_0, .unset, .unset, .unset, .unset, .unset, .unset, .unset] [])) _
        refine XS.iloadN X2.here hx rfl (hb hby at_34) rfl ?_
        show Steps p.tables e below (T2.setTop (mkF m 35 #[.val (.int u0), .val (.int u1), .val (.long u2), .second, .val (.long u3), .second, .val (.long u4), .second, .val (.int ((u0 &&& (2147483647 : Int32)) % (3 : Int32))), .val v2_0, .unset, .unset, .unset, .unset, .unset, .unset, .unset] [(.int u1)])) _
        refine XS.bipush X2.here hx rfl (hb hby at_35) ?_
        show Steps p.tables e below (T2.setTop (mkF m 37 #[.val (.int u0), .val (.int u1), .val (.long u2), .second, .val (.long u3), .second, .val (.long u4), .second, .val (.int ((u0 &&& (2147483647 : Int32)) % (3 : Int32))), .val v2_0, .unset, .unset, .unset, .unset, .unset, .unset, .unset] [(.int (8 : Int32)), (.int u1)])) _
        refine XS.iand X2.here hx rfl (hb hby at_37) rfl ?_
        show Steps p.tables e below (T2.setTop (mkF m 38 #[.val (.int u0), .val (.int u1), .val (.long u2), .second, .val (.long u3), .second, .val (.long u4), .second, .val (.int ((u0 &&& (2147483647 : Int32)) % (3 : Int32))), .val v2_0, .unset, .unset, .unset, .unset, .unset, .unset, .unset] [(.int (u1 &&& (8 : Int32)))])) _
        refine XS.ifNo X2.here hx rfl (hb hby at_38) rfl ((if0 _ _).trans (feq hc38).1) ?_
        show Steps p.tables e below (T2.setTop (mkF m 41 #[.val (.int u0), .val (.int u1), .val (.long u2), .second, .val (.long u3), .second, .val (.long u4), .second, .val (.int ((u0 &&& (2147483647 : Int32)) % (3 : Int32))), .val v2_0, .unset, .unset, .unset, .unset, .unset, .unset, .unset] [])) _
        refine st9 _ ?_
        show Steps p.tables e below (T9.setTop (mkF m 44 #[.val (.int u0), .val (.int u1), .val (.long u2), .second, .val (.long u3), .second, .val (.long u4), .second, .val (.int ((u0 &&& (2147483647 : Int32)) % (3 : Int32))), .val v2_0, .unset, .unset, .unset, .unset, .unset, .unset, .unset] [(.ref a_FORCE)])) _
        refine XS.goto X9.here hx rfl (pc0 := 44) (pc' := 50) rfl (hb hby at_44) (by decide) (by decide) ?_
        show Steps p.tables e below (T9.setTop (mkF m 50 #[.val (.int u0), .val (.int u1), .val (.long u2), .second, .val (.long u3), .second, .val (.long u4), .second, .val (.int ((u0 &&& (2147483647 : Int32)) % (3 : Int32))), .val v2_0, .unset, .unset, .unset, .unset, .unset, .unset, .unset] [(.ref a_FORCE)])) _
        refine XS.astore X9.here hx rfl (hb hby at_50) rfl rfl (l' := #[.val (.int u0), .val (.int u1), .val (.long u2), .second, .val (.long u3), .second, .val (.long u4), .second, .val (.int ((u0 &&& (2147483647 : Int32)) % (3 : Int32))), .val v2_0, .val (.ref a_FORCE), .unset, .unset, .unset, .unset, .unset, .unset]) rfl ?_
        show Steps p.tables e below (T9.setTop (mkF m 52 #[.val (.int u0), .val (.int u1), .val (.long u2), .second, .val (.long u3), .second, .val (.long u4), .second, .val (.int ((u0 &&& (2147483647 : Int32)) % (3 : Int32))), .val v2_0, .val (.ref a_FORCE), .unset, .unset, .unset, .unset, .unset, .unset] [])) _
        refine XS.iloadN X9.here hx rfl (hb hby at_52) rfl ?_
        show Steps p.tables e below (T9.setTop (mkF m 53 #[.val (.int u0), .val (.int u1), .val (.long u2), .second, .val (.long u3), .second, .val (.long u4), .second, .val (.int ((u0 &&& (2147483647 : Int32)) % (3 : Int32))), .val v2_0, .val (.ref a_FORCE), .unset, .unset, .unset, .unset, .unset, .unset] [(.int u1)])) _
        refine XS.iconst X9.here hx rfl (hb hby at_53) ?_
        show Steps p.tables e below (T9.setTop (mkF m 54 #[.val (.int u0), .val (.int u1), .val (.long u2), .second, .val (.long u3), .second, .val (.long u4), .second, .val (.int ((u0 &&& (2147483647 : Int32)) % (3 : Int32))), .val v2_0, .val (.ref a_FORCE), .unset, .unset, .unset, .unset, .unset, .unset] [(.int (1 : Int32)), (.int u1)])) _
        refine XS.iand X9.here hx rfl (hb hby at_54) rfl ?_
        show Steps p.tables e below (T9.setTop (mkF m 55 #[.val (.int u0), .val (.int u1), .val (.long u2), .second, .val (.long u3), .second, .val (.long u4), .second, .val (.int ((u0 &&& (2147483647 : Int32)) % (3 : Int32))), .val v2_0, .val (.ref a_FORCE), .unset, .unset, .unset, .unset, .unset, .unset] [(.int (u1 &&& (1 : Int32)))])) _
        refine XS.ifYes X9.here hx rfl (pc0 := 55) (pc' := 74) rfl (hb hby at_55) rfl ((if0 _ _).trans (teq hc55).1) (by decide) (by decide) ?_
        show Steps p.tables e below (T9.setTop (mkF m 74 #[.val (.int u0), .val (.int u1), .val (.long u2), .second, .val (.long u3), .second, .val (.long u4), .second, .val (.int ((u0 &&& (2147483647 : Int32)) % (3 : Int32))), .val v2_0, .val (.ref a_FORCE), .unset, .unset, .unset, .unset, .unset, .unset] [])) _
        refine XS.aconstNull X9.here hx rfl (hb hby at_74) ?_
        show Steps p.tables e below (T9.setTop (mkF m 75 #[.val (.int u0), .val (.int u1), .val (.long u2), .second, .val (.long u3), .second, .val (.long u4), .second, .val (.int ((u0 &&& (2147483647 : Int32)) % (3 : Int32))), .val v2_0, .val (.ref a_FORCE), .unset, .unset, .unset, .unset, .unset, .unset] [.null])) _
        refine XS.astore X9.here hx rfl (hb hby at_75) rfl rfl (l' := #[.val (.int u0), .val (.int u1), .val (.long u2), .second, .val (.long u3), .second, .val (.long u4), .second, .val (.int ((u0 &&& (2147483647 : Int32)) % (3 : Int32))), .val v2_0, .val (.ref a_FORCE), .val .null, .unset, .unset, .unset, .unset, .unset]) rfl ?_
        exact kt
      · obtain ⟨T10, h10, X10, e10, E10, A10, D10, -, st10⟩ := newO X9 hx hZ hown (hw _ (List.mem_of_getElem? (i := 4) rfl)) (hw _ (List.mem_of_getElem? (i := 5) rfl)) (hw _ (List.mem_of_getElem? (i := 6) rfl)) e9 (g := (mkF m 58 #[.val (.int u0), .val (.int u1), .val (.long u2), .second, .val (.long u3), .second, .val (.long u4), .second, .val (.int ((u0 &&& (2147483647 : Int32)) % (3 : Int32))), .val v2_0, .val (.ref a_FORCE), .unset, .unset, .unset, .unset, .unset, .unset] [])) rfl (hb hby at_58) (by decide) (by decide)
        obtain ⟨b10, g10⟩ : ∃ z, z = h2.size := ⟨_, rfl⟩
        rw [← g10] at A10 D10 st10
        have g_b10 : n0 ≤ b10 := Nat.le_trans Z2 (Nat.le_of_eq g10.symm)
        have sz_b10 : h2.size ≤ b10 := Nat.le_trans (Keep.refl h2 []).1 (Nat.le_of_eq g10.symm)
        have Z10 : n0 ≤ h10.size := Nat.le_trans Z2 E10.1
        have KK10 := (Keep.refl h2 []).ext E10
        have O10 := O2.ext E10
        have C10 := (CHr.refl C2.1).trans (CHr.ext E10 (CHr.refl C2.1).1)
        have hk10 := Nat.le_trans hk2 E10.1
        have F10_changeCount : Fld Z h10 b10 "com/example/compact_settings/compactsettings/extender/Written" "changeCount" "J" (.long (0 : Int64)) := D10 (Or.inr (hw _ (List.mem_of_getElem? (i := 31) rfl))) (ty := .long) (by decide)
        have F10_policy : Fld Z h10 b10 "com/example/compact_settings/compactsettings/extender/Written" "policy" "Lcom/example/compact_settings/compactsettings/Policy;" .null := D10 (Or.inr (hw _ (List.mem_of_getElem? (i := 33) rfl))) (ty := (.object "com/example/compact_settings/compactsettings/Policy")) (by decide)
        have F10_fingerprint : Fld Z h10 b10 "com/example/compact_settings/compactsettings/extender/Written" "fingerprint" "Ljava/lang/String;" .null := D10 (Or.inr (hw _ (List.mem_of_getElem? (i := 35) rfl))) (ty := (.object "java/lang/String")) (by decide)
        have F10_adminBundle : Fld Z h10 b10 "com/example/compact_settings/compactsettings/extender/Written" "adminBundle" "J" (.long (0 : Int64)) := D10 (Or.inr (hw _ (List.mem_of_getElem? (i := 37) rfl))) (ty := .long) (by decide)
        obtain ⟨_, _, ⟨T11, L11, k11, n11⟩, -, X11, hS11, gr11, ⟨Lc11, hQ11, l11, y11, z11, Cq11⟩, st11⟩ := X10.specialBackS hx (y := (⟨"com/example/compact_settings/compactsettings/extender/Written", "<init>", "(JLcom/example/compact_settings/compactsettings/Policy;Ljava/lang/String;J)V"⟩ : MethodName)) rfl hown (mvT hZ (hw _ (List.mem_of_getElem? (i := 7) rfl))) (mvT hZ (hw _ (List.mem_of_getElem? (i := 8) rfl))) (mvT hZ (hw _ (List.mem_of_getElem? (i := 9) rfl))) (by decide) (backOfSH (W := 1) (rm1 l Z a0 hw [] b10 u2 a_FORCE u4 h10 n0 Z10 g_b10 A10 F10_changeCount F10_policy F10_fingerprint F10_adminBundle) hZ (hw _ (List.mem_of_getElem? (i := 9) rfl)) (hw _ (List.mem_of_getElem? (i := 6) rfl)) (by decide) (by decide) (hEL hw) C10.1) (g := (mkF m 68 #[.val (.int u0), .val (.int u1), .val (.long u2), .second, .val (.long u3), .second, .val (.long u4), .second, .val (.int ((u0 &&& (2147483647 : Int32)) % (3 : Int32))), .val v2_0, .val (.ref a_FORCE), .unset, .unset, .unset, .unset, .unset, .unset] [(.long u4), .null, (.ref a_FORCE), (.long u2), (.ref b10), (.ref b10)])) rfl (by rw [hml]; rfl) (Steps.refl _) (a := b10) (argsL := [(.long u2), (.ref a_FORCE), .null, (.long u4)]) (rest := [(.ref b10)]) (lenOf pd_7 rfl) rfl (by show 2 * 0 + _ ≤ _; exact Nat.le_of_eq rfl) (hb hby at_68) (fun _ _ => ⟨rfl, e10, (by decide : 1 + 2 ≤ _), (by decide : 4 + 28 ≤ _)⟩)
        dsimp only [Pt.U, Pt.locs, Pt.cells, Pt.slots] at X11 l11 y11 z11 st11 hQ11 hS11 gr11 Cq11
        replace y11 : k11 = 3 := y11
        replace z11 : n11 = 32 := z11
        rw [y11, z11] at X11
        obtain ⟨X11, hS11, hZ, hown⟩ := rebS hS2 (Nat.le_trans hk10 (Nat.le_of_eq (congrArg Array.size e10).symm)) X11 hS11 gr11 hZ hown
        have hk11 := Nat.le_refl T11.heap.size
        obtain ⟨rfl, N11q, K11, A11, F11_changeCount, F11_policy, F11_fingerprint, F11_adminBundle⟩ := hQ11
        have N11 : Fr n0 L11 := l11 ▸ Fr.app N2 N11q
        have Z11 : n0 ≤ T11.heap.size := Nat.le_trans Z10 K11.1
        have KK11 := KK10.trans K11 (allS (P := fun x => x ∈ [] ∨ h2.size ≤ x) (Or.inr sz_b10) all0)
        have O11 := O10.keep K11 (allS g_b10 all0)
        have C11 := C10.trans Cq11
        refine ⟨_, T11, T11.heap, _, _, (.ref a_FORCE), (.ref b10), X11.mono (by decide) (by decide), rfl, KK11, N11, hS11, hk11, hZ, hown, C11, rfl, rfl, fun target kt => ?_⟩
        show Steps p.tables e below (T2.setTop (mkF m 34 #[.val (.int u0), .val (.int u1), .val (.long u2), .second, .val (.long u3), .second, .val (.long u4), .second, .val (.int ((u0 &&& (2147483647 : Int32)) % (3 : Int32))), .val v2_0, .unset, .unset, .unset, .unset, .unset, .unset, .unset] [])) _
        refine XS.iloadN X2.here hx rfl (hb hby at_34) rfl ?_
        show Steps p.tables e below (T2.setTop (mkF m 35 #[.val (.int u0), .val (.int u1), .val (.long u2), .second, .val (.long u3), .second, .val (.long u4), .second, .val (.int ((u0 &&& (2147483647 : Int32)) % (3 : Int32))), .val v2_0, .unset, .unset, .unset, .unset, .unset, .unset, .unset] [(.int u1)])) _
        refine XS.bipush X2.here hx rfl (hb hby at_35) ?_
        show Steps p.tables e below (T2.setTop (mkF m 37 #[.val (.int u0), .val (.int u1), .val (.long u2), .second, .val (.long u3), .second, .val (.long u4), .second, .val (.int ((u0 &&& (2147483647 : Int32)) % (3 : Int32))), .val v2_0, .unset, .unset, .unset, .unset, .unset, .unset, .unset] [(.int (8 : Int32)), (.int u1)])) _
        refine XS.iand X2.here hx rfl (hb hby at_37) rfl ?_
        show Steps p.tables e below (T2.setTop (mkF m 38 #[.val (.int u0), .val (.int u1), .val (.long u2), .second, .val (.long u3), .second, .val (.long u4), .second, .val (.int ((u0 &&& (2147483647 : Int32)) % (3 : Int32))), .val v2_0, .unset, .unset, .unset, .unset, .unset, .unset, .unset] [(.int (u1 &&& (8 : Int32)))])) _
        refine XS.ifNo X2.here hx rfl (hb hby at_38) rfl ((if0 _ _).trans (feq hc38).1) ?_
        show Steps p.tables e below (T2.setTop (mkF m 41 #[.val (.int u0), .val (.int u1), .val (.long u2), .second, .val (.long u3), .second, .val (.long u4), .second, .val (.int ((u0 &&& (2147483647 : Int32)) % (3 : Int32))), .val v2_0, .unset, .unset, .unset, .unset, .unset, .unset, .unset] [])) _
        refine st9 _ ?_
        show Steps p.tables e below (T9.setTop (mkF m 44 #[.val (.int u0), .val (.int u1), .val (.long u2), .second, .val (.long u3), .second, .val (.long u4), .second, .val (.int ((u0 &&& (2147483647 : Int32)) % (3 : Int32))), .val v2_0, .unset, .unset, .unset, .unset, .unset, .unset, .unset] [(.ref a_FORCE)])) _
        refine XS.goto X9.here hx rfl (pc0 := 44) (pc' := 50) rfl (hb hby at_44) (by decide) (by decide) ?_
        show Steps p.tables e below (T9.setTop (mkF m 50 #[.val (.int u0), .val (.int u1), .val (.long u2), .second, .val (.long u3), .second, .val (.long u4), .second, .val (.int ((u0 &&& (2147483647 : Int32)) % (3 : Int32))), .val v2_0, .unset, .unset, .unset, .unset, .unset, .unset, .unset] [(.ref a_FORCE)])) _
        refine XS.astore X9.here hx rfl (hb hby at_50) rfl rfl (l' := #[.val (.int u0), .val (.int u1), .val (.long u2), .second, .val (.long u3), .second, .val (.long u4), .second, .val (.int ((u0 &&& (2147483647 : Int32)) % (3 : Int32))), .val v2_0, .val (.ref a_FORCE), .unset, .unset, .unset, .unset, .unset, .unset]) rfl ?_
        show Steps p.tables e below (T9.setTop (mkF m 52 #[.val (.int u0), .val (.int u1), .val (.long u2), .second, .val (.long u3), .second, .val (.long u4), .second, .val (.int ((u0 &&& (2147483647 : Int32)) % (3 : Int32))), .val v2_0, .val (.ref a_FORCE), .unset, .unset, .unset, .unset, .unset, .unset] [])) _
        refine XS.iloadN X9.here hx rfl (hb hby at_52) rfl ?_
        show Steps p.tables e below (T9.setTop (mkF m 53 #[.val (.int u0), .val (.int u1), .val (.long u2), .second, .val (.long u3), .second, .val (.long u4), .second, .val (.int ((u0 &&& (2147483647 : Int32)) % (3 : Int32))), .val v2_0, .val (.ref a_FORCE), .unset, .unset, .unset, .unset, .unset, .unset] [(.int u1)])) _
        refine XS.iconst X9.here hx rfl (hb hby at_53) ?_
        show Steps p.tables e below (T9.setTop (mkF m 54 #[.val (.int u0), .val (.int u1), .val (.long u2), .second, .val (.long u3), .second, .val (.long u4), .second, .val (.int ((u0 &&& (2147483647 : Int32)) % (3 : Int32))), .val v2_0, .val (.ref a_FORCE), .unset, .unset, .unset, .unset, .unset, .unset] [(.int (1 : Int32)), (.int u1)])) _
        refine XS.iand X9.here hx rfl (hb hby at_54) rfl ?_
        show Steps p.tables e below (T9.setTop (mkF m 55 #[.val (.int u0), .val (.int u1), .val (.long u2), .second, .val (.long u3), .second, .val (.long u4), .second, .val (.int ((u0 &&& (2147483647 : Int32)) % (3 : Int32))), .val v2_0, .val (.ref a_FORCE), .unset, .unset, .unset, .unset, .unset, .unset] [(.int (u1 &&& (1 : Int32)))])) _
        refine XS.ifNo X9.here hx rfl (hb hby at_55) rfl ((if0 _ _).trans (feq hc55).1) ?_
        show Steps p.tables e below (T9.setTop (mkF m 58 #[.val (.int u0), .val (.int u1), .val (.long u2), .second, .val (.long u3), .second, .val (.long u4), .second, .val (.int ((u0 &&& (2147483647 : Int32)) % (3 : Int32))), .val v2_0, .val (.ref a_FORCE), .unset, .unset, .unset, .unset, .unset, .unset] [])) _
        refine st10 _ ?_
        show Steps p.tables e below (T10.setTop (mkF m 61 #[.val (.int u0), .val (.int u1), .val (.long u2), .second, .val (.long u3), .second, .val (.long u4), .second, .val (.int ((u0 &&& (2147483647 : Int32)) % (3 : Int32))), .val v2_0, .val (.ref a_FORCE), .unset, .unset, .unset, .unset, .unset, .unset] [(.ref b10)])) _
        refine XS.dup X10.here hx rfl (hb hby at_61) rfl rfl ?_
        show Steps p.tables e below (T10.setTop (mkF m 62 #[.val (.int u0), .val (.int u1), .val (.long u2), .second, .val (.long u3), .second, .val (.long u4), .second, .val (.int ((u0 &&& (2147483647 : Int32)) % (3 : Int32))), .val v2_0, .val (.ref a_FORCE), .unset, .unset, .unset, .unset, .unset, .unset] [(.ref b10), (.ref b10)])) _
        refine XS.lloadN X10.here hx rfl (hb hby at_62) rfl ?_
        show Steps p.tables e below (T10.setTop (mkF m 63 #[.val (.int u0), .val (.int u1), .val (.long u2), .second, .val (.long u3), .second, .val (.long u4), .second, .val (.int ((u0 &&& (2147483647 : Int32)) % (3 : Int32))), .val v2_0, .val (.ref a_FORCE), .unset, .unset, .unset, .unset, .unset, .unset] [(.long u2), (.ref b10), (.ref b10)])) _
        refine XS.aload X10.here hx rfl (hb hby at_63) rfl rfl ?_
        show Steps p.tables e below (T10.setTop (mkF m 65 #[.val (.int u0), .val (.int u1), .val (.long u2), .second, .val (.long u3), .second, .val (.long u4), .second, .val (.int ((u0 &&& (2147483647 : Int32)) % (3 : Int32))), .val v2_0, .val (.ref a_FORCE), .unset, .unset, .unset, .unset, .unset, .unset] [(.ref a_FORCE), (.long u2), (.ref b10), (.ref b10)])) _
        refine XS.aconstNull X10.here hx rfl (hb hby at_65) ?_
        show Steps p.tables e below (T10.setTop (mkF m 66 #[.val (.int u0), .val (.int u1), .val (.long u2), .second, .val (.long u3), .second, .val (.long u4), .second, .val (.int ((u0 &&& (2147483647 : Int32)) % (3 : Int32))), .val v2_0, .val (.ref a_FORCE), .unset, .unset, .unset, .unset, .unset, .unset] [.null, (.ref a_FORCE), (.long u2), (.ref b10), (.ref b10)])) _
        refine XS.lload X10.here hx rfl (hb hby at_66) rfl ?_
        show Steps p.tables e below (T10.setTop (mkF m 68 #[.val (.int u0), .val (.int u1), .val (.long u2), .second, .val (.long u3), .second, .val (.long u4), .second, .val (.int ((u0 &&& (2147483647 : Int32)) % (3 : Int32))), .val v2_0, .val (.ref a_FORCE), .unset, .unset, .unset, .unset, .unset, .unset] [(.long u4), .null, (.ref a_FORCE), (.long u2), (.ref b10), (.ref b10)])) _
        refine st11.trans ?_
        show Steps p.tables e below (T11.setTop (mkF m 71 #[.val (.int u0), .val (.int u1), .val (.long u2), .second, .val (.long u3), .second, .val (.long u4), .second, .val (.int ((u0 &&& (2147483647 : Int32)) % (3 : Int32))), .val v2_0, .val (.ref a_FORCE), .unset, .unset, .unset, .unset, .unset, .unset] [(.ref b10)])) _
        refine XS.goto X11.here hx rfl (pc0 := 71) (pc' := 75) rfl (hb hby at_71) (by decide) (by decide) ?_
        show Steps p.tables e below (T11.setTop (mkF m 75 #[.val (.int u0), .val (.int u1), .val (.long u2), .second, .val (.long u3), .second, .val (.long u4), .second, .val (.int ((u0 &&& (2147483647 : Int32)) % (3 : Int32))), .val v2_0, .val (.ref a_FORCE), .unset, .unset, .unset, .unset, .unset, .unset] [(.ref b10)])) _
        refine XS.astore X11.here hx rfl (hb hby at_75) rfl rfl (l' := #[.val (.int u0), .val (.int u1), .val (.long u2), .second, .val (.long u3), .second, .val (.long u4), .second, .val (.int ((u0 &&& (2147483647 : Int32)) % (3 : Int32))), .val v2_0, .val (.ref a_FORCE), .val (.ref b10), .unset, .unset, .unset, .unset, .unset]) rfl ?_
        exact kt
  have Z5 : n0 ≤ h5.size := Nat.le_trans Z2 K5.1
  have KK5 := KK2.trans K5 all0
  have O5 := O2.keep K5 all0
  have C5 := C2.trans Cq5
  obtain ⟨vm12, T12, h12, locs12, q12, v12_0, X12, e12, K12, N12, hS12, hk12, hZ, hown, Cq12, rf12_0, st12⟩ : ∃ (vm' : Vm) (T' : State) (h' : Heap) (locs' : List Loc) (q' : Nat) (v12_0 : Value), Stand p l e room_1 (s.setVm vm') m #[(.int u0), (.int u1), (.long u2), (.long u3), (.long u4)] below meth c T' locs' 5 37 ∧ T'.heap = h' ∧ Keep h5 h' [] ∧ Fr n0 locs' ∧ s.Since vm' q' ∧ q' ≤ h'.size ∧ Z.Warmed39 (s.setVm vm').vm ∧ (s.setVm vm').vm.findClass "com/example/compact_settings/compactsettings/extender/IntentIsDeletionPinLaw" = some m.cls ∧ CHr Z EL vm5 h5 vm' h' ∧ v12_0.isRef = true ∧ ∀ target, Steps p.tables e below (T'.setTop (mkF m 101 #[.val (.int u0), .val (.int u1), .val (.long u2), .second, .val (.long u3), .second, .val (.long u4), .second, .val (.int ((u0 &&& (2147483647 : Int32)) % (3 : Int32))), .val v2_0, .val v5_0, .val v5_1, .val v12_0, .unset, .unset, .unset, .unset] [])) target → Steps p.tables e below (T5.setTop (mkF m 77 #[.val (.int u0), .val (.int u1), .val (.long u2), .second, .val (.long u3), .second, .val (.long u4), .second, .val (.int ((u0 &&& (2147483647 : Int32)) % (3 : Int32))), .val v2_0, .val v5_0, .val v5_1, .unset, .unset, .unset, .unset, .unset] [])) target := by
    by_cases hc80 : (u1 &&& (2 : Int32)) = (0 : Int32)
    · refine ⟨_, T5, h5, _, _, .null, X5.mono (by decide) (by decide), e5, (Keep.refl h5 []), N5, hS5, hk5, hZ, hown, (CHr.refl C5.1), rfl, fun target kt => ?_⟩
      show Steps p.tables e below (T5.setTop (mkF m 77 #[.val (.int u0), .val (.int u1), .val (.long u2), .second, .val (.long u3), .second, .val (.long u4), .second, .val (.int ((u0 &&& (2147483647 : Int32)) % (3 : Int32))), .val v2_0, .val v5_0, .val v5_1, .unset, .unset, .unset, .unset, .unset] [])) _
      refine XS.iloadN X5.here hx rfl (hb hby at_77) rfl ?_
      show Steps p.tables e below (T5.setTop (mkF m 78 #[.val (.int u0), .val (.int u1), .val (.long u2), .second, .val (.long u3), .second, .val (.long u4), .second, .val (.int ((u0 &&& (2147483647 : Int32)) % (3 : Int32))), .val v2_0, .val v5_0, .val v5_1, .unset, .unset, .unset, .unset, .unset] [(.int u1)])) _
      refine XS.iconst X5.here hx rfl (hb hby at_78) ?_
      show Steps p.tables e below (T5.setTop (mkF m 79 #[.val (.int u0), .val (.int u1), .val (.long u2), .second, .val (.long u3), .second, .val (.long u4), .second, .val (.int ((u0 &&& (2147483647 : Int32)) % (3 : Int32))), .val v2_0, .val v5_0, .val v5_1, .unset, .unset, .unset, .unset, .unset] [(.int (2 : Int32)), (.int u1)])) _
      refine XS.iand X5.here hx rfl (hb hby at_79) rfl ?_
      show Steps p.tables e below (T5.setTop (mkF m 80 #[.val (.int u0), .val (.int u1), .val (.long u2), .second, .val (.long u3), .second, .val (.long u4), .second, .val (.int ((u0 &&& (2147483647 : Int32)) % (3 : Int32))), .val v2_0, .val v5_0, .val v5_1, .unset, .unset, .unset, .unset, .unset] [(.int (u1 &&& (2 : Int32)))])) _
      refine XS.ifYes X5.here hx rfl (pc0 := 80) (pc' := 98) rfl (hb hby at_80) rfl ((if0 _ _).trans (teq hc80).1) (by decide) (by decide) ?_
      show Steps p.tables e below (T5.setTop (mkF m 98 #[.val (.int u0), .val (.int u1), .val (.long u2), .second, .val (.long u3), .second, .val (.long u4), .second, .val (.int ((u0 &&& (2147483647 : Int32)) % (3 : Int32))), .val v2_0, .val v5_0, .val v5_1, .unset, .unset, .unset, .unset, .unset] [])) _
      refine XS.aconstNull X5.here hx rfl (hb hby at_98) ?_
      show Steps p.tables e below (T5.setTop (mkF m 99 #[.val (.int u0), .val (.int u1), .val (.long u2), .second, .val (.long u3), .second, .val (.long u4), .second, .val (.int ((u0 &&& (2147483647 : Int32)) % (3 : Int32))), .val v2_0, .val v5_0, .val v5_1, .unset, .unset, .unset, .unset, .unset] [.null])) _
      refine XS.astore X5.here hx rfl (hb hby at_99) rfl rfl (l' := #[.val (.int u0), .val (.int u1), .val (.long u2), .second, .val (.long u3), .second, .val (.long u4), .second, .val (.int ((u0 &&& (2147483647 : Int32)) % (3 : Int32))), .val v2_0, .val v5_0, .val v5_1, .val .null, .unset, .unset, .unset, .unset]) rfl ?_
      exact kt
    · obtain ⟨_, _, ⟨T13, L13, k13, n13⟩, -, X13, ⟨Lc13, hQ13, l13, y13, z13⟩, st13⟩ := Jvm.LawKit.callS X5 hx (y := (⟨"java/lang/String", "valueOf", "(C)Ljava/lang/String;"⟩ : MethodName)) hown (mvT hZ (hw _ (List.mem_of_getElem? (i := 38) rfl))) (mvT hZ (hw _ (List.mem_of_getElem? (i := 39) rfl))) (mvT hZ (hw _ (List.mem_of_getElem? (i := 19) rfl))) (mvT hZ (hw _ (List.mem_of_getElem? (i := 40) rfl))) (by decide) (backOf (W := 0) (rm5 l Z a0 hw [] ((((u1.toUInt32 >>> ((8 : Int32) &&& 31).toUInt32).toInt32) &&& (255 : Int32)).toUInt32.toUInt16.toUInt32.toInt32) G_COMPACT h5 n0 Z5 O5 S_COMPACT P_COMPACT (own_chx _)) hZ (hw _ (List.mem_of_getElem? (i := 40) rfl)) (hw _ (List.mem_of_getElem? (i := 19) rfl)) (by decide) (by decide)) (g := (mkF m 92 #[.val (.int u0), .val (.int u1), .val (.long u2), .second, .val (.long u3), .second, .val (.long u4), .second, .val (.int ((u0 &&& (2147483647 : Int32)) % (3 : Int32))), .val v2_0, .val v5_0, .val v5_1, .unset, .unset, .unset, .unset, .unset] [(.int ((((u1.toUInt32 >>> ((8 : Int32) &&& 31).toUInt32).toInt32) &&& (255 : Int32)).toUInt32.toUInt16.toUInt32.toInt32))])) rfl (by rw [hml]; rfl) (argsL := [(.int ((((u1.toUInt32 >>> ((8 : Int32) &&& 31).toUInt32).toInt32) &&& (255 : Int32)).toUInt32.toUInt16.toUInt32.toInt32))]) (rest := []) (lenOf pd_2 rfl) rfl (by show 2 * 0 + _ ≤ _; exact Nat.le_of_eq rfl) (hb hby at_92) (fun _ _ => ⟨rfl, e5, (by decide : 3 + 2 ≤ _), (by decide : 32 + 5 ≤ _)⟩)
      dsimp only [Pt.U, Pt.locs, Pt.cells, Pt.slots] at X13 l13 y13 z13 st13 hQ13
      replace y13 : k13 = 5 := y13
      replace z13 : n13 = 37 := z13
      rw [y13, z13] at X13
      obtain ⟨hv13, N13q, K13⟩ := hQ13
      obtain ⟨b13, g13⟩ : ∃ z, z = h5.size := ⟨_, rfl⟩
      rw [← g13] at hv13
      subst hv13
      have N13 : Fr n0 L13 := l13 ▸ Fr.app N5 N13q
      have Z13 : n0 ≤ T13.heap.size := Nat.le_trans Z5 K13.1
      have KK13 := (Keep.refl h5 []).trans K13 all0
      have O13 := O5.keep K13 all0
      have C13 := (CHr.refl C5.1).trans (CHr.keep K13 sf0 (CHr.refl C5.1).1)
      have hk13 := Nat.le_trans hk5 K13.1
      refine ⟨_, T13, T13.heap, _, _, (.ref b13), X13.mono (by decide) (by decide), rfl, KK13, N13, hS5, hk13, hZ, hown, C13, rfl, fun target kt => ?_⟩
      show Steps p.tables e below (T5.setTop (mkF m 77 #[.val (.int u0), .val (.int u1), .val (.long u2), .second, .val (.long u3), .second, .val (.long u4), .second, .val (.int ((u0 &&& (2147483647 : Int32)) % (3 : Int32))), .val v2_0, .val v5_0, .val v5_1, .unset, .unset, .unset, .unset, .unset] [])) _
      refine XS.iloadN X5.here hx rfl (hb hby at_77) rfl ?_
      show Steps p.tables e below (T5.setTop (mkF m 78 #[.val (.int u0), .val (.int u1), .val (.long u2), .second, .val (.long u3), .second, .val (.long u4), .second, .val (.int ((u0 &&& (2147483647 : Int32)) % (3 : Int32))), .val v2_0, .val v5_0, .val v5_1, .unset, .unset, .unset, .unset, .unset] [(.int u1)])) _
      refine XS.iconst X5.here hx rfl (hb hby at_78) ?_
      show Steps p.tables e below (T5.setTop (mkF m 79 #[.val (.int u0), .val (.int u1), .val (.long u2), .second, .val (.long u3), .second, .val (.long u4), .second, .val (.int ((u0 &&& (2147483647 : Int32)) % (3 : Int32))), .val v2_0, .val v5_0, .val v5_1, .unset, .unset, .unset, .unset, .unset] [(.int (2 : Int32)), (.int u1)])) _
      refine XS.iand X5.here hx rfl (hb hby at_79) rfl ?_
      show Steps p.tables e below (T5.setTop (mkF m 80 #[.val (.int u0), .val (.int u1), .val (.long u2), .second, .val (.long u3), .second, .val (.long u4), .second, .val (.int ((u0 &&& (2147483647 : Int32)) % (3 : Int32))), .val v2_0, .val v5_0, .val v5_1, .unset, .unset, .unset, .unset, .unset] [(.int (u1 &&& (2 : Int32)))])) _
      refine XS.ifNo X5.here hx rfl (hb hby at_80) rfl ((if0 _ _).trans (feq hc80).1) ?_
      show Steps p.tables e below (T5.setTop (mkF m 83 #[.val (.int u0), .val (.int u1), .val (.long u2), .second, .val (.long u3), .second, .val (.long u4), .second, .val (.int ((u0 &&& (2147483647 : Int32)) % (3 : Int32))), .val v2_0, .val v5_0, .val v5_1, .unset, .unset, .unset, .unset, .unset] [])) _
      refine XS.iloadN X5.here hx rfl (hb hby at_83) rfl ?_
      show Steps p.tables e below (T5.setTop (mkF m 84 #[.val (.int u0), .val (.int u1), .val (.long u2), .second, .val (.long u3), .second, .val (.long u4), .second, .val (.int ((u0 &&& (2147483647 : Int32)) % (3 : Int32))), .val v2_0, .val v5_0, .val v5_1, .unset, .unset, .unset, .unset, .unset] [(.int u1)])) _
      refine XS.bipush X5.here hx rfl (hb hby at_84) ?_
      show Steps p.tables e below (T5.setTop (mkF m 86 #[.val (.int u0), .val (.int u1), .val (.long u2), .second, .val (.long u3), .second, .val (.long u4), .second, .val (.int ((u0 &&& (2147483647 : Int32)) % (3 : Int32))), .val v2_0, .val v5_0, .val v5_1, .unset, .unset, .unset, .unset, .unset] [(.int (8 : Int32)), (.int u1)])) _
      refine XS.iushr X5.here hx rfl (hb hby at_86) rfl ?_
      show Steps p.tables e below (T5.setTop (mkF m 87 #[.val (.int u0), .val (.int u1), .val (.long u2), .second, .val (.long u3), .second, .val (.long u4), .second, .val (.int ((u0 &&& (2147483647 : Int32)) % (3 : Int32))), .val v2_0, .val v5_0, .val v5_1, .unset, .unset, .unset, .unset, .unset] [(.int ((u1.toUInt32 >>> ((8 : Int32) &&& 31).toUInt32).toInt32))])) _
      refine XS.sipush X5.here hx rfl (hb hby at_87) ?_
      show Steps p.tables e below (T5.setTop (mkF m 90 #[.val (.int u0), .val (.int u1), .val (.long u2), .second, .val (.long u3), .second, .val (.long u4), .second, .val (.int ((u0 &&& (2147483647 : Int32)) % (3 : Int32))), .val v2_0, .val v5_0, .val v5_1, .unset, .unset, .unset, .unset, .unset] [(.int (255 : Int32)), (.int ((u1.toUInt32 >>> ((8 : Int32) &&& 31).toUInt32).toInt32))])) _
      refine XS.iand X5.here hx rfl (hb hby at_90) rfl ?_
      show Steps p.tables e below (T5.setTop (mkF m 91 #[.val (.int u0), .val (.int u1), .val (.long u2), .second, .val (.long u3), .second, .val (.long u4), .second, .val (.int ((u0 &&& (2147483647 : Int32)) % (3 : Int32))), .val v2_0, .val v5_0, .val v5_1, .unset, .unset, .unset, .unset, .unset] [(.int (((u1.toUInt32 >>> ((8 : Int32) &&& 31).toUInt32).toInt32) &&& (255 : Int32)))])) _
      refine XS.i2c X5.here hx rfl (hb hby at_91) rfl ?_
      show Steps p.tables e below (T5.setTop (mkF m 92 #[.val (.int u0), .val (.int u1), .val (.long u2), .second, .val (.long u3), .second, .val (.long u4), .second, .val (.int ((u0 &&& (2147483647 : Int32)) % (3 : Int32))), .val v2_0, .val v5_0, .val v5_1, .unset, .unset, .unset, .unset, .unset] [(.int ((((u1.toUInt32 >>> ((8 : Int32) &&& 31).toUInt32).toInt32) &&& (255 : Int32)).toUInt32.toUInt16.toUInt32.toInt32))])) _
      refine st13 _ ?_
      show Steps p.tables e below (T13.setTop (mkF m 95 #[.val (.int u0), .val (.int u1), .val (.long u2), .second, .val (.long u3), .second, .val (.long u4), .second, .val (.int ((u0 &&& (2147483647 : Int32)) % (3 : Int32))), .val v2_0, .val v5_0, .val v5_1, .unset, .unset, .unset, .unset, .unset] [(.ref b13)])) _
      refine XS.goto X13.here hx rfl (pc0 := 95) (pc' := 99) rfl (hb hby at_95) (by decide) (by decide) ?_
      show Steps p.tables e below (T13.setTop (mkF m 99 #[.val (.int u0), .val (.int u1), .val (.long u2), .second, .val (.long u3), .second, .val (.long u4), .second, .val (.int ((u0 &&& (2147483647 : Int32)) % (3 : Int32))), .val v2_0, .val v5_0, .val v5_1, .unset, .unset, .unset, .unset, .unset] [(.ref b13)])) _
      refine XS.astore X13.here hx rfl (hb hby at_99) rfl rfl (l' := #[.val (.int u0), .val (.int u1), .val (.long u2), .second, .val (.long u3), .second, .val (.long u4), .second, .val (.int ((u0 &&& (2147483647 : Int32)) % (3 : Int32))), .val v2_0, .val v5_0, .val v5_1, .val (.ref b13), .unset, .unset, .unset, .unset]) rfl ?_
      exact kt
  have Z12 : n0 ≤ h12.size := Nat.le_trans Z5 K12.1
  have KK12 := KK5.trans K12 all0
  have O12 := O5.keep K12 all0
  have C12 := C5.trans Cq12
  obtain ⟨vm14, T14, h14, locs14, q14, v14_0, X14, e14, K14, N14, hS14, hk14, hZ, hown, Cq14, rf14_0, st14⟩ : ∃ (vm' : Vm) (T' : State) (h' : Heap) (locs' : List Loc) (q' : Nat) (v14_0 : Value), Stand p l e room_1 (s.setVm vm') m #[(.int u0), (.int u1), (.long u2), (.long u3), (.long u4)] below meth c T' locs' 6 38 ∧ T'.heap = h' ∧ Keep h12 h' [] ∧ Fr n0 locs' ∧ s.Since vm' q' ∧ q' ≤ h'.size ∧ Z.Warmed39 (s.setVm vm').vm ∧ (s.setVm vm').vm.findClass "com/example/compact_settings/compactsettings/extender/IntentIsDeletionPinLaw" = some m.cls ∧ CHr Z EL vm12 h12 vm' h' ∧ v14_0.isRef = true ∧ ∀ target, Steps p.tables e below (T'.setTop (mkF m 118 #[.val (.int u0), .val (.int u1), .val (.long u2), .second, .val (.long u3), .second, .val (.long u4), .second, .val (.int ((u0 &&& (2147483647 : Int32)) % (3 : Int32))), .val v2_0, .val v5_0, .val v5_1, .val v12_0, .val v14_0, .unset, .unset, .unset] [])) target → Steps p.tables e below (T12.setTop (mkF m 101 #[.val (.int u0), .val (.int u1), .val (.long u2), .second, .val (.long u3), .second, .val (.long u4), .second, .val (.int ((u0 &&& (2147483647 : Int32)) % (3 : Int32))), .val v2_0, .val v5_0, .val v5_1, .val v12_0, .unset, .unset, .unset, .unset] [])) target := by
    by_cases hc104 : (u1 &&& (4 : Int32)) = (0 : Int32)
    · refine ⟨_, T12, h12, _, _, .null, X12.mono (by decide) (by decide), e12, (Keep.refl h12 []), N12, hS12, hk12, hZ, hown, (CHr.refl C12.1), rfl, fun target kt => ?_⟩
      show Steps p.tables e below (T12.setTop (mkF m 101 #[.val (.int u0), .val (.int u1), .val (.long u2), .second, .val (.long u3), .second, .val (.long u4), .second, .val (.int ((u0 &&& (2147483647 : Int32)) % (3 : Int32))), .val v2_0, .val v5_0, .val v5_1, .val v12_0, .unset, .unset, .unset, .unset] [])) _
      refine XS.iloadN X12.here hx rfl (hb hby at_101) rfl ?_
      show Steps p.tables e below (T12.setTop (mkF m 102 #[.val (.int u0), .val (.int u1), .val (.long u2), .second, .val (.long u3), .second, .val (.long u4), .second, .val (.int ((u0 &&& (2147483647 : Int32)) % (3 : Int32))), .val v2_0, .val v5_0, .val v5_1, .val v12_0, .unset, .unset, .unset, .unset] [(.int u1)])) _
      refine XS.iconst X12.here hx rfl (hb hby at_102) ?_
      show Steps p.tables e below (T12.setTop (mkF m 103 #[.val (.int u0), .val (.int u1), .val (.long u2), .second, .val (.long u3), .second, .val (.long u4), .second, .val (.int ((u0 &&& (2147483647 : Int32)) % (3 : Int32))), .val v2_0, .val v5_0, .val v5_1, .val v12_0, .unset, .unset, .unset, .unset] [(.int (4 : Int32)), (.int u1)])) _
      refine XS.iand X12.here hx rfl (hb hby at_103) rfl ?_
      show Steps p.tables e below (T12.setTop (mkF m 104 #[.val (.int u0), .val (.int u1), .val (.long u2), .second, .val (.long u3), .second, .val (.long u4), .second, .val (.int ((u0 &&& (2147483647 : Int32)) % (3 : Int32))), .val v2_0, .val v5_0, .val v5_1, .val v12_0, .unset, .unset, .unset, .unset] [(.int (u1 &&& (4 : Int32)))])) _
      refine XS.ifYes X12.here hx rfl (pc0 := 104) (pc' := 115) rfl (hb hby at_104) rfl ((if0 _ _).trans (teq hc104).1) (by decide) (by decide) ?_
      show Steps p.tables e below (T12.setTop (mkF m 115 #[.val (.int u0), .val (.int u1), .val (.long u2), .second, .val (.long u3), .second, .val (.long u4), .second, .val (.int ((u0 &&& (2147483647 : Int32)) % (3 : Int32))), .val v2_0, .val v5_0, .val v5_1, .val v12_0, .unset, .unset, .unset, .unset] [])) _
      refine XS.aconstNull X12.here hx rfl (hb hby at_115) ?_
      show Steps p.tables e below (T12.setTop (mkF m 116 #[.val (.int u0), .val (.int u1), .val (.long u2), .second, .val (.long u3), .second, .val (.long u4), .second, .val (.int ((u0 &&& (2147483647 : Int32)) % (3 : Int32))), .val v2_0, .val v5_0, .val v5_1, .val v12_0, .unset, .unset, .unset, .unset] [.null])) _
      refine XS.astore X12.here hx rfl (hb hby at_116) rfl rfl (l' := #[.val (.int u0), .val (.int u1), .val (.long u2), .second, .val (.long u3), .second, .val (.long u4), .second, .val (.int ((u0 &&& (2147483647 : Int32)) % (3 : Int32))), .val v2_0, .val v5_0, .val v5_1, .val v12_0, .val .null, .unset, .unset, .unset]) rfl ?_
      exact kt
    · obtain ⟨_, _, ⟨T15, L15, k15, n15⟩, -, X15, ⟨Lc15, hQ15, l15, y15, z15⟩, st15⟩ := Jvm.LawKit.callS X12 hx (y := (⟨"java/lang/Long", "valueOf", "(J)Ljava/lang/Long;"⟩ : MethodName)) hown (mvT hZ (hw _ (List.mem_of_getElem? (i := 86) rfl))) (mvT hZ (hw _ (List.mem_of_getElem? (i := 87) rfl))) (mvT hZ (hw _ (List.mem_of_getElem? (i := 88) rfl))) (mvT hZ (hw _ (List.mem_of_getElem? (i := 89) rfl))) (by decide) (backOf (W := 0) (rm12 l Z a0 hw [] u3 a_CACHE c_CACHE vf h12 n0 Z12 O12 S_CACHE B_CACHE) hZ (hw _ (List.mem_of_getElem? (i := 89) rfl)) (hw _ (List.mem_of_getElem? (i := 88) rfl)) (by decide) (by decide)) (g := (mkF m 109 #[.val (.int u0), .val (.int u1), .val (.long u2), .second, .val (.long u3), .second, .val (.long u4), .second, .val (.int ((u0 &&& (2147483647 : Int32)) % (3 : Int32))), .val v2_0, .val v5_0, .val v5_1, .val v12_0, .unset, .unset, .unset, .unset] [(.long u3)])) rfl (by rw [hml]; rfl) (argsL := [(.long u3)]) (rest := []) (lenOf pd_5 rfl) rfl (by show 2 * 0 + _ ≤ _; exact Nat.le_of_eq rfl) (hb hby at_109) (fun _ _ => ⟨rfl, e12, (by decide : 5 + 1 ≤ _), (by decide : 37 + 1 ≤ _)⟩)
      dsimp only [Pt.U, Pt.locs, Pt.cells, Pt.slots] at X15 l15 y15 z15 st15 hQ15
      replace y15 : k15 = 6 := y15
      replace z15 : n15 = 38 := z15
      rw [y15, z15] at X15
      obtain ⟨bx15, rfl, N15q, K15⟩ := hQ15
      have N15 : Fr n0 L15 := l15 ▸ Fr.app N12 N15q
      have Z15 : n0 ≤ T15.heap.size := Nat.le_trans Z12 K15.1
      have KK15 := (Keep.refl h12 []).trans K15 all0
      have O15 := O12.keep K15 all0
      have C15 := (CHr.refl C12.1).trans (CHr.keep K15 sf0 (CHr.refl C12.1).1)
      have hk15 := Nat.le_trans hk12 K15.1
      refine ⟨_, T15, T15.heap, _, _, (.ref bx15), X15.mono (by decide) (by decide), rfl, KK15, N15, hS12, hk15, hZ, hown, C15, rfl, fun target kt => ?_⟩
      show Steps p.tables e below (T12.setTop (mkF m 101 #[.val (.int u0), .val (.int u1), .val (.long u2), .second, .val (.long u3), .second, .val (.long u4), .second, .val (.int ((u0 &&& (2147483647 : Int32)) % (3 : Int32))), .val v2_0, .val v5_0, .val v5_1, .val v12_0, .unset, .unset, .unset, .unset] [])) _
      refine XS.iloadN X12.here hx rfl (hb hby at_101) rfl ?_
      show Steps p.tables e below (T12.setTop (mkF m 102 #[.val (.int u0), .val (.int u1), .val (.long u2), .second, .val (.long u3), .second, .val (.long u4), .second, .val (.int ((u0 &&& (2147483647 : Int32)) % (3 : Int32))), .val v2_0, .val v5_0, .val v5_1, .val v12_0, .unset, .unset, .unset, .unset] [(.int u1)])) _
      refine XS.iconst X12.here hx rfl (hb hby at_102) ?_
      show Steps p.tables e below (T12.setTop (mkF m 103 #[.val (.int u0), .val (.int u1), .val (.long u2), .second, .val (.long u3), .second, .val (.long u4), .second, .val (.int ((u0 &&& (2147483647 : Int32)) % (3 : Int32))), .val v2_0, .val v5_0, .val v5_1, .val v12_0, .unset, .unset, .unset, .unset] [(.int (4 : Int32)), (.int u1)])) _
      refine XS.iand X12.here hx rfl (hb hby at_103) rfl ?_
      show Steps p.tables e below (T12.setTop (mkF m 104 #[.val (.int u0), .val (.int u1), .val (.long u2), .second, .val (.long u3), .second, .val (.long u4), .second, .val (.int ((u0 &&& (2147483647 : Int32)) % (3 : Int32))), .val v2_0, .val v5_0, .val v5_1, .val v12_0, .unset, .unset, .unset, .unset] [(.int (u1 &&& (4 : Int32)))])) _
      refine XS.ifNo X12.here hx rfl (hb hby at_104) rfl ((if0 _ _).trans (feq hc104).1) ?_
      show Steps p.tables e below (T12.setTop (mkF m 107 #[.val (.int u0), .val (.int u1), .val (.long u2), .second, .val (.long u3), .second, .val (.long u4), .second, .val (.int ((u0 &&& (2147483647 : Int32)) % (3 : Int32))), .val v2_0, .val v5_0, .val v5_1, .val v12_0, .unset, .unset, .unset, .unset] [])) _
      refine XS.lload X12.here hx rfl (hb hby at_107) rfl ?_
      show Steps p.tables e below (T12.setTop (mkF m 109 #[.val (.int u0), .val (.int u1), .val (.long u2), .second, .val (.long u3), .second, .val (.long u4), .second, .val (.int ((u0 &&& (2147483647 : Int32)) % (3 : Int32))), .val v2_0, .val v5_0, .val v5_1, .val v12_0, .unset, .unset, .unset, .unset] [(.long u3)])) _
      refine st15 _ ?_
      show Steps p.tables e below (T15.setTop (mkF m 112 #[.val (.int u0), .val (.int u1), .val (.long u2), .second, .val (.long u3), .second, .val (.long u4), .second, .val (.int ((u0 &&& (2147483647 : Int32)) % (3 : Int32))), .val v2_0, .val v5_0, .val v5_1, .val v12_0, .unset, .unset, .unset, .unset] [(.ref bx15)])) _
      refine XS.goto X15.here hx rfl (pc0 := 112) (pc' := 116) rfl (hb hby at_112) (by decide) (by decide) ?_
      show Steps p.tables e below (T15.setTop (mkF m 116 #[.val (.int u0), .val (.int u1), .val (.long u2), .second, .val (.long u3), .second, .val (.long u4), .second, .val (.int ((u0 &&& (2147483647 : Int32)) % (3 : Int32))), .val v2_0, .val v5_0, .val v5_1, .val v12_0, .unset, .unset, .unset, .unset] [(.ref bx15)])) _
      refine XS.astore X15.here hx rfl (hb hby at_116) rfl rfl (l' := #[.val (.int u0), .val (.int u1), .val (.long u2), .second, .val (.long u3), .second, .val (.long u4), .second, .val (.int ((u0 &&& (2147483647 : Int32)) % (3 : Int32))), .val v2_0, .val v5_0, .val v5_1, .val v12_0, .val (.ref bx15), .unset, .unset, .unset]) rfl ?_
      exact kt
  have Z14 : n0 ≤ h14.size := Nat.le_trans Z12 K14.1
  have KK14 := KK12.trans K14 all0
  have O14 := O12.keep K14 all0
  have C14 := C12.trans Cq14
  rcases ref_cases rf2_0 with rfl | ⟨ap, rfl⟩
  · obtain ⟨T16, h16, X16, e16, E16, A16, D16, -, st16⟩ := newO X14 hx hZ hown (hw _ (List.mem_of_getElem? (i := 57) rfl)) (hw _ (List.mem_of_getElem? (i := 58) rfl)) (hw _ (List.mem_of_getElem? (i := 59) rfl)) e14 (g := (mkF m 118 #[.val (.int u0), .val (.int u1), .val (.long u2), .second, .val (.long u3), .second, .val (.long u4), .second, .val (.int ((u0 &&& (2147483647 : Int32)) % (3 : Int32))), .val .null, .val v5_0, .val v5_1, .val v12_0, .val v14_0, .unset, .unset, .unset] [])) rfl (hb hby at_118) (by decide) (by decide)
    obtain ⟨b16, g16⟩ : ∃ z, z = h14.size := ⟨_, rfl⟩
    rw [← g16] at A16 D16 st16
    have g_b16 : n0 ≤ b16 := Nat.le_trans Z14 (Nat.le_of_eq g16.symm)
    have sz_b16 : h0.size ≤ b16 := Nat.le_trans KK14.1 (Nat.le_of_eq g16.symm)
    have Z16 : n0 ≤ h16.size := Nat.le_trans Z14 E16.1
    have KK16 := KK14.ext E16
    have O16 := O14.ext E16
    have C16 := C14.trans (CHr.ext E16 C14.1)
    have hk16 := Nat.le_trans hk14 E16.1
    have F16_before : Fld Z h16 b16 "com/example/compact_settings/compactsettings/extender/Intent" "before" "Lcom/example/compact_settings/compactsettings/extender/Written;" .null := D16 (Or.inr (hw _ (List.mem_of_getElem? (i := 65) rfl))) (ty := (.object "com/example/compact_settings/compactsettings/extender/Written")) (by decide)
    have F16_policy : Fld Z h16 b16 "com/example/compact_settings/compactsettings/extender/Intent" "policy" "Lcom/example/compact_settings/compactsettings/Policy;" .null := D16 (Or.inr (hw _ (List.mem_of_getElem? (i := 67) rfl))) (ty := (.object "com/example/compact_settings/compactsettings/Policy")) (by decide)
    have F16_fingerprint : Fld Z h16 b16 "com/example/compact_settings/compactsettings/extender/Intent" "fingerprint" "Ljava/lang/String;" .null := D16 (Or.inr (hw _ (List.mem_of_getElem? (i := 69) rfl))) (ty := (.object "java/lang/String")) (by decide)
    have F16_changeCountBefore : Fld Z h16 b16 "com/example/compact_settings/compactsettings/extender/Intent" "changeCountBefore" "Ljava/lang/Long;" .null := D16 (Or.inr (hw _ (List.mem_of_getElem? (i := 71) rfl))) (ty := (.object "java/lang/Long")) (by decide)
    have F16_adminBundle : Fld Z h16 b16 "com/example/compact_settings/compactsettings/extender/Intent" "adminBundle" "J" (.long (0 : Int64)) := D16 (Or.inr (hw _ (List.mem_of_getElem? (i := 73) rfl))) (ty := .long) (by decide)
    obtain ⟨_, _, ⟨T17, L17, k17, n17⟩, -, X17, ⟨Lc17, hQ17, l17, y17, z17⟩, st17⟩ := X16.specialBack hx (y := (⟨"com/example/compact_settings/compactsettings/extender/Intent", "<init>", "(Lcom/example/compact_settings/compactsettings/extender/Written;Lcom/example/compact_settings/compactsettings/Policy;Ljava/lang/String;Ljava/lang/Long;J)V"⟩ : MethodName)) rfl hown (mvT hZ (hw _ (List.mem_of_getElem? (i := 60) rfl))) (mvT hZ (hw _ (List.mem_of_getElem? (i := 61) rfl))) (mvT hZ (hw _ (List.mem_of_getElem? (i := 62) rfl))) (by decide) (backOf (W := 1) (rm9 l Z a0 hw [] b16 v5_1 .null v12_0 v14_0 u4 h16 n0 Z16 rf5_1 rfl rf12_0 rf14_0 g_b16 A16 F16_before F16_policy F16_fingerprint F16_changeCountBefore F16_adminBundle) hZ (hw _ (List.mem_of_getElem? (i := 62) rfl)) (hw _ (List.mem_of_getElem? (i := 59) rfl)) (by decide) (by decide)) (g := (mkF m 132 #[.val (.int u0), .val (.int u1), .val (.long u2), .second, .val (.long u3), .second, .val (.long u4), .second, .val (.int ((u0 &&& (2147483647 : Int32)) % (3 : Int32))), .val .null, .val v5_0, .val v5_1, .val v12_0, .val v14_0, .unset, .unset, .unset] [(.long u4), v14_0, v12_0, .null, v5_1, (.ref b16), (.ref b16)])) rfl (by rw [hml]; rfl) (Steps.refl _) (a := b16) (argsL := [v5_1, .null, v12_0, v14_0, (.long u4)]) (rest := [(.ref b16)]) (lenOf pd_9 rfl) rfl (by show 2 * 0 + _ ≤ _; exact Nat.le_of_eq rfl) (hb hby at_132) (fun _ _ => ⟨rfl, e16, (by decide : 7 + 0 ≤ _), (by decide : 43 + 0 ≤ _)⟩)
    dsimp only [Pt.U, Pt.locs, Pt.cells, Pt.slots] at X17 l17 y17 z17 st17 hQ17
    replace y17 : k17 = 7 := y17
    replace z17 : n17 = 43 := z17
    rw [y17, z17] at X17
    obtain ⟨rfl, N17q, K17, A17, F17_before, F17_policy, F17_fingerprint, F17_changeCountBefore, F17_adminBundle⟩ := hQ17
    have N17 : Fr n0 L17 := l17 ▸ Fr.app N14 N17q
    have Z17 : n0 ≤ T17.heap.size := Nat.le_trans Z16 K17.1
    have KK17 := KK16.trans K17 (allS (P := fun x => x ∈ [] ∨ h0.size ≤ x) (Or.inr sz_b16) all0)
    have O17 := O16.keep K17 (allS g_b16 all0)
    have C17 := C16.trans (CHr.keep K17 (sfS (Safe.exa hZ.alike A16 (by decide) (by decide)) sf0) C16.1)
    have hk17 := Nat.le_trans hk16 K17.1
    obtain ⟨_, _, ⟨T18, L18, k18, n18⟩, -, X18, ⟨Lc18, hQ18, l18, y18, z18⟩, st18⟩ := Jvm.LawKit.callS X17 hx (y := (⟨"com/example/compact_settings/compactsettings/extender/Intent", "deletion", "(Lcom/example/compact_settings/compactsettings/extender/Written;J)Lcom/example/compact_settings/compactsettings/extender/Intent;"⟩ : MethodName)) hown (mvT hZ (hw _ (List.mem_of_getElem? (i := 74) rfl))) (mvT hZ (hw _ (List.mem_of_getElem? (i := 75) rfl))) (mvT hZ (hw _ (List.mem_of_getElem? (i := 59) rfl))) (mvT hZ (hw _ (List.mem_of_getElem? (i := 76) rfl))) (by decide) (backOf (W := 0) (rm10 l Z a0 hw [] v5_1 u4 T17.heap n0 Z17 rf5_1) hZ (hw _ (List.mem_of_getElem? (i := 76) rfl)) (hw _ (List.mem_of_getElem? (i := 59) rfl)) (by decide) (by decide)) (g := (mkF m 141 #[.val (.int u0), .val (.int u1), .val (.long u2), .second, .val (.long u3), .second, .val (.long u4), .second, .val (.int ((u0 &&& (2147483647 : Int32)) % (3 : Int32))), .val .null, .val v5_0, .val v5_1, .val v12_0, .val v14_0, .val (.ref b16), .unset, .unset] [(.long u4), v5_1])) rfl (by rw [hml]; rfl) (argsL := [v5_1, (.long u4)]) (rest := []) (lenOf pd_8 rfl) rfl (by show 2 * 0 + _ ≤ _; exact Nat.le_of_eq rfl) (hb hby at_141) (fun _ _ => ⟨rfl, rfl, (by decide : 7 + 1 ≤ _), (by decide : 43 + 5 ≤ _)⟩)
    dsimp only [Pt.U, Pt.locs, Pt.cells, Pt.slots] at X18 l18 y18 z18 st18 hQ18
    replace y18 : k18 = 8 := y18
    replace z18 : n18 = 48 := z18
    rw [y18, z18] at X18
    obtain ⟨hv18, N18q, K18, A18, F18_before, F18_policy, F18_fingerprint, F18_changeCountBefore, F18_adminBundle⟩ := hQ18
    obtain ⟨b18, g18⟩ : ∃ z, z = T17.heap.size := ⟨_, rfl⟩
    rw [← g18] at hv18 A18 F18_before F18_policy F18_fingerprint F18_changeCountBefore F18_adminBundle
    subst hv18
    have g_b18 : n0 ≤ b18 := Nat.le_trans Z17 (Nat.le_of_eq g18.symm)
    have sz_b18 : h0.size ≤ b18 := Nat.le_trans KK17.1 (Nat.le_of_eq g18.symm)
    have N18 : Fr n0 L18 := l18 ▸ Fr.app N17 N18q
    have Z18 : n0 ≤ T18.heap.size := Nat.le_trans Z17 K18.1
    have KK18 := KK17.trans K18 all0
    have O18 := O17.keep K18 all0
    have C18 := C17.trans (CHr.keep K18 sf0 C17.1)
    have hk18 := Nat.le_trans hk17 K18.1
    obtain ⟨cq19, kq19, q19a, q19b, q19c⟩ := isOf hZ rfl (A17.keep K18)
    obtain ⟨_, _, ⟨T19, L19, k19, n19⟩, -, X19, ⟨Lc19, hQ19, l19, y19, z19⟩, st19⟩ := X18.virtualBack hx (y := (⟨"com/example/compact_settings/compactsettings/extender/Intent", "isDeletion", "()Z"⟩ : MethodName)) (z := (⟨"com/example/compact_settings/compactsettings/extender/Intent", "isDeletion", "()Z"⟩ : MethodName)) hown (mvT hZ (hw _ (List.mem_of_getElem? (i := 79) rfl))) (mvT hZ (hw _ (List.mem_of_getElem? (i := 80) rfl))) (notFace_of_selects (args := #[]) (mvT hZ (hw _ (List.mem_of_getElem? (i := 82) rfl)))) (mvT hZ (hw _ (List.mem_of_getElem? (i := 82) rfl))) (mvT hZ (hw _ (List.mem_of_getElem? (i := 81) rfl))) (by decide) (backOf (W := 0) (rmDN l Z a0 hw [] b16 T18.heap n0 Z18 (F17_policy.keep K18 nin0)) hZ (hw _ (List.mem_of_getElem? (i := 83) rfl)) (hw _ (List.mem_of_getElem? (i := 59) rfl)) (by decide) (by decide)) q19a q19c (g := (mkF m 160 #[.val (.int u0), .val (.int u1), .val (.long u2), .second, .val (.long u3), .second, .val (.long u4), .second, .val (.int ((u0 &&& (2147483647 : Int32)) % (3 : Int32))), .val .null, .val v5_0, .val v5_1, .val v12_0, .val v14_0, .val (.ref b16), .val (.ref b18), .val (.int (1 : Int32))] [(.ref b16)])) rfl (by rw [hml]; rfl) (Steps.refl _) (argsL := []) (rest := []) (lenOf pd_1 rfl) rfl (by show 2 * 0 + _ ≤ _; exact Nat.le_of_eq rfl) (hb hby at_160) (fun _ _ => ⟨rfl, rfl, (by decide : 8 + 0 ≤ _), (by decide : 48 + 0 ≤ _)⟩)
    dsimp only [Pt.U, Pt.locs, Pt.cells, Pt.slots] at X19 l19 y19 z19 st19 hQ19
    replace y19 : k19 = 8 := y19
    replace z19 : n19 = 48 := z19
    rw [y19, z19] at X19
    obtain ⟨rfl, N19q, e19⟩ := hQ19
    have N19 : Fr n0 L19 := l19 ▸ Fr.app N18 N19q
    obtain ⟨cq20, kq20, q20a, q20b, q20c⟩ := isOf hZ e19 A18
    obtain ⟨_, _, ⟨T20, L20, k20, n20⟩, -, X20, ⟨Lc20, hQ20, l20, y20, z20⟩, st20⟩ := X19.virtualBack hx (y := (⟨"com/example/compact_settings/compactsettings/extender/Intent", "isDeletion", "()Z"⟩ : MethodName)) (z := (⟨"com/example/compact_settings/compactsettings/extender/Intent", "isDeletion", "()Z"⟩ : MethodName)) hown (mvT hZ (hw _ (List.mem_of_getElem? (i := 79) rfl))) (mvT hZ (hw _ (List.mem_of_getElem? (i := 80) rfl))) (notFace_of_selects (args := #[]) (mvT hZ (hw _ (List.mem_of_getElem? (i := 82) rfl)))) (mvT hZ (hw _ (List.mem_of_getElem? (i := 82) rfl))) (mvT hZ (hw _ (List.mem_of_getElem? (i := 81) rfl))) (by decide) (backOf (W := 0) (rmDN l Z a0 hw [] b18 T18.heap n0 Z18 F18_policy) hZ (hw _ (List.mem_of_getElem? (i := 83) rfl)) (hw _ (List.mem_of_getElem? (i := 59) rfl)) (by decide) (by decide)) q20a q20c (g := (mkF m 170 #[.val (.int u0), .val (.int u1), .val (.long u2), .second, .val (.long u3), .second, .val (.long u4), .second, .val (.int ((u0 &&& (2147483647 : Int32)) % (3 : Int32))), .val .null, .val v5_0, .val v5_1, .val v12_0, .val v14_0, .val (.ref b16), .val (.ref b18), .val (.int (1 : Int32))] [(.ref b18)])) rfl (by rw [hml]; rfl) (Steps.refl _) (argsL := []) (rest := []) (lenOf pd_1 rfl) rfl (by show 2 * 0 + _ ≤ _; exact Nat.le_of_eq rfl) (hb hby at_170) (fun _ _ => ⟨rfl, e19, (by decide : 8 + 0 ≤ _), (by decide : 48 + 0 ≤ _)⟩)
    dsimp only [Pt.U, Pt.locs, Pt.cells, Pt.slots] at X20 l20 y20 z20 st20 hQ20
    replace y20 : k20 = 8 := y20
    replace z20 : n20 = 48 := z20
    rw [y20, z20] at X20
    obtain ⟨rfl, N20q, e20⟩ := hQ20
    have N20 : Fr n0 L20 := l20 ▸ Fr.app N19 N20q
    obtain ⟨fs, hr, hrun, hended, hE⟩ := X20.leaveW hS14 (Nat.le_trans hk18 (Nat.le_of_eq (congrArg Array.size e20).symm)) (v := some (.int (1 : Int32))) (fun h => by rw [Bd.returns] at h; cases h)
    refine ⟨_, _, pre0 _ ?_, hrun, hended, _, _, rfl, ?_, ?_, own_monoW hE (by decide) (by decide)⟩
    · show Steps p.tables e below (s₁.setTop (mkF m 0 #[.val (.int u0), .val (.int u1), .val (.long u2), .second, .val (.long u3), .second, .val (.long u4), .second, .unset, .unset, .unset, .unset, .unset, .unset, .unset, .unset, .unset] [])) _
      refine XS.iloadN X0.here hx rfl (hb hby at_0) rfl ?_
      show Steps p.tables e below (s₁.setTop (mkF m 1 #[.val (.int u0), .val (.int u1), .val (.long u2), .second, .val (.long u3), .second, .val (.long u4), .second, .unset, .unset, .unset, .unset, .unset, .unset, .unset, .unset, .unset] [(.int u0)])) _
      refine st1 _ ?_
      show Steps p.tables e below (s₁.setTop (mkF m 3 #[.val (.int u0), .val (.int u1), .val (.long u2), .second, .val (.long u3), .second, .val (.long u4), .second, .unset, .unset, .unset, .unset, .unset, .unset, .unset, .unset, .unset] [(.int (2147483647 : Int32)), (.int u0)])) _
      refine XS.iand X0.here hx rfl (hb hby at_3) rfl ?_
      show Steps p.tables e below (s₁.setTop (mkF m 4 #[.val (.int u0), .val (.int u1), .val (.long u2), .second, .val (.long u3), .second, .val (.long u4), .second, .unset, .unset, .unset, .unset, .unset, .unset, .unset, .unset, .unset] [(.int (u0 &&& (2147483647 : Int32)))])) _
      refine XS.iconst X0.here hx rfl (hb hby at_4) ?_
      show Steps p.tables e below (s₁.setTop (mkF m 5 #[.val (.int u0), .val (.int u1), .val (.long u2), .second, .val (.long u3), .second, .val (.long u4), .second, .unset, .unset, .unset, .unset, .unset, .unset, .unset, .unset, .unset] [(.int (3 : Int32)), (.int (u0 &&& (2147483647 : Int32)))])) _
      refine iremM X0 hx rfl (hb hby at_5) rfl (by decide) ?_
      show Steps p.tables e below (s₁.setTop (mkF m 6 #[.val (.int u0), .val (.int u1), .val (.long u2), .second, .val (.long u3), .second, .val (.long u4), .second, .unset, .unset, .unset, .unset, .unset, .unset, .unset, .unset, .unset] [(.int ((u0 &&& (2147483647 : Int32)) % (3 : Int32)))])) _
      refine XS.istore X0.here hx rfl (hb hby at_6) rfl (l' := #[.val (.int u0), .val (.int u1), .val (.long u2), .second, .val (.long u3), .second, .val (.long u4), .second, .val (.int ((u0 &&& (2147483647 : Int32)) % (3 : Int32))), .unset, .unset, .unset, .unset, .unset, .unset, .unset, .unset]) rfl ?_
      refine st2 _ ?_
      refine st5 _ ?_
      refine st12 _ ?_
      refine st14 _ ?_
      show Steps p.tables e below (T14.setTop (mkF m 118 #[.val (.int u0), .val (.int u1), .val (.long u2), .second, .val (.long u3), .second, .val (.long u4), .second, .val (.int ((u0 &&& (2147483647 : Int32)) % (3 : Int32))), .val .null, .val v5_0, .val v5_1, .val v12_0, .val v14_0, .unset, .unset, .unset] [])) _
      refine st16 _ ?_
      show Steps p.tables e below (T16.setTop (mkF m 121 #[.val (.int u0), .val (.int u1), .val (.long u2), .second, .val (.long u3), .second, .val (.long u4), .second, .val (.int ((u0 &&& (2147483647 : Int32)) % (3 : Int32))), .val .null, .val v5_0, .val v5_1, .val v12_0, .val v14_0, .unset, .unset, .unset] [(.ref b16)])) _
      refine XS.dup X16.here hx rfl (hb hby at_121) rfl rfl ?_
      show Steps p.tables e below (T16.setTop (mkF m 122 #[.val (.int u0), .val (.int u1), .val (.long u2), .second, .val (.long u3), .second, .val (.long u4), .second, .val (.int ((u0 &&& (2147483647 : Int32)) % (3 : Int32))), .val .null, .val v5_0, .val v5_1, .val v12_0, .val v14_0, .unset, .unset, .unset] [(.ref b16), (.ref b16)])) _
      refine XS.aload X16.here hx rfl (hb hby at_122) rfl rf5_1 ?_
      show Steps p.tables e below (T16.setTop (mkF m 124 #[.val (.int u0), .val (.int u1), .val (.long u2), .second, .val (.long u3), .second, .val (.long u4), .second, .val (.int ((u0 &&& (2147483647 : Int32)) % (3 : Int32))), .val .null, .val v5_0, .val v5_1, .val v12_0, .val v14_0, .unset, .unset, .unset] [v5_1, (.ref b16), (.ref b16)])) _
      refine XS.aload X16.here hx rfl (hb hby at_124) rfl rfl ?_
      show Steps p.tables e below (T16.setTop (mkF m 126 #[.val (.int u0), .val (.int u1), .val (.long u2), .second, .val (.long u3), .second, .val (.long u4), .second, .val (.int ((u0 &&& (2147483647 : Int32)) % (3 : Int32))), .val .null, .val v5_0, .val v5_1, .val v12_0, .val v14_0, .unset, .unset, .unset] [.null, v5_1, (.ref b16), (.ref b16)])) _
      refine XS.aload X16.here hx rfl (hb hby at_126) rfl rf12_0 ?_
      show Steps p.tables e below (T16.setTop (mkF m 128 #[.val (.int u0), .val (.int u1), .val (.long u2), .second, .val (.long u3), .second, .val (.long u4), .second, .val (.int ((u0 &&& (2147483647 : Int32)) % (3 : Int32))), .val .null, .val v5_0, .val v5_1, .val v12_0, .val v14_0, .unset, .unset, .unset] [v12_0, .null, v5_1, (.ref b16), (.ref b16)])) _
      refine XS.aload X16.here hx rfl (hb hby at_128) rfl rf14_0 ?_
      show Steps p.tables e below (T16.setTop (mkF m 130 #[.val (.int u0), .val (.int u1), .val (.long u2), .second, .val (.long u3), .second, .val (.long u4), .second, .val (.int ((u0 &&& (2147483647 : Int32)) % (3 : Int32))), .val .null, .val v5_0, .val v5_1, .val v12_0, .val v14_0, .unset, .unset, .unset] [v14_0, v12_0, .null, v5_1, (.ref b16), (.ref b16)])) _
      refine XS.lload X16.here hx rfl (hb hby at_130) rfl ?_
      show Steps p.tables e below (T16.setTop (mkF m 132 #[.val (.int u0), .val (.int u1), .val (.long u2), .second, .val (.long u3), .second, .val (.long u4), .second, .val (.int ((u0 &&& (2147483647 : Int32)) % (3 : Int32))), .val .null, .val v5_0, .val v5_1, .val v12_0, .val v14_0, .unset, .unset, .unset] [(.long u4), v14_0, v12_0, .null, v5_1, (.ref b16), (.ref b16)])) _
      refine st17.trans ?_
      show Steps p.tables e below (T17.setTop (mkF m 135 #[.val (.int u0), .val (.int u1), .val (.long u2), .second, .val (.long u3), .second, .val (.long u4), .second, .val (.int ((u0 &&& (2147483647 : Int32)) % (3 : Int32))), .val .null, .val v5_0, .val v5_1, .val v12_0, .val v14_0, .unset, .unset, .unset] [(.ref b16)])) _
      refine XS.astore X17.here hx rfl (hb hby at_135) rfl rfl (l' := #[.val (.int u0), .val (.int u1), .val (.long u2), .second, .val (.long u3), .second, .val (.long u4), .second, .val (.int ((u0 &&& (2147483647 : Int32)) % (3 : Int32))), .val .null, .val v5_0, .val v5_1, .val v12_0, .val v14_0, .val (.ref b16), .unset, .unset]) rfl ?_
      show Steps p.tables e below (T17.setTop (mkF m 137 #[.val (.int u0), .val (.int u1), .val (.long u2), .second, .val (.long u3), .second, .val (.long u4), .second, .val (.int ((u0 &&& (2147483647 : Int32)) % (3 : Int32))), .val .null, .val v5_0, .val v5_1, .val v12_0, .val v14_0, .val (.ref b16), .unset, .unset] [])) _
      refine XS.aload X17.here hx rfl (hb hby at_137) rfl rf5_1 ?_
      show Steps p.tables e below (T17.setTop (mkF m 139 #[.val (.int u0), .val (.int u1), .val (.long u2), .second, .val (.long u3), .second, .val (.long u4), .second, .val (.int ((u0 &&& (2147483647 : Int32)) % (3 : Int32))), .val .null, .val v5_0, .val v5_1, .val v12_0, .val v14_0, .val (.ref b16), .unset, .unset] [v5_1])) _
      refine XS.lload X17.here hx rfl (hb hby at_139) rfl ?_
      show Steps p.tables e below (T17.setTop (mkF m 141 #[.val (.int u0), .val (.int u1), .val (.long u2), .second, .val (.long u3), .second, .val (.long u4), .second, .val (.int ((u0 &&& (2147483647 : Int32)) % (3 : Int32))), .val .null, .val v5_0, .val v5_1, .val v12_0, .val v14_0, .val (.ref b16), .unset, .unset] [(.long u4), v5_1])) _
      refine st18 _ ?_
      show Steps p.tables e below (T18.setTop (mkF m 144 #[.val (.int u0), .val (.int u1), .val (.long u2), .second, .val (.long u3), .second, .val (.long u4), .second, .val (.int ((u0 &&& (2147483647 : Int32)) % (3 : Int32))), .val .null, .val v5_0, .val v5_1, .val v12_0, .val v14_0, .val (.ref b16), .unset, .unset] [(.ref b18)])) _
      refine XS.astore X18.here hx rfl (hb hby at_144) rfl rfl (l' := #[.val (.int u0), .val (.int u1), .val (.long u2), .second, .val (.long u3), .second, .val (.long u4), .second, .val (.int ((u0 &&& (2147483647 : Int32)) % (3 : Int32))), .val .null, .val v5_0, .val v5_1, .val v12_0, .val v14_0, .val (.ref b16), .val (.ref b18), .unset]) rfl ?_
      show Steps p.tables e below (T18.setTop (mkF m 146 #[.val (.int u0), .val (.int u1), .val (.long u2), .second, .val (.long u3), .second, .val (.long u4), .second, .val (.int ((u0 &&& (2147483647 : Int32)) % (3 : Int32))), .val .null, .val v5_0, .val v5_1, .val v12_0, .val v14_0, .val (.ref b16), .val (.ref b18), .unset] [])) _
      refine XS.aload X18.here hx rfl (hb hby at_146) rfl rfl ?_
      show Steps p.tables e below (T18.setTop (mkF m 148 #[.val (.int u0), .val (.int u1), .val (.long u2), .second, .val (.long u3), .second, .val (.long u4), .second, .val (.int ((u0 &&& (2147483647 : Int32)) % (3 : Int32))), .val .null, .val v5_0, .val v5_1, .val v12_0, .val v14_0, .val (.ref b16), .val (.ref b18), .unset] [.null])) _
      refine XS.ifnonnullNo X18.here hx rfl (hb hby at_148) rfl ?_
      show Steps p.tables e below (T18.setTop (mkF m 151 #[.val (.int u0), .val (.int u1), .val (.long u2), .second, .val (.long u3), .second, .val (.long u4), .second, .val (.int ((u0 &&& (2147483647 : Int32)) % (3 : Int32))), .val .null, .val v5_0, .val v5_1, .val v12_0, .val v14_0, .val (.ref b16), .val (.ref b18), .unset] [])) _
      refine XS.iconst X18.here hx rfl (hb hby at_151) ?_
      show Steps p.tables e below (T18.setTop (mkF m 152 #[.val (.int u0), .val (.int u1), .val (.long u2), .second, .val (.long u3), .second, .val (.long u4), .second, .val (.int ((u0 &&& (2147483647 : Int32)) % (3 : Int32))), .val .null, .val v5_0, .val v5_1, .val v12_0, .val v14_0, .val (.ref b16), .val (.ref b18), .unset] [(.int (1 : Int32))])) _
      refine XS.goto X18.here hx rfl (pc0 := 152) (pc' := 156) rfl (hb hby at_152) (by decide) (by decide) ?_
      show Steps p.tables e below (T18.setTop (mkF m 156 #[.val (.int u0), .val (.int u1), .val (.long u2), .second, .val (.long u3), .second, .val (.long u4), .second, .val (.int ((u0 &&& (2147483647 : Int32)) % (3 : Int32))), .val .null, .val v5_0, .val v5_1, .val v12_0, .val v14_0, .val (.ref b16), .val (.ref b18), .unset] [(.int (1 : Int32))])) _
      refine XS.istore X18.here hx rfl (hb hby at_156) rfl (l' := #[.val (.int u0), .val (.int u1), .val (.long u2), .second, .val (.long u3), .second, .val (.long u4), .second, .val (.int ((u0 &&& (2147483647 : Int32)) % (3 : Int32))), .val .null, .val v5_0, .val v5_1, .val v12_0, .val v14_0, .val (.ref b16), .val (.ref b18), .val (.int (1 : Int32))]) rfl ?_
      show Steps p.tables e below (T18.setTop (mkF m 158 #[.val (.int u0), .val (.int u1), .val (.long u2), .second, .val (.long u3), .second, .val (.long u4), .second, .val (.int ((u0 &&& (2147483647 : Int32)) % (3 : Int32))), .val .null, .val v5_0, .val v5_1, .val v12_0, .val v14_0, .val (.ref b16), .val (.ref b18), .val (.int (1 : Int32))] [])) _
      refine XS.aload X18.here hx rfl (hb hby at_158) rfl rfl ?_
      show Steps p.tables e below (T18.setTop (mkF m 160 #[.val (.int u0), .val (.int u1), .val (.long u2), .second, .val (.long u3), .second, .val (.long u4), .second, .val (.int ((u0 &&& (2147483647 : Int32)) % (3 : Int32))), .val .null, .val v5_0, .val v5_1, .val v12_0, .val v14_0, .val (.ref b16), .val (.ref b18), .val (.int (1 : Int32))] [(.ref b16)])) _
      refine st19.trans ?_
      show Steps p.tables e below (T19.setTop (mkF m 163 #[.val (.int u0), .val (.int u1), .val (.long u2), .second, .val (.long u3), .second, .val (.long u4), .second, .val (.int ((u0 &&& (2147483647 : Int32)) % (3 : Int32))), .val .null, .val v5_0, .val v5_1, .val v12_0, .val v14_0, .val (.ref b16), .val (.ref b18), .val (.int (1 : Int32))] [(.int (1 : Int32))])) _
      refine XS.iload X19.here hx rfl (hb hby at_163) rfl ?_
      show Steps p.tables e below (T19.setTop (mkF m 165 #[.val (.int u0), .val (.int u1), .val (.long u2), .second, .val (.long u3), .second, .val (.long u4), .second, .val (.int ((u0 &&& (2147483647 : Int32)) % (3 : Int32))), .val .null, .val v5_0, .val v5_1, .val v12_0, .val v14_0, .val (.ref b16), .val (.ref b18), .val (.int (1 : Int32))] [(.int (1 : Int32)), (.int (1 : Int32))])) _
      refine XS.icmpNo X19.here hx rfl (hb hby at_165) rfl (teq (by decide)).2 ?_
      show Steps p.tables e below (T19.setTop (mkF m 168 #[.val (.int u0), .val (.int u1), .val (.long u2), .second, .val (.long u3), .second, .val (.long u4), .second, .val (.int ((u0 &&& (2147483647 : Int32)) % (3 : Int32))), .val .null, .val v5_0, .val v5_1, .val v12_0, .val v14_0, .val (.ref b16), .val (.ref b18), .val (.int (1 : Int32))] [])) _
      refine XS.aload X19.here hx rfl (hb hby at_168) rfl rfl ?_
      show Steps p.tables e below (T19.setTop (mkF m 170 #[.val (.int u0), .val (.int u1), .val (.long u2), .second, .val (.long u3), .second, .val (.long u4), .second, .val (.int ((u0 &&& (2147483647 : Int32)) % (3 : Int32))), .val .null, .val v5_0, .val v5_1, .val v12_0, .val v14_0, .val (.ref b16), .val (.ref b18), .val (.int (1 : Int32))] [(.ref b18)])) _
      refine st20.trans ?_
      show Steps p.tables e below (T20.setTop (mkF m 173 #[.val (.int u0), .val (.int u1), .val (.long u2), .second, .val (.long u3), .second, .val (.long u4), .second, .val (.int ((u0 &&& (2147483647 : Int32)) % (3 : Int32))), .val .null, .val v5_0, .val v5_1, .val v12_0, .val v14_0, .val (.ref b16), .val (.ref b18), .val (.int (1 : Int32))] [(.int (1 : Int32))])) _
      refine XS.ifNo X20.here hx rfl (hb hby at_173) rfl ((if0 _ _).trans (feq (by decide)).1) ?_
      show Steps p.tables e below (T20.setTop (mkF m 176 #[.val (.int u0), .val (.int u1), .val (.long u2), .second, .val (.long u3), .second, .val (.long u4), .second, .val (.int ((u0 &&& (2147483647 : Int32)) % (3 : Int32))), .val .null, .val v5_0, .val v5_1, .val v12_0, .val v14_0, .val (.ref b16), .val (.ref b18), .val (.int (1 : Int32))] [])) _
      refine XS.iconst X20.here hx rfl (hb hby at_176) ?_
      show Steps p.tables e below (T20.setTop (mkF m 177 #[.val (.int u0), .val (.int u1), .val (.long u2), .second, .val (.long u3), .second, .val (.long u4), .second, .val (.int ((u0 &&& (2147483647 : Int32)) % (3 : Int32))), .val .null, .val v5_0, .val v5_1, .val v12_0, .val v14_0, .val (.ref b16), .val (.ref b18), .val (.int (1 : Int32))] [(.int (1 : Int32))])) _
      refine XS.goto X20.here hx rfl (pc0 := 177) (pc' := 181) rfl (hb hby at_177) (by decide) (by decide) ?_
      show Steps p.tables e below (T20.setTop (mkF m 181 #[.val (.int u0), .val (.int u1), .val (.long u2), .second, .val (.long u3), .second, .val (.long u4), .second, .val (.int ((u0 &&& (2147483647 : Int32)) % (3 : Int32))), .val .null, .val v5_0, .val v5_1, .val v12_0, .val v14_0, .val (.ref b16), .val (.ref b18), .val (.int (1 : Int32))] [(.int (1 : Int32))])) _
      exact retN X20 hx (t := .boolean) Bd.returns (by simp) (hb hby at_181) hr
    · show Q0 Z u0 u1 u2 u3 u4 a_DEFAULT a_FORCE G_COMPACT a_CACHE c_CACHE vf h0 n0 _ T20.heap _
      rw [e20]
      exact ⟨rfl, N20⟩
    · show CHr Z EL s.vm s.heap T20.vm T20.heap
      rw [e20]
      rw [hh]
      exact C18.trans (CHv.at X20 hZ (hEL hw) C18.1)
  · obtain ⟨T21, h21, X21, e21, E21, A21, D21, -, st21⟩ := newO X14 hx hZ hown (hw _ (List.mem_of_getElem? (i := 57) rfl)) (hw _ (List.mem_of_getElem? (i := 58) rfl)) (hw _ (List.mem_of_getElem? (i := 59) rfl)) e14 (g := (mkF m 118 #[.val (.int u0), .val (.int u1), .val (.long u2), .second, .val (.long u3), .second, .val (.long u4), .second, .val (.int ((u0 &&& (2147483647 : Int32)) % (3 : Int32))), .val (.ref ap), .val v5_0, .val v5_1, .val v12_0, .val v14_0, .unset, .unset, .unset] [])) rfl (hb hby at_118) (by decide) (by decide)
    obtain ⟨b21, g21⟩ : ∃ z, z = h14.size := ⟨_, rfl⟩
    rw [← g21] at A21 D21 st21
    have g_b21 : n0 ≤ b21 := Nat.le_trans Z14 (Nat.le_of_eq g21.symm)
    have sz_b21 : h0.size ≤ b21 := Nat.le_trans KK14.1 (Nat.le_of_eq g21.symm)
    have Z21 : n0 ≤ h21.size := Nat.le_trans Z14 E21.1
    have KK21 := KK14.ext E21
    have O21 := O14.ext E21
    have C21 := C14.trans (CHr.ext E21 C14.1)
    have hk21 := Nat.le_trans hk14 E21.1
    have F21_before : Fld Z h21 b21 "com/example/compact_settings/compactsettings/extender/Intent" "before" "Lcom/example/compact_settings/compactsettings/extender/Written;" .null := D21 (Or.inr (hw _ (List.mem_of_getElem? (i := 65) rfl))) (ty := (.object "com/example/compact_settings/compactsettings/extender/Written")) (by decide)
    have F21_policy : Fld Z h21 b21 "com/example/compact_settings/compactsettings/extender/Intent" "policy" "Lcom/example/compact_settings/compactsettings/Policy;" .null := D21 (Or.inr (hw _ (List.mem_of_getElem? (i := 67) rfl))) (ty := (.object "com/example/compact_settings/compactsettings/Policy")) (by decide)
    have F21_fingerprint : Fld Z h21 b21 "com/example/compact_settings/compactsettings/extender/Intent" "fingerprint" "Ljava/lang/String;" .null := D21 (Or.inr (hw _ (List.mem_of_getElem? (i := 69) rfl))) (ty := (.object "java/lang/String")) (by decide)
    have F21_changeCountBefore : Fld Z h21 b21 "com/example/compact_settings/compactsettings/extender/Intent" "changeCountBefore" "Ljava/lang/Long;" .null := D21 (Or.inr (hw _ (List.mem_of_getElem? (i := 71) rfl))) (ty := (.object "java/lang/Long")) (by decide)
    have F21_adminBundle : Fld Z h21 b21 "com/example/compact_settings/compactsettings/extender/Intent" "adminBundle" "J" (.long (0 : Int64)) := D21 (Or.inr (hw _ (List.mem_of_getElem? (i := 73) rfl))) (ty := .long) (by decide)
    obtain ⟨_, _, ⟨T22, L22, k22, n22⟩, -, X22, ⟨Lc22, hQ22, l22, y22, z22⟩, st22⟩ := X21.specialBack hx (y := (⟨"com/example/compact_settings/compactsettings/extender/Intent", "<init>", "(Lcom/example/compact_settings/compactsettings/extender/Written;Lcom/example/compact_settings/compactsettings/Policy;Ljava/lang/String;Ljava/lang/Long;J)V"⟩ : MethodName)) rfl hown (mvT hZ (hw _ (List.mem_of_getElem? (i := 60) rfl))) (mvT hZ (hw _ (List.mem_of_getElem? (i := 61) rfl))) (mvT hZ (hw _ (List.mem_of_getElem? (i := 62) rfl))) (by decide) (backOf (W := 1) (rm9 l Z a0 hw [] b21 v5_1 (.ref ap) v12_0 v14_0 u4 h21 n0 Z21 rf5_1 rfl rf12_0 rf14_0 g_b21 A21 F21_before F21_policy F21_fingerprint F21_changeCountBefore F21_adminBundle) hZ (hw _ (List.mem_of_getElem? (i := 62) rfl)) (hw _ (List.mem_of_getElem? (i := 59) rfl)) (by decide) (by decide)) (g := (mkF m 132 #[.val (.int u0), .val (.int u1), .val (.long u2), .second, .val (.long u3), .second, .val (.long u4), .second, .val (.int ((u0 &&& (2147483647 : Int32)) % (3 : Int32))), .val (.ref ap), .val v5_0, .val v5_1, .val v12_0, .val v14_0, .unset, .unset, .unset] [(.long u4), v14_0, v12_0, (.ref ap), v5_1, (.ref b21), (.ref b21)])) rfl (by rw [hml]; rfl) (Steps.refl _) (a := b21) (argsL := [v5_1, (.ref ap), v12_0, v14_0, (.long u4)]) (rest := [(.ref b21)]) (lenOf pd_9 rfl) rfl (by show 2 * 0 + _ ≤ _; exact Nat.le_of_eq rfl) (hb hby at_132) (fun _ _ => ⟨rfl, e21, (by decide : 7 + 0 ≤ _), (by decide : 43 + 0 ≤ _)⟩)
    dsimp only [Pt.U, Pt.locs, Pt.cells, Pt.slots] at X22 l22 y22 z22 st22 hQ22
    replace y22 : k22 = 7 := y22
    replace z22 : n22 = 43 := z22
    rw [y22, z22] at X22
    obtain ⟨rfl, N22q, K22, A22, F22_before, F22_policy, F22_fingerprint, F22_changeCountBefore, F22_adminBundle⟩ := hQ22
    have N22 : Fr n0 L22 := l22 ▸ Fr.app N14 N22q
    have Z22 : n0 ≤ T22.heap.size := Nat.le_trans Z21 K22.1
    have KK22 := KK21.trans K22 (allS (P := fun x => x ∈ [] ∨ h0.size ≤ x) (Or.inr sz_b21) all0)
    have O22 := O21.keep K22 (allS g_b21 all0)
    have C22 := C21.trans (CHr.keep K22 (sfS (Safe.exa hZ.alike A21 (by decide) (by decide)) sf0) C21.1)
    have hk22 := Nat.le_trans hk21 K22.1
    obtain ⟨_, _, ⟨T23, L23, k23, n23⟩, -, X23, ⟨Lc23, hQ23, l23, y23, z23⟩, st23⟩ := Jvm.LawKit.callS X22 hx (y := (⟨"com/example/compact_settings/compactsettings/extender/Intent", "deletion", "(Lcom/example/compact_settings/compactsettings/extender/Written;J)Lcom/example/compact_settings/compactsettings/extender/Intent;"⟩ : MethodName)) hown (mvT hZ (hw _ (List.mem_of_getElem? (i := 74) rfl))) (mvT hZ (hw _ (List.mem_of_getElem? (i := 75) rfl))) (mvT hZ (hw _ (List.mem_of_getElem? (i := 59) rfl))) (mvT hZ (hw _ (List.mem_of_getElem? (i := 76) rfl))) (by decide) (backOf (W := 0) (rm10 l Z a0 hw [] v5_1 u4 T22.heap n0 Z22 rf5_1) hZ (hw _ (List.mem_of_getElem? (i := 76) rfl)) (hw _ (List.mem_of_getElem? (i := 59) rfl)) (by decide) (by decide)) (g := (mkF m 141 #[.val (.int u0), .val (.int u1), .val (.long u2), .second, .val (.long u3), .second, .val (.long u4), .second, .val (.int ((u0 &&& (2147483647 : Int32)) % (3 : Int32))), .val (.ref ap), .val v5_0, .val v5_1, .val v12_0, .val v14_0, .val (.ref b21), .unset, .unset] [(.long u4), v5_1])) rfl (by rw [hml]; rfl) (argsL := [v5_1, (.long u4)]) (rest := []) (lenOf pd_8 rfl) rfl (by show 2 * 0 + _ ≤ _; exact Nat.le_of_eq rfl) (hb hby at_141) (fun _ _ => ⟨rfl, rfl, (by decide : 7 + 1 ≤ _), (by decide : 43 + 5 ≤ _)⟩)
    dsimp only [Pt.U, Pt.locs, Pt.cells, Pt.slots] at X23 l23 y23 z23 st23 hQ23
    replace y23 : k23 = 8 := y23
    replace z23 : n23 = 48 := z23
    rw [y23, z23] at X23
    obtain ⟨hv23, N23q, K23, A23, F23_before, F23_policy, F23_fingerprint, F23_changeCountBefore, F23_adminBundle⟩ := hQ23
    obtain ⟨b23, g23⟩ : ∃ z, z = T22.heap.size := ⟨_, rfl⟩
    rw [← g23] at hv23 A23 F23_before F23_policy F23_fingerprint F23_changeCountBefore F23_adminBundle
    subst hv23
    have g_b23 : n0 ≤ b23 := Nat.le_trans Z22 (Nat.le_of_eq g23.symm)
    have sz_b23 : h0.size ≤ b23 := Nat.le_trans KK22.1 (Nat.le_of_eq g23.symm)
    have N23 : Fr n0 L23 := l23 ▸ Fr.app N22 N23q
    have Z23 : n0 ≤ T23.heap.size := Nat.le_trans Z22 K23.1
    have KK23 := KK22.trans K23 all0
    have O23 := O22.keep K23 all0
    have C23 := C22.trans (CHr.keep K23 sf0 C22.1)
    have hk23 := Nat.le_trans hk22 K23.1
    obtain ⟨cq24, kq24, q24a, q24b, q24c⟩ := isOf hZ rfl (A22.keep K23)
    obtain ⟨_, _, ⟨T24, L24, k24, n24⟩, -, X24, ⟨Lc24, hQ24, l24, y24, z24⟩, st24⟩ := X23.virtualBack hx (y := (⟨"com/example/compact_settings/compactsettings/extender/Intent", "isDeletion", "()Z"⟩ : MethodName)) (z := (⟨"com/example/compact_settings/compactsettings/extender/Intent", "isDeletion", "()Z"⟩ : MethodName)) hown (mvT hZ (hw _ (List.mem_of_getElem? (i := 79) rfl))) (mvT hZ (hw _ (List.mem_of_getElem? (i := 80) rfl))) (notFace_of_selects (args := #[]) (mvT hZ (hw _ (List.mem_of_getElem? (i := 82) rfl)))) (mvT hZ (hw _ (List.mem_of_getElem? (i := 82) rfl))) (mvT hZ (hw _ (List.mem_of_getElem? (i := 81) rfl))) (by decide) (backOf (W := 0) (rmDR l Z a0 hw [] b21 ap T23.heap n0 Z23 (F22_policy.keep K23 nin0)) hZ (hw _ (List.mem_of_getElem? (i := 83) rfl)) (hw _ (List.mem_of_getElem? (i := 59) rfl)) (by decide) (by decide)) q24a q24c (g := (mkF m 160 #[.val (.int u0), .val (.int u1), .val (.long u2), .second, .val (.long u3), .second, .val (.long u4), .second, .val (.int ((u0 &&& (2147483647 : Int32)) % (3 : Int32))), .val (.ref ap), .val v5_0, .val v5_1, .val v12_0, .val v14_0, .val (.ref b21), .val (.ref b23), .val (.int (0 : Int32))] [(.ref b21)])) rfl (by rw [hml]; rfl) (Steps.refl _) (argsL := []) (rest := []) (lenOf pd_1 rfl) rfl (by show 2 * 0 + _ ≤ _; exact Nat.le_of_eq rfl) (hb hby at_160) (fun _ _ => ⟨rfl, rfl, (by decide : 8 + 0 ≤ _), (by decide : 48 + 0 ≤ _)⟩)
    dsimp only [Pt.U, Pt.locs, Pt.cells, Pt.slots] at X24 l24 y24 z24 st24 hQ24
    replace y24 : k24 = 8 := y24
    replace z24 : n24 = 48 := z24
    rw [y24, z24] at X24
    obtain ⟨rfl, N24q, e24⟩ := hQ24
    have N24 : Fr n0 L24 := l24 ▸ Fr.app N23 N24q
    obtain ⟨cq25, kq25, q25a, q25b, q25c⟩ := isOf hZ e24 A23
    obtain ⟨_, _, ⟨T25, L25, k25, n25⟩, -, X25, ⟨Lc25, hQ25, l25, y25, z25⟩, st25⟩ := X24.virtualBack hx (y := (⟨"com/example/compact_settings/compactsettings/extender/Intent", "isDeletion", "()Z"⟩ : MethodName)) (z := (⟨"com/example/compact_settings/compactsettings/extender/Intent", "isDeletion", "()Z"⟩ : MethodName)) hown (mvT hZ (hw _ (List.mem_of_getElem? (i := 79) rfl))) (mvT hZ (hw _ (List.mem_of_getElem? (i := 80) rfl))) (notFace_of_selects (args := #[]) (mvT hZ (hw _ (List.mem_of_getElem? (i := 82) rfl)))) (mvT hZ (hw _ (List.mem_of_getElem? (i := 82) rfl))) (mvT hZ (hw _ (List.mem_of_getElem? (i := 81) rfl))) (by decide) (backOf (W := 0) (rmDN l Z a0 hw [] b23 T23.heap n0 Z23 F23_policy) hZ (hw _ (List.mem_of_getElem? (i := 83) rfl)) (hw _ (List.mem_of_getElem? (i := 59) rfl)) (by decide) (by decide)) q25a q25c (g := (mkF m 170 #[.val (.int u0), .val (.int u1), .val (.long u2), .second, .val (.long u3), .second, .val (.long u4), .second, .val (.int ((u0 &&& (2147483647 : Int32)) % (3 : Int32))), .val (.ref ap), .val v5_0, .val v5_1, .val v12_0, .val v14_0, .val (.ref b21), .val (.ref b23), .val (.int (0 : Int32))] [(.ref b23)])) rfl (by rw [hml]; rfl) (Steps.refl _) (argsL := []) (rest := []) (lenOf pd_1 rfl) rfl (by show 2 * 0 + _ ≤ _; exact Nat.le_of_eq rfl) (hb hby at_170) (fun _ _ => ⟨rfl, e24, (by decide : 8 + 0 ≤ _), (by decide : 48 + 0 ≤ _)⟩)
    dsimp only [Pt.U, Pt.locs, Pt.cells, Pt.slots] at X25 l25 y25 z25 st25 hQ25
    replace y25 : k25 = 8 := y25
    replace z25 : n25 = 48 := z25
    rw [y25, z25] at X25
    obtain ⟨rfl, N25q, e25⟩ := hQ25
    have N25 : Fr n0 L25 := l25 ▸ Fr.app N24 N25q
    obtain ⟨fs, hr, hrun, hended, hE⟩ := X25.leaveW hS14 (Nat.le_trans hk23 (Nat.le_of_eq (congrArg Array.size e25).symm)) (v := some (.int (1 : Int32))) (fun h => by rw [Bd.returns] at h; cases h)
    refine ⟨_, _, pre0 _ ?_, hrun, hended, _, _, rfl, ?_, ?_, own_monoW hE (by decide) (by decide)⟩
    · show Steps p.tables e below (s₁.setTop (mkF m 0 #[.val (.int u0), .val (.int u1), .val (.long u2), .second, .val (.long u3), .second, .val (.long u4), .second, .unset, .unset, .unset, .unset, .unset, .unset, .unset, .unset, .unset] [])) _
      refine XS.iloadN X0.here hx rfl (hb hby at_0) rfl ?_
      show Steps p.tables e below (s₁.setTop (mkF m 1 #[.val (.int u0), .val (.int u1), .val (.long u2), .second, .val (.long u3), .second, .val (.long u4), .second, .unset, .unset, .unset, .unset, .unset, .unset, .unset, .unset, .unset] [(.int u0)])) _
      refine st1 _ ?_
      show Steps p.tables e below (s₁.setTop (mkF m 3 #[.val (.int u0), .val (.int u1), .val (.long u2), .second, .val (.long u3), .second, .val (.long u4), .second, .unset, .unset, .unset, .unset, .unset, .unset, .unset, .unset, .unset] [(.int (2147483647 : Int32)), (.int u0)])) _
      refine XS.iand X0.here hx rfl (hb hby at_3) rfl ?_
      show Steps p.tables e below (s₁.setTop (mkF m 4 #[.val (.int u0), .val (.int u1), .val (.long u2), .second, .val (.long u3), .second, .val (.long u4), .second, .unset, .unset, .unset, .unset, .unset, .unset, .unset, .unset, .unset] [(.int (u0 &&& (2147483647 : Int32)))])) _
      refine XS.iconst X0.here hx rfl (hb hby at_4) ?_
      show Steps p.tables e below (s₁.setTop (mkF m 5 #[.val (.int u0), .val (.int u1), .val (.long u2), .second, .val (.long u3), .second, .val (.long u4), .second, .unset, .unset, .unset, .unset, .unset, .unset, .unset, .unset, .unset] [(.int (3 : Int32)), (.int (u0 &&& (2147483647 : Int32)))])) _
      refine iremM X0 hx rfl (hb hby at_5) rfl (by decide) ?_
      show Steps p.tables e below (s₁.setTop (mkF m 6 #[.val (.int u0), .val (.int u1), .val (.long u2), .second, .val (.long u3), .second, .val (.long u4), .second, .unset, .unset, .unset, .unset, .unset, .unset, .unset, .unset, .unset] [(.int ((u0 &&& (2147483647 : Int32)) % (3 : Int32)))])) _
      refine XS.istore X0.here hx rfl (hb hby at_6) rfl (l' := #[.val (.int u0), .val (.int u1), .val (.long u2), .second, .val (.long u3), .second, .val (.long u4), .second, .val (.int ((u0 &&& (2147483647 : Int32)) % (3 : Int32))), .unset, .unset, .unset, .unset, .unset, .unset, .unset, .unset]) rfl ?_
      refine st2 _ ?_
      refine st5 _ ?_
      refine st12 _ ?_
      refine st14 _ ?_
      show Steps p.tables e below (T14.setTop (mkF m 118 #[.val (.int u0), .val (.int u1), .val (.long u2), .second, .val (.long u3), .second, .val (.long u4), .second, .val (.int ((u0 &&& (2147483647 : Int32)) % (3 : Int32))), .val (.ref ap), .val v5_0, .val v5_1, .val v12_0, .val v14_0, .unset, .unset, .unset] [])) _
      refine st21 _ ?_
      show Steps p.tables e below (T21.setTop (mkF m 121 #[.val (.int u0), .val (.int u1), .val (.long u2), .second, .val (.long u3), .second, .val (.long u4), .second, .val (.int ((u0 &&& (2147483647 : Int32)) % (3 : Int32))), .val (.ref ap), .val v5_0, .val v5_1, .val v12_0, .val v14_0, .unset, .unset, .unset] [(.ref b21)])) _
      refine XS.dup X21.here hx rfl (hb hby at_121) rfl rfl ?_
      show Steps p.tables e below (T21.setTop (mkF m 122 #[.val (.int u0), .val (.int u1), .val (.long u2), .second, .val (.long u3), .second, .val (.long u4), .second, .val (.int ((u0 &&& (2147483647 : Int32)) % (3 : Int32))), .val (.ref ap), .val v5_0, .val v5_1, .val v12_0, .val v14_0, .unset, .unset, .unset] [(.ref b21), (.ref b21)])) _
      refine XS.aload X21.here hx rfl (hb hby at_122) rfl rf5_1 ?_
      show Steps p.tables e below (T21.setTop (mkF m 124 #[.val (.int u0), .val (.int u1), .val (.long u2), .second, .val (.long u3), .second, .val (.long u4), .second, .val (.int ((u0 &&& (2147483647 : Int32)) % (3 : Int32))), .val (.ref ap), .val v5_0, .val v5_1, .val v12_0, .val v14_0, .unset, .unset, .unset] [v5_1, (.ref b21), (.ref b21)])) _
      refine XS.aload X21.here hx rfl (hb hby at_124) rfl rfl ?_
      show Steps p.tables e below (T21.setTop (mkF m 126 #[.val (.int u0), .val (.int u1), .val (.long u2), .second, .val (.long u3), .second, .val (.long u4), .second, .val (.int ((u0 &&& (2147483647 : Int32)) % (3 : Int32))), .val (.ref ap), .val v5_0, .val v5_1, .val v12_0, .val v14_0, .unset, .unset, .unset] [(.ref ap), v5_1, (.ref b21), (.ref b21)])) _
      refine XS.aload X21.here hx rfl (hb hby at_126) rfl rf12_0 ?_
      show Steps p.tables e below (T21.setTop (mkF m 128 #[.val (.int u0), .val (.int u1), .val (.long u2), .second, .val (.long u3), .second, .val (.long u4), .second, .val (.int ((u0 &&& (2147483647 : Int32)) % (3 : Int32))), .val (.ref ap), .val v5_0, .val v5_1, .val v12_0, .val v14_0, .unset, .unset, .unset] [v12_0, (.ref ap), v5_1, (.ref b21), (.ref b21)])) _
      refine XS.aload X21.here hx rfl (hb hby at_128) rfl rf14_0 ?_
      show Steps p.tables e below (T21.setTop (mkF m 130 #[.val (.int u0), .val (.int u1), .val (.long u2), .second, .val (.long u3), .second, .val (.long u4), .second, .val (.int ((u0 &&& (2147483647 : Int32)) % (3 : Int32))), .val (.ref ap), .val v5_0, .val v5_1, .val v12_0, .val v14_0, .unset, .unset, .unset] [v14_0, v12_0, (.ref ap), v5_1, (.ref b21), (.ref b21)])) _
      refine XS.lload X21.here hx rfl (hb hby at_130) rfl ?_
      show Steps p.tables e below (T21.setTop (mkF m 132 #[.val (.int u0), .val (.int u1), .val (.long u2), .second, .val (.long u3), .second, .val (.long u4), .second, .val (.int ((u0 &&& (2147483647 : Int32)) % (3 : Int32))), .val (.ref ap), .val v5_0, .val v5_1, .val v12_0, .val v14_0, .unset, .unset, .unset] [(.long u4), v14_0, v12_0, (.ref ap), v5_1, (.ref b21), (.ref b21)])) _
      refine st22.trans ?_
      show Steps p.tables e below (T22.setTop (mkF m 135 #[.val (.int u0), .val (.int u1), .val (.long u2), .second, .val (.long u3), .second, .val (.long u4), .second, .val (.int ((u0 &&& (2147483647 : Int32)) % (3 : Int32))), .val (.ref ap), .val v5_0, .val v5_1, .val v12_0, .val v14_0, .unset, .unset, .unset] [(.ref b21)])) _
      refine XS.astore X22.here hx rfl (hb hby at_135) rfl rfl (l' := #[.val (.int u0), .val (.int u1), .val (.long u2), .second, .val (.long u3), .second, .val (.long u4), .second, .val (.int ((u0 &&& (2147483647 : Int32)) % (3 : Int32))), .val (.ref ap), .val v5_0, .val v5_1, .val v12_0, .val v14_0, .val (.ref b21), .unset, .unset]) rfl ?_
      show Steps p.tables e below (T22.setTop (mkF m 137 #[.val (.int u0), .val (.int u1), .val (.long u2), .second, .val (.long u3), .second, .val (.long u4), .second, .val (.int ((u0 &&& (2147483647 : Int32)) % (3 : Int32))), .val (.ref ap), .val v5_0, .val v5_1, .val v12_0, .val v14_0, .val (.ref b21), .unset, .unset] [])) _
      refine XS.aload X22.here hx rfl (hb hby at_137) rfl rf5_1 ?_
      show Steps p.tables e below (T22.setTop (mkF m 139 #[.val (.int u0), .val (.int u1), .val (.long u2), .second, .val (.long u3), .second, .val (.long u4), .second, .val (.int ((u0 &&& (2147483647 : Int32)) % (3 : Int32))), .val (.ref ap), .val v5_0, .val v5_1, .val v12_0, .val v14_0, .val (.ref b21), .unset, .unset] [v5_1])) _
      refine XS.lload X22.here hx rfl (hb hby at_139) rfl ?_
      show Steps p.tables e below (T22.setTop (mkF m 141 #[.val (.int u0), .val (.int u1), .val (.long u2), .second, .val (.long u3), .second, .val (.long u4), .second, .val (.int ((u0 &&& (2147483647 : Int32)) % (3 : Int32))), .val (.ref ap), .val v5_0, .val v5_1, .val v12_0, .val v14_0, .val (.ref b21), .unset, .unset] [(.long u4), v5_1])) _
      refine st23 _ ?_
      show Steps p.tables e below (T23.setTop (mkF m 144 #[.val (.int u0), .val (.int u1), .val (.long u2), .second, .val (.long u3), .second, .val (.long u4), .second, .val (.int ((u0 &&& (2147483647 : Int32)) % (3 : Int32))), .val (.ref ap), .val v5_0, .val v5_1, .val v12_0, .val v14_0, .val (.ref b21), .unset, .unset] [(.ref b23)])) _
      refine XS.astore X23.here hx rfl (hb hby at_144) rfl rfl (l' := #[.val (.int u0), .val (.int u1), .val (.long u2), .second, .val (.long u3), .second, .val (.long u4), .second, .val (.int ((u0 &&& (2147483647 : Int32)) % (3 : Int32))), .val (.ref ap), .val v5_0, .val v5_1, .val v12_0, .val v14_0, .val (.ref b21), .val (.ref b23), .unset]) rfl ?_
      show Steps p.tables e below (T23.setTop (mkF m 146 #[.val (.int u0), .val (.int u1), .val (.long u2), .second, .val (.long u3), .second, .val (.long u4), .second, .val (.int ((u0 &&& (2147483647 : Int32)) % (3 : Int32))), .val (.ref ap), .val v5_0, .val v5_1, .val v12_0, .val v14_0, .val (.ref b21), .val (.ref b23), .unset] [])) _
      refine XS.aload X23.here hx rfl (hb hby at_146) rfl rfl ?_
      show Steps p.tables e below (T23.setTop (mkF m 148 #[.val (.int u0), .val (.int u1), .val (.long u2), .second, .val (.long u3), .second, .val (.long u4), .second, .val (.int ((u0 &&& (2147483647 : Int32)) % (3 : Int32))), .val (.ref ap), .val v5_0, .val v5_1, .val v12_0, .val v14_0, .val (.ref b21), .val (.ref b23), .unset] [(.ref ap)])) _
      refine XS.ifnonnullYes X23.here hx rfl (pc0 := 148) (pc' := 155) rfl (hb hby at_148) rfl (by decide) (by decide) ?_
      show Steps p.tables e below (T23.setTop (mkF m 155 #[.val (.int u0), .val (.int u1), .val (.long u2), .second, .val (.long u3), .second, .val (.long u4), .second, .val (.int ((u0 &&& (2147483647 : Int32)) % (3 : Int32))), .val (.ref ap), .val v5_0, .val v5_1, .val v12_0, .val v14_0, .val (.ref b21), .val (.ref b23), .unset] [])) _
      refine XS.iconst X23.here hx rfl (hb hby at_155) ?_
      show Steps p.tables e below (T23.setTop (mkF m 156 #[.val (.int u0), .val (.int u1), .val (.long u2), .second, .val (.long u3), .second, .val (.long u4), .second, .val (.int ((u0 &&& (2147483647 : Int32)) % (3 : Int32))), .val (.ref ap), .val v5_0, .val v5_1, .val v12_0, .val v14_0, .val (.ref b21), .val (.ref b23), .unset] [(.int (0 : Int32))])) _
      refine XS.istore X23.here hx rfl (hb hby at_156) rfl (l' := #[.val (.int u0), .val (.int u1), .val (.long u2), .second, .val (.long u3), .second, .val (.long u4), .second, .val (.int ((u0 &&& (2147483647 : Int32)) % (3 : Int32))), .val (.ref ap), .val v5_0, .val v5_1, .val v12_0, .val v14_0, .val (.ref b21), .val (.ref b23), .val (.int (0 : Int32))]) rfl ?_
      show Steps p.tables e below (T23.setTop (mkF m 158 #[.val (.int u0), .val (.int u1), .val (.long u2), .second, .val (.long u3), .second, .val (.long u4), .second, .val (.int ((u0 &&& (2147483647 : Int32)) % (3 : Int32))), .val (.ref ap), .val v5_0, .val v5_1, .val v12_0, .val v14_0, .val (.ref b21), .val (.ref b23), .val (.int (0 : Int32))] [])) _
      refine XS.aload X23.here hx rfl (hb hby at_158) rfl rfl ?_
      show Steps p.tables e below (T23.setTop (mkF m 160 #[.val (.int u0), .val (.int u1), .val (.long u2), .second, .val (.long u3), .second, .val (.long u4), .second, .val (.int ((u0 &&& (2147483647 : Int32)) % (3 : Int32))), .val (.ref ap), .val v5_0, .val v5_1, .val v12_0, .val v14_0, .val (.ref b21), .val (.ref b23), .val (.int (0 : Int32))] [(.ref b21)])) _
      refine st24.trans ?_
      show Steps p.tables e below (T24.setTop (mkF m 163 #[.val (.int u0), .val (.int u1), .val (.long u2), .second, .val (.long u3), .second, .val (.long u4), .second, .val (.int ((u0 &&& (2147483647 : Int32)) % (3 : Int32))), .val (.ref ap), .val v5_0, .val v5_1, .val v12_0, .val v14_0, .val (.ref b21), .val (.ref b23), .val (.int (0 : Int32))] [(.int (0 : Int32))])) _
      refine XS.iload X24.here hx rfl (hb hby at_163) rfl ?_
      show Steps p.tables e below (T24.setTop (mkF m 165 #[.val (.int u0), .val (.int u1), .val (.long u2), .second, .val (.long u3), .second, .val (.long u4), .second, .val (.int ((u0 &&& (2147483647 : Int32)) % (3 : Int32))), .val (.ref ap), .val v5_0, .val v5_1, .val v12_0, .val v14_0, .val (.ref b21), .val (.ref b23), .val (.int (0 : Int32))] [(.int (0 : Int32)), (.int (0 : Int32))])) _
      refine XS.icmpNo X24.here hx rfl (hb hby at_165) rfl (teq (by decide)).2 ?_
      show Steps p.tables e below (T24.setTop (mkF m 168 #[.val (.int u0), .val (.int u1), .val (.long u2), .second, .val (.long u3), .second, .val (.long u4), .second, .val (.int ((u0 &&& (2147483647 : Int32)) % (3 : Int32))), .val (.ref ap), .val v5_0, .val v5_1, .val v12_0, .val v14_0, .val (.ref b21), .val (.ref b23), .val (.int (0 : Int32))] [])) _
      refine XS.aload X24.here hx rfl (hb hby at_168) rfl rfl ?_
      show Steps p.tables e below (T24.setTop (mkF m 170 #[.val (.int u0), .val (.int u1), .val (.long u2), .second, .val (.long u3), .second, .val (.long u4), .second, .val (.int ((u0 &&& (2147483647 : Int32)) % (3 : Int32))), .val (.ref ap), .val v5_0, .val v5_1, .val v12_0, .val v14_0, .val (.ref b21), .val (.ref b23), .val (.int (0 : Int32))] [(.ref b23)])) _
      refine st25.trans ?_
      show Steps p.tables e below (T25.setTop (mkF m 173 #[.val (.int u0), .val (.int u1), .val (.long u2), .second, .val (.long u3), .second, .val (.long u4), .second, .val (.int ((u0 &&& (2147483647 : Int32)) % (3 : Int32))), .val (.ref ap), .val v5_0, .val v5_1, .val v12_0, .val v14_0, .val (.ref b21), .val (.ref b23), .val (.int (0 : Int32))] [(.int (1 : Int32))])) _
      refine XS.ifNo X25.here hx rfl (hb hby at_173) rfl ((if0 _ _).trans (feq (by decide)).1) ?_
      show Steps p.tables e below (T25.setTop (mkF m 176 #[.val (.int u0), .val (.int u1), .val (.long u2), .second, .val (.long u3), .second, .val (.long u4), .second, .val (.int ((u0 &&& (2147483647 : Int32)) % (3 : Int32))), .val (.ref ap), .val v5_0, .val v5_1, .val v12_0, .val v14_0, .val (.ref b21), .val (.ref b23), .val (.int (0 : Int32))] [])) _
      refine XS.iconst X25.here hx rfl (hb hby at_176) ?_
      show Steps p.tables e below (T25.setTop (mkF m 177 #[.val (.int u0), .val (.int u1), .val (.long u2), .second, .val (.long u3), .second, .val (.long u4), .second, .val (.int ((u0 &&& (2147483647 : Int32)) % (3 : Int32))), .val (.ref ap), .val v5_0, .val v5_1, .val v12_0, .val v14_0, .val (.ref b21), .val (.ref b23), .val (.int (0 : Int32))] [(.int (1 : Int32))])) _
      refine XS.goto X25.here hx rfl (pc0 := 177) (pc' := 181) rfl (hb hby at_177) (by decide) (by decide) ?_
      show Steps p.tables e below (T25.setTop (mkF m 181 #[.val (.int u0), .val (.int u1), .val (.long u2), .second, .val (.long u3), .second, .val (.long u4), .second, .val (.int ((u0 &&& (2147483647 : Int32)) % (3 : Int32))), .val (.ref ap), .val v5_0, .val v5_1, .val v12_0, .val v14_0, .val (.ref b21), .val (.ref b23), .val (.int (0 : Int32))] [(.int (1 : Int32))])) _
      exact retN X25 hx (t := .boolean) Bd.returns (by simp) (hb hby at_181) hr
    · show Q0 Z u0 u1 u2 u3 u4 a_DEFAULT a_FORCE G_COMPACT a_CACHE c_CACHE vf h0 n0 _ T25.heap _
      rw [e25]
      exact ⟨rfl, N25⟩
    · show CHr Z EL s.vm s.heap T25.vm T25.heap
      rw [e25]
      rw [hh]
      exact C23.trans (CHv.at X25 hZ (hEL hw) C23.1)
theorem own_len31 {Z : State} {args : Array Value} {t : Term} {a : Addr} {c : Cell} (ev : t.eval args Z none [] Z = some (.ref a)) (ha : Z.arrayAt? a = some c) (h : (Term.length t).eval args Z none [] Z = some (.int (256 : Int32))) : c.slots.size < 2 ^ 31 ∧ c.slots.size.toInt32 = (256 : Int32) := by
  by_cases hl : c.slots.size < 2 ^ 31
  · rw [len_f ev ha hl] at h
    exact ⟨hl, by simpa using h⟩
  · simp [Term.eval, ev, ha, hl] at h
theorem own_static_idx {Z : State} {args : Array Value} {C n d : String} {v : Value} (ev : (Term.static C n d).eval args Z none [] Z = some v) (idx : List Nat) : (Term.static C n d).eval args Z none idx Z = some v := by simpa [Term.eval] using ev
theorem own_sub {args : Array Value} {first s : State} {o : Option Outcome} {idx : List Nat} {a b : Term} {x y : Int32} (ha : a.eval args first o idx s = some (.int x)) (hb : b.eval args first o idx s = some (.int y)) : (Term.sub a b).eval args first o idx s = some (.int (x - y)) := by simp [Term.eval, ha, hb]
theorem own_sub_idx {Z : State} {args : Array Value} {j : Int32} (hj : ¬ j < 0) : (Term.sub (.index 0) (.int (128 : Int32))).eval args Z none [j.toNatClampNeg] Z = some (.int (j - 128)) := by
  exact own_sub (idx_at hj) (Term.int_eval _)
set_option maxRecDepth 65536 in
set_option maxHeartbeats 40000000 in
theorem comes_1 {Post : Tables → Env → Array Value → State → Outcome → State → Prop} (hpost : ∀ tb e args s v u, (limb_1_1.after args s (.returned v) u = true ∧ limb_1_2.after args s (.returned v) u = true ∧ True) → ReturnedEndW s (.returned v) u (Jvm.fieldLocs frame_1_writes args s ++ Jvm.arrayLocs frame_1_arrays args s ++ Jvm.staticLocs frame_1_statics s) 24 1152 → Post tb e args s (.returned v) u) :
    ArmFor flags0 classFile x code maxLocals ret World_1 tables_1 room_1 Calls_1 rest_1 Pre_1 Post := by
  intro l hfl _ _ p e ha hc hk s m args below hf hA hF happ hP
  obtain ⟨hcalls, hrest, hpre⟩ := hP
  obtain ⟨-, -, -, hnamed, -, -, -, hat⟩ := (Spec.applies_iff hf).mp happ
  obtain ⟨hg, hn⟩ := and_e (Cond.before_iff.mp (show (Jvm.Cond.and given_1 narrow_1).before args s = true from hpre))
  obtain ⟨g1, g2⟩ := and_e hg
  obtain ⟨g3, g4⟩ := and_e g2
  obtain ⟨g5, g6⟩ := and_e g4
  obtain ⟨g7, g8⟩ := and_e g6
  obtain ⟨g9, g10⟩ := and_e g8
  obtain ⟨g11, g12⟩ := and_e hn
  obtain ⟨w0, w1, w2, w3, w4, rfl⟩ : ∃ w0 w1 w2 w3 w4 : Value, args = #[w0, w1, w2, w3, w4] := by
    have hs : args.size = 5 := by simpa [Cond.value, given_1] using g1
    obtain ⟨L⟩ := args
    match L, hs with
    | [w0, w1, w2, w3, w4], _ => exact ⟨w0, w1, w2, w3, w4, rfl⟩
  have hw := fun d (hd : d ∈ tables_1) => atoms_spec (ws := Jvm.Cond.code x code maxLocals ret :: tables_1) hat d (List.mem_cons_of_mem _ hd)
  have hfit : Fit s := fun {y c} hc i hi => by
    obtain ⟨ha, rfl⟩ := Array.getElem?_eq_some_iff.mp hc
    have q := List.all_eq_true.mp ((Array.all_eq_true_iff_forall_mem.mp hF) _ (Array.getElem_mem ha)) i (List.mem_range.mpr hi)
    simpa [Array.getElem?_eq_getElem hi] using q
  obtain ⟨hsets, hown0⟩ := atoms_of _ (rest_1_c_eq ▸ (show rest_1_c.before _ s = true from hrest))
  have hr0 := Cond.before_iff.mp hown0
  obtain ⟨i0, ei0⟩ := is_v g3
  obtain rfl : w0 = (.int i0) := Option.some.inj ei0
  obtain ⟨i1, ei1⟩ := is_v g5
  obtain rfl : w1 = (.int i1) := Option.some.inj ei1
  obtain ⟨i2, ei2⟩ := isL_v g7
  obtain rfl : w2 = (.long i2) := Option.some.inj ei2
  obtain ⟨i3, ei3⟩ := isL_v g9
  obtain rfl : w3 = (.long i3) := Option.some.inj ei3
  obtain ⟨i4, ei4⟩ := isL_v g10
  obtain rfl : w4 = (.long i4) := Option.some.inj ei4
  obtain ⟨a_DEFAULT, ev_DEFAULT⟩ := exa_v g11
  have E_DEFAULT : Exa s s.heap a_DEFAULT "com/example/compact_settings/compactsettings/Policy" := Exa.start ev_DEFAULT g11
  have S_DEFAULT : Sta s s.heap "com/example/compact_settings/compactsettings/Policy" "DEFAULT" "Lcom/example/compact_settings/compactsettings/Policy;" (.ref a_DEFAULT) := Sta.start ev_DEFAULT (Or.inr ⟨(hw _ (List.mem_of_getElem? (i := 2) rfl)), (hw _ (List.mem_of_getElem? (i := 3) rfl))⟩)
  obtain ⟨a_FORCE, ev_FORCE⟩ := exa_v g12
  have E_FORCE : Exa s s.heap a_FORCE "com/example/compact_settings/compactsettings/Policy" := Exa.start ev_FORCE g12
  have S_FORCE : Sta s s.heap "com/example/compact_settings/compactsettings/Policy" "FORCE" "Lcom/example/compact_settings/compactsettings/Policy;" (.ref a_FORCE) := Sta.start ev_FORCE (Or.inr ⟨(hw _ (List.mem_of_getElem? (i := 2) rfl)), (hw _ (List.mem_of_getElem? (i := 85) rfl))⟩)
  have xC := Cond.before_iff.mp (hsets _ (List.mem_of_getElem? (i := 1) rfl))
  obtain ⟨gC, ev_C⟩ := is_v xC
  have S_COMPACT : Sta s s.heap "java/lang/String" "COMPACT_STRINGS" "Z" (.int gC) := Sta.start ev_C (Or.inl (hsets _ (List.mem_of_getElem? (i := 0) rfl)))
  have P_COMPACT : ¬ gC = 0 := by
    have xN := not_v (Cond.before_iff.mp (hsets _ (List.mem_of_getElem? (i := 2) rfl)))
    intro h0
    subst h0
    have e1 := eq_i (b := .int 0) ev_C (Term.int_eval (0 : Int32)) rfl
    rw [xN] at e1
    cases e1
  have yA := Cond.before_iff.mp (hsets _ (List.mem_of_getElem? (i := 11) rfl))
  obtain ⟨aC, ev_A⟩ := arr_v yA
  obtain ⟨cC, Ar_C⟩ := Arr.start ev_A yA
  have S_CACHE : Sta s s.heap "java/lang/Long$LongCache" "cache" "[Ljava/lang/Long;" (.ref aC) := Sta.start ev_A (Or.inl (hsets _ (List.mem_of_getElem? (i := 10) rfl)))
  have yL := Cond.before_iff.mp (hsets _ (List.mem_of_getElem? (i := 13) rfl))
  have ev_L := eqv_i (Term.int_eval (256 : Int32)) yL
  obtain ⟨hq31, hq256⟩ := own_len31 ev_A (Ar_C.fin (Vm.Alike.refl _)) ev_L
  have B_CACHE : Bxs s aC cC "java/lang/Long" "J" (256 : Int32) (fun j => .long (j - 128).toInt64) := Bxs.start (fun idx => own_static_idx ev_A idx) Ar_C hq31 hq256 (by decide) (Cond.before_iff.mp (hsets _ (List.mem_of_getElem? (i := 14) rfl))) (fun X j hj hX => eqv_l (i2l_at (own_sub_idx hj)) hX)
  have hCH : CHv s EL s.vm s.heap := fun p hp => by cases hp
  obtain ⟨n, o, h1, h2, h3, _, L, rfl, ⟨rfl, N⟩, -, hq⟩ := rm0 l s _ hw tables_1 i0 i1 i2 i3 i4 a_DEFAULT a_FORCE gC aC cC _ s.heap s.heap.size (Nat.le_refl _) (Old.start s) S_DEFAULT S_FORCE S_COMPACT P_COMPACT S_CACHE B_CACHE p e ha hc hk s m _ below hf ((Spec.applies_iff_loose hf).mp happ).1 ⟨rfl, State.Warmed39.refl s, rfl, hCH⟩ trivial
  refine ⟨n, _, h1, h2, h3, hpost _ _ _ _ _ _ ⟨Cond.after_iff.mpr rfl, Cond.after_iff.mpr (eq_i res_at (Term.int_eval (1)) rfl), trivial⟩ ⟨hq.1, hq.2.1, hq.2.2.1, (hq.2.2.2.sift fun y hy => Or.inr (N y hy)).mono (by decide) (by decide)⟩⟩
theorem main_1_1 : Claimed_1_1 := comes_1 fun _ _ _ _ _ _ h hF => ⟨h.1, hF⟩
theorem main_1_2 : Claimed_1_2 := comes_1 fun _ _ _ _ _ _ h hF => ⟨h.2.1, hF⟩
end Jvm.Pilot.@@N@@
namespace Jvm.Pilot.@@N@@
open Jvm Jvm.ClassFile Sem Op Lib Jvm.Free Jvm.Stand Jvm.Pilot.@@N@@.Jvm.D
/-! MADE BY PROGRAM (witnessworld.py) out of the Statement's table words and the real class files: 26 classes; the members and pool entries that the words name. The judged class is class 1, her method 1. -/
namespace start1
open Jvm.ClassFile
def u (s : String) : CpInfo := .utf8 (stringToUtf16 s)
/-- a pool by its gaps: so many unusable entries, then the entry; so many at the end -/
def gap : Nat → List CpInfo → List CpInfo
  | 0, r => r
  | n + 1, r => .unusable :: gap n r
def poolList (es : List (Nat × CpInfo)) (last : Nat) : List CpInfo := es.foldr (fun e r => gap e.1 (e.2 :: r)) (gap last [])
def pool (es : List (Nat × CpInfo)) (last : Nat) : Array CpInfo := ⟨poolList es last⟩
def fileOf (pool : Array CpInfo) (this : Nat) (attrs : Array Attribute := #[]) (ms : Array MethodInfo := #[]) (fl : Nat := 33) (sup : Nat := 0) (ifs : Array Nat := #[]) (fds : Array FieldInfo := #[]) : ClassFile where
  minorVersion := 0
  majorVersion := 65
  constantPool := pool
  accessFlags := fl
  thisClass := this
  superClass := sup
  interfaces := ifs
  fields := fds
  methods := ms
  attributes := attrs
def plain (name : String) (sup : Option ClassId) : Class where
  name := name
  kind := .ordinary
  loader := none
  accessFlags := 33
  super := sup
  interfaces := #[]
  cf := none
  fields := #[]
  methods := #[]
  instanceTypes := #[]
  staticTypes := #[]
  resolved := #[]
  callSites := []
  init := .initialized
  statics := none
  mirror := none

def pool0 : Array CpInfo := pool [(5, u "<init>"), (0, u "()V"), (1, .class_ 10), (1, u "java/lang/Object")] 113

def k0c0 : Code := { maxStack := 0, maxLocals := 1, code := object_method_1_code, exceptionTable := #[], attributes := #[] }
def k0m0 : Method := { name := "<init>", desc := "()V", sig := { parameters := [], returnType := none }, accessFlags := 1, code := some k0c0 }
/-- java/lang/Object -/
def k0 : Class := { plain "java/lang/Object" none with
  accessFlags := 33
  interfaces := #[]
  cf := some (fileOf pool0 8 #[] #[{ accessFlags := 1, nameIndex := 5, descriptorIndex := 6, attributes := #[] }] 33 0 #[] #[])
  fields := #[]
  methods := #[k0m0]
  instanceTypes := #[]
  staticTypes := #[]
  resolved := Array.replicate 124 none
  statics := none }

def pool1 : Array CpInfo := pool [(2, .class_ 4), (1, u "java/lang/Object"), (0, u "<init>"), (0, u "()V"), (0, .integer 2147483647), (0, .fieldref 9 10), (0, .class_ 11), (0, .nameAndType 12 13), (0, u "com/example/compact_settings/compactsettings/Policy"), (0, u "DEFAULT"), (0, u "Lcom/example/compact_settings/compactsettings/Policy;"), (0, .fieldref 9 15), (0, .nameAndType 16 13), (0, u "FORCE"), (0, .class_ 18), (0, u "com/example/compact_settings/compactsettings/extender/Written"), (0, .methodref 17 20), (0, .nameAndType 5 21), (0, u "(JLcom/example/compact_settings/compactsettings/Policy;Ljava/lang/String;J)V"), (0, .methodref 23 24), (0, .class_ 25), (0, .nameAndType 26 27), (0, u "java/lang/String"), (0, u "valueOf"), (0, u "(C)Ljava/lang/String;"), (0, .methodref 29 30), (0, .class_ 31), (0, .nameAndType 26 32), (0, u "java/lang/Long"), (0, u "(J)Ljava/lang/Long;"), (0, .class_ 34), (0, u "com/example/compact_settings/compactsettings/extender/Intent"), (0, .methodref 33 36), (0, .nameAndType 5 37), (0, u "(Lcom/example/compact_settings/compactsettings/extender/Written;Lcom/example/compact_settings/compactsettings/Policy;Ljava/lang/String;Ljava/lang/Long;J)V"), (0, .methodref 33 39), (0, .nameAndType 40 41), (0, u "deletion"), (0, u "(Lcom/example/compact_settings/compactsettings/extender/Written;J)Lcom/example/compact_settings/compactsettings/extender/Intent;"), (0, .methodref 33 43), (0, .nameAndType 44 45), (0, u "isDeletion"), (0, u "()Z"), (0, .class_ 47), (0, u "com/example/compact_settings/compactsettings/extender/IntentIsDeletionPinLaw"), (2, u "law"), (0, u "(IIJJJ)Z")] 3

def k1m0 : Method := { name := "<init>", desc := "()V", sig := { parameters := [], returnType := none }, accessFlags := 2, code := none }
def k1c1 : Code := { maxStack := 8, maxLocals := 17, code := code, exceptionTable := #[], attributes := #[] }
def k1m1 : Method := { name := "law", desc := "(IIJJJ)Z", sig := { parameters := [.int, .int, .long, .long, .long], returnType := some .boolean }, accessFlags := 9, code := some k1c1 }
/-- com/example/compact_settings/compactsettings/extender/IntentIsDeletionPinLaw -/
def k1 : Class := { plain "com/example/compact_settings/compactsettings/extender/IntentIsDeletionPinLaw" (some 0) with
  accessFlags := 49
  interfaces := #[]
  cf := some (fileOf pool1 46 #[] #[{ accessFlags := 2, nameIndex := 5, descriptorIndex := 6, attributes := #[] }, { accessFlags := 9, nameIndex := 50, descriptorIndex := 51, attributes := #[] }] 49 2 #[] #[])
  fields := #[]
  methods := #[k1m0, k1m1]
  instanceTypes := #[]
  staticTypes := #[]
  resolved := Array.replicate 55 none
  statics := none }

def pool2 : Array CpInfo := pool [(1, .class_ 2), (0, u "java/lang/constant/Constable"), (0, .class_ 4), (0, u "java/lang/Object")] 6

/-- java/lang/constant/Constable -/
def k2 : Class := { plain "java/lang/constant/Constable" (some 0) with
  accessFlags := 1537
  interfaces := #[]
  cf := some (fileOf pool2 1 #[] #[] 1537 3 #[] #[])
  fields := #[]
  methods := #[]
  instanceTypes := #[]
  staticTypes := #[]
  resolved := Array.replicate 11 none
  statics := none }

def pool3 : Array CpInfo := pool [(1, .class_ 2), (0, u "java/lang/Comparable"), (0, .class_ 4), (0, u "java/lang/Object")] 7

/-- java/lang/Comparable -/
def k3 : Class := { plain "java/lang/Comparable" (some 0) with
  accessFlags := 1537
  interfaces := #[]
  cf := some (fileOf pool3 1 #[] #[] 1537 3 #[] #[])
  fields := #[]
  methods := #[]
  instanceTypes := #[]
  staticTypes := #[]
  resolved := Array.replicate 12 none
  statics := none }

def pool4 : Array CpInfo := pool [(1, .class_ 2), (0, u "java/io/Serializable"), (0, .class_ 4), (0, u "java/lang/Object")] 2

/-- java/io/Serializable -/
def k4 : Class := { plain "java/io/Serializable" (some 0) with
  accessFlags := 1537
  interfaces := #[]
  cf := some (fileOf pool4 1 #[] #[] 1537 3 #[] #[])
  fields := #[]
  methods := #[]
  instanceTypes := #[]
  staticTypes := #[]
  resolved := Array.replicate 7 none
  statics := none }

def pool5 : Array CpInfo := pool [(2, .class_ 4), (1, u "java/lang/Enum"), (0, u "name"), (0, u "Ljava/lang/String;"), (2, u "ordinal"), (0, u "I"), (1, .class_ 14), (1, u "java/lang/Object"), (4, u "hash"), (86, .class_ 108), (1, u "java/lang/Enum$EnumDesc"), (2, .class_ 112), (0, u "java/lang/constant/Constable"), (0, .class_ 114), (0, u "java/lang/Comparable"), (0, .class_ 116), (0, u "java/io/Serializable")] 87

/-- java/lang/Enum -/
def k5 : Class := { plain "java/lang/Enum" (some 0) with
  accessFlags := 1057
  interfaces := #[2, 3, 4]
  cf := some (fileOf pool5 2 #[.nestMembers #[106]] #[] 1057 12 #[111, 113, 115] #[{ accessFlags := 18, nameIndex := 5, descriptorIndex := 6, attributes := #[] }, { accessFlags := 18, nameIndex := 9, descriptorIndex := 10, attributes := #[] }, { accessFlags := 2, nameIndex := 19, descriptorIndex := 10, attributes := #[] }])
  fields := #[{ name := "name", type := (.object "java/lang/String"), accessFlags := 18, slot := 0, constantValue := 0 }, { name := "ordinal", type := .int, accessFlags := 18, slot := 1, constantValue := 0 }, { name := "hash", type := .int, accessFlags := 2, slot := 2, constantValue := 0 }]
  methods := #[]
  instanceTypes := #[(.object "java/lang/String"), .int, .int]
  staticTypes := #[]
  resolved := Array.replicate 204 none
  statics := none }

def pool6 : Array CpInfo := pool [(1, .class_ 2), (0, u "com/example/compact_settings/compactsettings/Policy"), (2, u "DEFAULT"), (0, u "Lcom/example/compact_settings/compactsettings/Policy;"), (2, u "FORCE"), (2, u "$VALUES"), (0, u "[Lcom/example/compact_settings/compactsettings/Policy;"), (6, .class_ 22), (1, u "java/lang/Enum"), (8, u "written"), (0, u "Ljava/lang/String;")] 36

/-- com/example/compact_settings/compactsettings/Policy -/
def k6 : Class := { plain "com/example/compact_settings/compactsettings/Policy" (some 5) with
  accessFlags := 16433
  interfaces := #[]
  cf := some (fileOf pool6 1 #[] #[] 16433 20 #[] #[{ accessFlags := 16409, nameIndex := 5, descriptorIndex := 6, attributes := #[] }, { accessFlags := 16409, nameIndex := 9, descriptorIndex := 6, attributes := #[] }, { accessFlags := 18, nameIndex := 31, descriptorIndex := 32, attributes := #[] }, { accessFlags := 4122, nameIndex := 12, descriptorIndex := 13, attributes := #[] }])
  fields := #[{ name := "DEFAULT", type := (.object "com/example/compact_settings/compactsettings/Policy"), accessFlags := 16409, slot := 0, constantValue := 0 }, { name := "FORCE", type := (.object "com/example/compact_settings/compactsettings/Policy"), accessFlags := 16409, slot := 1, constantValue := 0 }, { name := "written", type := (.object "java/lang/String"), accessFlags := 18, slot := 3, constantValue := 0 }, { name := "$VALUES", type := (.array (.object "com/example/compact_settings/compactsettings/Policy")), accessFlags := 4122, slot := 2, constantValue := 0 }]
  methods := #[]
  instanceTypes := #[(.object "java/lang/String"), .int, .int, (.object "java/lang/String")]
  staticTypes := #[(.object "com/example/compact_settings/compactsettings/Policy"), (.object "com/example/compact_settings/compactsettings/Policy"), (.array (.object "com/example/compact_settings/compactsettings/Policy"))]
  resolved := Array.replicate 69 none
  statics := some 0 }

def pool7 : Array CpInfo := pool [(1, .methodref 2 3), (0, .class_ 4), (0, .nameAndType 5 6), (0, u "java/lang/Object"), (0, u "<init>"), (0, u "()V"), (0, .class_ 8), (0, u "java/lang/Record")] 13

def k7c0 : Code := { maxStack := 1, maxLocals := 1, code := jdk_30_method_1_code, exceptionTable := #[], attributes := #[] }
def k7m0 : Method := { name := "<init>", desc := "()V", sig := { parameters := [], returnType := none }, accessFlags := 4, code := some k7c0 }
/-- java/lang/Record -/
def k7 : Class := { plain "java/lang/Record" (some 0) with
  accessFlags := 1057
  interfaces := #[]
  cf := some (fileOf pool7 7 #[] #[{ accessFlags := 4, nameIndex := 5, descriptorIndex := 6, attributes := #[] }] 1057 2 #[] #[])
  fields := #[]
  methods := #[k7m0]
  instanceTypes := #[]
  staticTypes := #[]
  resolved := Array.replicate 22 none
  statics := none }

def pool8 : Array CpInfo := pool [(1, .methodref 2 3), (0, .class_ 4), (0, .nameAndType 5 6), (0, u "java/lang/Record"), (0, u "<init>"), (0, u "()V"), (0, .string 8), (0, u "policy"), (0, .methodref 10 11), (0, .class_ 12), (0, .nameAndType 13 14), (0, u "java/util/Objects"), (0, u "requireNonNull"), (0, u "(Ljava/lang/Object;Ljava/lang/String;)Ljava/lang/Object;"), (0, .fieldref 16 17), (0, .class_ 18), (0, .nameAndType 19 20), (0, u "com/example/compact_settings/compactsettings/extender/Written"), (0, u "changeCount"), (0, u "J"), (0, .fieldref 16 22), (0, .nameAndType 8 23), (0, u "Lcom/example/compact_settings/compactsettings/Policy;"), (0, .fieldref 16 25), (0, .nameAndType 26 27), (0, u "fingerprint"), (0, u "Ljava/lang/String;"), (0, .fieldref 16 29), (0, .nameAndType 30 20), (0, u "adminBundle"), (18, u "(JLcom/example/compact_settings/compactsettings/Policy;Ljava/lang/String;J)V"), (38, u "FINGERPRINT_BYTES"), (0, u "I")] 39

def k8c0 : Code := { maxStack := 3, maxLocals := 7, code := prog_63_method_1_code, exceptionTable := #[], attributes := #[] }
def k8m0 : Method := { name := "<init>", desc := "(JLcom/example/compact_settings/compactsettings/Policy;Ljava/lang/String;J)V", sig := { parameters := [.long, (.object "com/example/compact_settings/compactsettings/Policy"), (.object "java/lang/String"), .long], returnType := none }, accessFlags := 0, code := some k8c0 }
/-- com/example/compact_settings/compactsettings/extender/Written -/
def k8 : Class := { plain "com/example/compact_settings/compactsettings/extender/Written" (some 7) with
  accessFlags := 48
  interfaces := #[]
  cf := some (fileOf pool8 16 #[] #[{ accessFlags := 0, nameIndex := 5, descriptorIndex := 49, attributes := #[] }] 48 2 #[] #[{ accessFlags := 18, nameIndex := 19, descriptorIndex := 20, attributes := #[] }, { accessFlags := 18, nameIndex := 8, descriptorIndex := 23, attributes := #[] }, { accessFlags := 18, nameIndex := 26, descriptorIndex := 27, attributes := #[] }, { accessFlags := 18, nameIndex := 30, descriptorIndex := 20, attributes := #[] }, { accessFlags := 26, nameIndex := 88, descriptorIndex := 89, attributes := #[] }])
  fields := #[{ name := "changeCount", type := .long, accessFlags := 18, slot := 0, constantValue := 0 }, { name := "policy", type := (.object "com/example/compact_settings/compactsettings/Policy"), accessFlags := 18, slot := 1, constantValue := 0 }, { name := "fingerprint", type := (.object "java/lang/String"), accessFlags := 18, slot := 2, constantValue := 0 }, { name := "adminBundle", type := .long, accessFlags := 18, slot := 3, constantValue := 0 }, { name := "FINGERPRINT_BYTES", type := .int, accessFlags := 26, slot := 0, constantValue := 0 }]
  methods := #[k8m0]
  instanceTypes := #[.long, (.object "com/example/compact_settings/compactsettings/Policy"), (.object "java/lang/String"), .long]
  staticTypes := #[.int]
  resolved := Array.replicate 129 none
  statics := none }

def pool9 : Array CpInfo := pool [(2, .class_ 4), (1, u "java/lang/CharSequence"), (42, .class_ 48), (0, u "java/lang/CharSequence$1CodePointIterator"), (10, .class_ 60), (0, u "java/lang/CharSequence$1CharIterator"), (5, .class_ 67), (0, u "java/lang/Object")] 63

/-- java/lang/CharSequence -/
def k9 : Class := { plain "java/lang/CharSequence" (some 0) with
  accessFlags := 1537
  interfaces := #[]
  cf := some (fileOf pool9 2 #[.nestMembers #[47, 59]] #[] 1537 66 #[] #[])
  fields := #[]
  methods := #[]
  instanceTypes := #[]
  staticTypes := #[]
  resolved := Array.replicate 131 none
  statics := none }

def pool10 : Array CpInfo := pool [(1, .class_ 2), (0, u "java/lang/constant/ConstantDesc"), (0, .class_ 4), (0, u "java/lang/Object")] 32

/-- java/lang/constant/ConstantDesc -/
def k10 : Class := { plain "java/lang/constant/ConstantDesc" (some 0) with
  accessFlags := 1537
  interfaces := #[]
  cf := some (fileOf pool10 1 #[] #[] 1537 3 #[] #[])
  fields := #[]
  methods := #[]
  instanceTypes := #[]
  staticTypes := #[]
  resolved := Array.replicate 37 none
  statics := none }

def pool11 : Array CpInfo := pool [(1, .methodref 2 3), (0, .class_ 4), (0, .nameAndType 5 6), (0, u "java/lang/Object"), (0, u "<init>"), (0, u "()V"), (2, .fieldref 10 11), (0, .class_ 12), (0, .nameAndType 13 14), (0, u "java/lang/String"), (0, u "value"), (0, u "[B"), (0, .fieldref 10 16), (0, .nameAndType 17 18), (0, u "coder"), (0, u "B"), (2, u "hash"), (0, u "I"), (2, u "hashIsZero"), (0, u "Z"), (11, .fieldref 10 39), (0, .nameAndType 40 26), (0, u "COMPACT_STRINGS"), (12, u "toBytes"), (53, .class_ 109), (1, u "java/lang/StringLatin1"), (99, .methodref 10 210), (0, .nameAndType 5 211), (0, u "([BB)V"), (157, u "(C)Z"), (205, .class_ 576), (0, u "java/lang/CharSequence"), (22, u "CASE_INSENSITIVE_ORDER"), (0, u "Ljava/util/Comparator;"), (181, u "valueOf"), (0, u "(C)Ljava/lang/String;"), (231, .methodref 107 1016), (0, .nameAndType 1017 369), (0, u "canEncode"), (0, .methodref 107 1019), (0, .nameAndType 53 1020), (0, u "(C)[B"), (80, u "serialPersistentFields"), (0, u "[Ljava/io/ObjectStreamField;"), (0, .class_ 1104), (0, u "java/lang/String$CaseInsensitiveComparator"), (1, .class_ 1107), (0, u "java/io/Serializable"), (0, .class_ 1109), (0, u "java/lang/Comparable"), (0, .class_ 1111), (0, u "java/lang/constant/Constable"), (0, .class_ 1113), (0, u "java/lang/constant/ConstantDesc"), (2, u "serialVersionUID"), (0, u "J"), (3, u "REPL"), (0, u "C"), (2, u "LATIN1"), (1, u "UTF16")] 323

def k11m0 : Method := { name := "<init>", desc := "()V", sig := { parameters := [], returnType := none }, accessFlags := 1, code := none }
def k11c1 : Code := { maxStack := 4, maxLocals := 1, code := jdk_42_method_139_code, exceptionTable := #[], attributes := #[] }
def k11m1 : Method := { name := "valueOf", desc := "(C)Ljava/lang/String;", sig := { parameters := [.char], returnType := some (.object "java/lang/String") }, accessFlags := 9, code := some k11c1 }
def k11c2 : Code := { maxStack := 2, maxLocals := 3, code := jdk_42_method_151_code, exceptionTable := #[], attributes := #[] }
def k11m2 : Method := { name := "<init>", desc := "([BB)V", sig := { parameters := [(.array .byte), .byte], returnType := none }, accessFlags := 0, code := some k11c2 }
/-- java/lang/String -/
def k11 : Class := { plain "java/lang/String" (some 0) with
  accessFlags := 49
  interfaces := #[4, 3, 9, 2, 10]
  cf := some (fileOf pool11 10 #[.nestMembers #[1103]] #[{ accessFlags := 1, nameIndex := 5, descriptorIndex := 6, attributes := #[] }, { accessFlags := 9, nameIndex := 782, descriptorIndex := 783, attributes := #[] }, { accessFlags := 0, nameIndex := 5, descriptorIndex := 211, attributes := #[] }] 49 2 #[1106, 1108, 575, 1110, 1112] #[{ accessFlags := 18, nameIndex := 13, descriptorIndex := 14, attributes := #[] }, { accessFlags := 18, nameIndex := 17, descriptorIndex := 18, attributes := #[] }, { accessFlags := 2, nameIndex := 21, descriptorIndex := 22, attributes := #[] }, { accessFlags := 2, nameIndex := 25, descriptorIndex := 26, attributes := #[] }, { accessFlags := 26, nameIndex := 1116, descriptorIndex := 1117, attributes := #[] }, { accessFlags := 24, nameIndex := 40, descriptorIndex := 26, attributes := #[] }, { accessFlags := 26, nameIndex := 1101, descriptorIndex := 1102, attributes := #[] }, { accessFlags := 26, nameIndex := 1121, descriptorIndex := 1122, attributes := #[] }, { accessFlags := 25, nameIndex := 599, descriptorIndex := 600, attributes := #[] }, { accessFlags := 24, nameIndex := 1125, descriptorIndex := 18, attributes := #[] }, { accessFlags := 24, nameIndex := 1127, descriptorIndex := 18, attributes := #[] }])
  fields := #[{ name := "value", type := (.array .byte), accessFlags := 18, slot := 0, constantValue := 0 }, { name := "coder", type := .byte, accessFlags := 18, slot := 1, constantValue := 0 }, { name := "hash", type := .int, accessFlags := 2, slot := 2, constantValue := 0 }, { name := "hashIsZero", type := .boolean, accessFlags := 2, slot := 3, constantValue := 0 }, { name := "serialVersionUID", type := .long, accessFlags := 26, slot := 0, constantValue := 0 }, { name := "COMPACT_STRINGS", type := .boolean, accessFlags := 24, slot := 1, constantValue := 0 }, { name := "serialPersistentFields", type := (.array (.object "java/io/ObjectStreamField")), accessFlags := 26, slot := 2, constantValue := 0 }, { name := "REPL", type := .char, accessFlags := 26, slot := 3, constantValue := 0 }, { name := "CASE_INSENSITIVE_ORDER", type := (.object "java/util/Comparator"), accessFlags := 25, slot := 4, constantValue := 0 }, { name := "LATIN1", type := .byte, accessFlags := 24, slot := 5, constantValue := 0 }, { name := "UTF16", type := .byte, accessFlags := 24, slot := 6, constantValue := 0 }]
  methods := #[k11m0, k11m1, k11m2]
  instanceTypes := #[(.array .byte), .byte, .int, .boolean]
  staticTypes := #[.long, .boolean, (.array (.object "java/io/ObjectStreamField")), .char, (.object "java/util/Comparator"), .byte, .byte]
  resolved := Array.replicate 1451 none
  statics := some 1 }

def pool12 : Array CpInfo := pool [(2, .class_ 4), (1, u "java/lang/Object"), (0, u "<init>"), (0, u "()V"), (35, .class_ 44), (1, u "java/util/Objects"), (0, u "requireNonNull"), (48, u "(Ljava/lang/Object;Ljava/lang/String;)Ljava/lang/Object;")] 89

def k12m0 : Method := { name := "<init>", desc := "()V", sig := { parameters := [], returnType := none }, accessFlags := 2, code := none }
def k12c1 : Code := { maxStack := 3, maxLocals := 2, code := jdk_31_method_11_code, exceptionTable := #[], attributes := #[] }
def k12m1 : Method := { name := "requireNonNull", desc := "(Ljava/lang/Object;Ljava/lang/String;)Ljava/lang/Object;", sig := { parameters := [(.object "java/lang/Object"), (.object "java/lang/String")], returnType := some (.object "java/lang/Object") }, accessFlags := 9, code := some k12c1 }
/-- java/util/Objects -/
def k12 : Class := { plain "java/util/Objects" (some 0) with
  accessFlags := 49
  interfaces := #[]
  cf := some (fileOf pool12 42 #[] #[{ accessFlags := 2, nameIndex := 5, descriptorIndex := 6, attributes := #[] }, { accessFlags := 9, nameIndex := 45, descriptorIndex := 94, attributes := #[] }] 49 2 #[] #[])
  fields := #[]
  methods := #[k12m0, k12m1]
  instanceTypes := #[]
  staticTypes := #[]
  resolved := Array.replicate 184 none
  statics := none }

def pool13 : Array CpInfo := pool [(4, .class_ 6), (1, u "java/lang/Object"), (0, u "<init>"), (0, u "()V"), (5, .class_ 16), (1, u "java/lang/StringLatin1"), (73, u "canEncode"), (14, u "(C)Z"), (15, u "$assertionsDisabled"), (0, u "Z"), (98, .class_ 223), (1, u "java/lang/StringLatin1$LinesSpliterator"), (156, u "toBytes"), (1, u "(C)[B"), (7, .class_ 391), (0, u "java/lang/StringLatin1$CharsSpliterator")] 3

def k13m0 : Method := { name := "<init>", desc := "()V", sig := { parameters := [], returnType := none }, accessFlags := 0, code := none }
def k13c1 : Code := { maxStack := 2, maxLocals := 1, code := jdk_43_method_3_code, exceptionTable := #[], attributes := #[] }
def k13m1 : Method := { name := "canEncode", desc := "(C)Z", sig := { parameters := [.char], returnType := some .boolean }, accessFlags := 9, code := some k13c1 }
def k13c2 : Code := { maxStack := 4, maxLocals := 1, code := jdk_43_method_46_code, exceptionTable := #[], attributes := #[] }
def k13m2 : Method := { name := "toBytes", desc := "(C)[B", sig := { parameters := [.char], returnType := some (.array .byte) }, accessFlags := 9, code := some k13c2 }
/-- java/lang/StringLatin1 -/
def k13 : Class := { plain "java/lang/StringLatin1" (some 0) with
  accessFlags := 48
  interfaces := #[]
  cf := some (fileOf pool13 14 #[.nestMembers #[390, 221]] #[{ accessFlags := 0, nameIndex := 7, descriptorIndex := 8, attributes := #[] }, { accessFlags := 9, nameIndex := 90, descriptorIndex := 105, attributes := #[] }, { accessFlags := 9, nameIndex := 380, descriptorIndex := 382, attributes := #[] }] 48 4 #[] #[{ accessFlags := 4120, nameIndex := 121, descriptorIndex := 122, attributes := #[] }])
  fields := #[{ name := "$assertionsDisabled", type := .boolean, accessFlags := 4120, slot := 0, constantValue := 0 }]
  methods := #[k13m0, k13m1, k13m2]
  instanceTypes := #[]
  staticTypes := #[.boolean]
  resolved := Array.replicate 395 none
  statics := none }

def pool14 : Array CpInfo := pool [(1, .methodref 2 3), (0, .class_ 4), (0, .nameAndType 5 6), (0, u "java/lang/Record"), (0, u "<init>"), (0, u "()V"), (0, .fieldref 8 9), (0, .class_ 10), (0, .nameAndType 11 12), (0, u "com/example/compact_settings/compactsettings/extender/Intent"), (0, u "before"), (0, u "Lcom/example/compact_settings/compactsettings/extender/Written;"), (0, .fieldref 8 14), (0, .nameAndType 15 16), (0, u "policy"), (0, u "Lcom/example/compact_settings/compactsettings/Policy;"), (0, .fieldref 8 18), (0, .nameAndType 19 20), (0, u "fingerprint"), (0, u "Ljava/lang/String;"), (0, .fieldref 8 22), (0, .nameAndType 23 24), (0, u "changeCountBefore"), (0, u "Ljava/lang/Long;"), (0, .fieldref 8 26), (0, .nameAndType 27 28), (0, u "adminBundle"), (0, u "J"), (0, .methodref 8 30), (0, .nameAndType 5 31), (0, u "(Lcom/example/compact_settings/compactsettings/extender/Written;Lcom/example/compact_settings/compactsettings/Policy;Ljava/lang/String;Ljava/lang/Long;J)V"), (2, u "isDeletion"), (0, u "()Z"), (34, u "deletion"), (0, u "(Lcom/example/compact_settings/compactsettings/extender/Written;J)Lcom/example/compact_settings/compactsettings/extender/Intent;")] 32

def k14c0 : Code := { maxStack := 3, maxLocals := 7, code := prog_53_method_1_code, exceptionTable := #[], attributes := #[] }
def k14m0 : Method := { name := "<init>", desc := "(Lcom/example/compact_settings/compactsettings/extender/Written;Lcom/example/compact_settings/compactsettings/Policy;Ljava/lang/String;Ljava/lang/Long;J)V", sig := { parameters := [(.object "com/example/compact_settings/compactsettings/extender/Written"), (.object "com/example/compact_settings/compactsettings/Policy"), (.object "java/lang/String"), (.object "java/lang/Long"), .long], returnType := none }, accessFlags := 0, code := some k14c0 }
def k14c1 : Code := { maxStack := 8, maxLocals := 3, code := prog_53_method_2_code, exceptionTable := #[], attributes := #[] }
def k14m1 : Method := { name := "deletion", desc := "(Lcom/example/compact_settings/compactsettings/extender/Written;J)Lcom/example/compact_settings/compactsettings/extender/Intent;", sig := { parameters := [(.object "com/example/compact_settings/compactsettings/extender/Written"), .long], returnType := some (.object "com/example/compact_settings/compactsettings/extender/Intent") }, accessFlags := 8, code := some k14c1 }
def k14c2 : Code := { maxStack := 1, maxLocals := 1, code := prog_53_method_3_code, exceptionTable := #[], attributes := #[] }
def k14m2 : Method := { name := "isDeletion", desc := "()Z", sig := { parameters := [], returnType := some .boolean }, accessFlags := 0, code := some k14c2 }
/-- com/example/compact_settings/compactsettings/extender/Intent -/
def k14 : Class := { plain "com/example/compact_settings/compactsettings/extender/Intent" (some 7) with
  accessFlags := 48
  interfaces := #[]
  cf := some (fileOf pool14 8 #[] #[{ accessFlags := 0, nameIndex := 5, descriptorIndex := 31, attributes := #[] }, { accessFlags := 8, nameIndex := 70, descriptorIndex := 71, attributes := #[] }, { accessFlags := 0, nameIndex := 34, descriptorIndex := 35, attributes := #[] }] 48 2 #[] #[{ accessFlags := 18, nameIndex := 11, descriptorIndex := 12, attributes := #[] }, { accessFlags := 18, nameIndex := 15, descriptorIndex := 16, attributes := #[] }, { accessFlags := 18, nameIndex := 19, descriptorIndex := 20, attributes := #[] }, { accessFlags := 18, nameIndex := 23, descriptorIndex := 24, attributes := #[] }, { accessFlags := 18, nameIndex := 27, descriptorIndex := 28, attributes := #[] }])
  fields := #[{ name := "before", type := (.object "com/example/compact_settings/compactsettings/extender/Written"), accessFlags := 18, slot := 0, constantValue := 0 }, { name := "policy", type := (.object "com/example/compact_settings/compactsettings/Policy"), accessFlags := 18, slot := 1, constantValue := 0 }, { name := "fingerprint", type := (.object "java/lang/String"), accessFlags := 18, slot := 2, constantValue := 0 }, { name := "changeCountBefore", type := (.object "java/lang/Long"), accessFlags := 18, slot := 3, constantValue := 0 }, { name := "adminBundle", type := .long, accessFlags := 18, slot := 4, constantValue := 0 }]
  methods := #[k14m0, k14m1, k14m2]
  instanceTypes := #[(.object "com/example/compact_settings/compactsettings/extender/Written"), (.object "com/example/compact_settings/compactsettings/Policy"), (.object "java/lang/String"), (.object "java/lang/Long"), .long]
  staticTypes := #[]
  resolved := Array.replicate 104 none
  statics := none }

def pool15 : Array CpInfo := pool [(1, .methodref 2 3), (0, .class_ 4), (0, .nameAndType 5 6), (0, u "java/lang/Object"), (0, u "<init>"), (0, u "()V"), (1, .class_ 10), (1, u "java/lang/Number"), (2, .class_ 14), (0, u "java/io/Serializable"), (0, u "serialVersionUID"), (0, u "J")] 20

def k15c0 : Code := { maxStack := 1, maxLocals := 1, code := jdk_18_method_1_code, exceptionTable := #[], attributes := #[] }
def k15m0 : Method := { name := "<init>", desc := "()V", sig := { parameters := [], returnType := none }, accessFlags := 1, code := some k15c0 }
/-- java/lang/Number -/
def k15 : Class := { plain "java/lang/Number" (some 0) with
  accessFlags := 1057
  interfaces := #[4]
  cf := some (fileOf pool15 8 #[] #[{ accessFlags := 1, nameIndex := 5, descriptorIndex := 6, attributes := #[] }] 1057 2 #[13] #[{ accessFlags := 26, nameIndex := 15, descriptorIndex := 16, attributes := #[] }])
  fields := #[{ name := "serialVersionUID", type := .long, accessFlags := 26, slot := 0, constantValue := 0 }]
  methods := #[k15m0]
  instanceTypes := #[]
  staticTypes := #[.long]
  resolved := Array.replicate 37 none
  statics := none }

def pool16 : Array CpInfo := pool [(1, .class_ 2), (0, u "java/lang/Long"), (55, .nameAndType 59 60), (0, u "<init>"), (0, u "()V"), (24, u "valueOf"), (143, u "(J)Ljava/lang/Long;"), (0, .long 18446744073709551488), (1, .long 127), (1, .fieldref 235 236), (0, .class_ 237), (0, .nameAndType 238 239), (0, u "java/lang/Long$LongCache"), (0, u "cache"), (0, u "[Ljava/lang/Long;"), (0, .methodref 1 241), (0, .nameAndType 59 242), (0, u "(J)V"), (27, .methodref 271 58), (0, .class_ 272), (0, u "java/lang/Number"), (0, .fieldref 1 274), (0, .nameAndType 275 276), (0, u "value"), (0, u "J"), (84, u "TYPE"), (0, u "Ljava/lang/Class;"), (0, .class_ 364), (0, u "java/lang/Comparable"), (0, .class_ 366), (0, u "java/lang/constant/Constable"), (0, .class_ 368), (0, u "java/lang/constant/ConstantDesc"), (0, u "MIN_VALUE"), (1, u "MAX_VALUE"), (4, u "SIZE"), (0, u "I"), (1, u "BYTES"), (1, u "serialVersionUID")] 142

def k16c0 : Code := { maxStack := 4, maxLocals := 3, code := jdk_35_method_24_code, exceptionTable := #[], attributes := #[] }
def k16m0 : Method := { name := "valueOf", desc := "(J)Ljava/lang/Long;", sig := { parameters := [.long], returnType := some (.object "java/lang/Long") }, accessFlags := 9, code := some k16c0 }
def k16c1 : Code := { maxStack := 3, maxLocals := 3, code := jdk_35_method_26_code, exceptionTable := #[], attributes := #[] }
def k16m1 : Method := { name := "<init>", desc := "(J)V", sig := { parameters := [.long], returnType := none }, accessFlags := 1, code := some k16c1 }
/-- java/lang/Long -/
def k16 : Class := { plain "java/lang/Long" (some 15) with
  accessFlags := 49
  interfaces := #[3, 2, 10]
  cf := some (fileOf pool16 1 #[.nestMembers #[235]] #[{ accessFlags := 9, nameIndex := 85, descriptorIndex := 229, attributes := #[] }, { accessFlags := 1, nameIndex := 59, descriptorIndex := 242, attributes := #[] }] 49 271 #[363, 365, 367] #[{ accessFlags := 25, nameIndex := 369, descriptorIndex := 276, attributes := #[] }, { accessFlags := 25, nameIndex := 371, descriptorIndex := 276, attributes := #[] }, { accessFlags := 25, nameIndex := 361, descriptorIndex := 362, attributes := #[] }, { accessFlags := 18, nameIndex := 275, descriptorIndex := 276, attributes := #[] }, { accessFlags := 25, nameIndex := 376, descriptorIndex := 377, attributes := #[] }, { accessFlags := 25, nameIndex := 379, descriptorIndex := 377, attributes := #[] }, { accessFlags := 26, nameIndex := 381, descriptorIndex := 276, attributes := #[] }])
  fields := #[{ name := "MIN_VALUE", type := .long, accessFlags := 25, slot := 0, constantValue := 0 }, { name := "MAX_VALUE", type := .long, accessFlags := 25, slot := 1, constantValue := 0 }, { name := "TYPE", type := (.object "java/lang/Class"), accessFlags := 25, slot := 2, constantValue := 0 }, { name := "value", type := .long, accessFlags := 18, slot := 0, constantValue := 0 }, { name := "SIZE", type := .int, accessFlags := 25, slot := 3, constantValue := 0 }, { name := "BYTES", type := .int, accessFlags := 25, slot := 4, constantValue := 0 }, { name := "serialVersionUID", type := .long, accessFlags := 26, slot := 5, constantValue := 0 }]
  methods := #[k16m0, k16m1]
  instanceTypes := #[.long]
  staticTypes := #[.long, .long, (.object "java/lang/Class"), .int, .int, .long]
  resolved := Array.replicate 524 none
  statics := none }

def pool17 : Array CpInfo := pool [(2, .class_ 4), (1, u "java/lang/Object"), (0, u "<init>"), (0, u "()V"), (0, .class_ 8), (0, u "java/lang/Long"), (7, .class_ 18), (1, u "java/lang/Long$LongCache"), (0, u "$assertionsDisabled"), (0, u "Z"), (8, u "archivedCache"), (0, u "[Ljava/lang/Long;"), (7, u "cache")] 24

def k17m0 : Method := { name := "<init>", desc := "()V", sig := { parameters := [], returnType := none }, accessFlags := 2, code := none }
/-- java/lang/Long$LongCache -/
def k17 : Class := { plain "java/lang/Long$LongCache" (some 0) with
  accessFlags := 48
  interfaces := #[]
  cf := some (fileOf pool17 16 #[.nestHost 7] #[{ accessFlags := 2, nameIndex := 5, descriptorIndex := 6, attributes := #[] }] 48 2 #[] #[{ accessFlags := 24, nameIndex := 38, descriptorIndex := 30, attributes := #[] }, { accessFlags := 8, nameIndex := 29, descriptorIndex := 30, attributes := #[] }, { accessFlags := 4120, nameIndex := 19, descriptorIndex := 20, attributes := #[] }])
  fields := #[{ name := "cache", type := (.array (.object "java/lang/Long")), accessFlags := 24, slot := 0, constantValue := 0 }, { name := "archivedCache", type := (.array (.object "java/lang/Long")), accessFlags := 8, slot := 1, constantValue := 0 }, { name := "$assertionsDisabled", type := .boolean, accessFlags := 4120, slot := 2, constantValue := 0 }]
  methods := #[k17m0]
  instanceTypes := #[]
  staticTypes := #[(.array (.object "java/lang/Long")), (.array (.object "java/lang/Long")), .boolean]
  resolved := Array.replicate 63 none
  statics := some 2 }

def pool18 : Array CpInfo := pool [(2, .class_ 4), (1, u "java/lang/Object"), (0, u "<init>"), (0, u "()V"), (17, .class_ 26), (1, u "jdk/internal/util/Preconditions"), (28, .class_ 56), (0, u "jdk/internal/util/Preconditions$4"), (57, .class_ 115), (0, u "jdk/internal/util/Preconditions$1"), (7, u "SIOOBE_FORMATTER"), (0, u "Ljava/util/function/BiFunction;"), (0, .class_ 126), (0, u "jdk/internal/util/Preconditions$2"), (3, u "AIOOBE_FORMATTER"), (0, .class_ 132), (0, u "jdk/internal/util/Preconditions$3"), (3, u "IOOBE_FORMATTER")] 57

def k18m0 : Method := { name := "<init>", desc := "()V", sig := { parameters := [], returnType := none }, accessFlags := 1, code := none }
/-- jdk/internal/util/Preconditions -/
def k18 : Class := { plain "jdk/internal/util/Preconditions" (some 0) with
  accessFlags := 33
  interfaces := #[]
  cf := some (fileOf pool18 24 #[.nestMembers #[55, 131, 125, 114]] #[{ accessFlags := 1, nameIndex := 5, descriptorIndex := 6, attributes := #[] }] 33 2 #[] #[{ accessFlags := 25, nameIndex := 123, descriptorIndex := 124, attributes := #[] }, { accessFlags := 25, nameIndex := 130, descriptorIndex := 124, attributes := #[] }, { accessFlags := 25, nameIndex := 136, descriptorIndex := 124, attributes := #[] }])
  fields := #[{ name := "SIOOBE_FORMATTER", type := (.object "java/util/function/BiFunction"), accessFlags := 25, slot := 0, constantValue := 0 }, { name := "AIOOBE_FORMATTER", type := (.object "java/util/function/BiFunction"), accessFlags := 25, slot := 1, constantValue := 0 }, { name := "IOOBE_FORMATTER", type := (.object "java/util/function/BiFunction"), accessFlags := 25, slot := 2, constantValue := 0 }]
  methods := #[k18m0]
  instanceTypes := #[]
  staticTypes := #[(.object "java/util/function/BiFunction"), (.object "java/util/function/BiFunction"), (.object "java/util/function/BiFunction")]
  resolved := Array.replicate 194 none
  statics := some 3 }

def pool19 : Array CpInfo := pool [(9, u "<init>"), (6, .class_ 18), (1, u "java/lang/Object"), (0, u "()V"), (1, .class_ 23), (1, u "jdk/internal/util/ArraysSupport"), (0, u "LOG2_ARRAY_LONG_INDEX_SCALE"), (0, u "I"), (2, u "U"), (0, u "Ljdk/internal/misc/Unsafe;"), (8, u "BIG_ENDIAN"), (0, u "Z"), (8, u "LOG2_BYTE_BIT_SIZE"), (4, u "LOG2_ARRAY_INT_INDEX_SCALE"), (54, u "JLA"), (0, u "Ljdk/internal/access/JavaLangAccess;"), (11, u "LOG2_ARRAY_BOOLEAN_INDEX_SCALE"), (9, u "LOG2_ARRAY_BYTE_INDEX_SCALE"), (5, u "LOG2_ARRAY_CHAR_INDEX_SCALE"), (5, u "LOG2_ARRAY_SHORT_INDEX_SCALE"), (18, u "LOG2_ARRAY_FLOAT_INDEX_SCALE"), (24, u "LOG2_ARRAY_DOUBLE_INDEX_SCALE"), (89, u "T_BOOLEAN"), (2, u "T_CHAR"), (1, u "T_FLOAT"), (1, u "T_DOUBLE"), (1, u "T_BYTE"), (1, u "T_SHORT"), (1, u "T_INT"), (1, u "T_LONG"), (1, u "SOFT_MAX_ARRAY_LENGTH")] 83

def k19m0 : Method := { name := "<init>", desc := "()V", sig := { parameters := [], returnType := none }, accessFlags := 2, code := none }
/-- jdk/internal/util/ArraysSupport -/
def k19 : Class := { plain "jdk/internal/util/ArraysSupport" (some 0) with
  accessFlags := 33
  interfaces := #[]
  cf := some (fileOf pool19 21 #[] #[{ accessFlags := 2, nameIndex := 9, descriptorIndex := 19, attributes := #[] }] 33 16 #[] #[{ accessFlags := 24, nameIndex := 28, descriptorIndex := 29, attributes := #[] }, { accessFlags := 26, nameIndex := 38, descriptorIndex := 39, attributes := #[] }, { accessFlags := 25, nameIndex := 121, descriptorIndex := 25, attributes := #[] }, { accessFlags := 25, nameIndex := 131, descriptorIndex := 25, attributes := #[] }, { accessFlags := 25, nameIndex := 137, descriptorIndex := 25, attributes := #[] }, { accessFlags := 25, nameIndex := 143, descriptorIndex := 25, attributes := #[] }, { accessFlags := 25, nameIndex := 53, descriptorIndex := 25, attributes := #[] }, { accessFlags := 25, nameIndex := 24, descriptorIndex := 25, attributes := #[] }, { accessFlags := 25, nameIndex := 162, descriptorIndex := 25, attributes := #[] }, { accessFlags := 25, nameIndex := 187, descriptorIndex := 25, attributes := #[] }, { accessFlags := 26, nameIndex := 48, descriptorIndex := 25, attributes := #[] }, { accessFlags := 25, nameIndex := 277, descriptorIndex := 25, attributes := #[] }, { accessFlags := 25, nameIndex := 280, descriptorIndex := 25, attributes := #[] }, { accessFlags := 25, nameIndex := 282, descriptorIndex := 25, attributes := #[] }, { accessFlags := 25, nameIndex := 284, descriptorIndex := 25, attributes := #[] }, { accessFlags := 25, nameIndex := 286, descriptorIndex := 25, attributes := #[] }, { accessFlags := 25, nameIndex := 288, descriptorIndex := 25, attributes := #[] }, { accessFlags := 25, nameIndex := 290, descriptorIndex := 25, attributes := #[] }, { accessFlags := 25, nameIndex := 292, descriptorIndex := 25, attributes := #[] }, { accessFlags := 26, nameIndex := 108, descriptorIndex := 109, attributes := #[] }, { accessFlags := 25, nameIndex := 294, descriptorIndex := 25, attributes := #[] }])
  fields := #[{ name := "U", type := (.object "jdk/internal/misc/Unsafe"), accessFlags := 24, slot := 0, constantValue := 0 }, { name := "BIG_ENDIAN", type := .boolean, accessFlags := 26, slot := 1, constantValue := 0 }, { name := "LOG2_ARRAY_BOOLEAN_INDEX_SCALE", type := .int, accessFlags := 25, slot := 2, constantValue := 0 }, { name := "LOG2_ARRAY_BYTE_INDEX_SCALE", type := .int, accessFlags := 25, slot := 3, constantValue := 0 }, { name := "LOG2_ARRAY_CHAR_INDEX_SCALE", type := .int, accessFlags := 25, slot := 4, constantValue := 0 }, { name := "LOG2_ARRAY_SHORT_INDEX_SCALE", type := .int, accessFlags := 25, slot := 5, constantValue := 0 }, { name := "LOG2_ARRAY_INT_INDEX_SCALE", type := .int, accessFlags := 25, slot := 6, constantValue := 0 }, { name := "LOG2_ARRAY_LONG_INDEX_SCALE", type := .int, accessFlags := 25, slot := 7, constantValue := 0 }, { name := "LOG2_ARRAY_FLOAT_INDEX_SCALE", type := .int, accessFlags := 25, slot := 8, constantValue := 0 }, { name := "LOG2_ARRAY_DOUBLE_INDEX_SCALE", type := .int, accessFlags := 25, slot := 9, constantValue := 0 }, { name := "LOG2_BYTE_BIT_SIZE", type := .int, accessFlags := 26, slot := 10, constantValue := 0 }, { name := "T_BOOLEAN", type := .int, accessFlags := 25, slot := 11, constantValue := 0 }, { name := "T_CHAR", type := .int, accessFlags := 25, slot := 12, constantValue := 0 }, { name := "T_FLOAT", type := .int, accessFlags := 25, slot := 13, constantValue := 0 }, { name := "T_DOUBLE", type := .int, accessFlags := 25, slot := 14, constantValue := 0 }, { name := "T_BYTE", type := .int, accessFlags := 25, slot := 15, constantValue := 0 }, { name := "T_SHORT", type := .int, accessFlags := 25, slot := 16, constantValue := 0 }, { name := "T_INT", type := .int, accessFlags := 25, slot := 17, constantValue := 0 }, { name := "T_LONG", type := .int, accessFlags := 25, slot := 18, constantValue := 0 }, { name := "JLA", type := (.object "jdk/internal/access/JavaLangAccess"), accessFlags := 26, slot := 19, constantValue := 0 }, { name := "SOFT_MAX_ARRAY_LENGTH", type := .int, accessFlags := 25, slot := 20, constantValue := 0 }]
  methods := #[k19m0]
  instanceTypes := #[]
  staticTypes := #[(.object "jdk/internal/misc/Unsafe"), .boolean, .int, .int, .int, .int, .int, .int, .int, .int, .int, .int, .int, .int, .int, .int, .int, .int, .int, (.object "jdk/internal/access/JavaLangAccess"), .int]
  resolved := Array.replicate 378 none
  statics := none }

def pool20 : Array CpInfo := pool [(1, u "java/lang/Cloneable"), (0, .class_ 1), (0, u "java/lang/Object"), (0, .class_ 3)] 3

/-- java/lang/Cloneable -/
def k20 : Class := { plain "java/lang/Cloneable" (some 0) with
  accessFlags := 1537
  interfaces := #[]
  cf := some (fileOf pool20 2 #[] #[] 1537 4 #[] #[])
  fields := #[]
  methods := #[]
  instanceTypes := #[]
  staticTypes := #[]
  resolved := Array.replicate 8 none
  statics := none }

/-- the primitive byte -/
def k21 : Class := { plain "byte" none with kind := .primitive 'B', accessFlags := 0x411 }
/-- [B -/
def k22 : Class := { plain "[B" (some 0) with kind := .array 21 .byte, interfaces := #[20, 4], accessFlags := 1041 }

/-- the primitive int -/
def k23 : Class := { plain "int" none with kind := .primitive 'I', accessFlags := 0x411 }
/-- [I -/
def k24 : Class := { plain "[I" (some 0) with kind := .array 23 .int, interfaces := #[20, 4], accessFlags := 1041 }

/-- [Ljava/lang/Long; -/
def k25 : Class := { plain "[Ljava/lang/Long;" (some 0) with kind := .array 16 (.object "java/lang/Long"), interfaces := #[20, 4], accessFlags := 1041 }

def heap : Heap := #[{ cls := 6, slots := #[.ref 261, .ref 262, .null], vm := .statics 6 },
  { cls := 11, slots := #[.long 0, .int 1, .null, .int 0, .null, .int 0, .int 0], vm := .statics 11 },
  { cls := 17, slots := #[.ref 4, .null, .int 0], vm := .statics 17 },
  { cls := 18, slots := #[.null, .null, .null], vm := .statics 18 },
  { cls := 25, slots := #[.ref 5, .ref 6, .ref 7, .ref 8, .ref 9, .ref 10, .ref 11, .ref 12, .ref 13, .ref 14, .ref 15, .ref 16, .ref 17, .ref 18, .ref 19, .ref 20, .ref 21, .ref 22, .ref 23, .ref 24, .ref 25, .ref 26, .ref 27, .ref 28, .ref 29, .ref 30, .ref 31, .ref 32, .ref 33, .ref 34, .ref 35, .ref 36, .ref 37, .ref 38, .ref 39, .ref 40, .ref 41, .ref 42, .ref 43, .ref 44, .ref 45, .ref 46, .ref 47, .ref 48, .ref 49, .ref 50, .ref 51, .ref 52, .ref 53, .ref 54, .ref 55, .ref 56, .ref 57, .ref 58, .ref 59, .ref 60, .ref 61, .ref 62, .ref 63, .ref 64, .ref 65, .ref 66, .ref 67, .ref 68, .ref 69, .ref 70, .ref 71, .ref 72, .ref 73, .ref 74, .ref 75, .ref 76, .ref 77, .ref 78, .ref 79, .ref 80, .ref 81, .ref 82, .ref 83, .ref 84, .ref 85, .ref 86, .ref 87, .ref 88, .ref 89, .ref 90, .ref 91, .ref 92, .ref 93, .ref 94, .ref 95, .ref 96, .ref 97, .ref 98, .ref 99, .ref 100, .ref 101, .ref 102, .ref 103, .ref 104, .ref 105, .ref 106, .ref 107, .ref 108, .ref 109, .ref 110, .ref 111, .ref 112, .ref 113, .ref 114, .ref 115, .ref 116, .ref 117, .ref 118, .ref 119, .ref 120, .ref 121, .ref 122, .ref 123, .ref 124, .ref 125, .ref 126, .ref 127, .ref 128, .ref 129, .ref 130, .ref 131, .ref 132, .ref 133, .ref 134, .ref 135, .ref 136, .ref 137, .ref 138, .ref 139, .ref 140, .ref 141, .ref 142, .ref 143, .ref 144, .ref 145, .ref 146, .ref 147, .ref 148, .ref 149, .ref 150, .ref 151, .ref 152, .ref 153, .ref 154, .ref 155, .ref 156, .ref 157, .ref 158, .ref 159, .ref 160, .ref 161, .ref 162, .ref 163, .ref 164, .ref 165, .ref 166, .ref 167, .ref 168, .ref 169, .ref 170, .ref 171, .ref 172, .ref 173, .ref 174, .ref 175, .ref 176, .ref 177, .ref 178, .ref 179, .ref 180, .ref 181, .ref 182, .ref 183, .ref 184, .ref 185, .ref 186, .ref 187, .ref 188, .ref 189, .ref 190, .ref 191, .ref 192, .ref 193, .ref 194, .ref 195, .ref 196, .ref 197, .ref 198, .ref 199, .ref 200, .ref 201, .ref 202, .ref 203, .ref 204, .ref 205, .ref 206, .ref 207, .ref 208, .ref 209, .ref 210, .ref 211, .ref 212, .ref 213, .ref 214, .ref 215, .ref 216, .ref 217, .ref 218, .ref 219, .ref 220, .ref 221, .ref 222, .ref 223, .ref 224, .ref 225, .ref 226, .ref 227, .ref 228, .ref 229, .ref 230, .ref 231, .ref 232, .ref 233, .ref 234, .ref 235, .ref 236, .ref 237, .ref 238, .ref 239, .ref 240, .ref 241, .ref 242, .ref 243, .ref 244, .ref 245, .ref 246, .ref 247, .ref 248, .ref 249, .ref 250, .ref 251, .ref 252, .ref 253, .ref 254, .ref 255, .ref 256, .ref 257, .ref 258, .ref 259, .ref 260], vm := .none },
  { cls := 16, slots := #[.long (-128)], vm := .none },
  { cls := 16, slots := #[.long (-127)], vm := .none },
  { cls := 16, slots := #[.long (-126)], vm := .none },
  { cls := 16, slots := #[.long (-125)], vm := .none },
  { cls := 16, slots := #[.long (-124)], vm := .none },
  { cls := 16, slots := #[.long (-123)], vm := .none },
  { cls := 16, slots := #[.long (-122)], vm := .none },
  { cls := 16, slots := #[.long (-121)], vm := .none },
  { cls := 16, slots := #[.long (-120)], vm := .none },
  { cls := 16, slots := #[.long (-119)], vm := .none },
  { cls := 16, slots := #[.long (-118)], vm := .none },
  { cls := 16, slots := #[.long (-117)], vm := .none },
  { cls := 16, slots := #[.long (-116)], vm := .none },
  { cls := 16, slots := #[.long (-115)], vm := .none },
  { cls := 16, slots := #[.long (-114)], vm := .none },
  { cls := 16, slots := #[.long (-113)], vm := .none },
  { cls := 16, slots := #[.long (-112)], vm := .none },
  { cls := 16, slots := #[.long (-111)], vm := .none },
  { cls := 16, slots := #[.long (-110)], vm := .none },
  { cls := 16, slots := #[.long (-109)], vm := .none },
  { cls := 16, slots := #[.long (-108)], vm := .none },
  { cls := 16, slots := #[.long (-107)], vm := .none },
  { cls := 16, slots := #[.long (-106)], vm := .none },
  { cls := 16, slots := #[.long (-105)], vm := .none },
  { cls := 16, slots := #[.long (-104)], vm := .none },
  { cls := 16, slots := #[.long (-103)], vm := .none },
  { cls := 16, slots := #[.long (-102)], vm := .none },
  { cls := 16, slots := #[.long (-101)], vm := .none },
  { cls := 16, slots := #[.long (-100)], vm := .none },
  { cls := 16, slots := #[.long (-99)], vm := .none },
  { cls := 16, slots := #[.long (-98)], vm := .none },
  { cls := 16, slots := #[.long (-97)], vm := .none },
  { cls := 16, slots := #[.long (-96)], vm := .none },
  { cls := 16, slots := #[.long (-95)], vm := .none },
  { cls := 16, slots := #[.long (-94)], vm := .none },
  { cls := 16, slots := #[.long (-93)], vm := .none },
  { cls := 16, slots := #[.long (-92)], vm := .none },
  { cls := 16, slots := #[.long (-91)], vm := .none },
  { cls := 16, slots := #[.long (-90)], vm := .none },
  { cls := 16, slots := #[.long (-89)], vm := .none },
  { cls := 16, slots := #[.long (-88)], vm := .none },
  { cls := 16, slots := #[.long (-87)], vm := .none },
  { cls := 16, slots := #[.long (-86)], vm := .none },
  { cls := 16, slots := #[.long (-85)], vm := .none },
  { cls := 16, slots := #[.long (-84)], vm := .none },
  { cls := 16, slots := #[.long (-83)], vm := .none },
  { cls := 16, slots := #[.long (-82)], vm := .none },
  { cls := 16, slots := #[.long (-81)], vm := .none },
  { cls := 16, slots := #[.long (-80)], vm := .none },
  { cls := 16, slots := #[.long (-79)], vm := .none },
  { cls := 16, slots := #[.long (-78)], vm := .none },
  { cls := 16, slots := #[.long (-77)], vm := .none },
  { cls := 16, slots := #[.long (-76)], vm := .none },
  { cls := 16, slots := #[.long (-75)], vm := .none },
  { cls := 16, slots := #[.long (-74)], vm := .none },
  { cls := 16, slots := #[.long (-73)], vm := .none },
  { cls := 16, slots := #[.long (-72)], vm := .none },
  { cls := 16, slots := #[.long (-71)], vm := .none },
  { cls := 16, slots := #[.long (-70)], vm := .none },
  { cls := 16, slots := #[.long (-69)], vm := .none },
  { cls := 16, slots := #[.long (-68)], vm := .none },
  { cls := 16, slots := #[.long (-67)], vm := .none },
  { cls := 16, slots := #[.long (-66)], vm := .none },
  { cls := 16, slots := #[.long (-65)], vm := .none },
  { cls := 16, slots := #[.long (-64)], vm := .none },
  { cls := 16, slots := #[.long (-63)], vm := .none },
  { cls := 16, slots := #[.long (-62)], vm := .none },
  { cls := 16, slots := #[.long (-61)], vm := .none },
  { cls := 16, slots := #[.long (-60)], vm := .none },
  { cls := 16, slots := #[.long (-59)], vm := .none },
  { cls := 16, slots := #[.long (-58)], vm := .none },
  { cls := 16, slots := #[.long (-57)], vm := .none },
  { cls := 16, slots := #[.long (-56)], vm := .none },
  { cls := 16, slots := #[.long (-55)], vm := .none },
  { cls := 16, slots := #[.long (-54)], vm := .none },
  { cls := 16, slots := #[.long (-53)], vm := .none },
  { cls := 16, slots := #[.long (-52)], vm := .none },
  { cls := 16, slots := #[.long (-51)], vm := .none },
  { cls := 16, slots := #[.long (-50)], vm := .none },
  { cls := 16, slots := #[.long (-49)], vm := .none },
  { cls := 16, slots := #[.long (-48)], vm := .none },
  { cls := 16, slots := #[.long (-47)], vm := .none },
  { cls := 16, slots := #[.long (-46)], vm := .none },
  { cls := 16, slots := #[.long (-45)], vm := .none },
  { cls := 16, slots := #[.long (-44)], vm := .none },
  { cls := 16, slots := #[.long (-43)], vm := .none },
  { cls := 16, slots := #[.long (-42)], vm := .none },
  { cls := 16, slots := #[.long (-41)], vm := .none },
  { cls := 16, slots := #[.long (-40)], vm := .none },
  { cls := 16, slots := #[.long (-39)], vm := .none },
  { cls := 16, slots := #[.long (-38)], vm := .none },
  { cls := 16, slots := #[.long (-37)], vm := .none },
  { cls := 16, slots := #[.long (-36)], vm := .none },
  { cls := 16, slots := #[.long (-35)], vm := .none },
  { cls := 16, slots := #[.long (-34)], vm := .none },
  { cls := 16, slots := #[.long (-33)], vm := .none },
  { cls := 16, slots := #[.long (-32)], vm := .none },
  { cls := 16, slots := #[.long (-31)], vm := .none },
  { cls := 16, slots := #[.long (-30)], vm := .none },
  { cls := 16, slots := #[.long (-29)], vm := .none },
  { cls := 16, slots := #[.long (-28)], vm := .none },
  { cls := 16, slots := #[.long (-27)], vm := .none },
  { cls := 16, slots := #[.long (-26)], vm := .none },
  { cls := 16, slots := #[.long (-25)], vm := .none },
  { cls := 16, slots := #[.long (-24)], vm := .none },
  { cls := 16, slots := #[.long (-23)], vm := .none },
  { cls := 16, slots := #[.long (-22)], vm := .none },
  { cls := 16, slots := #[.long (-21)], vm := .none },
  { cls := 16, slots := #[.long (-20)], vm := .none },
  { cls := 16, slots := #[.long (-19)], vm := .none },
  { cls := 16, slots := #[.long (-18)], vm := .none },
  { cls := 16, slots := #[.long (-17)], vm := .none },
  { cls := 16, slots := #[.long (-16)], vm := .none },
  { cls := 16, slots := #[.long (-15)], vm := .none },
  { cls := 16, slots := #[.long (-14)], vm := .none },
  { cls := 16, slots := #[.long (-13)], vm := .none },
  { cls := 16, slots := #[.long (-12)], vm := .none },
  { cls := 16, slots := #[.long (-11)], vm := .none },
  { cls := 16, slots := #[.long (-10)], vm := .none },
  { cls := 16, slots := #[.long (-9)], vm := .none },
  { cls := 16, slots := #[.long (-8)], vm := .none },
  { cls := 16, slots := #[.long (-7)], vm := .none },
  { cls := 16, slots := #[.long (-6)], vm := .none },
  { cls := 16, slots := #[.long (-5)], vm := .none },
  { cls := 16, slots := #[.long (-4)], vm := .none },
  { cls := 16, slots := #[.long (-3)], vm := .none },
  { cls := 16, slots := #[.long (-2)], vm := .none },
  { cls := 16, slots := #[.long (-1)], vm := .none },
  { cls := 16, slots := #[.long 0], vm := .none },
  { cls := 16, slots := #[.long 1], vm := .none },
  { cls := 16, slots := #[.long 2], vm := .none },
  { cls := 16, slots := #[.long 3], vm := .none },
  { cls := 16, slots := #[.long 4], vm := .none },
  { cls := 16, slots := #[.long 5], vm := .none },
  { cls := 16, slots := #[.long 6], vm := .none },
  { cls := 16, slots := #[.long 7], vm := .none },
  { cls := 16, slots := #[.long 8], vm := .none },
  { cls := 16, slots := #[.long 9], vm := .none },
  { cls := 16, slots := #[.long 10], vm := .none },
  { cls := 16, slots := #[.long 11], vm := .none },
  { cls := 16, slots := #[.long 12], vm := .none },
  { cls := 16, slots := #[.long 13], vm := .none },
  { cls := 16, slots := #[.long 14], vm := .none },
  { cls := 16, slots := #[.long 15], vm := .none },
  { cls := 16, slots := #[.long 16], vm := .none },
  { cls := 16, slots := #[.long 17], vm := .none },
  { cls := 16, slots := #[.long 18], vm := .none },
  { cls := 16, slots := #[.long 19], vm := .none },
  { cls := 16, slots := #[.long 20], vm := .none },
  { cls := 16, slots := #[.long 21], vm := .none },
  { cls := 16, slots := #[.long 22], vm := .none },
  { cls := 16, slots := #[.long 23], vm := .none },
  { cls := 16, slots := #[.long 24], vm := .none },
  { cls := 16, slots := #[.long 25], vm := .none },
  { cls := 16, slots := #[.long 26], vm := .none },
  { cls := 16, slots := #[.long 27], vm := .none },
  { cls := 16, slots := #[.long 28], vm := .none },
  { cls := 16, slots := #[.long 29], vm := .none },
  { cls := 16, slots := #[.long 30], vm := .none },
  { cls := 16, slots := #[.long 31], vm := .none },
  { cls := 16, slots := #[.long 32], vm := .none },
  { cls := 16, slots := #[.long 33], vm := .none },
  { cls := 16, slots := #[.long 34], vm := .none },
  { cls := 16, slots := #[.long 35], vm := .none },
  { cls := 16, slots := #[.long 36], vm := .none },
  { cls := 16, slots := #[.long 37], vm := .none },
  { cls := 16, slots := #[.long 38], vm := .none },
  { cls := 16, slots := #[.long 39], vm := .none },
  { cls := 16, slots := #[.long 40], vm := .none },
  { cls := 16, slots := #[.long 41], vm := .none },
  { cls := 16, slots := #[.long 42], vm := .none },
  { cls := 16, slots := #[.long 43], vm := .none },
  { cls := 16, slots := #[.long 44], vm := .none },
  { cls := 16, slots := #[.long 45], vm := .none },
  { cls := 16, slots := #[.long 46], vm := .none },
  { cls := 16, slots := #[.long 47], vm := .none },
  { cls := 16, slots := #[.long 48], vm := .none },
  { cls := 16, slots := #[.long 49], vm := .none },
  { cls := 16, slots := #[.long 50], vm := .none },
  { cls := 16, slots := #[.long 51], vm := .none },
  { cls := 16, slots := #[.long 52], vm := .none },
  { cls := 16, slots := #[.long 53], vm := .none },
  { cls := 16, slots := #[.long 54], vm := .none },
  { cls := 16, slots := #[.long 55], vm := .none },
  { cls := 16, slots := #[.long 56], vm := .none },
  { cls := 16, slots := #[.long 57], vm := .none },
  { cls := 16, slots := #[.long 58], vm := .none },
  { cls := 16, slots := #[.long 59], vm := .none },
  { cls := 16, slots := #[.long 60], vm := .none },
  { cls := 16, slots := #[.long 61], vm := .none },
  { cls := 16, slots := #[.long 62], vm := .none },
  { cls := 16, slots := #[.long 63], vm := .none },
  { cls := 16, slots := #[.long 64], vm := .none },
  { cls := 16, slots := #[.long 65], vm := .none },
  { cls := 16, slots := #[.long 66], vm := .none },
  { cls := 16, slots := #[.long 67], vm := .none },
  { cls := 16, slots := #[.long 68], vm := .none },
  { cls := 16, slots := #[.long 69], vm := .none },
  { cls := 16, slots := #[.long 70], vm := .none },
  { cls := 16, slots := #[.long 71], vm := .none },
  { cls := 16, slots := #[.long 72], vm := .none },
  { cls := 16, slots := #[.long 73], vm := .none },
  { cls := 16, slots := #[.long 74], vm := .none },
  { cls := 16, slots := #[.long 75], vm := .none },
  { cls := 16, slots := #[.long 76], vm := .none },
  { cls := 16, slots := #[.long 77], vm := .none },
  { cls := 16, slots := #[.long 78], vm := .none },
  { cls := 16, slots := #[.long 79], vm := .none },
  { cls := 16, slots := #[.long 80], vm := .none },
  { cls := 16, slots := #[.long 81], vm := .none },
  { cls := 16, slots := #[.long 82], vm := .none },
  { cls := 16, slots := #[.long 83], vm := .none },
  { cls := 16, slots := #[.long 84], vm := .none },
  { cls := 16, slots := #[.long 85], vm := .none },
  { cls := 16, slots := #[.long 86], vm := .none },
  { cls := 16, slots := #[.long 87], vm := .none },
  { cls := 16, slots := #[.long 88], vm := .none },
  { cls := 16, slots := #[.long 89], vm := .none },
  { cls := 16, slots := #[.long 90], vm := .none },
  { cls := 16, slots := #[.long 91], vm := .none },
  { cls := 16, slots := #[.long 92], vm := .none },
  { cls := 16, slots := #[.long 93], vm := .none },
  { cls := 16, slots := #[.long 94], vm := .none },
  { cls := 16, slots := #[.long 95], vm := .none },
  { cls := 16, slots := #[.long 96], vm := .none },
  { cls := 16, slots := #[.long 97], vm := .none },
  { cls := 16, slots := #[.long 98], vm := .none },
  { cls := 16, slots := #[.long 99], vm := .none },
  { cls := 16, slots := #[.long 100], vm := .none },
  { cls := 16, slots := #[.long 101], vm := .none },
  { cls := 16, slots := #[.long 102], vm := .none },
  { cls := 16, slots := #[.long 103], vm := .none },
  { cls := 16, slots := #[.long 104], vm := .none },
  { cls := 16, slots := #[.long 105], vm := .none },
  { cls := 16, slots := #[.long 106], vm := .none },
  { cls := 16, slots := #[.long 107], vm := .none },
  { cls := 16, slots := #[.long 108], vm := .none },
  { cls := 16, slots := #[.long 109], vm := .none },
  { cls := 16, slots := #[.long 110], vm := .none },
  { cls := 16, slots := #[.long 111], vm := .none },
  { cls := 16, slots := #[.long 112], vm := .none },
  { cls := 16, slots := #[.long 113], vm := .none },
  { cls := 16, slots := #[.long 114], vm := .none },
  { cls := 16, slots := #[.long 115], vm := .none },
  { cls := 16, slots := #[.long 116], vm := .none },
  { cls := 16, slots := #[.long 117], vm := .none },
  { cls := 16, slots := #[.long 118], vm := .none },
  { cls := 16, slots := #[.long 119], vm := .none },
  { cls := 16, slots := #[.long 120], vm := .none },
  { cls := 16, slots := #[.long 121], vm := .none },
  { cls := 16, slots := #[.long 122], vm := .none },
  { cls := 16, slots := #[.long 123], vm := .none },
  { cls := 16, slots := #[.long 124], vm := .none },
  { cls := 16, slots := #[.long 125], vm := .none },
  { cls := 16, slots := #[.long 126], vm := .none },
  { cls := 16, slots := #[.long 127], vm := .none },
  { cls := 6, slots := #[.null, .int 0, .int 0, .null], vm := .none },
  { cls := 6, slots := #[.null, .int 0, .int 0, .null], vm := .none }]
def classes : Array Class := #[k0, k1, k2, k3, k4, k5, k6, k7, k8, k9, k10, k11, k12, k13, k14, k15, k16, k17, k18, k19, k20, k21, k22, k23, k24, k25]
def interned : List (Array UInt16 × Addr) := []
def slotsUsed : Nat := 536
def theMethod : MethodId := ⟨1, 1⟩
def args0 : Array Value := #[.int 5, .int 5, .long 7, .long 8, .long 9]
def aboutOver (below : List Frame) : State where
  vm := { classes := classes, interned := interned.toArray }
  heap := heap
  slotsUsed := slotsUsed
  threads := #[{ frames := .invoking theMethod args0 :: below }]
def below0 : List Frame := [.native { method := ⟨0, 0⟩, args := #[] }]
def about1 : State := aboutOver below0
def p0 : Program := .bare "" "" ""
def e0 : Env := launch0.env 0 0 0
theorem w_frames : about1.frames = Frame.invoking theMethod args0 :: below0 := rfl
set_option maxRecDepth 65536 in
theorem w_args : argsFit about1.vm theMethod args0 = true := by decide +kernel
set_option maxRecDepth 65536 in
theorem w_heap : heapFits about1 = true := by decide +kernel
set_option maxRecDepth 65536 in
theorem w_runnable : about1.curStatus? = some .runnable := by decide +kernel
set_option maxRecDepth 65536 in
theorem w_alone : about1.alone = true := by decide +kernel
set_option maxRecDepth 65536 in
theorem w_named : about1.methodNamed? x = some theMethod := by decide +kernel
set_option maxRecDepth 65536 in
theorem w_hears : about1.hears theMethod below0 = true := by decide +kernel
set_option maxRecDepth 65536 in
theorem w_ripe : about1.ripe theMethod args0 below0 = true := by decide +kernel
theorem w_running : about1.status = .running := rfl
set_option maxRecDepth 65536 in
theorem w_room : about1.hasRoom e0.platform room_1 = true :=
  launch0.hasRoom_least _ room_1 (by decide +kernel) (by decide +kernel) (by decide +kernel) (by decide +kernel) (by decide +kernel) (by decide +kernel)
theorem allAtoms_all (ts : List Jvm.Cond) (a : Array Jvm.Value) (st : Jvm.State) : (allAtoms ts).before a st = ts.all (fun c => c.before a st) := by
  induction ts with
  | nil => rfl
  | cons c t ih =>
    show (Jvm.Cond.and c (allAtoms t)).before a st = _
    rw [Jvm.Cond.before_and, ih, List.all_cons]
def words1 : List Jvm.Cond := Jvm.Cond.code x code maxLocals ret :: tables_1
/-- a 'code' word, met by the world's own term for the bytes: nothing is compared byte by byte -/
theorem code_word {y : MethodName} {bytes : ByteArray} {mx : Nat} {rt : Option FieldType} {a : Array Value} {s : State} {m : MethodId} {meth : Method} {c : Code} (h1 : s.methodNamed? y = some m) (h2 : s.vm.method? m = some meth) (h3 : meth.code = some c) (h4 : c.code = bytes)
    (h5 : (c.maxLocals == mx && c.exceptionTable.isEmpty && decide (c.maxStack ≤ mostOperands) && decide (meth.sig.returnType = rt) && !meth.locks && decide (parseMethodDescriptor y.desc = some meth.sig)) = true) : (Jvm.Cond.code y bytes mx rt).before a s = true := by
  simp only [Bool.and_eq_true, beq_iff_eq, Bool.not_eq_true', decide_eq_true_eq] at h5
  obtain ⟨⟨⟨⟨⟨g1, g2⟩, g3⟩, g4⟩, g5⟩, g6⟩ := h5
  simp [Cond.before, Cond.holds, Cond.value, h1, h2, h3, h4, g1, g2, g3, g4, g5, g6]
def isCode : Jvm.Cond → Bool
  | .code _ _ _ _ => true
  | _ => false
theorem all_split {L : List Jvm.Cond} {P : Jvm.Cond → Bool} (h1 : L.all (fun c => isCode c || P c) = true) (h2 : ∀ c ∈ L.filter isCode, P c = true) : L.all P = true := by
  refine List.all_eq_true.mpr fun c hc => ?_
  have h := List.all_eq_true.mp h1 c hc
  rcases Bool.eq_false_or_eq_true (isCode c) with hi | hi
  · exact h2 c (List.mem_filter.mpr ⟨hc, hi⟩)
  · simpa [hi] using h
set_option maxRecDepth 65536 in
theorem w_c0 : (Jvm.Cond.code x code maxLocals ret).before args0 about1 = true := code_word (m := ⟨1, 1⟩) (meth := k1m1) (c := k1c1) (by decide +kernel) rfl rfl rfl (by decide +kernel)
set_option maxRecDepth 65536 in
theorem w_c1 : (Jvm.Cond.code ({ cls := "com/example/compact_settings/compactsettings/extender/Written", name := "<init>", desc := "(JLcom/example/compact_settings/compactsettings/Policy;Ljava/lang/String;J)V" } : Jvm.MethodName) prog_63_method_1_code (7 : Nat) (Option.none : Option Jvm.ClassFile.FieldType)).before args0 about1 = true := code_word (m := ⟨8, 0⟩) (meth := k8m0) (c := k8c0) (by decide +kernel) rfl rfl rfl (by decide +kernel)
set_option maxRecDepth 65536 in
theorem w_c2 : (Jvm.Cond.code ({ cls := "java/lang/Record", name := "<init>", desc := "()V" } : Jvm.MethodName) jdk_30_method_1_code (1 : Nat) (Option.none : Option Jvm.ClassFile.FieldType)).before args0 about1 = true := code_word (m := ⟨7, 0⟩) (meth := k7m0) (c := k7c0) (by decide +kernel) rfl rfl rfl (by decide +kernel)
set_option maxRecDepth 65536 in
theorem w_c3 : (Jvm.Cond.code ({ cls := "java/lang/Object", name := "<init>", desc := "()V" } : Jvm.MethodName) object_method_1_code (1 : Nat) (Option.none : Option Jvm.ClassFile.FieldType)).before args0 about1 = true := code_word (m := ⟨0, 0⟩) (meth := k0m0) (c := k0c0) (by decide +kernel) rfl rfl rfl (by decide +kernel)
set_option maxRecDepth 65536 in
theorem w_c4 : (Jvm.Cond.code ({ cls := "java/util/Objects", name := "requireNonNull", desc := "(Ljava/lang/Object;Ljava/lang/String;)Ljava/lang/Object;" } : Jvm.MethodName) jdk_31_method_11_code (2 : Nat) (Option.some (Jvm.ClassFile.FieldType.object "java/lang/Object"))).before args0 about1 = true := code_word (m := ⟨12, 1⟩) (meth := k12m1) (c := k12c1) (by decide +kernel) rfl rfl rfl (by decide +kernel)
set_option maxRecDepth 65536 in
theorem w_c5 : (Jvm.Cond.code ({ cls := "java/lang/String", name := "valueOf", desc := "(C)Ljava/lang/String;" } : Jvm.MethodName) jdk_42_method_139_code (1 : Nat) (Option.some (Jvm.ClassFile.FieldType.object "java/lang/String"))).before args0 about1 = true := code_word (m := ⟨11, 1⟩) (meth := k11m1) (c := k11c1) (by decide +kernel) rfl rfl rfl (by decide +kernel)
set_option maxRecDepth 65536 in
theorem w_c6 : (Jvm.Cond.code ({ cls := "java/lang/StringLatin1", name := "canEncode", desc := "(C)Z" } : Jvm.MethodName) jdk_43_method_3_code (1 : Nat) (Option.some Jvm.ClassFile.FieldType.boolean)).before args0 about1 = true := code_word (m := ⟨13, 1⟩) (meth := k13m1) (c := k13c1) (by decide +kernel) rfl rfl rfl (by decide +kernel)
set_option maxRecDepth 65536 in
theorem w_c7 : (Jvm.Cond.code ({ cls := "java/lang/StringLatin1", name := "toBytes", desc := "(C)[B" } : Jvm.MethodName) jdk_43_method_46_code (1 : Nat) (Option.some (Jvm.ClassFile.FieldType.array Jvm.ClassFile.FieldType.byte))).before args0 about1 = true := code_word (m := ⟨13, 2⟩) (meth := k13m2) (c := k13c2) (by decide +kernel) rfl rfl rfl (by decide +kernel)
set_option maxRecDepth 65536 in
theorem w_c8 : (Jvm.Cond.code ({ cls := "java/lang/String", name := "<init>", desc := "([BB)V" } : Jvm.MethodName) jdk_42_method_151_code (3 : Nat) (Option.none : Option Jvm.ClassFile.FieldType)).before args0 about1 = true := code_word (m := ⟨11, 2⟩) (meth := k11m2) (c := k11c2) (by decide +kernel) rfl rfl rfl (by decide +kernel)
set_option maxRecDepth 65536 in
theorem w_c9 : (Jvm.Cond.code ({ cls := "com/example/compact_settings/compactsettings/extender/Intent", name := "<init>", desc := "(Lcom/example/compact_settings/compactsettings/extender/Written;Lcom/example/compact_settings/compactsettings/Policy;Ljava/lang/String;Ljava/lang/Long;J)V" } : Jvm.MethodName) prog_53_method_1_code (7 : Nat) (Option.none : Option Jvm.ClassFile.FieldType)).before args0 about1 = true := code_word (m := ⟨14, 0⟩) (meth := k14m0) (c := k14c0) (by decide +kernel) rfl rfl rfl (by decide +kernel)
set_option maxRecDepth 65536 in
theorem w_c10 : (Jvm.Cond.code ({ cls := "com/example/compact_settings/compactsettings/extender/Intent", name := "deletion", desc := "(Lcom/example/compact_settings/compactsettings/extender/Written;J)Lcom/example/compact_settings/compactsettings/extender/Intent;" } : Jvm.MethodName) prog_53_method_2_code (3 : Nat) (Option.some (Jvm.ClassFile.FieldType.object "com/example/compact_settings/compactsettings/extender/Intent"))).before args0 about1 = true := code_word (m := ⟨14, 1⟩) (meth := k14m1) (c := k14c1) (by decide +kernel) rfl rfl rfl (by decide +kernel)
set_option maxRecDepth 65536 in
theorem w_c11 : (Jvm.Cond.code ({ cls := "com/example/compact_settings/compactsettings/extender/Intent", name := "isDeletion", desc := "()Z" } : Jvm.MethodName) prog_53_method_3_code (1 : Nat) (Option.some Jvm.ClassFile.FieldType.boolean)).before args0 about1 = true := code_word (m := ⟨14, 2⟩) (meth := k14m2) (c := k14c2) (by decide +kernel) rfl rfl rfl (by decide +kernel)
set_option maxRecDepth 65536 in
theorem w_c12 : (Jvm.Cond.code ({ cls := "java/lang/Long", name := "valueOf", desc := "(J)Ljava/lang/Long;" } : Jvm.MethodName) jdk_35_method_24_code (3 : Nat) (Option.some (Jvm.ClassFile.FieldType.object "java/lang/Long"))).before args0 about1 = true := code_word (m := ⟨16, 0⟩) (meth := k16m0) (c := k16c0) (by decide +kernel) rfl rfl rfl (by decide +kernel)
set_option maxRecDepth 65536 in
theorem w_c13 : (Jvm.Cond.code ({ cls := "java/lang/Long", name := "<init>", desc := "(J)V" } : Jvm.MethodName) jdk_35_method_26_code (3 : Nat) (Option.none : Option Jvm.ClassFile.FieldType)).before args0 about1 = true := code_word (m := ⟨16, 1⟩) (meth := k16m1) (c := k16c1) (by decide +kernel) rfl rfl rfl (by decide +kernel)
set_option maxRecDepth 65536 in
theorem w_c14 : (Jvm.Cond.code ({ cls := "java/lang/Number", name := "<init>", desc := "()V" } : Jvm.MethodName) jdk_18_method_1_code (1 : Nat) (Option.none : Option Jvm.ClassFile.FieldType)).before args0 about1 = true := code_word (m := ⟨15, 0⟩) (meth := k15m0) (c := k15c0) (by decide +kernel) rfl rfl rfl (by decide +kernel)
def codes1 : List Jvm.Cond := [Jvm.Cond.code x code maxLocals ret, Jvm.Cond.code ({ cls := "com/example/compact_settings/compactsettings/extender/Written", name := "<init>", desc := "(JLcom/example/compact_settings/compactsettings/Policy;Ljava/lang/String;J)V" } : Jvm.MethodName) prog_63_method_1_code (7 : Nat) (Option.none : Option Jvm.ClassFile.FieldType), Jvm.Cond.code ({ cls := "java/lang/Record", name := "<init>", desc := "()V" } : Jvm.MethodName) jdk_30_method_1_code (1 : Nat) (Option.none : Option Jvm.ClassFile.FieldType), Jvm.Cond.code ({ cls := "java/lang/Object", name := "<init>", desc := "()V" } : Jvm.MethodName) object_method_1_code (1 : Nat) (Option.none : Option Jvm.ClassFile.FieldType), Jvm.Cond.code ({ cls := "java/util/Objects", name := "requireNonNull", desc := "(Ljava/lang/Object;Ljava/lang/String;)Ljava/lang/Object;" } : Jvm.MethodName) jdk_31_method_11_code (2 : Nat) (Option.some (Jvm.ClassFile.FieldType.object "java/lang/Object")), Jvm.Cond.code ({ cls := "java/lang/String", name := "valueOf", desc := "(C)Ljava/lang/String;" } : Jvm.MethodName) jdk_42_method_139_code (1 : Nat) (Option.some (Jvm.ClassFile.FieldType.object "java/lang/String")), Jvm.Cond.code ({ cls := "java/lang/StringLatin1", name := "canEncode", desc := "(C)Z" } : Jvm.MethodName) jdk_43_method_3_code (1 : Nat) (Option.some Jvm.ClassFile.FieldType.boolean), Jvm.Cond.code ({ cls := "java/lang/StringLatin1", name := "toBytes", desc := "(C)[B" } : Jvm.MethodName) jdk_43_method_46_code (1 : Nat) (Option.some (Jvm.ClassFile.FieldType.array Jvm.ClassFile.FieldType.byte)), Jvm.Cond.code ({ cls := "java/lang/String", name := "<init>", desc := "([BB)V" } : Jvm.MethodName) jdk_42_method_151_code (3 : Nat) (Option.none : Option Jvm.ClassFile.FieldType), Jvm.Cond.code ({ cls := "com/example/compact_settings/compactsettings/extender/Intent", name := "<init>", desc := "(Lcom/example/compact_settings/compactsettings/extender/Written;Lcom/example/compact_settings/compactsettings/Policy;Ljava/lang/String;Ljava/lang/Long;J)V" } : Jvm.MethodName) prog_53_method_1_code (7 : Nat) (Option.none : Option Jvm.ClassFile.FieldType), Jvm.Cond.code ({ cls := "com/example/compact_settings/compactsettings/extender/Intent", name := "deletion", desc := "(Lcom/example/compact_settings/compactsettings/extender/Written;J)Lcom/example/compact_settings/compactsettings/extender/Intent;" } : Jvm.MethodName) prog_53_method_2_code (3 : Nat) (Option.some (Jvm.ClassFile.FieldType.object "com/example/compact_settings/compactsettings/extender/Intent")), Jvm.Cond.code ({ cls := "com/example/compact_settings/compactsettings/extender/Intent", name := "isDeletion", desc := "()Z" } : Jvm.MethodName) prog_53_method_3_code (1 : Nat) (Option.some Jvm.ClassFile.FieldType.boolean), Jvm.Cond.code ({ cls := "java/lang/Long", name := "valueOf", desc := "(J)Ljava/lang/Long;" } : Jvm.MethodName) jdk_35_method_24_code (3 : Nat) (Option.some (Jvm.ClassFile.FieldType.object "java/lang/Long")), Jvm.Cond.code ({ cls := "java/lang/Long", name := "<init>", desc := "(J)V" } : Jvm.MethodName) jdk_35_method_26_code (3 : Nat) (Option.none : Option Jvm.ClassFile.FieldType), Jvm.Cond.code ({ cls := "java/lang/Number", name := "<init>", desc := "()V" } : Jvm.MethodName) jdk_18_method_1_code (1 : Nat) (Option.none : Option Jvm.ClassFile.FieldType)]
set_option maxRecDepth 65536 in
theorem codes_eq : words1.filter isCode = codes1 := rfl
theorem w_codes : ∀ c ∈ words1.filter isCode, c.before args0 about1 = true := by
  rw [codes_eq]
  intro c hc
  simp only [codes1, List.mem_cons, List.not_mem_nil, or_false] at hc
  rcases hc with rfl | rfl | rfl | rfl | rfl | rfl | rfl | rfl | rfl | rfl | rfl | rfl | rfl | rfl | rfl
  · exact w_c0
  · exact w_c1
  · exact w_c2
  · exact w_c3
  · exact w_c4
  · exact w_c5
  · exact w_c6
  · exact w_c7
  · exact w_c8
  · exact w_c9
  · exact w_c10
  · exact w_c11
  · exact w_c12
  · exact w_c13
  · exact w_c14
set_option maxRecDepth 65536 in
theorem w_t1 : (words1.take 24).all (fun c => isCode c || c.before args0 about1) = true := by decide +kernel
set_option maxRecDepth 65536 in
theorem w_t2 : ((words1.drop 24).take 24).all (fun c => isCode c || c.before args0 about1) = true := by decide +kernel
set_option maxRecDepth 65536 in
theorem w_t3 : (((words1.drop 24).drop 24).take 24).all (fun c => isCode c || c.before args0 about1) = true := by decide +kernel
set_option maxRecDepth 65536 in
theorem w_t4 : ((((words1.drop 24).drop 24).drop 24).take 24).all (fun c => isCode c || c.before args0 about1) = true := by decide +kernel
set_option maxRecDepth 65536 in
theorem w_t5 : ((((words1.drop 24).drop 24).drop 24).drop 24).all (fun c => isCode c || c.before args0 about1) = true := by decide +kernel
theorem w_tables : (allAtoms (Jvm.Cond.code x code maxLocals ret :: tables_1)).before args0 about1 = true := by
  rw [allAtoms_all]
  show words1.all (fun c => c.before args0 about1) = true
  refine all_split ?_ w_codes
  rw [← List.take_append_drop 24 words1, List.all_append, w_t1, ← List.take_append_drop 24 (words1.drop 24), List.all_append, w_t2, ← List.take_append_drop 24 ((words1.drop 24).drop 24), List.all_append, w_t3, ← List.take_append_drop 24 (((words1.drop 24).drop 24).drop 24), List.all_append, w_t4, w_t5]
  rfl
set_option maxRecDepth 65536 in
theorem w_rest : rest_1_c.before args0 about1 = true := by decide +kernel
set_option maxRecDepth 65536 in
theorem w_case : (Jvm.Cond.and given_1 narrow_1).before args0 about1 = true := by decide +kernel
theorem w_applies : (headSpec (Jvm.Cond.code x code maxLocals ret :: tables_1) room_1).applies x e0.platform about1 = true :=
  (Spec.applies_iff w_frames).mpr ⟨w_running, w_runnable, w_alone, w_named, w_hears, w_ripe, w_room, w_tables⟩
theorem atStart : AtStart classFile x code maxLocals ret World_1 tables_1 room_1 Calls_1 rest_1 Pre_1 launch0 p0 e0 about1 theMethod args0 below0 :=
  ⟨lists_1, trivial, launch0.admits_env _ _ _, launch0.least_env, fairChoices_fair.cas, fairChoices_fair.clock, w_frames, w_args, w_heap, w_applies, trivial, w_rest, w_case⟩
end start1
theorem witness_1 : WitnessClaimed_1 := ⟨start1.p0, start1.e0, start1.about1, start1.theMethod, start1.args0, start1.below0, start1.atStart⟩
end Jvm.Pilot.@@N@@
