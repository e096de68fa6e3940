import JvmDerived
import JvmDerived.Pilot.@@N@@Statement
import JvmDerived.Pilot.@@N@@Code
set_option linter.unusedVariables false
set_option linter.unusedSimpArgs false

namespace Jvm.RoadKit
open Sem ClassFile Op Lib Jvm.Stand Jvm.Free Jvm.LawKit
section New
variable {p : Program} {l : Launch} {e : Env} {R : Room} {s : State} {m : MethodId} {args : Array Value} {below : List Frame} {meth : Method} {c : Code} {T : State} {locs : List Loc} {cells slots : Nat}
theorem retI (X : Stand p l e R s m args below meth c T locs cells slots) (hx : p.tables.exec = Jvm.exec) {pc : Nat} {Ls : Array Slot} {z : Int32} {rest : List Value} (hret : meth.sig.returnType = some .int) (hd : decode c.code pc = .ok (.ireturn, 1)) {fs : List Frame}
    (hl : ∀ (f : JFrame) (acts : List Action), f.method = m → f.locked = none → f.entered = [] → (doReturn e (T.setTop f) acts (some (.int z))).1 = T.setFrames fs) : Steps p.tables e below (T.setTop (mkF m pc Ls (.int z :: rest))) (T.setFrames fs) := by
  have hm' : T.vm.method? m = some meth := X.method'
  have hn : narrow .int (.int z) = .int z := rfl
  show Steps p.tables e below (T.setTop { method := m, pc := pc, locals := Ls, stack := _ :: rest, locked := none }) _
  jvm_step X.here [X.here.top, hx, hd, hm', hret, hn]
  first | (intro acts; rw [hl _ acts rfl rfl rfl]) | rw [hl _ _ rfl rfl rfl]
  exact Steps.refl _
end New
end Jvm.RoadKit
namespace Jvm.Pilot.@@N@@
open Jvm Jvm.ClassFile Sem Op Lib Jvm.Free Jvm.Stand Jvm.LawKit Jvm.RoadKit Bundle Jvm.Pilot.@@N@@.Jvm.D
def EL : List (String × Nat) := consts_1
theorem hEL {Z : State} {a0 : Array Value} (hw : ∀ d ∈ tables_1, d.before a0 Z = true) : EW Z a0 EL := (EW.cons (hw _ (List.mem_of_getElem? (i := 25) rfl)) (by decide +kernel) (EW.cons (hw _ (List.mem_of_getElem? (i := 47) rfl)) (by decide +kernel) (EW.cons (hw _ (List.mem_of_getElem? (i := 46) rfl)) (by decide +kernel) (EW.cons (hw _ (List.mem_of_getElem? (i := 36) rfl)) (by decide +kernel) (EW.cons (hw _ (List.mem_of_getElem? (i := 49) rfl)) (by decide +kernel) (EW.cons (hw _ (List.mem_of_getElem? (i := 48) rfl)) (by decide +kernel) EW.nil))))))
theorem own_since (s : State) : s.Since s.vm s.heap.size := (State.WarmedH.refl s).since _
theorem own_monoW {s t : State} {o : Outcome} {L : List Loc} {k n k' n' : Nat} (h : ReturnedEndW s o t L k n) (h1 : k ≤ k') (h2 : n ≤ n') : ReturnedEndW s o t L k' n' := ⟨h.1, h.2.1, h.2.2.1, h.2.2.2.mono h1 h2⟩
theorem Safe.fresh {Z : State} {vm : Vm} {h : Heap} {x : Addr} (hal : Z.vm.Alike vm) (E : Exa Z h x "java/lang/String") (V : Fld Z h x "java/lang/String" "value" "[B" .null) : Safe Z EL vm h x := fun B => by
  obtain ⟨p, -, u, a, -, q, -, F, rfl | rfl⟩ := B
  · obtain ⟨cell, cf, k, i, f, v1, v2, v3, v4, v5, v6, v7⟩ := V
    cases (show h[q.sa]? = some q.sC from F.ha).symm.trans v1
    obtain ⟨cS, ⟨⟨s1, s2, s3, ⟨cv, kv, iv, s4, s4'⟩, ⟨cc, kc, ic, s5, s5'⟩, s6, s7, s8, s9, s10, s11, s12, s13, s14, s15, s16⟩, hfS, hcS⟩, -⟩ := F
    obtain ⟨kv', z4⟩ := ff_back (U := Wst Z vm h) hal s4
    cases v2.symm.trans z4
    cases s8.symm.trans v7
  · obtain ⟨cell, k, e1, e2, e3, -, -⟩ := E
    cases (show h[q.sd]? = some q.SA from F.hd).symm.trans e1
    obtain ⟨cS, -, -, f, -⟩ := F
    have f' : vm.findClass "[B" = some q.SA.cls := f
    rw [hal.findClass] at f'
    obtain ⟨k1, q1, q2⟩ := Vm.findClass_spec f'
    obtain ⟨k2, q3, q4⟩ := Vm.findClass_spec e2
    cases q1.symm.trans q3
    exact absurd (q2.symm.trans q4) (by decide)
theorem own_fld_int {Z : State} {args : Array Value} {t : Term} {a : Addr} {C n d : String} {k : Int32} (h : (Cond.eq (.field t C n d) (.int k)).value args Z none Z [] = some true) (ev : t.eval args Z none [] Z = some (.ref a)) : Fld Z Z.heap a C n d (.int k) := by
  apply Fld.start
  have e := fld_at (C := C) (n := n) (dd := d) ev
  cases hv : Z.fieldOf? a C n d with
  | none => rw [hv] at e; simp [Cond.value, e] at h
  | some v =>
    rw [hv] at e
    cases v <;> simp_all [Cond.value, Term.eval]
theorem own_strne {Z : State} {h : Heap} {x y d d' : Addr} {k k' : ClassId} {z z' : Int32} {vs vs' : List Value} (hz : z.toNatClampNeg ≠ z'.toNatClampNeg) (F : Fld Z h x "java/lang/String" "value" "[B" (.ref d)) (F' : Fld Z h y "java/lang/String" "value" "[B" (.ref d')) (A : Arv Z h d k .byte z vs (.int 0)) (A' : Arv Z h d' k' .byte z' vs' (.int 0)) : x ≠ y :=
  Fld.ne F F' (fun e => arv_ne A A' (Or.inl hz) (Value.ref.inj e))
def pick3 (u : Int32) (i j k : Addr) : Addr := if ((u &&& (2147483647 : Int32)) % (3 : Int32)) = (0 : Int32) then i else if ((u &&& (2147483647 : Int32)) % (3 : Int32)) = (1 : Int32) then j else k
theorem own_sel (u : Int32) (i j k : Addr) : (((u &&& (2147483647 : Int32)) % (3 : Int32)) = 0 ∧ pick3 u i j k = i) ∨ ((¬ ((u &&& (2147483647 : Int32)) % (3 : Int32)) = 0 ∧ ((u &&& (2147483647 : Int32)) % (3 : Int32)) = 1) ∧ pick3 u i j k = j) ∨ ((¬ ((u &&& (2147483647 : Int32)) % (3 : Int32)) = 0 ∧ ¬ ((u &&& (2147483647 : Int32)) % (3 : Int32)) = 1) ∧ pick3 u i j k = k) := by
  unfold pick3
  by_cases h0 : ((u &&& (2147483647 : Int32)) % (3 : Int32)) = 0
  · exact Or.inl ⟨h0, if_pos h0⟩
  · by_cases h1 : ((u &&& (2147483647 : Int32)) % (3 : Int32)) = 1
    · exact Or.inr (Or.inl ⟨⟨h0, h1⟩, by rw [if_neg h0, if_pos h1]⟩)
    · exact Or.inr (Or.inr ⟨⟨h0, h1⟩, by rw [if_neg h0, if_neg h1]⟩)
theorem d2_0 : decode method_2_code 0 = .ok (.iload_n 0, 1) := by decide +kernel
theorem d2_1 : decode method_2_code 1 = .ok (.ldc 7, 2) := by decide +kernel
theorem d2_3 : decode method_2_code 3 = .ok (.iand, 1) := by decide +kernel
theorem d2_4 : decode method_2_code 4 = .ok (.iconst 3, 1) := by decide +kernel
theorem d2_5 : decode method_2_code 5 = .ok (.irem, 1) := by decide +kernel
theorem d2_6 : decode method_2_code 6 = .ok (.ireturn, 1) := by decide +kernel
theorem pn_com_example_backfill_backfill_engine_LaneRequestsPinLaw : plainName "com/example/backfill/backfill/engine/LaneRequestsPinLaw" = true := by first | (simp [plainName, overriddenIn]; done) | decide +kernel
theorem ef_2 (m : MethodId) (u0 : Int32) : entryFrame m #[(.int u0)] 1 = mkF m 0 #[.val (.int u0)] [] := by first | (simp [entryFrame, mkF, argsToLocals, Value.category]; done) | rfl
def Q2 (Z : State) (u0 : Int32) (h0 : Heap) (n0 : Nat) (v : Option Value) (h : Heap) (L : List Loc) : Prop := v = some (.int ((u0 &&& (2147483647 : Int32)) % (3 : Int32))) ∧ Fr n0 L ∧ h = h0
set_option maxRecDepth 65536 in
set_option maxHeartbeats 40000000 in
theorem rm2 (l : Launch) (Z : State) (a0 : Array Value) (hw : ∀ d ∈ tables_1, d.before a0 Z = true) (ws : List Jvm.Cond) (u0 : Int32) (h0 : Heap) (n0 : Nat) (Z0 : n0 ≤ h0.size) :
    MetFree l (⟨"com/example/backfill/backfill/engine/LaneRequestsPinLaw", "sel", "(I)I"⟩ : MethodName) (head1 (Jvm.Cond.code (⟨"com/example/backfill/backfill/engine/LaneRequestsPinLaw", "sel", "(I)I"⟩ : MethodName) method_2_code 1 (some .int) :: ws) ({ frames := 0, cells := 0, slots := 0, locals := 0 } : Room)) (fun a U => a = #[(.int u0)] ∧ Z.Warmed39 U.vm ∧ U.heap = h0) (fun _ _ _ _ _ => True) (fun _ U o U' => ∃ v L, o = .returned v ∧ Q2 Z u0 h0 n0 v U'.heap L ∧ FrameEnd U o U' L ({ frames := 0, cells := 0, slots := 0, locals := 0 } : Room).cells ({ frames := 0, cells := 0, slots := 0, locals := 0 } : Room).slots) := by
  refine MetFree.of_bodySF (plainFor_of_name pn_com_example_backfill_backfill_engine_LaneRequestsPinLaw) hisR ?_
  intro p e s m args below meth c s₁ Bd hml0 hP hK
  obtain ⟨rfl, hZ, hh⟩ := hP
  have hx := Bd.exec
  have hby := Bd.bytes
  have hml : c.maxLocals = 1 := hml0
  have hown : s.vm.findClass "com/example/backfill/backfill/engine/LaneRequestsPinLaw" = some m.cls := findClass_of_methodNamed Bd.named
  have hnm := (name_of_methodNamed Bd.named Bd.method).1
  have X0 : Stand p l e ({ frames := 0, cells := 0, slots := 0, locals := 0 } : Room) s m #[(.int u0)] below meth c s₁ [] 0 0 := Stand.of_body Bd
  have e0 : s₁.heap = h0 := by rw [← hh, Bd.state]; rfl
  have N0 := Fr.nil n0
  have pre0 : ∀ t, Steps p.tables e below (s₁.setTop (mkF m 0 #[.val (.int u0)] [])) t → Steps p.tables e below (s₁.setTop (entryFrame m #[(.int u0)] 1)) t := fun t k => castTop (ef_2 m u0) k
  have st1 := X0.ldcInt hx hown (mvT hZ (hw _ (List.mem_of_getElem? (i := 7) rfl))) (g := (mkF m 1 #[.val (.int u0)] [(.int u0)])) rfl (hb hby d2_1)
  obtain ⟨fs, hr, hrun, hended, hW, hsame⟩ := X0.leave (v := some (.int ((u0 &&& (2147483647 : Int32)) % (3 : Int32)))) (fun h => by rw [Bd.returns] at h; cases h)
  refine ⟨_, _, pre0 _ ?_, hrun, hended, _, _, rfl, ?_, ⟨_, rfl⟩, hW, hsame.mono (by decide) (by decide)⟩
  · show Steps p.tables e below (s₁.setTop (mkF m 0 #[.val (.int u0)] [])) _
    refine XS.iloadN X0.here hx rfl (hb hby d2_0) rfl ?_
    show Steps p.tables e below (s₁.setTop (mkF m 1 #[.val (.int u0)] [(.int u0)])) _
    refine st1 _ ?_
    show Steps p.tables e below (s₁.setTop (mkF m 3 #[.val (.int u0)] [(.int (2147483647 : Int32)), (.int u0)])) _
    refine XS.iand X0.here hx rfl (hb hby d2_3) rfl ?_
    show Steps p.tables e below (s₁.setTop (mkF m 4 #[.val (.int u0)] [(.int (u0 &&& (2147483647 : Int32)))])) _
    refine XS.iconst X0.here hx rfl (hb hby d2_4) ?_
    show Steps p.tables e below (s₁.setTop (mkF m 5 #[.val (.int u0)] [(.int (3 : Int32)), (.int (u0 &&& (2147483647 : Int32)))])) _
    refine iremM X0 hx rfl (hb hby d2_5) rfl (by decide) ?_
    show Steps p.tables e below (s₁.setTop (mkF m 6 #[.val (.int u0)] [(.int ((u0 &&& (2147483647 : Int32)) % (3 : Int32)))])) _
    exact retI X0 hx Bd.returns (hb hby d2_6) hr
  · show Q2 Z u0 h0 n0 _ s₁.heap _
    rw [e0]
    exact ⟨rfl, N0, rfl⟩
theorem pd_2 : parseMethodDescriptor "(I)I" = some ⟨[.int], some .int⟩ := by decide +kernel
theorem d1_0 : decode method_3_code 0 = .ok (.iload_n 0, 1) := by decide +kernel
theorem d1_1 : decode method_3_code 1 = .ok (.invokestatic 8, 3) := by decide +kernel
theorem d1_4 : decode method_3_code 4 = .ok (.istore_n 1, 1) := by decide +kernel
theorem d1_5 : decode method_3_code 5 = .ok (.iload_n 1, 1) := by decide +kernel
theorem d1_6 : decode method_3_code 6 = .ok (.ifCond .ne 7, 3) := by decide +kernel
theorem d1_9 : decode method_3_code 9 = .ok (.getstatic 14, 3) := by decide +kernel
theorem d1_12 : decode method_3_code 12 = .ok (.areturn, 1) := by decide +kernel
theorem d1_13 : decode method_3_code 13 = .ok (.iload_n 1, 1) := by decide +kernel
theorem d1_14 : decode method_3_code 14 = .ok (.iconst 1, 1) := by decide +kernel
theorem d1_15 : decode method_3_code 15 = .ok (.if_icmp .ne 7, 3) := by decide +kernel
theorem d1_18 : decode method_3_code 18 = .ok (.getstatic 20, 3) := by decide +kernel
theorem d1_21 : decode method_3_code 21 = .ok (.areturn, 1) := by decide +kernel
theorem d1_22 : decode method_3_code 22 = .ok (.getstatic 23, 3) := by decide +kernel
theorem d1_25 : decode method_3_code 25 = .ok (.areturn, 1) := by decide +kernel
theorem ef_1 (m : MethodId) (u0 : Int32) : entryFrame m #[(.int u0)] 2 = mkF m 0 #[.val (.int u0), .unset] [] := by first | (simp [entryFrame, mkF, argsToLocals, Value.category]; done) | rfl
def Q1 (Z : State) (u0 : Int32) (a_UPSTREAM : Addr) (a_LIST : Addr) (a_ITEM : Addr) (h0 : Heap) (n0 : Nat) (v : Option Value) (h : Heap) (L : List Loc) : Prop := v = some (.ref (pick3 u0 a_UPSTREAM a_LIST a_ITEM)) ∧ Fr n0 L ∧ h = h0
set_option maxRecDepth 65536 in
set_option maxHeartbeats 40000000 in
theorem rm1 (l : Launch) (Z : State) (a0 : Array Value) (hw : ∀ d ∈ tables_1, d.before a0 Z = true) (ws : List Jvm.Cond) (u0 : Int32) (a_UPSTREAM : Addr) (a_LIST : Addr) (a_ITEM : Addr) (h0 : Heap) (n0 : Nat) (Z0 : n0 ≤ h0.size) (O0 : Old Z n0 h0) (S_UPSTREAM : Sta Z Z.heap "com/example/backfill/backfill/engine/Lane" "UPSTREAM" "Lcom/example/backfill/backfill/engine/Lane;" (.ref a_UPSTREAM)) (S_LIST : Sta Z Z.heap "com/example/backfill/backfill/engine/Lane" "LIST" "Lcom/example/backfill/backfill/engine/Lane;" (.ref a_LIST)) (S_ITEM : Sta Z Z.heap "com/example/backfill/backfill/engine/Lane" "ITEM" "Lcom/example/backfill/backfill/engine/Lane;" (.ref a_ITEM)) :
    MetFree l (⟨"com/example/backfill/backfill/engine/LaneRequestsPinLaw", "pick", "(I)Lcom/example/backfill/backfill/engine/Lane;"⟩ : MethodName) (head1 (Jvm.Cond.code (⟨"com/example/backfill/backfill/engine/LaneRequestsPinLaw", "pick", "(I)Lcom/example/backfill/backfill/engine/Lane;"⟩ : MethodName) method_3_code 2 (some (.object "com/example/backfill/backfill/engine/Lane")) :: ws) ({ frames := 1, cells := 0, slots := 0, locals := 12 } : Room)) (fun a U => a = #[(.int u0)] ∧ Z.Warmed39 U.vm ∧ U.heap = h0) (fun _ _ _ _ _ => True) (fun _ U o U' => ∃ v L, o = .returned v ∧ Q1 Z u0 a_UPSTREAM a_LIST a_ITEM h0 n0 v U'.heap L ∧ FrameEnd U o U' L ({ frames := 1, cells := 0, slots := 0, locals := 12 } : Room).cells ({ frames := 1, cells := 0, slots := 0, locals := 12 } : Room).slots) := by
  refine MetFree.of_bodySF (plainFor_of_name pn_com_example_backfill_backfill_engine_LaneRequestsPinLaw) hisR ?_
  intro p e s m args below meth c s₁ Bd hml0 hP hK
  obtain ⟨rfl, hZ, hh⟩ := hP
  have hx := Bd.exec
  have hby := Bd.bytes
  have hml : c.maxLocals = 2 := hml0
  have hown : s.vm.findClass "com/example/backfill/backfill/engine/LaneRequestsPinLaw" = some m.cls := findClass_of_methodNamed Bd.named
  have hnm := (name_of_methodNamed Bd.named Bd.method).1
  have X0 : Stand p l e ({ frames := 1, cells := 0, slots := 0, locals := 12 } : Room) s m #[(.int u0)] below meth c s₁ [] 0 0 := Stand.of_body Bd
  have e0 : s₁.heap = h0 := by rw [← hh, Bd.state]; rfl
  have N0 := Fr.nil n0
  have pre0 : ∀ t, Steps p.tables e below (s₁.setTop (mkF m 0 #[.val (.int u0), .unset] [])) t → Steps p.tables e below (s₁.setTop (entryFrame m #[(.int u0)] 2)) t := fun t k => castTop (ef_1 m u0) k
  obtain ⟨_, _, ⟨T1, L1, k1, n1⟩, -, X1, ⟨Lc1, hQ1, l1, y1, z1⟩, st1⟩ := Jvm.LawKit.callS X0 hx (y := (⟨"com/example/backfill/backfill/engine/LaneRequestsPinLaw", "sel", "(I)I"⟩ : MethodName)) hown (mvT hZ (hw _ (List.mem_of_getElem? (i := 4) rfl))) (mvT hZ (hw _ (List.mem_of_getElem? (i := 5) rfl))) (mvT hZ (hw _ (List.mem_of_getElem? (i := 2) rfl))) (mvT hZ (hw _ (List.mem_of_getElem? (i := 6) rfl))) (by decide) (backOf (W := 0) (rm2 l Z a0 hw [] u0 h0 n0 Z0 ) hZ (hw _ (List.mem_of_getElem? (i := 6) rfl)) (hw _ (List.mem_of_getElem? (i := 2) rfl)) (by decide) (by decide)) (g := (mkF m 1 #[.val (.int u0), .unset] [(.int u0)])) rfl (by rw [hml]; rfl) (argsL := [(.int u0)]) (rest := []) (lenOf pd_2 rfl) rfl (by show 2 * 0 + _ ≤ _; exact Nat.le_of_eq rfl) (hb hby d1_1) (fun _ _ => ⟨rfl, e0, (by decide : 0 + 0 ≤ _), (by decide : 0 + 0 ≤ _)⟩)
  dsimp only [Pt.U, Pt.locs, Pt.cells, Pt.slots] at X1 l1 y1 z1 st1 hQ1
  subst l1 y1 z1
  obtain ⟨rfl, N1q, e1⟩ := hQ1
  have N1 := Fr.app N0 N1q
  by_cases hc6 : ((u0 &&& (2147483647 : Int32)) % (3 : Int32)) = (0 : Int32)
  · obtain ⟨T2, X2, e2, st2⟩ := getS2 X1 hx hZ hown (host := "") (Or.inl (hw _ (List.mem_of_getElem? (i := 8) rfl))) Via.refl e1 (S_UPSTREAM.ext O0.2) (g := (mkF m 9 #[.val (.int u0), .val (.int ((u0 &&& (2147483647 : Int32)) % (3 : Int32)))] [])) rfl (hb hby d1_9)
    obtain ⟨fs, hr, hrun, hended, hW, hsame⟩ := X2.leave (v := some (.ref a_UPSTREAM)) (fun h => by rw [Bd.returns] at h; cases h)
    refine ⟨_, _, pre0 _ ?_, hrun, hended, _, _, rfl, ?_, ⟨_, rfl⟩, hW, hsame.mono (by decide) (by decide)⟩
    · show Steps p.tables e below (s₁.setTop (mkF m 0 #[.val (.int u0), .unset] [])) _
      refine XS.iloadN X0.here hx rfl (hb hby d1_0) rfl ?_
      show Steps p.tables e below (s₁.setTop (mkF m 1 #[.val (.int u0), .unset] [(.int u0)])) _
      refine st1 _ ?_
      show Steps p.tables e below (T1.setTop (mkF m 4 #[.val (.int u0), .unset] [(.int ((u0 &&& (2147483647 : Int32)) % (3 : Int32)))])) _
      refine XS.istoreN X1.here hx rfl (hb hby d1_4) rfl (l' := #[.val (.int u0), .val (.int ((u0 &&& (2147483647 : Int32)) % (3 : Int32)))]) rfl ?_
      show Steps p.tables e below (T1.setTop (mkF m 5 #[.val (.int u0), .val (.int ((u0 &&& (2147483647 : Int32)) % (3 : Int32)))] [])) _
      refine XS.iloadN X1.here hx rfl (hb hby d1_5) rfl ?_
      show Steps p.tables e below (T1.setTop (mkF m 6 #[.val (.int u0), .val (.int ((u0 &&& (2147483647 : Int32)) % (3 : Int32)))] [(.int ((u0 &&& (2147483647 : Int32)) % (3 : Int32)))])) _
      refine XS.ifNo X1.here hx rfl (hb hby d1_6) rfl ((if0 _ _).trans (teq hc6).2) ?_
      show Steps p.tables e below (T1.setTop (mkF m 9 #[.val (.int u0), .val (.int ((u0 &&& (2147483647 : Int32)) % (3 : Int32)))] [])) _
      refine st2 _ ?_
      show Steps p.tables e below (T2.setTop (mkF m 12 #[.val (.int u0), .val (.int ((u0 &&& (2147483647 : Int32)) % (3 : Int32)))] [(.ref a_UPSTREAM)])) _
      jvm_step X2.here [X2.here.top, hx, (hb hby d1_12), X2.method', Bd.returns, Value.isRef, FieldType.isReference]
      first | (intro acts; rw [hr _ acts rfl rfl rfl]) | rw [hr _ _ rfl rfl rfl]
      exact Steps.refl _
    · show Q1 Z u0 a_UPSTREAM a_LIST a_ITEM h0 n0 _ T2.heap _
      rw [e2]
      exact ⟨(by simp [pick3, hc6]), N1, rfl⟩
  · by_cases hc15 : ((u0 &&& (2147483647 : Int32)) % (3 : Int32)) = (1 : Int32)
    · obtain ⟨T3, X3, e3, st3⟩ := getS2 X1 hx hZ hown (host := "") (Or.inl (hw _ (List.mem_of_getElem? (i := 44) rfl))) Via.refl e1 (S_LIST.ext O0.2) (g := (mkF m 18 #[.val (.int u0), .val (.int ((u0 &&& (2147483647 : Int32)) % (3 : Int32)))] [])) rfl (hb hby d1_18)
      obtain ⟨fs, hr, hrun, hended, hW, hsame⟩ := X3.leave (v := some (.ref a_LIST)) (fun h => by rw [Bd.returns] at h; cases h)
      refine ⟨_, _, pre0 _ ?_, hrun, hended, _, _, rfl, ?_, ⟨_, rfl⟩, hW, hsame.mono (by decide) (by decide)⟩
      · show Steps p.tables e below (s₁.setTop (mkF m 0 #[.val (.int u0), .unset] [])) _
        refine XS.iloadN X0.here hx rfl (hb hby d1_0) rfl ?_
        show Steps p.tables e below (s₁.setTop (mkF m 1 #[.val (.int u0), .unset] [(.int u0)])) _
        refine st1 _ ?_
        show Steps p.tables e below (T1.setTop (mkF m 4 #[.val (.int u0), .unset] [(.int ((u0 &&& (2147483647 : Int32)) % (3 : Int32)))])) _
        refine XS.istoreN X1.here hx rfl (hb hby d1_4) rfl (l' := #[.val (.int u0), .val (.int ((u0 &&& (2147483647 : Int32)) % (3 : Int32)))]) rfl ?_
        show Steps p.tables e below (T1.setTop (mkF m 5 #[.val (.int u0), .val (.int ((u0 &&& (2147483647 : Int32)) % (3 : Int32)))] [])) _
        refine XS.iloadN X1.here hx rfl (hb hby d1_5) rfl ?_
        show Steps p.tables e below (T1.setTop (mkF m 6 #[.val (.int u0), .val (.int ((u0 &&& (2147483647 : Int32)) % (3 : Int32)))] [(.int ((u0 &&& (2147483647 : Int32)) % (3 : Int32)))])) _
        refine XS.ifYes X1.here hx rfl (pc0 := 6) (pc' := 13) rfl (hb hby d1_6) rfl ((if0 _ _).trans (feq hc6).2) (by decide) (by decide) ?_
        show Steps p.tables e below (T1.setTop (mkF m 13 #[.val (.int u0), .val (.int ((u0 &&& (2147483647 : Int32)) % (3 : Int32)))] [])) _
        refine XS.iloadN X1.here hx rfl (hb hby d1_13) rfl ?_
        show Steps p.tables e below (T1.setTop (mkF m 14 #[.val (.int u0), .val (.int ((u0 &&& (2147483647 : Int32)) % (3 : Int32)))] [(.int ((u0 &&& (2147483647 : Int32)) % (3 : Int32)))])) _
        refine XS.iconst X1.here hx rfl (hb hby d1_14) ?_
        show Steps p.tables e below (T1.setTop (mkF m 15 #[.val (.int u0), .val (.int ((u0 &&& (2147483647 : Int32)) % (3 : Int32)))] [(.int (1 : Int32)), (.int ((u0 &&& (2147483647 : Int32)) % (3 : Int32)))])) _
        refine XS.icmpNo X1.here hx rfl (hb hby d1_15) rfl (teq hc15).2 ?_
        show Steps p.tables e below (T1.setTop (mkF m 18 #[.val (.int u0), .val (.int ((u0 &&& (2147483647 : Int32)) % (3 : Int32)))] [])) _
        refine st3 _ ?_
        show Steps p.tables e below (T3.setTop (mkF m 21 #[.val (.int u0), .val (.int ((u0 &&& (2147483647 : Int32)) % (3 : Int32)))] [(.ref a_LIST)])) _
        jvm_step X3.here [X3.here.top, hx, (hb hby d1_21), X3.method', Bd.returns, Value.isRef, FieldType.isReference]
        first | (intro acts; rw [hr _ acts rfl rfl rfl]) | rw [hr _ _ rfl rfl rfl]
        exact Steps.refl _
      · show Q1 Z u0 a_UPSTREAM a_LIST a_ITEM h0 n0 _ T3.heap _
        rw [e3]
        exact ⟨(by simp [pick3, hc6, hc15]), N1, rfl⟩
    · obtain ⟨T4, X4, e4, st4⟩ := getS2 X1 hx hZ hown (host := "") (Or.inl (hw _ (List.mem_of_getElem? (i := 42) rfl))) Via.refl e1 (S_ITEM.ext O0.2) (g := (mkF m 22 #[.val (.int u0), .val (.int ((u0 &&& (2147483647 : Int32)) % (3 : Int32)))] [])) rfl (hb hby d1_22)
      obtain ⟨fs, hr, hrun, hended, hW, hsame⟩ := X4.leave (v := some (.ref a_ITEM)) (fun h => by rw [Bd.returns] at h; cases h)
      refine ⟨_, _, pre0 _ ?_, hrun, hended, _, _, rfl, ?_, ⟨_, rfl⟩, hW, hsame.mono (by decide) (by decide)⟩
      · show Steps p.tables e below (s₁.setTop (mkF m 0 #[.val (.int u0), .unset] [])) _
        refine XS.iloadN X0.here hx rfl (hb hby d1_0) rfl ?_
        show Steps p.tables e below (s₁.setTop (mkF m 1 #[.val (.int u0), .unset] [(.int u0)])) _
        refine st1 _ ?_
        show Steps p.tables e below (T1.setTop (mkF m 4 #[.val (.int u0), .unset] [(.int ((u0 &&& (2147483647 : Int32)) % (3 : Int32)))])) _
        refine XS.istoreN X1.here hx rfl (hb hby d1_4) rfl (l' := #[.val (.int u0), .val (.int ((u0 &&& (2147483647 : Int32)) % (3 : Int32)))]) rfl ?_
        show Steps p.tables e below (T1.setTop (mkF m 5 #[.val (.int u0), .val (.int ((u0 &&& (2147483647 : Int32)) % (3 : Int32)))] [])) _
        refine XS.iloadN X1.here hx rfl (hb hby d1_5) rfl ?_
        show Steps p.tables e below (T1.setTop (mkF m 6 #[.val (.int u0), .val (.int ((u0 &&& (2147483647 : Int32)) % (3 : Int32)))] [(.int ((u0 &&& (2147483647 : Int32)) % (3 : Int32)))])) _
        refine XS.ifYes X1.here hx rfl (pc0 := 6) (pc' := 13) rfl (hb hby d1_6) rfl ((if0 _ _).trans (feq hc6).2) (by decide) (by decide) ?_
        show Steps p.tables e below (T1.setTop (mkF m 13 #[.val (.int u0), .val (.int ((u0 &&& (2147483647 : Int32)) % (3 : Int32)))] [])) _
        refine XS.iloadN X1.here hx rfl (hb hby d1_13) rfl ?_
        show Steps p.tables e below (T1.setTop (mkF m 14 #[.val (.int u0), .val (.int ((u0 &&& (2147483647 : Int32)) % (3 : Int32)))] [(.int ((u0 &&& (2147483647 : Int32)) % (3 : Int32)))])) _
        refine XS.iconst X1.here hx rfl (hb hby d1_14) ?_
        show Steps p.tables e below (T1.setTop (mkF m 15 #[.val (.int u0), .val (.int ((u0 &&& (2147483647 : Int32)) % (3 : Int32)))] [(.int (1 : Int32)), (.int ((u0 &&& (2147483647 : Int32)) % (3 : Int32)))])) _
        refine XS.icmpYes X1.here hx rfl (pc0 := 15) (pc' := 22) rfl (hb hby d1_15) rfl (feq hc15).2 (by decide) (by decide) ?_
        show Steps p.tables e below (T1.setTop (mkF m 22 #[.val (.int u0), .val (.int ((u0 &&& (2147483647 : Int32)) % (3 : Int32)))] [])) _
        refine st4 _ ?_
        show Steps p.tables e below (T4.setTop (mkF m 25 #[.val (.int u0), .val (.int ((u0 &&& (2147483647 : Int32)) % (3 : Int32)))] [(.ref a_ITEM)])) _
        jvm_step X4.here [X4.here.top, hx, (hb hby d1_25), X4.method', Bd.returns, Value.isRef, FieldType.isReference]
        first | (intro acts; rw [hr _ acts rfl rfl rfl]) | rw [hr _ _ rfl rfl rfl]
        exact Steps.refl _
      · show Q1 Z u0 a_UPSTREAM a_LIST a_ITEM h0 n0 _ T4.heap _
        rw [e4]
        exact ⟨(by simp [pick3, hc6, hc15]), N1, rfl⟩
theorem d4_0 : decode jdk_37_method_2_code 0 = .ok (.aload_n 0, 1) := by decide +kernel
theorem d4_1 : decode jdk_37_method_2_code 1 = .ok (.getfield 7, 3) := by decide +kernel
theorem d4_4 : decode jdk_37_method_2_code 4 = .ok (.ireturn, 1) := by decide +kernel
theorem pn_java_lang_Enum : plainName "java/lang/Enum" = true := by first | (simp [plainName, overriddenIn]; done) | decide +kernel
theorem ef_4 (m : MethodId) (u0 : Addr) : entryFrame m #[(.ref u0)] 1 = mkF m 0 #[.val (.ref u0)] [] := by first | (simp [entryFrame, mkF, argsToLocals, Value.category]; done) | rfl
def Q4 (Z : State) (u0 : Addr) (w1 : Int32) (h0 : Heap) (n0 : Nat) (v : Option Value) (h : Heap) (L : List Loc) : Prop := v = some (.int w1) ∧ Fr n0 L ∧ h = h0
set_option maxRecDepth 65536 in
set_option maxHeartbeats 40000000 in
theorem rm4 (l : Launch) (Z : State) (a0 : Array Value) (hw : ∀ d ∈ tables_1, d.before a0 Z = true) (ws : List Jvm.Cond) (u0 : Addr) (w1 : Int32) (h0 : Heap) (n0 : Nat) (Z0 : n0 ≤ h0.size) (F_u0 : Fld Z h0 u0 "java/lang/Enum" "ordinal" "I" (.int w1)) :
    MetFree l (⟨"java/lang/Enum", "ordinal", "()I"⟩ : MethodName) (head1 (Jvm.Cond.code (⟨"java/lang/Enum", "ordinal", "()I"⟩ : MethodName) jdk_37_method_2_code 1 (some .int) :: ws) ({ frames := 0, cells := 0, slots := 0, locals := 0 } : Room)) (fun a U => a = #[(.ref u0)] ∧ Z.Warmed39 U.vm ∧ U.heap = h0) (fun _ _ _ _ _ => True) (fun _ U o U' => ∃ v L, o = .returned v ∧ Q4 Z u0 w1 h0 n0 v U'.heap L ∧ FrameEnd U o U' L ({ frames := 0, cells := 0, slots := 0, locals := 0 } : Room).cells ({ frames := 0, cells := 0, slots := 0, locals := 0 } : Room).slots) := by
  refine MetFree.of_bodySF (plainFor_of_name pn_java_lang_Enum) hisR ?_
  intro p e s m args below meth c s₁ Bd hml0 hP hK
  obtain ⟨rfl, hZ, hh⟩ := hP
  have hx := Bd.exec
  have hby := Bd.bytes
  have hml : c.maxLocals = 1 := hml0
  have hown : s.vm.findClass "java/lang/Enum" = some m.cls := findClass_of_methodNamed Bd.named
  have hnm := (name_of_methodNamed Bd.named Bd.method).1
  have X0 : Stand p l e ({ frames := 0, cells := 0, slots := 0, locals := 0 } : Room) s m #[(.ref u0)] below meth c s₁ [] 0 0 := Stand.of_body Bd
  have e0 : s₁.heap = h0 := by rw [← hh, Bd.state]; rfl
  have N0 := Fr.nil n0
  have pre0 : ∀ t, Steps p.tables e below (s₁.setTop (mkF m 0 #[.val (.ref u0)] [])) t → Steps p.tables e below (s₁.setTop (entryFrame m #[(.ref u0)] 1)) t := fun t k => castTop (ef_4 m u0) k
  obtain ⟨T1, X1, e1, st1⟩ := getF X0 hx hZ hown (host := "") (Or.inl (hw _ (List.mem_of_getElem? (i := 23) rfl))) Via.refl e0 F_u0 (g := (mkF m 1 #[.val (.ref u0)] [(.ref u0)])) rfl rfl (hb hby d4_1)
  obtain ⟨fs, hr, hrun, hended, hW, hsame⟩ := X1.leave (v := some (.int w1)) (fun h => by rw [Bd.returns] at h; cases h)
  refine ⟨_, _, pre0 _ ?_, hrun, hended, _, _, rfl, ?_, ⟨_, rfl⟩, hW, hsame.mono (by decide) (by decide)⟩
  · show Steps p.tables e below (s₁.setTop (mkF m 0 #[.val (.ref u0)] [])) _
    refine XS.aloadN X0.here hx rfl (hb hby d4_0) rfl rfl ?_
    show Steps p.tables e below (s₁.setTop (mkF m 1 #[.val (.ref u0)] [(.ref u0)])) _
    refine st1 _ ?_
    show Steps p.tables e below (T1.setTop (mkF m 4 #[.val (.ref u0)] [(.int w1)])) _
    exact retI X1 hx Bd.returns (hb hby d4_4) hr
  · show Q4 Z u0 w1 h0 n0 _ T1.heap _
    rw [e1]
    exact ⟨rfl, N0, rfl⟩
theorem d7_0 : decode jdk_43_method_13_code 0 = .ok (.aload_n 0, 1) := by decide +kernel
theorem d7_1 : decode jdk_43_method_13_code 1 = .ok (.arraylength, 1) := by decide +kernel
theorem d7_2 : decode jdk_43_method_13_code 2 = .ok (.aload_n 1, 1) := by decide +kernel
theorem d7_3 : decode jdk_43_method_13_code 3 = .ok (.arraylength, 1) := by decide +kernel
theorem d7_4 : decode jdk_43_method_13_code 4 = .ok (.if_icmp .ne 30, 3) := by decide +kernel
theorem d7_7 : decode jdk_43_method_13_code 7 = .ok (.iconst 0, 1) := by decide +kernel
theorem d7_8 : decode jdk_43_method_13_code 8 = .ok (.istore_n 2, 1) := by decide +kernel
theorem d7_9 : decode jdk_43_method_13_code 9 = .ok (.iload_n 2, 1) := by decide +kernel
theorem d7_10 : decode jdk_43_method_13_code 10 = .ok (.aload_n 0, 1) := by decide +kernel
theorem d7_11 : decode jdk_43_method_13_code 11 = .ok (.arraylength, 1) := by decide +kernel
theorem d7_12 : decode jdk_43_method_13_code 12 = .ok (.if_icmp .ge 20, 3) := by decide +kernel
theorem d7_15 : decode jdk_43_method_13_code 15 = .ok (.aload_n 0, 1) := by decide +kernel
theorem d7_16 : decode jdk_43_method_13_code 16 = .ok (.iload_n 2, 1) := by decide +kernel
theorem d7_17 : decode jdk_43_method_13_code 17 = .ok (.baload, 1) := by decide +kernel
theorem d7_18 : decode jdk_43_method_13_code 18 = .ok (.aload_n 1, 1) := by decide +kernel
theorem d7_19 : decode jdk_43_method_13_code 19 = .ok (.iload_n 2, 1) := by decide +kernel
theorem d7_20 : decode jdk_43_method_13_code 20 = .ok (.baload, 1) := by decide +kernel
theorem d7_21 : decode jdk_43_method_13_code 21 = .ok (.if_icmp .eq 5, 3) := by decide +kernel
theorem d7_26 : decode jdk_43_method_13_code 26 = .ok (.iinc 2 1, 3) := by decide +kernel
theorem d7_29 : decode jdk_43_method_13_code 29 = .ok (.goto (-20), 3) := by decide +kernel
theorem d7_32 : decode jdk_43_method_13_code 32 = .ok (.iconst 1, 1) := by decide +kernel
theorem d7_33 : decode jdk_43_method_13_code 33 = .ok (.ireturn, 1) := by decide +kernel
theorem pn_java_lang_StringLatin1 : plainName "java/lang/StringLatin1" = true := by first | (simp [plainName, overriddenIn]; done) | decide +kernel
theorem ef_7UU (m : MethodId) (d0 : Addr) (d1 : Addr) : entryFrame m #[(.ref d0), (.ref d1)] 3 = mkF m 0 #[.val (.ref d0), .val (.ref d1), .unset] [] := by first | (simp [entryFrame, mkF, argsToLocals, Value.category]; done) | rfl
def Q7UU (Z : State) (d0 : Addr) (d1 : Addr) (k0 : ClassId) (k1 : ClassId) (h0 : Heap) (n0 : Nat) (v : Option Value) (h : Heap) (L : List Loc) : Prop := v = some (.int (1 : Int32)) ∧ Fr n0 L ∧ h = h0
set_option maxRecDepth 65536 in
set_option maxHeartbeats 40000000 in
theorem rm7UU (l : Launch) (Z : State) (a0 : Array Value) (hw : ∀ d ∈ tables_1, d.before a0 Z = true) (ws : List Jvm.Cond) (d0 : Addr) (d1 : Addr) (k0 : ClassId) (k1 : ClassId) (h0 : Heap) (n0 : Nat) (Z0 : n0 ≤ h0.size) (V_d0 : Arv Z h0 d0 k0 .byte (12 : Int32) [(.int (97 : Int32)), (.int (108 : Int32)), (.int (108 : Int32)), (.int (32 : Int32)), (.int (114 : Int32)), (.int (101 : Int32)), (.int (113 : Int32)), (.int (117 : Int32)), (.int (101 : Int32)), (.int (115 : Int32)), (.int (116 : Int32)), (.int (115 : Int32))] (.int 0)) (V_d1 : Arv Z h0 d1 k1 .byte (12 : Int32) [(.int (97 : Int32)), (.int (108 : Int32)), (.int (108 : Int32)), (.int (32 : Int32)), (.int (114 : Int32)), (.int (101 : Int32)), (.int (113 : Int32)), (.int (117 : Int32)), (.int (101 : Int32)), (.int (115 : Int32)), (.int (116 : Int32)), (.int (115 : Int32))] (.int 0)) :
    MetFree l (⟨"java/lang/StringLatin1", "equals", "([B[B)Z"⟩ : MethodName) (head1 (Jvm.Cond.code (⟨"java/lang/StringLatin1", "equals", "([B[B)Z"⟩ : MethodName) jdk_43_method_13_code 3 (some .boolean) :: ws) ({ frames := 0, cells := 0, slots := 0, locals := 0 } : Room)) (fun a U => a = #[(.ref d0), (.ref d1)] ∧ Z.Warmed39 U.vm ∧ U.heap = h0) (fun _ _ _ _ _ => True) (fun _ U o U' => ∃ v L, o = .returned v ∧ Q7UU Z d0 d1 k0 k1 h0 n0 v U'.heap L ∧ FrameEnd U o U' L ({ frames := 0, cells := 0, slots := 0, locals := 0 } : Room).cells ({ frames := 0, cells := 0, slots := 0, locals := 0 } : Room).slots) := by
  refine MetFree.of_bodySF (plainFor_of_name pn_java_lang_StringLatin1) hisR ?_
  intro p e s m args below meth c s₁ Bd hml0 hP hK
  obtain ⟨rfl, hZ, hh⟩ := hP
  have hx := Bd.exec
  have hby := Bd.bytes
  have hml : c.maxLocals = 3 := hml0
  have hown : s.vm.findClass "java/lang/StringLatin1" = some m.cls := findClass_of_methodNamed Bd.named
  have hnm := (name_of_methodNamed Bd.named Bd.method).1
  have X0 : Stand p l e ({ frames := 0, cells := 0, slots := 0, locals := 0 } : Room) s m #[(.ref d0), (.ref d1)] below meth c s₁ [] 0 0 := Stand.of_body Bd
  have e0 : s₁.heap = h0 := by rw [← hh, Bd.state]; rfl
  have N0 := Fr.nil n0
  have pre0 : ∀ t, Steps p.tables e below (s₁.setTop (mkF m 0 #[.val (.ref d0), .val (.ref d1), .unset] [])) t → Steps p.tables e below (s₁.setTop (entryFrame m #[(.ref d0), (.ref d1)] 3)) t := fun t k => castTop (ef_7UU m d0 d1) k
  obtain ⟨cl1, Ar1, qa1, Sa1, Na1, Ha1, Ga1⟩ := id V_d0
  have st1 := X0.arraylength hx (by rw [e0]; exact Ar1.1) (State.isArrayOf_alike hZ.alike Ar1.2.1) (g := (mkF m 1 #[.val (.ref d0), .val (.ref d1), .unset] [(.ref d0)])) rfl rfl (hb hby d7_1)
  rw [len_of Sa1 Na1] at st1
  obtain ⟨cl2, Ar2, qa2, Sa2, Na2, Ha2, Ga2⟩ := id V_d1
  have st2 := X0.arraylength hx (by rw [e0]; exact Ar2.1) (State.isArrayOf_alike hZ.alike Ar2.2.1) (g := (mkF m 3 #[.val (.ref d0), .val (.ref d1), .unset] [(.ref d1), (.int (12 : Int32))])) rfl rfl (hb hby d7_3)
  rw [len_of Sa2 Na2] at st2
  obtain ⟨cl3, Ar3, qa3, Sa3, Na3, Ha3, Ga3⟩ := id V_d0
  have st3 := X0.arraylength hx (by rw [e0]; exact Ar3.1) (State.isArrayOf_alike hZ.alike Ar3.2.1) (g := (mkF m 11 #[.val (.ref d0), .val (.ref d1), .val (.int (0 : Int32))] [(.ref d0), (.int (0 : Int32))])) rfl rfl (hb hby d7_11)
  rw [len_of Sa3 Na3] at st3
  obtain ⟨cl4, Ar4, qa4, Sa4, Na4, Ha4, Ga4⟩ := id V_d0
  have hi4 := inb_of (j := (0 : Int32)) Sa4 ⟨by decide, by decide⟩
  have st4 := X0.baloadBytes hx (j := (0 : Int32)) (v := (.int (97 : Int32))) (by rw [e0]; exact Ar4.1) (State.isArrayOf_alike hZ.alike Ar4.2.1) Ar4.2.2 hi4 (Has.at Ha4 hi4 rfl) (g := (mkF m 17 #[.val (.ref d0), .val (.ref d1), .val (.int (0 : Int32))] [(.int (0 : Int32)), (.ref d0)])) rfl rfl (hb hby d7_17)
  obtain ⟨cl5, Ar5, qa5, Sa5, Na5, Ha5, Ga5⟩ := id V_d1
  have hi5 := inb_of (j := (0 : Int32)) Sa5 ⟨by decide, by decide⟩
  have st5 := X0.baloadBytes hx (j := (0 : Int32)) (v := (.int (97 : Int32))) (by rw [e0]; exact Ar5.1) (State.isArrayOf_alike hZ.alike Ar5.2.1) Ar5.2.2 hi5 (Has.at Ha5 hi5 rfl) (g := (mkF m 20 #[.val (.ref d0), .val (.ref d1), .val (.int (0 : Int32))] [(.int (0 : Int32)), (.ref d1), (.int (97 : Int32))])) rfl rfl (hb hby d7_20)
  obtain ⟨cl6, Ar6, qa6, Sa6, Na6, Ha6, Ga6⟩ := id V_d0
  have st6 := X0.arraylength hx (by rw [e0]; exact Ar6.1) (State.isArrayOf_alike hZ.alike Ar6.2.1) (g := (mkF m 11 #[.val (.ref d0), .val (.ref d1), .val (.int (1 : Int32))] [(.ref d0), (.int (1 : Int32))])) rfl rfl (hb hby d7_11)
  rw [len_of Sa6 Na6] at st6
  obtain ⟨cl7, Ar7, qa7, Sa7, Na7, Ha7, Ga7⟩ := id V_d0
  have hi7 := inb_of (j := (1 : Int32)) Sa7 ⟨by decide, by decide⟩
  have st7 := X0.baloadBytes hx (j := (1 : Int32)) (v := (.int (108 : Int32))) (by rw [e0]; exact Ar7.1) (State.isArrayOf_alike hZ.alike Ar7.2.1) Ar7.2.2 hi7 (Has.at Ha7 hi7 rfl) (g := (mkF m 17 #[.val (.ref d0), .val (.ref d1), .val (.int (1 : Int32))] [(.int (1 : Int32)), (.ref d0)])) rfl rfl (hb hby d7_17)
  obtain ⟨cl8, Ar8, qa8, Sa8, Na8, Ha8, Ga8⟩ := id V_d1
  have hi8 := inb_of (j := (1 : Int32)) Sa8 ⟨by decide, by decide⟩
  have st8 := X0.baloadBytes hx (j := (1 : Int32)) (v := (.int (108 : Int32))) (by rw [e0]; exact Ar8.1) (State.isArrayOf_alike hZ.alike Ar8.2.1) Ar8.2.2 hi8 (Has.at Ha8 hi8 rfl) (g := (mkF m 20 #[.val (.ref d0), .val (.ref d1), .val (.int (1 : Int32))] [(.int (1 : Int32)), (.ref d1), (.int (108 : Int32))])) rfl rfl (hb hby d7_20)
  obtain ⟨cl9, Ar9, qa9, Sa9, Na9, Ha9, Ga9⟩ := id V_d0
  have st9 := X0.arraylength hx (by rw [e0]; exact Ar9.1) (State.isArrayOf_alike hZ.alike Ar9.2.1) (g := (mkF m 11 #[.val (.ref d0), .val (.ref d1), .val (.int (2 : Int32))] [(.ref d0), (.int (2 : Int32))])) rfl rfl (hb hby d7_11)
  rw [len_of Sa9 Na9] at st9
  obtain ⟨cl10, Ar10, qa10, Sa10, Na10, Ha10, Ga10⟩ := id V_d0
  have hi10 := inb_of (j := (2 : Int32)) Sa10 ⟨by decide, by decide⟩
  have st10 := X0.baloadBytes hx (j := (2 : Int32)) (v := (.int (108 : Int32))) (by rw [e0]; exact Ar10.1) (State.isArrayOf_alike hZ.alike Ar10.2.1) Ar10.2.2 hi10 (Has.at Ha10 hi10 rfl) (g := (mkF m 17 #[.val (.ref d0), .val (.ref d1), .val (.int (2 : Int32))] [(.int (2 : Int32)), (.ref d0)])) rfl rfl (hb hby d7_17)
  obtain ⟨cl11, Ar11, qa11, Sa11, Na11, Ha11, Ga11⟩ := id V_d1
  have hi11 := inb_of (j := (2 : Int32)) Sa11 ⟨by decide, by decide⟩
  have st11 := X0.baloadBytes hx (j := (2 : Int32)) (v := (.int (108 : Int32))) (by rw [e0]; exact Ar11.1) (State.isArrayOf_alike hZ.alike Ar11.2.1) Ar11.2.2 hi11 (Has.at Ha11 hi11 rfl) (g := (mkF m 20 #[.val (.ref d0), .val (.ref d1), .val (.int (2 : Int32))] [(.int (2 : Int32)), (.ref d1), (.int (108 : Int32))])) rfl rfl (hb hby d7_20)
  obtain ⟨cl12, Ar12, qa12, Sa12, Na12, Ha12, Ga12⟩ := id V_d0
  have st12 := X0.arraylength hx (by rw [e0]; exact Ar12.1) (State.isArrayOf_alike hZ.alike Ar12.2.1) (g := (mkF m 11 #[.val (.ref d0), .val (.ref d1), .val (.int (3 : Int32))] [(.ref d0), (.int (3 : Int32))])) rfl rfl (hb hby d7_11)
  rw [len_of Sa12 Na12] at st12
  obtain ⟨cl13, Ar13, qa13, Sa13, Na13, Ha13, Ga13⟩ := id V_d0
  have hi13 := inb_of (j := (3 : Int32)) Sa13 ⟨by decide, by decide⟩
  have st13 := X0.baloadBytes hx (j := (3 : Int32)) (v := (.int (32 : Int32))) (by rw [e0]; exact Ar13.1) (State.isArrayOf_alike hZ.alike Ar13.2.1) Ar13.2.2 hi13 (Has.at Ha13 hi13 rfl) (g := (mkF m 17 #[.val (.ref d0), .val (.ref d1), .val (.int (3 : Int32))] [(.int (3 : Int32)), (.ref d0)])) rfl rfl (hb hby d7_17)
  obtain ⟨cl14, Ar14, qa14, Sa14, Na14, Ha14, Ga14⟩ := id V_d1
  have hi14 := inb_of (j := (3 : Int32)) Sa14 ⟨by decide, by decide⟩
  have st14 := X0.baloadBytes hx (j := (3 : Int32)) (v := (.int (32 : Int32))) (by rw [e0]; exact Ar14.1) (State.isArrayOf_alike hZ.alike Ar14.2.1) Ar14.2.2 hi14 (Has.at Ha14 hi14 rfl) (g := (mkF m 20 #[.val (.ref d0), .val (.ref d1), .val (.int (3 : Int32))] [(.int (3 : Int32)), (.ref d1), (.int (32 : Int32))])) rfl rfl (hb hby d7_20)
  obtain ⟨cl15, Ar15, qa15, Sa15, Na15, Ha15, Ga15⟩ := id V_d0
  have st15 := X0.arraylength hx (by rw [e0]; exact Ar15.1) (State.isArrayOf_alike hZ.alike Ar15.2.1) (g := (mkF m 11 #[.val (.ref d0), .val (.ref d1), .val (.int (4 : Int32))] [(.ref d0), (.int (4 : Int32))])) rfl rfl (hb hby d7_11)
  rw [len_of Sa15 Na15] at st15
  obtain ⟨cl16, Ar16, qa16, Sa16, Na16, Ha16, Ga16⟩ := id V_d0
  have hi16 := inb_of (j := (4 : Int32)) Sa16 ⟨by decide, by decide⟩
  have st16 := X0.baloadBytes hx (j := (4 : Int32)) (v := (.int (114 : Int32))) (by rw [e0]; exact Ar16.1) (State.isArrayOf_alike hZ.alike Ar16.2.1) Ar16.2.2 hi16 (Has.at Ha16 hi16 rfl) (g := (mkF m 17 #[.val (.ref d0), .val (.ref d1), .val (.int (4 : Int32))] [(.int (4 : Int32)), (.ref d0)])) rfl rfl (hb hby d7_17)
  obtain ⟨cl17, Ar17, qa17, Sa17, Na17, Ha17, Ga17⟩ := id V_d1
  have hi17 := inb_of (j := (4 : Int32)) Sa17 ⟨by decide, by decide⟩
  have st17 := X0.baloadBytes hx (j := (4 : Int32)) (v := (.int (114 : Int32))) (by rw [e0]; exact Ar17.1) (State.isArrayOf_alike hZ.alike Ar17.2.1) Ar17.2.2 hi17 (Has.at Ha17 hi17 rfl) (g := (mkF m 20 #[.val (.ref d0), .val (.ref d1), .val (.int (4 : Int32))] [(.int (4 : Int32)), (.ref d1), (.int (114 : Int32))])) rfl rfl (hb hby d7_20)
  obtain ⟨cl18, Ar18, qa18, Sa18, Na18, Ha18, Ga18⟩ := id V_d0
  have st18 := X0.arraylength hx (by rw [e0]; exact Ar18.1) (State.isArrayOf_alike hZ.alike Ar18.2.1) (g := (mkF m 11 #[.val (.ref d0), .val (.ref d1), .val (.int (5 : Int32))] [(.ref d0), (.int (5 : Int32))])) rfl rfl (hb hby d7_11)
  rw [len_of Sa18 Na18] at st18
  obtain ⟨cl19, Ar19, qa19, Sa19, Na19, Ha19, Ga19⟩ := id V_d0
  have hi19 := inb_of (j := (5 : Int32)) Sa19 ⟨by decide, by decide⟩
  have st19 := X0.baloadBytes hx (j := (5 : Int32)) (v := (.int (101 : Int32))) (by rw [e0]; exact Ar19.1) (State.isArrayOf_alike hZ.alike Ar19.2.1) Ar19.2.2 hi19 (Has.at Ha19 hi19 rfl) (g := (mkF m 17 #[.val (.ref d0), .val (.ref d1), .val (.int (5 : Int32))] [(.int (5 : Int32)), (.ref d0)])) rfl rfl (hb hby d7_17)
  obtain ⟨cl20, Ar20, qa20, Sa20, Na20, Ha20, Ga20⟩ := id V_d1
  have hi20 := inb_of (j := (5 : Int32)) Sa20 ⟨by decide, by decide⟩
  have st20 := X0.baloadBytes hx (j := (5 : Int32)) (v := (.int (101 : Int32))) (by rw [e0]; exact Ar20.1) (State.isArrayOf_alike hZ.alike Ar20.2.1) Ar20.2.2 hi20 (Has.at Ha20 hi20 rfl) (g := (mkF m 20 #[.val (.ref d0), .val (.ref d1), .val (.int (5 : Int32))] [(.int (5 : Int32)), (.ref d1), (.int (101 : Int32))])) rfl rfl (hb hby d7_20)
  obtain ⟨cl21, Ar21, qa21, Sa21, Na21, Ha21, Ga21⟩ := id V_d0
  have st21 := X0.arraylength hx (by rw [e0]; exact Ar21.1) (State.isArrayOf_alike hZ.alike Ar21.2.1) (g := (mkF m 11 #[.val (.ref d0), .val (.ref d1), .val (.int (6 : Int32))] [(.ref d0), (.int (6 : Int32))])) rfl rfl (hb hby d7_11)
  rw [len_of Sa21 Na21] at st21
  obtain ⟨cl22, Ar22, qa22, Sa22, Na22, Ha22, Ga22⟩ := id V_d0
  have hi22 := inb_of (j := (6 : Int32)) Sa22 ⟨by decide, by decide⟩
  have st22 := X0.baloadBytes hx (j := (6 : Int32)) (v := (.int (113 : Int32))) (by rw [e0]; exact Ar22.1) (State.isArrayOf_alike hZ.alike Ar22.2.1) Ar22.2.2 hi22 (Has.at Ha22 hi22 rfl) (g := (mkF m 17 #[.val (.ref d0), .val (.ref d1), .val (.int (6 : Int32))] [(.int (6 : Int32)), (.ref d0)])) rfl rfl (hb hby d7_17)
  obtain ⟨cl23, Ar23, qa23, Sa23, Na23, Ha23, Ga23⟩ := id V_d1
  have hi23 := inb_of (j := (6 : Int32)) Sa23 ⟨by decide, by decide⟩
  have st23 := X0.baloadBytes hx (j := (6 : Int32)) (v := (.int (113 : Int32))) (by rw [e0]; exact Ar23.1) (State.isArrayOf_alike hZ.alike Ar23.2.1) Ar23.2.2 hi23 (Has.at Ha23 hi23 rfl) (g := (mkF m 20 #[.val (.ref d0), .val (.ref d1), .val (.int (6 : Int32))] [(.int (6 : Int32)), (.ref d1), (.int (113 : Int32))])) rfl rfl (hb hby d7_20)
  obtain ⟨cl24, Ar24, qa24, Sa24, Na24, Ha24, Ga24⟩ := id V_d0
  have st24 := X0.arraylength hx (by rw [e0]; exact Ar24.1) (State.isArrayOf_alike hZ.alike Ar24.2.1) (g := (mkF m 11 #[.val (.ref d0), .val (.ref d1), .val (.int (7 : Int32))] [(.ref d0), (.int (7 : Int32))])) rfl rfl (hb hby d7_11)
  rw [len_of Sa24 Na24] at st24
  obtain ⟨cl25, Ar25, qa25, Sa25, Na25, Ha25, Ga25⟩ := id V_d0
  have hi25 := inb_of (j := (7 : Int32)) Sa25 ⟨by decide, by decide⟩
  have st25 := X0.baloadBytes hx (j := (7 : Int32)) (v := (.int (117 : Int32))) (by rw [e0]; exact Ar25.1) (State.isArrayOf_alike hZ.alike Ar25.2.1) Ar25.2.2 hi25 (Has.at Ha25 hi25 rfl) (g := (mkF m 17 #[.val (.ref d0), .val (.ref d1), .val (.int (7 : Int32))] [(.int (7 : Int32)), (.ref d0)])) rfl rfl (hb hby d7_17)
  obtain ⟨cl26, Ar26, qa26, Sa26, Na26, Ha26, Ga26⟩ := id V_d1
  have hi26 := inb_of (j := (7 : Int32)) Sa26 ⟨by decide, by decide⟩
  have st26 := X0.baloadBytes hx (j := (7 : Int32)) (v := (.int (117 : Int32))) (by rw [e0]; exact Ar26.1) (State.isArrayOf_alike hZ.alike Ar26.2.1) Ar26.2.2 hi26 (Has.at Ha26 hi26 rfl) (g := (mkF m 20 #[.val (.ref d0), .val (.ref d1), .val (.int (7 : Int32))] [(.int (7 : Int32)), (.ref d1), (.int (117 : Int32))])) rfl rfl (hb hby d7_20)
  obtain ⟨cl27, Ar27, qa27, Sa27, Na27, Ha27, Ga27⟩ := id V_d0
  have st27 := X0.arraylength hx (by rw [e0]; exact Ar27.1) (State.isArrayOf_alike hZ.alike Ar27.2.1) (g := (mkF m 11 #[.val (.ref d0), .val (.ref d1), .val (.int (8 : Int32))] [(.ref d0), (.int (8 : Int32))])) rfl rfl (hb hby d7_11)
  rw [len_of Sa27 Na27] at st27
  obtain ⟨cl28, Ar28, qa28, Sa28, Na28, Ha28, Ga28⟩ := id V_d0
  have hi28 := inb_of (j := (8 : Int32)) Sa28 ⟨by decide, by decide⟩
  have st28 := X0.baloadBytes hx (j := (8 : Int32)) (v := (.int (101 : Int32))) (by rw [e0]; exact Ar28.1) (State.isArrayOf_alike hZ.alike Ar28.2.1) Ar28.2.2 hi28 (Has.at Ha28 hi28 rfl) (g := (mkF m 17 #[.val (.ref d0), .val (.ref d1), .val (.int (8 : Int32))] [(.int (8 : Int32)), (.ref d0)])) rfl rfl (hb hby d7_17)
  obtain ⟨cl29, Ar29, qa29, Sa29, Na29, Ha29, Ga29⟩ := id V_d1
  have hi29 := inb_of (j := (8 : Int32)) Sa29 ⟨by decide, by decide⟩
  have st29 := X0.baloadBytes hx (j := (8 : Int32)) (v := (.int (101 : Int32))) (by rw [e0]; exact Ar29.1) (State.isArrayOf_alike hZ.alike Ar29.2.1) Ar29.2.2 hi29 (Has.at Ha29 hi29 rfl) (g := (mkF m 20 #[.val (.ref d0), .val (.ref d1), .val (.int (8 : Int32))] [(.int (8 : Int32)), (.ref d1), (.int (101 : Int32))])) rfl rfl (hb hby d7_20)
  obtain ⟨cl30, Ar30, qa30, Sa30, Na30, Ha30, Ga30⟩ := id V_d0
  have st30 := X0.arraylength hx (by rw [e0]; exact Ar30.1) (State.isArrayOf_alike hZ.alike Ar30.2.1) (g := (mkF m 11 #[.val (.ref d0), .val (.ref d1), .val (.int (9 : Int32))] [(.ref d0), (.int (9 : Int32))])) rfl rfl (hb hby d7_11)
  rw [len_of Sa30 Na30] at st30
  obtain ⟨cl31, Ar31, qa31, Sa31, Na31, Ha31, Ga31⟩ := id V_d0
  have hi31 := inb_of (j := (9 : Int32)) Sa31 ⟨by decide, by decide⟩
  have st31 := X0.baloadBytes hx (j := (9 : Int32)) (v := (.int (115 : Int32))) (by rw [e0]; exact Ar31.1) (State.isArrayOf_alike hZ.alike Ar31.2.1) Ar31.2.2 hi31 (Has.at Ha31 hi31 rfl) (g := (mkF m 17 #[.val (.ref d0), .val (.ref d1), .val (.int (9 : Int32))] [(.int (9 : Int32)), (.ref d0)])) rfl rfl (hb hby d7_17)
  obtain ⟨cl32, Ar32, qa32, Sa32, Na32, Ha32, Ga32⟩ := id V_d1
  have hi32 := inb_of (j := (9 : Int32)) Sa32 ⟨by decide, by decide⟩
  have st32 := X0.baloadBytes hx (j := (9 : Int32)) (v := (.int (115 : Int32))) (by rw [e0]; exact Ar32.1) (State.isArrayOf_alike hZ.alike Ar32.2.1) Ar32.2.2 hi32 (Has.at Ha32 hi32 rfl) (g := (mkF m 20 #[.val (.ref d0), .val (.ref d1), .val (.int (9 : Int32))] [(.int (9 : Int32)), (.ref d1), (.int (115 : Int32))])) rfl rfl (hb hby d7_20)
  obtain ⟨cl33, Ar33, qa33, Sa33, Na33, Ha33, Ga33⟩ := id V_d0
  have st33 := X0.arraylength hx (by rw [e0]; exact Ar33.1) (State.isArrayOf_alike hZ.alike Ar33.2.1) (g := (mkF m 11 #[.val (.ref d0), .val (.ref d1), .val (.int (10 : Int32))] [(.ref d0), (.int (10 : Int32))])) rfl rfl (hb hby d7_11)
  rw [len_of Sa33 Na33] at st33
  obtain ⟨cl34, Ar34, qa34, Sa34, Na34, Ha34, Ga34⟩ := id V_d0
  have hi34 := inb_of (j := (10 : Int32)) Sa34 ⟨by decide, by decide⟩
  have st34 := X0.baloadBytes hx (j := (10 : Int32)) (v := (.int (116 : Int32))) (by rw [e0]; exact Ar34.1) (State.isArrayOf_alike hZ.alike Ar34.2.1) Ar34.2.2 hi34 (Has.at Ha34 hi34 rfl) (g := (mkF m 17 #[.val (.ref d0), .val (.ref d1), .val (.int (10 : Int32))] [(.int (10 : Int32)), (.ref d0)])) rfl rfl (hb hby d7_17)
  obtain ⟨cl35, Ar35, qa35, Sa35, Na35, Ha35, Ga35⟩ := id V_d1
  have hi35 := inb_of (j := (10 : Int32)) Sa35 ⟨by decide, by decide⟩
  have st35 := X0.baloadBytes hx (j := (10 : Int32)) (v := (.int (116 : Int32))) (by rw [e0]; exact Ar35.1) (State.isArrayOf_alike hZ.alike Ar35.2.1) Ar35.2.2 hi35 (Has.at Ha35 hi35 rfl) (g := (mkF m 20 #[.val (.ref d0), .val (.ref d1), .val (.int (10 : Int32))] [(.int (10 : Int32)), (.ref d1), (.int (116 : Int32))])) rfl rfl (hb hby d7_20)
  obtain ⟨cl36, Ar36, qa36, Sa36, Na36, Ha36, Ga36⟩ := id V_d0
  have st36 := X0.arraylength hx (by rw [e0]; exact Ar36.1) (State.isArrayOf_alike hZ.alike Ar36.2.1) (g := (mkF m 11 #[.val (.ref d0), .val (.ref d1), .val (.int (11 : Int32))] [(.ref d0), (.int (11 : Int32))])) rfl rfl (hb hby d7_11)
  rw [len_of Sa36 Na36] at st36
  obtain ⟨cl37, Ar37, qa37, Sa37, Na37, Ha37, Ga37⟩ := id V_d0
  have hi37 := inb_of (j := (11 : Int32)) Sa37 ⟨by decide, by decide⟩
  have st37 := X0.baloadBytes hx (j := (11 : Int32)) (v := (.int (115 : Int32))) (by rw [e0]; exact Ar37.1) (State.isArrayOf_alike hZ.alike Ar37.2.1) Ar37.2.2 hi37 (Has.at Ha37 hi37 rfl) (g := (mkF m 17 #[.val (.ref d0), .val (.ref d1), .val (.int (11 : Int32))] [(.int (11 : Int32)), (.ref d0)])) rfl rfl (hb hby d7_17)
  obtain ⟨cl38, Ar38, qa38, Sa38, Na38, Ha38, Ga38⟩ := id V_d1
  have hi38 := inb_of (j := (11 : Int32)) Sa38 ⟨by decide, by decide⟩
  have st38 := X0.baloadBytes hx (j := (11 : Int32)) (v := (.int (115 : Int32))) (by rw [e0]; exact Ar38.1) (State.isArrayOf_alike hZ.alike Ar38.2.1) Ar38.2.2 hi38 (Has.at Ha38 hi38 rfl) (g := (mkF m 20 #[.val (.ref d0), .val (.ref d1), .val (.int (11 : Int32))] [(.int (11 : Int32)), (.ref d1), (.int (115 : Int32))])) rfl rfl (hb hby d7_20)
  obtain ⟨cl39, Ar39, qa39, Sa39, Na39, Ha39, Ga39⟩ := id V_d0
  have st39 := X0.arraylength hx (by rw [e0]; exact Ar39.1) (State.isArrayOf_alike hZ.alike Ar39.2.1) (g := (mkF m 11 #[.val (.ref d0), .val (.ref d1), .val (.int (12 : Int32))] [(.ref d0), (.int (12 : Int32))])) rfl rfl (hb hby d7_11)
  rw [len_of Sa39 Na39] at st39
  obtain ⟨fs, hr, hrun, hended, hW, hsame⟩ := X0.leave (v := some (.int (1 : Int32))) (fun h => by rw [Bd.returns] at h; cases h)
  refine ⟨_, _, pre0 _ ?_, hrun, hended, _, _, rfl, ?_, ⟨_, rfl⟩, hW, hsame.mono (by decide) (by decide)⟩
  · show Steps p.tables e below (s₁.setTop (mkF m 0 #[.val (.ref d0), .val (.ref d1), .unset] [])) _
    refine XS.aloadN X0.here hx rfl (hb hby d7_0) rfl rfl ?_
    show Steps p.tables e below (s₁.setTop (mkF m 1 #[.val (.ref d0), .val (.ref d1), .unset] [(.ref d0)])) _
    refine st1 _ ?_
    show Steps p.tables e below (s₁.setTop (mkF m 2 #[.val (.ref d0), .val (.ref d1), .unset] [(.int (12 : Int32))])) _
    refine XS.aloadN X0.here hx rfl (hb hby d7_2) rfl rfl ?_
    show Steps p.tables e below (s₁.setTop (mkF m 3 #[.val (.ref d0), .val (.ref d1), .unset] [(.ref d1), (.int (12 : Int32))])) _
    refine st2 _ ?_
    show Steps p.tables e below (s₁.setTop (mkF m 4 #[.val (.ref d0), .val (.ref d1), .unset] [(.int (12 : Int32)), (.int (12 : Int32))])) _
    refine XS.icmpNo X0.here hx rfl (hb hby d7_4) rfl (teq (by decide)).2 ?_
    show Steps p.tables e below (s₁.setTop (mkF m 7 #[.val (.ref d0), .val (.ref d1), .unset] [])) _
    refine XS.iconst X0.here hx rfl (hb hby d7_7) ?_
    show Steps p.tables e below (s₁.setTop (mkF m 8 #[.val (.ref d0), .val (.ref d1), .unset] [(.int (0 : Int32))])) _
    refine XS.istoreN X0.here hx rfl (hb hby d7_8) rfl (l' := #[.val (.ref d0), .val (.ref d1), .val (.int (0 : Int32))]) rfl ?_
    show Steps p.tables e below (s₁.setTop (mkF m 9 #[.val (.ref d0), .val (.ref d1), .val (.int (0 : Int32))] [])) _
    refine XS.iloadN X0.here hx rfl (hb hby d7_9) rfl ?_
    show Steps p.tables e below (s₁.setTop (mkF m 10 #[.val (.ref d0), .val (.ref d1), .val (.int (0 : Int32))] [(.int (0 : Int32))])) _
    refine XS.aloadN X0.here hx rfl (hb hby d7_10) rfl rfl ?_
    show Steps p.tables e below (s₁.setTop (mkF m 11 #[.val (.ref d0), .val (.ref d1), .val (.int (0 : Int32))] [(.ref d0), (.int (0 : Int32))])) _
    refine st3 _ ?_
    show Steps p.tables e below (s₁.setTop (mkF m 12 #[.val (.ref d0), .val (.ref d1), .val (.int (0 : Int32))] [(.int (12 : Int32)), (.int (0 : Int32))])) _
    refine XS.icmpNo X0.here hx rfl (hb hby d7_12) rfl (tlt (by decide)).2.1 ?_
    show Steps p.tables e below (s₁.setTop (mkF m 15 #[.val (.ref d0), .val (.ref d1), .val (.int (0 : Int32))] [])) _
    refine XS.aloadN X0.here hx rfl (hb hby d7_15) rfl rfl ?_
    show Steps p.tables e below (s₁.setTop (mkF m 16 #[.val (.ref d0), .val (.ref d1), .val (.int (0 : Int32))] [(.ref d0)])) _
    refine XS.iloadN X0.here hx rfl (hb hby d7_16) rfl ?_
    show Steps p.tables e below (s₁.setTop (mkF m 17 #[.val (.ref d0), .val (.ref d1), .val (.int (0 : Int32))] [(.int (0 : Int32)), (.ref d0)])) _
    refine st4 _ ?_
    show Steps p.tables e below (s₁.setTop (mkF m 18 #[.val (.ref d0), .val (.ref d1), .val (.int (0 : Int32))] [(.int (97 : Int32))])) _
    refine XS.aloadN X0.here hx rfl (hb hby d7_18) rfl rfl ?_
    show Steps p.tables e below (s₁.setTop (mkF m 19 #[.val (.ref d0), .val (.ref d1), .val (.int (0 : Int32))] [(.ref d1), (.int (97 : Int32))])) _
    refine XS.iloadN X0.here hx rfl (hb hby d7_19) rfl ?_
    show Steps p.tables e below (s₁.setTop (mkF m 20 #[.val (.ref d0), .val (.ref d1), .val (.int (0 : Int32))] [(.int (0 : Int32)), (.ref d1), (.int (97 : Int32))])) _
    refine st5 _ ?_
    show Steps p.tables e below (s₁.setTop (mkF m 21 #[.val (.ref d0), .val (.ref d1), .val (.int (0 : Int32))] [(.int (97 : Int32)), (.int (97 : Int32))])) _
    refine XS.icmpYes X0.here hx rfl (pc0 := 21) (pc' := 26) rfl (hb hby d7_21) rfl (teq (by decide)).1 (by decide) (by decide) ?_
    show Steps p.tables e below (s₁.setTop (mkF m 26 #[.val (.ref d0), .val (.ref d1), .val (.int (0 : Int32))] [])) _
    refine XS.iinc X0.here hx rfl (hb hby d7_26) rfl (l' := #[.val (.ref d0), .val (.ref d1), .val (.int (1 : Int32))]) rfl ?_
    show Steps p.tables e below (s₁.setTop (mkF m 29 #[.val (.ref d0), .val (.ref d1), .val (.int (1 : Int32))] [])) _
    refine XS.goto X0.here hx rfl (pc0 := 29) (pc' := 9) rfl (hb hby d7_29) (by decide) (by decide) ?_
    show Steps p.tables e below (s₁.setTop (mkF m 9 #[.val (.ref d0), .val (.ref d1), .val (.int (1 : Int32))] [])) _
    refine XS.iloadN X0.here hx rfl (hb hby d7_9) rfl ?_
    show Steps p.tables e below (s₁.setTop (mkF m 10 #[.val (.ref d0), .val (.ref d1), .val (.int (1 : Int32))] [(.int (1 : Int32))])) _
    refine XS.aloadN X0.here hx rfl (hb hby d7_10) rfl rfl ?_
    show Steps p.tables e below (s₁.setTop (mkF m 11 #[.val (.ref d0), .val (.ref d1), .val (.int (1 : Int32))] [(.ref d0), (.int (1 : Int32))])) _
    refine st6 _ ?_
    show Steps p.tables e below (s₁.setTop (mkF m 12 #[.val (.ref d0), .val (.ref d1), .val (.int (1 : Int32))] [(.int (12 : Int32)), (.int (1 : Int32))])) _
    refine XS.icmpNo X0.here hx rfl (hb hby d7_12) rfl (tlt (by decide)).2.1 ?_
    show Steps p.tables e below (s₁.setTop (mkF m 15 #[.val (.ref d0), .val (.ref d1), .val (.int (1 : Int32))] [])) _
    refine XS.aloadN X0.here hx rfl (hb hby d7_15) rfl rfl ?_
    show Steps p.tables e below (s₁.setTop (mkF m 16 #[.val (.ref d0), .val (.ref d1), .val (.int (1 : Int32))] [(.ref d0)])) _
    refine XS.iloadN X0.here hx rfl (hb hby d7_16) rfl ?_
    show Steps p.tables e below (s₁.setTop (mkF m 17 #[.val (.ref d0), .val (.ref d1), .val (.int (1 : Int32))] [(.int (1 : Int32)), (.ref d0)])) _
    refine st7 _ ?_
    show Steps p.tables e below (s₁.setTop (mkF m 18 #[.val (.ref d0), .val (.ref d1), .val (.int (1 : Int32))] [(.int (108 : Int32))])) _
    refine XS.aloadN X0.here hx rfl (hb hby d7_18) rfl rfl ?_
    show Steps p.tables e below (s₁.setTop (mkF m 19 #[.val (.ref d0), .val (.ref d1), .val (.int (1 : Int32))] [(.ref d1), (.int (108 : Int32))])) _
    refine XS.iloadN X0.here hx rfl (hb hby d7_19) rfl ?_
    show Steps p.tables e below (s₁.setTop (mkF m 20 #[.val (.ref d0), .val (.ref d1), .val (.int (1 : Int32))] [(.int (1 : Int32)), (.ref d1), (.int (108 : Int32))])) _
    refine st8 _ ?_
    show Steps p.tables e below (s₁.setTop (mkF m 21 #[.val (.ref d0), .val (.ref d1), .val (.int (1 : Int32))] [(.int (108 : Int32)), (.int (108 : Int32))])) _
    refine XS.icmpYes X0.here hx rfl (pc0 := 21) (pc' := 26) rfl (hb hby d7_21) rfl (teq (by decide)).1 (by decide) (by decide) ?_
    show Steps p.tables e below (s₁.setTop (mkF m 26 #[.val (.ref d0), .val (.ref d1), .val (.int (1 : Int32))] [])) _
    refine XS.iinc X0.here hx rfl (hb hby d7_26) rfl (l' := #[.val (.ref d0), .val (.ref d1), .val (.int (2 : Int32))]) rfl ?_
    show Steps p.tables e below (s₁.setTop (mkF m 29 #[.val (.ref d0), .val (.ref d1), .val (.int (2 : Int32))] [])) _
    refine XS.goto X0.here hx rfl (pc0 := 29) (pc' := 9) rfl (hb hby d7_29) (by decide) (by decide) ?_
    show Steps p.tables e below (s₁.setTop (mkF m 9 #[.val (.ref d0), .val (.ref d1), .val (.int (2 : Int32))] [])) _
    refine XS.iloadN X0.here hx rfl (hb hby d7_9) rfl ?_
    show Steps p.tables e below (s₁.setTop (mkF m 10 #[.val (.ref d0), .val (.ref d1), .val (.int (2 : Int32))] [(.int (2 : Int32))])) _
    refine XS.aloadN X0.here hx rfl (hb hby d7_10) rfl rfl ?_
    show Steps p.tables e below (s₁.setTop (mkF m 11 #[.val (.ref d0), .val (.ref d1), .val (.int (2 : Int32))] [(.ref d0), (.int (2 : Int32))])) _
    refine st9 _ ?_
    show Steps p.tables e below (s₁.setTop (mkF m 12 #[.val (.ref d0), .val (.ref d1), .val (.int (2 : Int32))] [(.int (12 : Int32)), (.int (2 : Int32))])) _
    refine XS.icmpNo X0.here hx rfl (hb hby d7_12) rfl (tlt (by decide)).2.1 ?_
    show Steps p.tables e below (s₁.setTop (mkF m 15 #[.val (.ref d0), .val (.ref d1), .val (.int (2 : Int32))] [])) _
    refine XS.aloadN X0.here hx rfl (hb hby d7_15) rfl rfl ?_
    show Steps p.tables e below (s₁.setTop (mkF m 16 #[.val (.ref d0), .val (.ref d1), .val (.int (2 : Int32))] [(.ref d0)])) _
    refine XS.iloadN X0.here hx rfl (hb hby d7_16) rfl ?_
    show Steps p.tables e below (s₁.setTop (mkF m 17 #[.val (.ref d0), .val (.ref d1), .val (.int (2 : Int32))] [(.int (2 : Int32)), (.ref d0)])) _
    refine st10 _ ?_
    show Steps p.tables e below (s₁.setTop (mkF m 18 #[.val (.ref d0), .val (.ref d1), .val (.int (2 : Int32))] [(.int (108 : Int32))])) _
    refine XS.aloadN X0.here hx rfl (hb hby d7_18) rfl rfl ?_
    show Steps p.tables e below (s₁.setTop (mkF m 19 #[.val (.ref d0), .val (.ref d1), .val (.int (2 : Int32))] [(.ref d1), (.int (108 : Int32))])) _
    refine XS.iloadN X0.here hx rfl (hb hby d7_19) rfl ?_
    show Steps p.tables e below (s₁.setTop (mkF m 20 #[.val (.ref d0), .val (.ref d1), .val (.int (2 : Int32))] [(.int (2 : Int32)), (.ref d1), (.int (108 : Int32))])) _
    refine st11 _ ?_
    show Steps p.tables e below (s₁.setTop (mkF m 21 #[.val (.ref d0), .val (.ref d1), .val (.int (2 : Int32))] [(.int (108 : Int32)), (.int (108 : Int32))])) _
    refine XS.icmpYes X0.here hx rfl (pc0 := 21) (pc' := 26) rfl (hb hby d7_21) rfl (teq (by decide)).1 (by decide) (by decide) ?_
    show Steps p.tables e below (s₁.setTop (mkF m 26 #[.val (.ref d0), .val (.ref d1), .val (.int (2 : Int32))] [])) _
    refine XS.iinc X0.here hx rfl (hb hby d7_26) rfl (l' := #[.val (.ref d0), .val (.ref d1), .val (.int (3 : Int32))]) rfl ?_
    show Steps p.tables e below (s₁.setTop (mkF m 29 #[.val (.ref d0), .val (.ref d1), .val (.int (3 : Int32))] [])) _
    refine XS.goto X0.here hx rfl (pc0 := 29) (pc' := 9) rfl (hb hby d7_29) (by decide) (by decide) ?_
    show Steps p.tables e below (s₁.setTop (mkF m 9 #[.val (.ref d0), .val (.ref d1), .val (.int (3 : Int32))] [])) _
    refine XS.iloadN X0.here hx rfl (hb hby d7_9) rfl ?_
    show Steps p.tables e below (s₁.setTop (mkF m 10 #[.val (.ref d0), .val (.ref d1), .val (.int (3 : Int32))] [(.int (3 : Int32))])) _
    refine XS.aloadN X0.here hx rfl (hb hby d7_10) rfl rfl ?_
    show Steps p.tables e below (s₁.setTop (mkF m 11 #[.val (.ref d0), .val (.ref d1), .val (.int (3 : Int32))] [(.ref d0), (.int (3 : Int32))])) _
    refine st12 _ ?_
    show Steps p.tables e below (s₁.setTop (mkF m 12 #[.val (.ref d0), .val (.ref d1), .val (.int (3 : Int32))] [(.int (12 : Int32)), (.int (3 : Int32))])) _
    refine XS.icmpNo X0.here hx rfl (hb hby d7_12) rfl (tlt (by decide)).2.1 ?_
    show Steps p.tables e below (s₁.setTop (mkF m 15 #[.val (.ref d0), .val (.ref d1), .val (.int (3 : Int32))] [])) _
    refine XS.aloadN X0.here hx rfl (hb hby d7_15) rfl rfl ?_
    show Steps p.tables e below (s₁.setTop (mkF m 16 #[.val (.ref d0), .val (.ref d1), .val (.int (3 : Int32))] [(.ref d0)])) _
    refine XS.iloadN X0.here hx rfl (hb hby d7_16) rfl ?_
    show Steps p.tables e below (s₁.setTop (mkF m 17 #[.val (.ref d0), .val (.ref d1), .val (.int (3 : Int32))] [(.int (3 : Int32)), (.ref d0)])) _
    refine st13 _ ?_
    show Steps p.tables e below (s₁.setTop (mkF m 18 #[.val (.ref d0), .val (.ref d1), .val (.int (3 : Int32))] [(.int (32 : Int32))])) _
    refine XS.aloadN X0.here hx rfl (hb hby d7_18) rfl rfl ?_
    show Steps p.tables e below (s₁.setTop (mkF m 19 #[.val (.ref d0), .val (.ref d1), .val (.int (3 : Int32))] [(.ref d1), (.int (32 : Int32))])) _
    refine XS.iloadN X0.here hx rfl (hb hby d7_19) rfl ?_
    show Steps p.tables e below (s₁.setTop (mkF m 20 #[.val (.ref d0), .val (.ref d1), .val (.int (3 : Int32))] [(.int (3 : Int32)), (.ref d1), (.int (32 : Int32))])) _
    refine st14 _ ?_
    show Steps p.tables e below (s₁.setTop (mkF m 21 #[.val (.ref d0), .val (.ref d1), .val (.int (3 : Int32))] [(.int (32 : Int32)), (.int (32 : Int32))])) _
    refine XS.icmpYes X0.here hx rfl (pc0 := 21) (pc' := 26) rfl (hb hby d7_21) rfl (teq (by decide)).1 (by decide) (by decide) ?_
    show Steps p.tables e below (s₁.setTop (mkF m 26 #[.val (.ref d0), .val (.ref d1), .val (.int (3 : Int32))] [])) _
    refine XS.iinc X0.here hx rfl (hb hby d7_26) rfl (l' := #[.val (.ref d0), .val (.ref d1), .val (.int (4 : Int32))]) rfl ?_
    show Steps p.tables e below (s₁.setTop (mkF m 29 #[.val (.ref d0), .val (.ref d1), .val (.int (4 : Int32))] [])) _
    refine XS.goto X0.here hx rfl (pc0 := 29) (pc' := 9) rfl (hb hby d7_29) (by decide) (by decide) ?_
    show Steps p.tables e below (s₁.setTop (mkF m 9 #[.val (.ref d0), .val (.ref d1), .val (.int (4 : Int32))] [])) _
    refine XS.iloadN X0.here hx rfl (hb hby d7_9) rfl ?_
    show Steps p.tables e below (s₁.setTop (mkF m 10 #[.val (.ref d0), .val (.ref d1), .val (.int (4 : Int32))] [(.int (4 : Int32))])) _
    refine XS.aloadN X0.here hx rfl (hb hby d7_10) rfl rfl ?_
    show Steps p.tables e below (s₁.setTop (mkF m 11 #[.val (.ref d0), .val (.ref d1), .val (.int (4 : Int32))] [(.ref d0), (.int (4 : Int32))])) _
    refine st15 _ ?_
    show Steps p.tables e below (s₁.setTop (mkF m 12 #[.val (.ref d0), .val (.ref d1), .val (.int (4 : Int32))] [(.int (12 : Int32)), (.int (4 : Int32))])) _
    refine XS.icmpNo X0.here hx rfl (hb hby d7_12) rfl (tlt (by decide)).2.1 ?_
    show Steps p.tables e below (s₁.setTop (mkF m 15 #[.val (.ref d0), .val (.ref d1), .val (.int (4 : Int32))] [])) _
    refine XS.aloadN X0.here hx rfl (hb hby d7_15) rfl rfl ?_
    show Steps p.tables e below (s₁.setTop (mkF m 16 #[.val (.ref d0), .val (.ref d1), .val (.int (4 : Int32))] [(.ref d0)])) _
    refine XS.iloadN X0.here hx rfl (hb hby d7_16) rfl ?_
    show Steps p.tables e below (s₁.setTop (mkF m 17 #[.val (.ref d0), .val (.ref d1), .val (.int (4 : Int32))] [(.int (4 : Int32)), (.ref d0)])) _
    refine st16 _ ?_
    show Steps p.tables e below (s₁.setTop (mkF m 18 #[.val (.ref d0), .val (.ref d1), .val (.int (4 : Int32))] [(.int (114 : Int32))])) _
    refine XS.aloadN X0.here hx rfl (hb hby d7_18) rfl rfl ?_
    show Steps p.tables e below (s₁.setTop (mkF m 19 #[.val (.ref d0), .val (.ref d1), .val (.int (4 : Int32))] [(.ref d1), (.int (114 : Int32))])) _
    refine XS.iloadN X0.here hx rfl (hb hby d7_19) rfl ?_
    show Steps p.tables e below (s₁.setTop (mkF m 20 #[.val (.ref d0), .val (.ref d1), .val (.int (4 : Int32))] [(.int (4 : Int32)), (.ref d1), (.int (114 : Int32))])) _
    refine st17 _ ?_
    show Steps p.tables e below (s₁.setTop (mkF m 21 #[.val (.ref d0), .val (.ref d1), .val (.int (4 : Int32))] [(.int (114 : Int32)), (.int (114 : Int32))])) _
    refine XS.icmpYes X0.here hx rfl (pc0 := 21) (pc' := 26) rfl (hb hby d7_21) rfl (teq (by decide)).1 (by decide) (by decide) ?_
    show Steps p.tables e below (s₁.setTop (mkF m 26 #[.val (.ref d0), .val (.ref d1), .val (.int (4 : Int32))] [])) _
    refine XS.iinc X0.here hx rfl (hb hby d7_26) rfl (l' := #[.val (.ref d0), .val (.ref d1), .val (.int (5 : Int32))]) rfl ?_
    show Steps p.tables e below (s₁.setTop (mkF m 29 #[.val (.ref d0), .val (.ref d1), .val (.int (5 : Int32))] [])) _
    refine XS.goto X0.here hx rfl (pc0 := 29) (pc' := 9) rfl (hb hby d7_29) (by decide) (by decide) ?_
    show Steps p.tables e below (s₁.setTop (mkF m 9 #[.val (.ref d0), .val (.ref d1), .val (.int (5 : Int32))] [])) _
    refine XS.iloadN X0.here hx rfl (hb hby d7_9) rfl ?_
    show Steps p.tables e below (s₁.setTop (mkF m 10 #[.val (.ref d0), .val (.ref d1), .val (.int (5 : Int32))] [(.int (5 : Int32))])) _
    refine XS.aloadN X0.here hx rfl (hb hby d7_10) rfl rfl ?_
    show Steps p.tables e below (s₁.setTop (mkF m 11 #[.val (.ref d0), .val (.ref d1), .val (.int (5 : Int32))] [(.ref d0), (.int (5 : Int32))])) _
    refine st18 _ ?_
    show Steps p.tables e below (s₁.setTop (mkF m 12 #[.val (.ref d0), .val (.ref d1), .val (.int (5 : Int32))] [(.int (12 : Int32)), (.int (5 : Int32))])) _
    refine XS.icmpNo X0.here hx rfl (hb hby d7_12) rfl (tlt (by decide)).2.1 ?_
    show Steps p.tables e below (s₁.setTop (mkF m 15 #[.val (.ref d0), .val (.ref d1), .val (.int (5 : Int32))] [])) _
    refine XS.aloadN X0.here hx rfl (hb hby d7_15) rfl rfl ?_
    show Steps p.tables e below (s₁.setTop (mkF m 16 #[.val (.ref d0), .val (.ref d1), .val (.int (5 : Int32))] [(.ref d0)])) _
    refine XS.iloadN X0.here hx rfl (hb hby d7_16) rfl ?_
    show Steps p.tables e below (s₁.setTop (mkF m 17 #[.val (.ref d0), .val (.ref d1), .val (.int (5 : Int32))] [(.int (5 : Int32)), (.ref d0)])) _
    refine st19 _ ?_
    show Steps p.tables e below (s₁.setTop (mkF m 18 #[.val (.ref d0), .val (.ref d1), .val (.int (5 : Int32))] [(.int (101 : Int32))])) _
    refine XS.aloadN X0.here hx rfl (hb hby d7_18) rfl rfl ?_
    show Steps p.tables e below (s₁.setTop (mkF m 19 #[.val (.ref d0), .val (.ref d1), .val (.int (5 : Int32))] [(.ref d1), (.int (101 : Int32))])) _
    refine XS.iloadN X0.here hx rfl (hb hby d7_19) rfl ?_
    show Steps p.tables e below (s₁.setTop (mkF m 20 #[.val (.ref d0), .val (.ref d1), .val (.int (5 : Int32))] [(.int (5 : Int32)), (.ref d1), (.int (101 : Int32))])) _
    refine st20 _ ?_
    show Steps p.tables e below (s₁.setTop (mkF m 21 #[.val (.ref d0), .val (.ref d1), .val (.int (5 : Int32))] [(.int (101 : Int32)), (.int (101 : Int32))])) _
    refine XS.icmpYes X0.here hx rfl (pc0 := 21) (pc' := 26) rfl (hb hby d7_21) rfl (teq (by decide)).1 (by decide) (by decide) ?_
    show Steps p.tables e below (s₁.setTop (mkF m 26 #[.val (.ref d0), .val (.ref d1), .val (.int (5 : Int32))] [])) _
    refine XS.iinc X0.here hx rfl (hb hby d7_26) rfl (l' := #[.val (.ref d0), .val (.ref d1), .val (.int (6 : Int32))]) rfl ?_
    show Steps p.tables e below (s₁.setTop (mkF m 29 #[.val (.ref d0), .val (.ref d1), .val (.int (6 : Int32))] [])) _
    refine XS.goto X0.here hx rfl (pc0 := 29) (pc' := 9) rfl (hb hby d7_29) (by decide) (by decide) ?_
    show Steps p.tables e below (s₁.setTop (mkF m 9 #[.val (.ref d0), .val (.ref d1), .val (.int (6 : Int32))] [])) _
    refine XS.iloadN X0.here hx rfl (hb hby d7_9) rfl ?_
    show Steps p.tables e below (s₁.setTop (mkF m 10 #[.val (.ref d0), .val (.ref d1), .val (.int (6 : Int32))] [(.int (6 : Int32))])) _
    refine XS.aloadN X0.here hx rfl (hb hby d7_10) rfl rfl ?_
    show Steps p.tables e below (s₁.setTop (mkF m 11 #[.val (.ref d0), .val (.ref d1), .val (.int (6 : Int32))] [(.ref d0), (.int (6 : Int32))])) _
    refine st21 _ ?_
    show Steps p.tables e below (s₁.setTop (mkF m 12 #[.val (.ref d0), .val (.ref d1), .val (.int (6 : Int32))] [(.int (12 : Int32)), (.int (6 : Int32))])) _
    refine XS.icmpNo X0.here hx rfl (hb hby d7_12) rfl (tlt (by decide)).2.1 ?_
    show Steps p.tables e below (s₁.setTop (mkF m 15 #[.val (.ref d0), .val (.ref d1), .val (.int (6 : Int32))] [])) _
    refine XS.aloadN X0.here hx rfl (hb hby d7_15) rfl rfl ?_
    show Steps p.tables e below (s₁.setTop (mkF m 16 #[.val (.ref d0), .val (.ref d1), .val (.int (6 : Int32))] [(.ref d0)])) _
    refine XS.iloadN X0.here hx rfl (hb hby d7_16) rfl ?_
    show Steps p.tables e below (s₁.setTop (mkF m 17 #[.val (.ref d0), .val (.ref d1), .val (.int (6 : Int32))] [(.int (6 : Int32)), (.ref d0)])) _
    refine st22 _ ?_
    show Steps p.tables e below (s₁.setTop (mkF m 18 #[.val (.ref d0), .val (.ref d1), .val (.int (6 : Int32))] [(.int (113 : Int32))])) _
    refine XS.aloadN X0.here hx rfl (hb hby d7_18) rfl rfl ?_
    show Steps p.tables e below (s₁.setTop (mkF m 19 #[.val (.ref d0), .val (.ref d1), .val (.int (6 : Int32))] [(.ref d1), (.int (113 : Int32))])) _
    refine XS.iloadN X0.here hx rfl (hb hby d7_19) rfl ?_
    show Steps p.tables e below (s₁.setTop (mkF m 20 #[.val (.ref d0), .val (.ref d1), .val (.int (6 : Int32))] [(.int (6 : Int32)), (.ref d1), (.int (113 : Int32))])) _
    refine st23 _ ?_
    show Steps p.tables e below (s₁.setTop (mkF m 21 #[.val (.ref d0), .val (.ref d1), .val (.int (6 : Int32))] [(.int (113 : Int32)), (.int (113 : Int32))])) _
    refine XS.icmpYes X0.here hx rfl (pc0 := 21) (pc' := 26) rfl (hb hby d7_21) rfl (teq (by decide)).1 (by decide) (by decide) ?_
    show Steps p.tables e below (s₁.setTop (mkF m 26 #[.val (.ref d0), .val (.ref d1), .val (.int (6 : Int32))] [])) _
    refine XS.iinc X0.here hx rfl (hb hby d7_26) rfl (l' := #[.val (.ref d0), .val (.ref d1), .val (.int (7 : Int32))]) rfl ?_
    show Steps p.tables e below (s₁.setTop (mkF m 29 #[.val (.ref d0), .val (.ref d1), .val (.int (7 : Int32))] [])) _
    refine XS.goto X0.here hx rfl (pc0 := 29) (pc' := 9) rfl (hb hby d7_29) (by decide) (by decide) ?_
    show Steps p.tables e below (s₁.setTop (mkF m 9 #[.val (.ref d0), .val (.ref d1), .val (.int (7 : Int32))] [])) _
    refine XS.iloadN X0.here hx rfl (hb hby d7_9) rfl ?_
    show Steps p.tables e below (s₁.setTop (mkF m 10 #[.val (.ref d0), .val (.ref d1), .val (.int (7 : Int32))] [(.int (7 : Int32))])) _
    refine XS.aloadN X0.here hx rfl (hb hby d7_10) rfl rfl ?_
    show Steps p.tables e below (s₁.setTop (mkF m 11 #[.val (.ref d0), .val (.ref d1), .val (.int (7 : Int32))] [(.ref d0), (.int (7 : Int32))])) _
    refine st24 _ ?_
    show Steps p.tables e below (s₁.setTop (mkF m 12 #[.val (.ref d0), .val (.ref d1), .val (.int (7 : Int32))] [(.int (12 : Int32)), (.int (7 : Int32))])) _
    refine XS.icmpNo X0.here hx rfl (hb hby d7_12) rfl (tlt (by decide)).2.1 ?_
    show Steps p.tables e below (s₁.setTop (mkF m 15 #[.val (.ref d0), .val (.ref d1), .val (.int (7 : Int32))] [])) _
    refine XS.aloadN X0.here hx rfl (hb hby d7_15) rfl rfl ?_
    show Steps p.tables e below (s₁.setTop (mkF m 16 #[.val (.ref d0), .val (.ref d1), .val (.int (7 : Int32))] [(.ref d0)])) _
    refine XS.iloadN X0.here hx rfl (hb hby d7_16) rfl ?_
    show Steps p.tables e below (s₁.setTop (mkF m 17 #[.val (.ref d0), .val (.ref d1), .val (.int (7 : Int32))] [(.int (7 : Int32)), (.ref d0)])) _
    refine st25 _ ?_
    show Steps p.tables e below (s₁.setTop (mkF m 18 #[.val (.ref d0), .val (.ref d1), .val (.int (7 : Int32))] [(.int (117 : Int32))])) _
    refine XS.aloadN X0.here hx rfl (hb hby d7_18) rfl rfl ?_
    show Steps p.tables e below (s₁.setTop (mkF m 19 #[.val (.ref d0), .val (.ref d1), .val (.int (7 : Int32))] [(.ref d1), (.int (117 : Int32))])) _
    refine XS.iloadN X0.here hx rfl (hb hby d7_19) rfl ?_
    show Steps p.tables e below (s₁.setTop (mkF m 20 #[.val (.ref d0), .val (.ref d1), .val (.int (7 : Int32))] [(.int (7 : Int32)), (.ref d1), (.int (117 : Int32))])) _
    refine st26 _ ?_
    show Steps p.tables e below (s₁.setTop (mkF m 21 #[.val (.ref d0), .val (.ref d1), .val (.int (7 : Int32))] [(.int (117 : Int32)), (.int (117 : Int32))])) _
    refine XS.icmpYes X0.here hx rfl (pc0 := 21) (pc' := 26) rfl (hb hby d7_21) rfl (teq (by decide)).1 (by decide) (by decide) ?_
    show Steps p.tables e below (s₁.setTop (mkF m 26 #[.val (.ref d0), .val (.ref d1), .val (.int (7 : Int32))] [])) _
    refine XS.iinc X0.here hx rfl (hb hby d7_26) rfl (l' := #[.val (.ref d0), .val (.ref d1), .val (.int (8 : Int32))]) rfl ?_
    show Steps p.tables e below (s₁.setTop (mkF m 29 #[.val (.ref d0), .val (.ref d1), .val (.int (8 : Int32))] [])) _
    refine XS.goto X0.here hx rfl (pc0 := 29) (pc' := 9) rfl (hb hby d7_29) (by decide) (by decide) ?_
    show Steps p.tables e below (s₁.setTop (mkF m 9 #[.val (.ref d0), .val (.ref d1), .val (.int (8 : Int32))] [])) _
    refine XS.iloadN X0.here hx rfl (hb hby d7_9) rfl ?_
    show Steps p.tables e below (s₁.setTop (mkF m 10 #[.val (.ref d0), .val (.ref d1), .val (.int (8 : Int32))] [(.int (8 : Int32))])) _
    refine XS.aloadN X0.here hx rfl (hb hby d7_10) rfl rfl ?_
    show Steps p.tables e below (s₁.setTop (mkF m 11 #[.val (.ref d0), .val (.ref d1), .val (.int (8 : Int32))] [(.ref d0), (.int (8 : Int32))])) _
    refine st27 _ ?_
    show Steps p.tables e below (s₁.setTop (mkF m 12 #[.val (.ref d0), .val (.ref d1), .val (.int (8 : Int32))] [(.int (12 : Int32)), (.int (8 : Int32))])) _
    refine XS.icmpNo X0.here hx rfl (hb hby d7_12) rfl (tlt (by decide)).2.1 ?_
    show Steps p.tables e below (s₁.setTop (mkF m 15 #[.val (.ref d0), .val (.ref d1), .val (.int (8 : Int32))] [])) _
    refine XS.aloadN X0.here hx rfl (hb hby d7_15) rfl rfl ?_
    show Steps p.tables e below (s₁.setTop (mkF m 16 #[.val (.ref d0), .val (.ref d1), .val (.int (8 : Int32))] [(.ref d0)])) _
    refine XS.iloadN X0.here hx rfl (hb hby d7_16) rfl ?_
    show Steps p.tables e below (s₁.setTop (mkF m 17 #[.val (.ref d0), .val (.ref d1), .val (.int (8 : Int32))] [(.int (8 : Int32)), (.ref d0)])) _
    refine st28 _ ?_
    show Steps p.tables e below (s₁.setTop (mkF m 18 #[.val (.ref d0), .val (.ref d1), .val (.int (8 : Int32))] [(.int (101 : Int32))])) _
    refine XS.aloadN X0.here hx rfl (hb hby d7_18) rfl rfl ?_
    show Steps p.tables e below (s₁.setTop (mkF m 19 #[.val (.ref d0), .val (.ref d1), .val (.int (8 : Int32))] [(.ref d1), (.int (101 : Int32))])) _
    refine XS.iloadN X0.here hx rfl (hb hby d7_19) rfl ?_
    show Steps p.tables e below (s₁.setTop (mkF m 20 #[.val (.ref d0), .val (.ref d1), .val (.int (8 : Int32))] [(.int (8 : Int32)), (.ref d1), (.int (101 : Int32))])) _
    refine st29 _ ?_
    show Steps p.tables e below (s₁.setTop (mkF m 21 #[.val (.ref d0), .val (.ref d1), .val (.int (8 : Int32))] [(.int (101 : Int32)), (.int (101 : Int32))])) _
    refine XS.icmpYes X0.here hx rfl (pc0 := 21) (pc' := 26) rfl (hb hby d7_21) rfl (teq (by decide)).1 (by decide) (by decide) ?_
    show Steps p.tables e below (s₁.setTop (mkF m 26 #[.val (.ref d0), .val (.ref d1), .val (.int (8 : Int32))] [])) _
    refine XS.iinc X0.here hx rfl (hb hby d7_26) rfl (l' := #[.val (.ref d0), .val (.ref d1), .val (.int (9 : Int32))]) rfl ?_
    show Steps p.tables e below (s₁.setTop (mkF m 29 #[.val (.ref d0), .val (.ref d1), .val (.int (9 : Int32))] [])) _
    refine XS.goto X0.here hx rfl (pc0 := 29) (pc' := 9) rfl (hb hby d7_29) (by decide) (by decide) ?_
    show Steps p.tables e below (s₁.setTop (mkF m 9 #[.val (.ref d0), .val (.ref d1), .val (.int (9 : Int32))] [])) _
    refine XS.iloadN X0.here hx rfl (hb hby d7_9) rfl ?_
    show Steps p.tables e below (s₁.setTop (mkF m 10 #[.val (.ref d0), .val (.ref d1), .val (.int (9 : Int32))] [(.int (9 : Int32))])) _
    refine XS.aloadN X0.here hx rfl (hb hby d7_10) rfl rfl ?_
    show Steps p.tables e below (s₁.setTop (mkF m 11 #[.val (.ref d0), .val (.ref d1), .val (.int (9 : Int32))] [(.ref d0), (.int (9 : Int32))])) _
    refine st30 _ ?_
    show Steps p.tables e below (s₁.setTop (mkF m 12 #[.val (.ref d0), .val (.ref d1), .val (.int (9 : Int32))] [(.int (12 : Int32)), (.int (9 : Int32))])) _
    refine XS.icmpNo X0.here hx rfl (hb hby d7_12) rfl (tlt (by decide)).2.1 ?_
    show Steps p.tables e below (s₁.setTop (mkF m 15 #[.val (.ref d0), .val (.ref d1), .val (.int (9 : Int32))] [])) _
    refine XS.aloadN X0.here hx rfl (hb hby d7_15) rfl rfl ?_
    show Steps p.tables e below (s₁.setTop (mkF m 16 #[.val (.ref d0), .val (.ref d1), .val (.int (9 : Int32))] [(.ref d0)])) _
    refine XS.iloadN X0.here hx rfl (hb hby d7_16) rfl ?_
    show Steps p.tables e below (s₁.setTop (mkF m 17 #[.val (.ref d0), .val (.ref d1), .val (.int (9 : Int32))] [(.int (9 : Int32)), (.ref d0)])) _
    refine st31 _ ?_
    show Steps p.tables e below (s₁.setTop (mkF m 18 #[.val (.ref d0), .val (.ref d1), .val (.int (9 : Int32))] [(.int (115 : Int32))])) _
    refine XS.aloadN X0.here hx rfl (hb hby d7_18) rfl rfl ?_
    show Steps p.tables e below (s₁.setTop (mkF m 19 #[.val (.ref d0), .val (.ref d1), .val (.int (9 : Int32))] [(.ref d1), (.int (115 : Int32))])) _
    refine XS.iloadN X0.here hx rfl (hb hby d7_19) rfl ?_
    show Steps p.tables e below (s₁.setTop (mkF m 20 #[.val (.ref d0), .val (.ref d1), .val (.int (9 : Int32))] [(.int (9 : Int32)), (.ref d1), (.int (115 : Int32))])) _
    refine st32 _ ?_
    show Steps p.tables e below (s₁.setTop (mkF m 21 #[.val (.ref d0), .val (.ref d1), .val (.int (9 : Int32))] [(.int (115 : Int32)), (.int (115 : Int32))])) _
    refine XS.icmpYes X0.here hx rfl (pc0 := 21) (pc' := 26) rfl (hb hby d7_21) rfl (teq (by decide)).1 (by decide) (by decide) ?_
    show Steps p.tables e below (s₁.setTop (mkF m 26 #[.val (.ref d0), .val (.ref d1), .val (.int (9 : Int32))] [])) _
    refine XS.iinc X0.here hx rfl (hb hby d7_26) rfl (l' := #[.val (.ref d0), .val (.ref d1), .val (.int (10 : Int32))]) rfl ?_
    show Steps p.tables e below (s₁.setTop (mkF m 29 #[.val (.ref d0), .val (.ref d1), .val (.int (10 : Int32))] [])) _
    refine XS.goto X0.here hx rfl (pc0 := 29) (pc' := 9) rfl (hb hby d7_29) (by decide) (by decide) ?_
    show Steps p.tables e below (s₁.setTop (mkF m 9 #[.val (.ref d0), .val (.ref d1), .val (.int (10 : Int32))] [])) _
    refine XS.iloadN X0.here hx rfl (hb hby d7_9) rfl ?_
    show Steps p.tables e below (s₁.setTop (mkF m 10 #[.val (.ref d0), .val (.ref d1), .val (.int (10 : Int32))] [(.int (10 : Int32))])) _
    refine XS.aloadN X0.here hx rfl (hb hby d7_10) rfl rfl ?_
    show Steps p.tables e below (s₁.setTop (mkF m 11 #[.val (.ref d0), .val (.ref d1), .val (.int (10 : Int32))] [(.ref d0), (.int (10 : Int32))])) _
    refine st33 _ ?_
    show Steps p.tables e below (s₁.setTop (mkF m 12 #[.val (.ref d0), .val (.ref d1), .val (.int (10 : Int32))] [(.int (12 : Int32)), (.int (10 : Int32))])) _
    refine XS.icmpNo X0.here hx rfl (hb hby d7_12) rfl (tlt (by decide)).2.1 ?_
    show Steps p.tables e below (s₁.setTop (mkF m 15 #[.val (.ref d0), .val (.ref d1), .val (.int (10 : Int32))] [])) _
    refine XS.aloadN X0.here hx rfl (hb hby d7_15) rfl rfl ?_
    show Steps p.tables e below (s₁.setTop (mkF m 16 #[.val (.ref d0), .val (.ref d1), .val (.int (10 : Int32))] [(.ref d0)])) _
    refine XS.iloadN X0.here hx rfl (hb hby d7_16) rfl ?_
    show Steps p.tables e below (s₁.setTop (mkF m 17 #[.val (.ref d0), .val (.ref d1), .val (.int (10 : Int32))] [(.int (10 : Int32)), (.ref d0)])) _
    refine st34 _ ?_
    show Steps p.tables e below (s₁.setTop (mkF m 18 #[.val (.ref d0), .val (.ref d1), .val (.int (10 : Int32))] [(.int (116 : Int32))])) _
    refine XS.aloadN X0.here hx rfl (hb hby d7_18) rfl rfl ?_
    show Steps p.tables e below (s₁.setTop (mkF m 19 #[.val (.ref d0), .val (.ref d1), .val (.int (10 : Int32))] [(.ref d1), (.int (116 : Int32))])) _
    refine XS.iloadN X0.here hx rfl (hb hby d7_19) rfl ?_
    show Steps p.tables e below (s₁.setTop (mkF m 20 #[.val (.ref d0), .val (.ref d1), .val (.int (10 : Int32))] [(.int (10 : Int32)), (.ref d1), (.int (116 : Int32))])) _
    refine st35 _ ?_
    show Steps p.tables e below (s₁.setTop (mkF m 21 #[.val (.ref d0), .val (.ref d1), .val (.int (10 : Int32))] [(.int (116 : Int32)), (.int (116 : Int32))])) _
    refine XS.icmpYes X0.here hx rfl (pc0 := 21) (pc' := 26) rfl (hb hby d7_21) rfl (teq (by decide)).1 (by decide) (by decide) ?_
    show Steps p.tables e below (s₁.setTop (mkF m 26 #[.val (.ref d0), .val (.ref d1), .val (.int (10 : Int32))] [])) _
    refine XS.iinc X0.here hx rfl (hb hby d7_26) rfl (l' := #[.val (.ref d0), .val (.ref d1), .val (.int (11 : Int32))]) rfl ?_
    show Steps p.tables e below (s₁.setTop (mkF m 29 #[.val (.ref d0), .val (.ref d1), .val (.int (11 : Int32))] [])) _
    refine XS.goto X0.here hx rfl (pc0 := 29) (pc' := 9) rfl (hb hby d7_29) (by decide) (by decide) ?_
    show Steps p.tables e below (s₁.setTop (mkF m 9 #[.val (.ref d0), .val (.ref d1), .val (.int (11 : Int32))] [])) _
    refine XS.iloadN X0.here hx rfl (hb hby d7_9) rfl ?_
    show Steps p.tables e below (s₁.setTop (mkF m 10 #[.val (.ref d0), .val (.ref d1), .val (.int (11 : Int32))] [(.int (11 : Int32))])) _
    refine XS.aloadN X0.here hx rfl (hb hby d7_10) rfl rfl ?_
    show Steps p.tables e below (s₁.setTop (mkF m 11 #[.val (.ref d0), .val (.ref d1), .val (.int (11 : Int32))] [(.ref d0), (.int (11 : Int32))])) _
    refine st36 _ ?_
    show Steps p.tables e below (s₁.setTop (mkF m 12 #[.val (.ref d0), .val (.ref d1), .val (.int (11 : Int32))] [(.int (12 : Int32)), (.int (11 : Int32))])) _
    refine XS.icmpNo X0.here hx rfl (hb hby d7_12) rfl (tlt (by decide)).2.1 ?_
    show Steps p.tables e below (s₁.setTop (mkF m 15 #[.val (.ref d0), .val (.ref d1), .val (.int (11 : Int32))] [])) _
    refine XS.aloadN X0.here hx rfl (hb hby d7_15) rfl rfl ?_
    show Steps p.tables e below (s₁.setTop (mkF m 16 #[.val (.ref d0), .val (.ref d1), .val (.int (11 : Int32))] [(.ref d0)])) _
    refine XS.iloadN X0.here hx rfl (hb hby d7_16) rfl ?_
    show Steps p.tables e below (s₁.setTop (mkF m 17 #[.val (.ref d0), .val (.ref d1), .val (.int (11 : Int32))] [(.int (11 : Int32)), (.ref d0)])) _
    refine st37 _ ?_
    show Steps p.tables e below (s₁.setTop (mkF m 18 #[.val (.ref d0), .val (.ref d1), .val (.int (11 : Int32))] [(.int (115 : Int32))])) _
    refine XS.aloadN X0.here hx rfl (hb hby d7_18) rfl rfl ?_
    show Steps p.tables e below (s₁.setTop (mkF m 19 #[.val (.ref d0), .val (.ref d1), .val (.int (11 : Int32))] [(.ref d1), (.int (115 : Int32))])) _
    refine XS.iloadN X0.here hx rfl (hb hby d7_19) rfl ?_
    show Steps p.tables e below (s₁.setTop (mkF m 20 #[.val (.ref d0), .val (.ref d1), .val (.int (11 : Int32))] [(.int (11 : Int32)), (.ref d1), (.int (115 : Int32))])) _
    refine st38 _ ?_
    show Steps p.tables e below (s₁.setTop (mkF m 21 #[.val (.ref d0), .val (.ref d1), .val (.int (11 : Int32))] [(.int (115 : Int32)), (.int (115 : Int32))])) _
    refine XS.icmpYes X0.here hx rfl (pc0 := 21) (pc' := 26) rfl (hb hby d7_21) rfl (teq (by decide)).1 (by decide) (by decide) ?_
    show Steps p.tables e below (s₁.setTop (mkF m 26 #[.val (.ref d0), .val (.ref d1), .val (.int (11 : Int32))] [])) _
    refine XS.iinc X0.here hx rfl (hb hby d7_26) rfl (l' := #[.val (.ref d0), .val (.ref d1), .val (.int (12 : Int32))]) rfl ?_
    show Steps p.tables e below (s₁.setTop (mkF m 29 #[.val (.ref d0), .val (.ref d1), .val (.int (12 : Int32))] [])) _
    refine XS.goto X0.here hx rfl (pc0 := 29) (pc' := 9) rfl (hb hby d7_29) (by decide) (by decide) ?_
    show Steps p.tables e below (s₁.setTop (mkF m 9 #[.val (.ref d0), .val (.ref d1), .val (.int (12 : Int32))] [])) _
    refine XS.iloadN X0.here hx rfl (hb hby d7_9) rfl ?_
    show Steps p.tables e below (s₁.setTop (mkF m 10 #[.val (.ref d0), .val (.ref d1), .val (.int (12 : Int32))] [(.int (12 : Int32))])) _
    refine XS.aloadN X0.here hx rfl (hb hby d7_10) rfl rfl ?_
    show Steps p.tables e below (s₁.setTop (mkF m 11 #[.val (.ref d0), .val (.ref d1), .val (.int (12 : Int32))] [(.ref d0), (.int (12 : Int32))])) _
    refine st39 _ ?_
    show Steps p.tables e below (s₁.setTop (mkF m 12 #[.val (.ref d0), .val (.ref d1), .val (.int (12 : Int32))] [(.int (12 : Int32)), (.int (12 : Int32))])) _
    refine XS.icmpYes X0.here hx rfl (pc0 := 12) (pc' := 32) rfl (hb hby d7_12) rfl (flt (by decide)).2.1 (by decide) (by decide) ?_
    show Steps p.tables e below (s₁.setTop (mkF m 32 #[.val (.ref d0), .val (.ref d1), .val (.int (12 : Int32))] [])) _
    refine XS.iconst X0.here hx rfl (hb hby d7_32) ?_
    show Steps p.tables e below (s₁.setTop (mkF m 33 #[.val (.ref d0), .val (.ref d1), .val (.int (12 : Int32))] [(.int (1 : Int32))])) _
    exact retN X0 hx (t := .boolean) Bd.returns (by simp) (hb hby d7_33) hr
  · show Q7UU Z d0 d1 k0 k1 h0 n0 _ s₁.heap _
    rw [e0]
    exact ⟨rfl, N0, rfl⟩
theorem d7_34 : decode jdk_43_method_13_code 34 = .ok (.iconst 0, 1) := by decide +kernel
theorem d7_35 : decode jdk_43_method_13_code 35 = .ok (.ireturn, 1) := by decide +kernel
theorem ef_7UL (m : MethodId) (d0 : Addr) (d1 : Addr) : entryFrame m #[(.ref d0), (.ref d1)] 3 = mkF m 0 #[.val (.ref d0), .val (.ref d1), .unset] [] := by first | (simp [entryFrame, mkF, argsToLocals, Value.category]; done) | rfl
def Q7UL (Z : State) (d0 : Addr) (d1 : Addr) (k0 : ClassId) (k1 : ClassId) (h0 : Heap) (n0 : Nat) (v : Option Value) (h : Heap) (L : List Loc) : Prop := v = some (.int (0 : Int32)) ∧ Fr n0 L ∧ h = h0
set_option maxRecDepth 65536 in
set_option maxHeartbeats 40000000 in
theorem rm7UL (l : Launch) (Z : State) (a0 : Array Value) (hw : ∀ d ∈ tables_1, d.before a0 Z = true) (ws : List Jvm.Cond) (d0 : Addr) (d1 : Addr) (k0 : ClassId) (k1 : ClassId) (h0 : Heap) (n0 : Nat) (Z0 : n0 ≤ h0.size) (V_d0 : Arv Z h0 d0 k0 .byte (12 : Int32) [(.int (97 : Int32)), (.int (108 : Int32)), (.int (108 : Int32)), (.int (32 : Int32)), (.int (114 : Int32)), (.int (101 : Int32)), (.int (113 : Int32)), (.int (117 : Int32)), (.int (101 : Int32)), (.int (115 : Int32)), (.int (116 : Int32)), (.int (115 : Int32))] (.int 0)) (V_d1 : Arv Z h0 d1 k1 .byte (10 : Int32) [(.int (108 : Int32)), (.int (105 : Int32)), (.int (115 : Int32)), (.int (116 : Int32)), (.int (32 : Int32)), (.int (112 : Int32)), (.int (97 : Int32)), (.int (103 : Int32)), (.int (101 : Int32)), (.int (115 : Int32))] (.int 0)) :
    MetFree l (⟨"java/lang/StringLatin1", "equals", "([B[B)Z"⟩ : MethodName) (head1 (Jvm.Cond.code (⟨"java/lang/StringLatin1", "equals", "([B[B)Z"⟩ : MethodName) jdk_43_method_13_code 3 (some .boolean) :: ws) ({ frames := 0, cells := 0, slots := 0, locals := 0 } : Room)) (fun a U => a = #[(.ref d0), (.ref d1)] ∧ Z.Warmed39 U.vm ∧ U.heap = h0) (fun _ _ _ _ _ => True) (fun _ U o U' => ∃ v L, o = .returned v ∧ Q7UL Z d0 d1 k0 k1 h0 n0 v U'.heap L ∧ FrameEnd U o U' L ({ frames := 0, cells := 0, slots := 0, locals := 0 } : Room).cells ({ frames := 0, cells := 0, slots := 0, locals := 0 } : Room).slots) := by
  refine MetFree.of_bodySF (plainFor_of_name pn_java_lang_StringLatin1) hisR ?_
  intro p e s m args below meth c s₁ Bd hml0 hP hK
  obtain ⟨rfl, hZ, hh⟩ := hP
  have hx := Bd.exec
  have hby := Bd.bytes
  have hml : c.maxLocals = 3 := hml0
  have hown : s.vm.findClass "java/lang/StringLatin1" = some m.cls := findClass_of_methodNamed Bd.named
  have hnm := (name_of_methodNamed Bd.named Bd.method).1
  have X0 : Stand p l e ({ frames := 0, cells := 0, slots := 0, locals := 0 } : Room) s m #[(.ref d0), (.ref d1)] below meth c s₁ [] 0 0 := Stand.of_body Bd
  have e0 : s₁.heap = h0 := by rw [← hh, Bd.state]; rfl
  have N0 := Fr.nil n0
  have pre0 : ∀ t, Steps p.tables e below (s₁.setTop (mkF m 0 #[.val (.ref d0), .val (.ref d1), .unset] [])) t → Steps p.tables e below (s₁.setTop (entryFrame m #[(.ref d0), (.ref d1)] 3)) t := fun t k => castTop (ef_7UL m d0 d1) k
  obtain ⟨cl1, Ar1, qa1, Sa1, Na1, Ha1, Ga1⟩ := id V_d0
  have st1 := X0.arraylength hx (by rw [e0]; exact Ar1.1) (State.isArrayOf_alike hZ.alike Ar1.2.1) (g := (mkF m 1 #[.val (.ref d0), .val (.ref d1), .unset] [(.ref d0)])) rfl rfl (hb hby d7_1)
  rw [len_of Sa1 Na1] at st1
  obtain ⟨cl2, Ar2, qa2, Sa2, Na2, Ha2, Ga2⟩ := id V_d1
  have st2 := X0.arraylength hx (by rw [e0]; exact Ar2.1) (State.isArrayOf_alike hZ.alike Ar2.2.1) (g := (mkF m 3 #[.val (.ref d0), .val (.ref d1), .unset] [(.ref d1), (.int (12 : Int32))])) rfl rfl (hb hby d7_3)
  rw [len_of Sa2 Na2] at st2
  obtain ⟨fs, hr, hrun, hended, hW, hsame⟩ := X0.leave (v := some (.int (0 : Int32))) (fun h => by rw [Bd.returns] at h; cases h)
  refine ⟨_, _, pre0 _ ?_, hrun, hended, _, _, rfl, ?_, ⟨_, rfl⟩, hW, hsame.mono (by decide) (by decide)⟩
  · show Steps p.tables e below (s₁.setTop (mkF m 0 #[.val (.ref d0), .val (.ref d1), .unset] [])) _
    refine XS.aloadN X0.here hx rfl (hb hby d7_0) rfl rfl ?_
    show Steps p.tables e below (s₁.setTop (mkF m 1 #[.val (.ref d0), .val (.ref d1), .unset] [(.ref d0)])) _
    refine st1 _ ?_
    show Steps p.tables e below (s₁.setTop (mkF m 2 #[.val (.ref d0), .val (.ref d1), .unset] [(.int (12 : Int32))])) _
    refine XS.aloadN X0.here hx rfl (hb hby d7_2) rfl rfl ?_
    show Steps p.tables e below (s₁.setTop (mkF m 3 #[.val (.ref d0), .val (.ref d1), .unset] [(.ref d1), (.int (12 : Int32))])) _
    refine st2 _ ?_
    show Steps p.tables e below (s₁.setTop (mkF m 4 #[.val (.ref d0), .val (.ref d1), .unset] [(.int (10 : Int32)), (.int (12 : Int32))])) _
    refine XS.icmpYes X0.here hx rfl (pc0 := 4) (pc' := 34) rfl (hb hby d7_4) rfl (feq (by decide)).2 (by decide) (by decide) ?_
    show Steps p.tables e below (s₁.setTop (mkF m 34 #[.val (.ref d0), .val (.ref d1), .unset] [])) _
    refine XS.iconst X0.here hx rfl (hb hby d7_34) ?_
    show Steps p.tables e below (s₁.setTop (mkF m 35 #[.val (.ref d0), .val (.ref d1), .unset] [(.int (0 : Int32))])) _
    exact retN X0 hx (t := .boolean) Bd.returns (by simp) (hb hby d7_35) hr
  · show Q7UL Z d0 d1 k0 k1 h0 n0 _ s₁.heap _
    rw [e0]
    exact ⟨rfl, N0, rfl⟩
theorem ef_7UI (m : MethodId) (d0 : Addr) (d1 : Addr) : entryFrame m #[(.ref d0), (.ref d1)] 3 = mkF m 0 #[.val (.ref d0), .val (.ref d1), .unset] [] := by first | (simp [entryFrame, mkF, argsToLocals, Value.category]; done) | rfl
def Q7UI (Z : State) (d0 : Addr) (d1 : Addr) (k0 : ClassId) (k1 : ClassId) (h0 : Heap) (n0 : Nat) (v : Option Value) (h : Heap) (L : List Loc) : Prop := v = some (.int (0 : Int32)) ∧ Fr n0 L ∧ h = h0
set_option maxRecDepth 65536 in
set_option maxHeartbeats 40000000 in
theorem rm7UI (l : Launch) (Z : State) (a0 : Array Value) (hw : ∀ d ∈ tables_1, d.before a0 Z = true) (ws : List Jvm.Cond) (d0 : Addr) (d1 : Addr) (k0 : ClassId) (k1 : ClassId) (h0 : Heap) (n0 : Nat) (Z0 : n0 ≤ h0.size) (V_d0 : Arv Z h0 d0 k0 .byte (12 : Int32) [(.int (97 : Int32)), (.int (108 : Int32)), (.int (108 : Int32)), (.int (32 : Int32)), (.int (114 : Int32)), (.int (101 : Int32)), (.int (113 : Int32)), (.int (117 : Int32)), (.int (101 : Int32)), (.int (115 : Int32)), (.int (116 : Int32)), (.int (115 : Int32))] (.int 0)) (V_d1 : Arv Z h0 d1 k1 .byte (5 : Int32) [(.int (105 : Int32)), (.int (116 : Int32)), (.int (101 : Int32)), (.int (109 : Int32)), (.int (115 : Int32))] (.int 0)) :
    MetFree l (⟨"java/lang/StringLatin1", "equals", "([B[B)Z"⟩ : MethodName) (head1 (Jvm.Cond.code (⟨"java/lang/StringLatin1", "equals", "([B[B)Z"⟩ : MethodName) jdk_43_method_13_code 3 (some .boolean) :: ws) ({ frames := 0, cells := 0, slots := 0, locals := 0 } : Room)) (fun a U => a = #[(.ref d0), (.ref d1)] ∧ Z.Warmed39 U.vm ∧ U.heap = h0) (fun _ _ _ _ _ => True) (fun _ U o U' => ∃ v L, o = .returned v ∧ Q7UI Z d0 d1 k0 k1 h0 n0 v U'.heap L ∧ FrameEnd U o U' L ({ frames := 0, cells := 0, slots := 0, locals := 0 } : Room).cells ({ frames := 0, cells := 0, slots := 0, locals := 0 } : Room).slots) := by
  refine MetFree.of_bodySF (plainFor_of_name pn_java_lang_StringLatin1) hisR ?_
  intro p e s m args below meth c s₁ Bd hml0 hP hK
  obtain ⟨rfl, hZ, hh⟩ := hP
  have hx := Bd.exec
  have hby := Bd.bytes
  have hml : c.maxLocals = 3 := hml0
  have hown : s.vm.findClass "java/lang/StringLatin1" = some m.cls := findClass_of_methodNamed Bd.named
  have hnm := (name_of_methodNamed Bd.named Bd.method).1
  have X0 : Stand p l e ({ frames := 0, cells := 0, slots := 0, locals := 0 } : Room) s m #[(.ref d0), (.ref d1)] below meth c s₁ [] 0 0 := Stand.of_body Bd
  have e0 : s₁.heap = h0 := by rw [← hh, Bd.state]; rfl
  have N0 := Fr.nil n0
  have pre0 : ∀ t, Steps p.tables e below (s₁.setTop (mkF m 0 #[.val (.ref d0), .val (.ref d1), .unset] [])) t → Steps p.tables e below (s₁.setTop (entryFrame m #[(.ref d0), (.ref d1)] 3)) t := fun t k => castTop (ef_7UI m d0 d1) k
  obtain ⟨cl1, Ar1, qa1, Sa1, Na1, Ha1, Ga1⟩ := id V_d0
  have st1 := X0.arraylength hx (by rw [e0]; exact Ar1.1) (State.isArrayOf_alike hZ.alike Ar1.2.1) (g := (mkF m 1 #[.val (.ref d0), .val (.ref d1), .unset] [(.ref d0)])) rfl rfl (hb hby d7_1)
  rw [len_of Sa1 Na1] at st1
  obtain ⟨cl2, Ar2, qa2, Sa2, Na2, Ha2, Ga2⟩ := id V_d1
  have st2 := X0.arraylength hx (by rw [e0]; exact Ar2.1) (State.isArrayOf_alike hZ.alike Ar2.2.1) (g := (mkF m 3 #[.val (.ref d0), .val (.ref d1), .unset] [(.ref d1), (.int (12 : Int32))])) rfl rfl (hb hby d7_3)
  rw [len_of Sa2 Na2] at st2
  obtain ⟨fs, hr, hrun, hended, hW, hsame⟩ := X0.leave (v := some (.int (0 : Int32))) (fun h => by rw [Bd.returns] at h; cases h)
  refine ⟨_, _, pre0 _ ?_, hrun, hended, _, _, rfl, ?_, ⟨_, rfl⟩, hW, hsame.mono (by decide) (by decide)⟩
  · show Steps p.tables e below (s₁.setTop (mkF m 0 #[.val (.ref d0), .val (.ref d1), .unset] [])) _
    refine XS.aloadN X0.here hx rfl (hb hby d7_0) rfl rfl ?_
    show Steps p.tables e below (s₁.setTop (mkF m 1 #[.val (.ref d0), .val (.ref d1), .unset] [(.ref d0)])) _
    refine st1 _ ?_
    show Steps p.tables e below (s₁.setTop (mkF m 2 #[.val (.ref d0), .val (.ref d1), .unset] [(.int (12 : Int32))])) _
    refine XS.aloadN X0.here hx rfl (hb hby d7_2) rfl rfl ?_
    show Steps p.tables e below (s₁.setTop (mkF m 3 #[.val (.ref d0), .val (.ref d1), .unset] [(.ref d1), (.int (12 : Int32))])) _
    refine st2 _ ?_
    show Steps p.tables e below (s₁.setTop (mkF m 4 #[.val (.ref d0), .val (.ref d1), .unset] [(.int (5 : Int32)), (.int (12 : Int32))])) _
    refine XS.icmpYes X0.here hx rfl (pc0 := 4) (pc' := 34) rfl (hb hby d7_4) rfl (feq (by decide)).2 (by decide) (by decide) ?_
    show Steps p.tables e below (s₁.setTop (mkF m 34 #[.val (.ref d0), .val (.ref d1), .unset] [])) _
    refine XS.iconst X0.here hx rfl (hb hby d7_34) ?_
    show Steps p.tables e below (s₁.setTop (mkF m 35 #[.val (.ref d0), .val (.ref d1), .unset] [(.int (0 : Int32))])) _
    exact retN X0 hx (t := .boolean) Bd.returns (by simp) (hb hby d7_35) hr
  · show Q7UI Z d0 d1 k0 k1 h0 n0 _ s₁.heap _
    rw [e0]
    exact ⟨rfl, N0, rfl⟩
theorem ef_7LU (m : MethodId) (d0 : Addr) (d1 : Addr) : entryFrame m #[(.ref d0), (.ref d1)] 3 = mkF m 0 #[.val (.ref d0), .val (.ref d1), .unset] [] := by first | (simp [entryFrame, mkF, argsToLocals, Value.category]; done) | rfl
def Q7LU (Z : State) (d0 : Addr) (d1 : Addr) (k0 : ClassId) (k1 : ClassId) (h0 : Heap) (n0 : Nat) (v : Option Value) (h : Heap) (L : List Loc) : Prop := v = some (.int (0 : Int32)) ∧ Fr n0 L ∧ h = h0
set_option maxRecDepth 65536 in
set_option maxHeartbeats 40000000 in
theorem rm7LU (l : Launch) (Z : State) (a0 : Array Value) (hw : ∀ d ∈ tables_1, d.before a0 Z = true) (ws : List Jvm.Cond) (d0 : Addr) (d1 : Addr) (k0 : ClassId) (k1 : ClassId) (h0 : Heap) (n0 : Nat) (Z0 : n0 ≤ h0.size) (V_d0 : Arv Z h0 d0 k0 .byte (10 : Int32) [(.int (108 : Int32)), (.int (105 : Int32)), (.int (115 : Int32)), (.int (116 : Int32)), (.int (32 : Int32)), (.int (112 : Int32)), (.int (97 : Int32)), (.int (103 : Int32)), (.int (101 : Int32)), (.int (115 : Int32))] (.int 0)) (V_d1 : Arv Z h0 d1 k1 .byte (12 : Int32) [(.int (97 : Int32)), (.int (108 : Int32)), (.int (108 : Int32)), (.int (32 : Int32)), (.int (114 : Int32)), (.int (101 : Int32)), (.int (113 : Int32)), (.int (117 : Int32)), (.int (101 : Int32)), (.int (115 : Int32)), (.int (116 : Int32)), (.int (115 : Int32))] (.int 0)) :
    MetFree l (⟨"java/lang/StringLatin1", "equals", "([B[B)Z"⟩ : MethodName) (head1 (Jvm.Cond.code (⟨"java/lang/StringLatin1", "equals", "([B[B)Z"⟩ : MethodName) jdk_43_method_13_code 3 (some .boolean) :: ws) ({ frames := 0, cells := 0, slots := 0, locals := 0 } : Room)) (fun a U => a = #[(.ref d0), (.ref d1)] ∧ Z.Warmed39 U.vm ∧ U.heap = h0) (fun _ _ _ _ _ => True) (fun _ U o U' => ∃ v L, o = .returned v ∧ Q7LU Z d0 d1 k0 k1 h0 n0 v U'.heap L ∧ FrameEnd U o U' L ({ frames := 0, cells := 0, slots := 0, locals := 0 } : Room).cells ({ frames := 0, cells := 0, slots := 0, locals := 0 } : Room).slots) := by
  refine MetFree.of_bodySF (plainFor_of_name pn_java_lang_StringLatin1) hisR ?_
  intro p e s m args below meth c s₁ Bd hml0 hP hK
  obtain ⟨rfl, hZ, hh⟩ := hP
  have hx := Bd.exec
  have hby := Bd.bytes
  have hml : c.maxLocals = 3 := hml0
  have hown : s.vm.findClass "java/lang/StringLatin1" = some m.cls := findClass_of_methodNamed Bd.named
  have hnm := (name_of_methodNamed Bd.named Bd.method).1
  have X0 : Stand p l e ({ frames := 0, cells := 0, slots := 0, locals := 0 } : Room) s m #[(.ref d0), (.ref d1)] below meth c s₁ [] 0 0 := Stand.of_body Bd
  have e0 : s₁.heap = h0 := by rw [← hh, Bd.state]; rfl
  have N0 := Fr.nil n0
  have pre0 : ∀ t, Steps p.tables e below (s₁.setTop (mkF m 0 #[.val (.ref d0), .val (.ref d1), .unset] [])) t → Steps p.tables e below (s₁.setTop (entryFrame m #[(.ref d0), (.ref d1)] 3)) t := fun t k => castTop (ef_7LU m d0 d1) k
  obtain ⟨cl1, Ar1, qa1, Sa1, Na1, Ha1, Ga1⟩ := id V_d0
  have st1 := X0.arraylength hx (by rw [e0]; exact Ar1.1) (State.isArrayOf_alike hZ.alike Ar1.2.1) (g := (mkF m 1 #[.val (.ref d0), .val (.ref d1), .unset] [(.ref d0)])) rfl rfl (hb hby d7_1)
  rw [len_of Sa1 Na1] at st1
  obtain ⟨cl2, Ar2, qa2, Sa2, Na2, Ha2, Ga2⟩ := id V_d1
  have st2 := X0.arraylength hx (by rw [e0]; exact Ar2.1) (State.isArrayOf_alike hZ.alike Ar2.2.1) (g := (mkF m 3 #[.val (.ref d0), .val (.ref d1), .unset] [(.ref d1), (.int (10 : Int32))])) rfl rfl (hb hby d7_3)
  rw [len_of Sa2 Na2] at st2
  obtain ⟨fs, hr, hrun, hended, hW, hsame⟩ := X0.leave (v := some (.int (0 : Int32))) (fun h => by rw [Bd.returns] at h; cases h)
  refine ⟨_, _, pre0 _ ?_, hrun, hended, _, _, rfl, ?_, ⟨_, rfl⟩, hW, hsame.mono (by decide) (by decide)⟩
  · show Steps p.tables e below (s₁.setTop (mkF m 0 #[.val (.ref d0), .val (.ref d1), .unset] [])) _
    refine XS.aloadN X0.here hx rfl (hb hby d7_0) rfl rfl ?_
    show Steps p.tables e below (s₁.setTop (mkF m 1 #[.val (.ref d0), .val (.ref d1), .unset] [(.ref d0)])) _
    refine st1 _ ?_
    show Steps p.tables e below (s₁.setTop (mkF m 2 #[.val (.ref d0), .val (.ref d1), .unset] [(.int (10 : Int32))])) _
    refine XS.aloadN X0.here hx rfl (hb hby d7_2) rfl rfl ?_
    show Steps p.tables e below (s₁.setTop (mkF m 3 #[.val (.ref d0), .val (.ref d1), .unset] [(.ref d1), (.int (10 : Int32))])) _
    refine st2 _ ?_
    show Steps p.tables e below (s₁.setTop (mkF m 4 #[.val (.ref d0), .val (.ref d1), .unset] [(.int (12 : Int32)), (.int (10 : Int32))])) _
    refine XS.icmpYes X0.here hx rfl (pc0 := 4) (pc' := 34) rfl (hb hby d7_4) rfl (feq (by decide)).2 (by decide) (by decide) ?_
    show Steps p.tables e below (s₁.setTop (mkF m 34 #[.val (.ref d0), .val (.ref d1), .unset] [])) _
    refine XS.iconst X0.here hx rfl (hb hby d7_34) ?_
    show Steps p.tables e below (s₁.setTop (mkF m 35 #[.val (.ref d0), .val (.ref d1), .unset] [(.int (0 : Int32))])) _
    exact retN X0 hx (t := .boolean) Bd.returns (by simp) (hb hby d7_35) hr
  · show Q7LU Z d0 d1 k0 k1 h0 n0 _ s₁.heap _
    rw [e0]
    exact ⟨rfl, N0, rfl⟩
theorem ef_7LL (m : MethodId) (d0 : Addr) (d1 : Addr) : entryFrame m #[(.ref d0), (.ref d1)] 3 = mkF m 0 #[.val (.ref d0), .val (.ref d1), .unset] [] := by first | (simp [entryFrame, mkF, argsToLocals, Value.category]; done) | rfl
def Q7LL (Z : State) (d0 : Addr) (d1 : Addr) (k0 : ClassId) (k1 : ClassId) (h0 : Heap) (n0 : Nat) (v : Option Value) (h : Heap) (L : List Loc) : Prop := v = some (.int (1 : Int32)) ∧ Fr n0 L ∧ h = h0
set_option maxRecDepth 65536 in
set_option maxHeartbeats 40000000 in
theorem rm7LL (l : Launch) (Z : State) (a0 : Array Value) (hw : ∀ d ∈ tables_1, d.before a0 Z = true) (ws : List Jvm.Cond) (d0 : Addr) (d1 : Addr) (k0 : ClassId) (k1 : ClassId) (h0 : Heap) (n0 : Nat) (Z0 : n0 ≤ h0.size) (V_d0 : Arv Z h0 d0 k0 .byte (10 : Int32) [(.int (108 : Int32)), (.int (105 : Int32)), (.int (115 : Int32)), (.int (116 : Int32)), (.int (32 : Int32)), (.int (112 : Int32)), (.int (97 : Int32)), (.int (103 : Int32)), (.int (101 : Int32)), (.int (115 : Int32))] (.int 0)) (V_d1 : Arv Z h0 d1 k1 .byte (10 : Int32) [(.int (108 : Int32)), (.int (105 : Int32)), (.int (115 : Int32)), (.int (116 : Int32)), (.int (32 : Int32)), (.int (112 : Int32)), (.int (97 : Int32)), (.int (103 : Int32)), (.int (101 : Int32)), (.int (115 : Int32))] (.int 0)) :
    MetFree l (⟨"java/lang/StringLatin1", "equals", "([B[B)Z"⟩ : MethodName) (head1 (Jvm.Cond.code (⟨"java/lang/StringLatin1", "equals", "([B[B)Z"⟩ : MethodName) jdk_43_method_13_code 3 (some .boolean) :: ws) ({ frames := 0, cells := 0, slots := 0, locals := 0 } : Room)) (fun a U => a = #[(.ref d0), (.ref d1)] ∧ Z.Warmed39 U.vm ∧ U.heap = h0) (fun _ _ _ _ _ => True) (fun _ U o U' => ∃ v L, o = .returned v ∧ Q7LL Z d0 d1 k0 k1 h0 n0 v U'.heap L ∧ FrameEnd U o U' L ({ frames := 0, cells := 0, slots := 0, locals := 0 } : Room).cells ({ frames := 0, cells := 0, slots := 0, locals := 0 } : Room).slots) := by
  refine MetFree.of_bodySF (plainFor_of_name pn_java_lang_StringLatin1) hisR ?_
  intro p e s m args below meth c s₁ Bd hml0 hP hK
  obtain ⟨rfl, hZ, hh⟩ := hP
  have hx := Bd.exec
  have hby := Bd.bytes
  have hml : c.maxLocals = 3 := hml0
  have hown : s.vm.findClass "java/lang/StringLatin1" = some m.cls := findClass_of_methodNamed Bd.named
  have hnm := (name_of_methodNamed Bd.named Bd.method).1
  have X0 : Stand p l e ({ frames := 0, cells := 0, slots := 0, locals := 0 } : Room) s m #[(.ref d0), (.ref d1)] below meth c s₁ [] 0 0 := Stand.of_body Bd
  have e0 : s₁.heap = h0 := by rw [← hh, Bd.state]; rfl
  have N0 := Fr.nil n0
  have pre0 : ∀ t, Steps p.tables e below (s₁.setTop (mkF m 0 #[.val (.ref d0), .val (.ref d1), .unset] [])) t → Steps p.tables e below (s₁.setTop (entryFrame m #[(.ref d0), (.ref d1)] 3)) t := fun t k => castTop (ef_7LL m d0 d1) k
  obtain ⟨cl1, Ar1, qa1, Sa1, Na1, Ha1, Ga1⟩ := id V_d0
  have st1 := X0.arraylength hx (by rw [e0]; exact Ar1.1) (State.isArrayOf_alike hZ.alike Ar1.2.1) (g := (mkF m 1 #[.val (.ref d0), .val (.ref d1), .unset] [(.ref d0)])) rfl rfl (hb hby d7_1)
  rw [len_of Sa1 Na1] at st1
  obtain ⟨cl2, Ar2, qa2, Sa2, Na2, Ha2, Ga2⟩ := id V_d1
  have st2 := X0.arraylength hx (by rw [e0]; exact Ar2.1) (State.isArrayOf_alike hZ.alike Ar2.2.1) (g := (mkF m 3 #[.val (.ref d0), .val (.ref d1), .unset] [(.ref d1), (.int (10 : Int32))])) rfl rfl (hb hby d7_3)
  rw [len_of Sa2 Na2] at st2
  obtain ⟨cl3, Ar3, qa3, Sa3, Na3, Ha3, Ga3⟩ := id V_d0
  have st3 := X0.arraylength hx (by rw [e0]; exact Ar3.1) (State.isArrayOf_alike hZ.alike Ar3.2.1) (g := (mkF m 11 #[.val (.ref d0), .val (.ref d1), .val (.int (0 : Int32))] [(.ref d0), (.int (0 : Int32))])) rfl rfl (hb hby d7_11)
  rw [len_of Sa3 Na3] at st3
  obtain ⟨cl4, Ar4, qa4, Sa4, Na4, Ha4, Ga4⟩ := id V_d0
  have hi4 := inb_of (j := (0 : Int32)) Sa4 ⟨by decide, by decide⟩
  have st4 := X0.baloadBytes hx (j := (0 : Int32)) (v := (.int (108 : Int32))) (by rw [e0]; exact Ar4.1) (State.isArrayOf_alike hZ.alike Ar4.2.1) Ar4.2.2 hi4 (Has.at Ha4 hi4 rfl) (g := (mkF m 17 #[.val (.ref d0), .val (.ref d1), .val (.int (0 : Int32))] [(.int (0 : Int32)), (.ref d0)])) rfl rfl (hb hby d7_17)
  obtain ⟨cl5, Ar5, qa5, Sa5, Na5, Ha5, Ga5⟩ := id V_d1
  have hi5 := inb_of (j := (0 : Int32)) Sa5 ⟨by decide, by decide⟩
  have st5 := X0.baloadBytes hx (j := (0 : Int32)) (v := (.int (108 : Int32))) (by rw [e0]; exact Ar5.1) (State.isArrayOf_alike hZ.alike Ar5.2.1) Ar5.2.2 hi5 (Has.at Ha5 hi5 rfl) (g := (mkF m 20 #[.val (.ref d0), .val (.ref d1), .val (.int (0 : Int32))] [(.int (0 : Int32)), (.ref d1), (.int (108 : Int32))])) rfl rfl (hb hby d7_20)
  obtain ⟨cl6, Ar6, qa6, Sa6, Na6, Ha6, Ga6⟩ := id V_d0
  have st6 := X0.arraylength hx (by rw [e0]; exact Ar6.1) (State.isArrayOf_alike hZ.alike Ar6.2.1) (g := (mkF m 11 #[.val (.ref d0), .val (.ref d1), .val (.int (1 : Int32))] [(.ref d0), (.int (1 : Int32))])) rfl rfl (hb hby d7_11)
  rw [len_of Sa6 Na6] at st6
  obtain ⟨cl7, Ar7, qa7, Sa7, Na7, Ha7, Ga7⟩ := id V_d0
  have hi7 := inb_of (j := (1 : Int32)) Sa7 ⟨by decide, by decide⟩
  have st7 := X0.baloadBytes hx (j := (1 : Int32)) (v := (.int (105 : Int32))) (by rw [e0]; exact Ar7.1) (State.isArrayOf_alike hZ.alike Ar7.2.1) Ar7.2.2 hi7 (Has.at Ha7 hi7 rfl) (g := (mkF m 17 #[.val (.ref d0), .val (.ref d1), .val (.int (1 : Int32))] [(.int (1 : Int32)), (.ref d0)])) rfl rfl (hb hby d7_17)
  obtain ⟨cl8, Ar8, qa8, Sa8, Na8, Ha8, Ga8⟩ := id V_d1
  have hi8 := inb_of (j := (1 : Int32)) Sa8 ⟨by decide, by decide⟩
  have st8 := X0.baloadBytes hx (j := (1 : Int32)) (v := (.int (105 : Int32))) (by rw [e0]; exact Ar8.1) (State.isArrayOf_alike hZ.alike Ar8.2.1) Ar8.2.2 hi8 (Has.at Ha8 hi8 rfl) (g := (mkF m 20 #[.val (.ref d0), .val (.ref d1), .val (.int (1 : Int32))] [(.int (1 : Int32)), (.ref d1), (.int (105 : Int32))])) rfl rfl (hb hby d7_20)
  obtain ⟨cl9, Ar9, qa9, Sa9, Na9, Ha9, Ga9⟩ := id V_d0
  have st9 := X0.arraylength hx (by rw [e0]; exact Ar9.1) (State.isArrayOf_alike hZ.alike Ar9.2.1) (g := (mkF m 11 #[.val (.ref d0), .val (.ref d1), .val (.int (2 : Int32))] [(.ref d0), (.int (2 : Int32))])) rfl rfl (hb hby d7_11)
  rw [len_of Sa9 Na9] at st9
  obtain ⟨cl10, Ar10, qa10, Sa10, Na10, Ha10, Ga10⟩ := id V_d0
  have hi10 := inb_of (j := (2 : Int32)) Sa10 ⟨by decide, by decide⟩
  have st10 := X0.baloadBytes hx (j := (2 : Int32)) (v := (.int (115 : Int32))) (by rw [e0]; exact Ar10.1) (State.isArrayOf_alike hZ.alike Ar10.2.1) Ar10.2.2 hi10 (Has.at Ha10 hi10 rfl) (g := (mkF m 17 #[.val (.ref d0), .val (.ref d1), .val (.int (2 : Int32))] [(.int (2 : Int32)), (.ref d0)])) rfl rfl (hb hby d7_17)
  obtain ⟨cl11, Ar11, qa11, Sa11, Na11, Ha11, Ga11⟩ := id V_d1
  have hi11 := inb_of (j := (2 : Int32)) Sa11 ⟨by decide, by decide⟩
  have st11 := X0.baloadBytes hx (j := (2 : Int32)) (v := (.int (115 : Int32))) (by rw [e0]; exact Ar11.1) (State.isArrayOf_alike hZ.alike Ar11.2.1) Ar11.2.2 hi11 (Has.at Ha11 hi11 rfl) (g := (mkF m 20 #[.val (.ref d0), .val (.ref d1), .val (.int (2 : Int32))] [(.int (2 : Int32)), (.ref d1), (.int (115 : Int32))])) rfl rfl (hb hby d7_20)
  obtain ⟨cl12, Ar12, qa12, Sa12, Na12, Ha12, Ga12⟩ := id V_d0
  have st12 := X0.arraylength hx (by rw [e0]; exact Ar12.1) (State.isArrayOf_alike hZ.alike Ar12.2.1) (g := (mkF m 11 #[.val (.ref d0), .val (.ref d1), .val (.int (3 : Int32))] [(.ref d0), (.int (3 : Int32))])) rfl rfl (hb hby d7_11)
  rw [len_of Sa12 Na12] at st12
  obtain ⟨cl13, Ar13, qa13, Sa13, Na13, Ha13, Ga13⟩ := id V_d0
  have hi13 := inb_of (j := (3 : Int32)) Sa13 ⟨by decide, by decide⟩
  have st13 := X0.baloadBytes hx (j := (3 : Int32)) (v := (.int (116 : Int32))) (by rw [e0]; exact Ar13.1) (State.isArrayOf_alike hZ.alike Ar13.2.1) Ar13.2.2 hi13 (Has.at Ha13 hi13 rfl) (g := (mkF m 17 #[.val (.ref d0), .val (.ref d1), .val (.int (3 : Int32))] [(.int (3 : Int32)), (.ref d0)])) rfl rfl (hb hby d7_17)
  obtain ⟨cl14, Ar14, qa14, Sa14, Na14, Ha14, Ga14⟩ := id V_d1
  have hi14 := inb_of (j := (3 : Int32)) Sa14 ⟨by decide, by decide⟩
  have st14 := X0.baloadBytes hx (j := (3 : Int32)) (v := (.int (116 : Int32))) (by rw [e0]; exact Ar14.1) (State.isArrayOf_alike hZ.alike Ar14.2.1) Ar14.2.2 hi14 (Has.at Ha14 hi14 rfl) (g := (mkF m 20 #[.val (.ref d0), .val (.ref d1), .val (.int (3 : Int32))] [(.int (3 : Int32)), (.ref d1), (.int (116 : Int32))])) rfl rfl (hb hby d7_20)
  obtain ⟨cl15, Ar15, qa15, Sa15, Na15, Ha15, Ga15⟩ := id V_d0
  have st15 := X0.arraylength hx (by rw [e0]; exact Ar15.1) (State.isArrayOf_alike hZ.alike Ar15.2.1) (g := (mkF m 11 #[.val (.ref d0), .val (.ref d1), .val (.int (4 : Int32))] [(.ref d0), (.int (4 : Int32))])) rfl rfl (hb hby d7_11)
  rw [len_of Sa15 Na15] at st15
  obtain ⟨cl16, Ar16, qa16, Sa16, Na16, Ha16, Ga16⟩ := id V_d0
  have hi16 := inb_of (j := (4 : Int32)) Sa16 ⟨by decide, by decide⟩
  have st16 := X0.baloadBytes hx (j := (4 : Int32)) (v := (.int (32 : Int32))) (by rw [e0]; exact Ar16.1) (State.isArrayOf_alike hZ.alike Ar16.2.1) Ar16.2.2 hi16 (Has.at Ha16 hi16 rfl) (g := (mkF m 17 #[.val (.ref d0), .val (.ref d1), .val (.int (4 : Int32))] [(.int (4 : Int32)), (.ref d0)])) rfl rfl (hb hby d7_17)
  obtain ⟨cl17, Ar17, qa17, Sa17, Na17, Ha17, Ga17⟩ := id V_d1
  have hi17 := inb_of (j := (4 : Int32)) Sa17 ⟨by decide, by decide⟩
  have st17 := X0.baloadBytes hx (j := (4 : Int32)) (v := (.int (32 : Int32))) (by rw [e0]; exact Ar17.1) (State.isArrayOf_alike hZ.alike Ar17.2.1) Ar17.2.2 hi17 (Has.at Ha17 hi17 rfl) (g := (mkF m 20 #[.val (.ref d0), .val (.ref d1), .val (.int (4 : Int32))] [(.int (4 : Int32)), (.ref d1), (.int (32 : Int32))])) rfl rfl (hb hby d7_20)
  obtain ⟨cl18, Ar18, qa18, Sa18, Na18, Ha18, Ga18⟩ := id V_d0
  have st18 := X0.arraylength hx (by rw [e0]; exact Ar18.1) (State.isArrayOf_alike hZ.alike Ar18.2.1) (g := (mkF m 11 #[.val (.ref d0), .val (.ref d1), .val (.int (5 : Int32))] [(.ref d0), (.int (5 : Int32))])) rfl rfl (hb hby d7_11)
  rw [len_of Sa18 Na18] at st18
  obtain ⟨cl19, Ar19, qa19, Sa19, Na19, Ha19, Ga19⟩ := id V_d0
  have hi19 := inb_of (j := (5 : Int32)) Sa19 ⟨by decide, by decide⟩
  have st19 := X0.baloadBytes hx (j := (5 : Int32)) (v := (.int (112 : Int32))) (by rw [e0]; exact Ar19.1) (State.isArrayOf_alike hZ.alike Ar19.2.1) Ar19.2.2 hi19 (Has.at Ha19 hi19 rfl) (g := (mkF m 17 #[.val (.ref d0), .val (.ref d1), .val (.int (5 : Int32))] [(.int (5 : Int32)), (.ref d0)])) rfl rfl (hb hby d7_17)
  obtain ⟨cl20, Ar20, qa20, Sa20, Na20, Ha20, Ga20⟩ := id V_d1
  have hi20 := inb_of (j := (5 : Int32)) Sa20 ⟨by decide, by decide⟩
  have st20 := X0.baloadBytes hx (j := (5 : Int32)) (v := (.int (112 : Int32))) (by rw [e0]; exact Ar20.1) (State.isArrayOf_alike hZ.alike Ar20.2.1) Ar20.2.2 hi20 (Has.at Ha20 hi20 rfl) (g := (mkF m 20 #[.val (.ref d0), .val (.ref d1), .val (.int (5 : Int32))] [(.int (5 : Int32)), (.ref d1), (.int (112 : Int32))])) rfl rfl (hb hby d7_20)
  obtain ⟨cl21, Ar21, qa21, Sa21, Na21, Ha21, Ga21⟩ := id V_d0
  have st21 := X0.arraylength hx (by rw [e0]; exact Ar21.1) (State.isArrayOf_alike hZ.alike Ar21.2.1) (g := (mkF m 11 #[.val (.ref d0), .val (.ref d1), .val (.int (6 : Int32))] [(.ref d0), (.int (6 : Int32))])) rfl rfl (hb hby d7_11)
  rw [len_of Sa21 Na21] at st21
  obtain ⟨cl22, Ar22, qa22, Sa22, Na22, Ha22, Ga22⟩ := id V_d0
  have hi22 := inb_of (j := (6 : Int32)) Sa22 ⟨by decide, by decide⟩
  have st22 := X0.baloadBytes hx (j := (6 : Int32)) (v := (.int (97 : Int32))) (by rw [e0]; exact Ar22.1) (State.isArrayOf_alike hZ.alike Ar22.2.1) Ar22.2.2 hi22 (Has.at Ha22 hi22 rfl) (g := (mkF m 17 #[.val (.ref d0), .val (.ref d1), .val (.int (6 : Int32))] [(.int (6 : Int32)), (.ref d0)])) rfl rfl (hb hby d7_17)
  obtain ⟨cl23, Ar23, qa23, Sa23, Na23, Ha23, Ga23⟩ := id V_d1
  have hi23 := inb_of (j := (6 : Int32)) Sa23 ⟨by decide, by decide⟩
  have st23 := X0.baloadBytes hx (j := (6 : Int32)) (v := (.int (97 : Int32))) (by rw [e0]; exact Ar23.1) (State.isArrayOf_alike hZ.alike Ar23.2.1) Ar23.2.2 hi23 (Has.at Ha23 hi23 rfl) (g := (mkF m 20 #[.val (.ref d0), .val (.ref d1), .val (.int (6 : Int32))] [(.int (6 : Int32)), (.ref d1), (.int (97 : Int32))])) rfl rfl (hb hby d7_20)
  obtain ⟨cl24, Ar24, qa24, Sa24, Na24, Ha24, Ga24⟩ := id V_d0
  have st24 := X0.arraylength hx (by rw [e0]; exact Ar24.1) (State.isArrayOf_alike hZ.alike Ar24.2.1) (g := (mkF m 11 #[.val (.ref d0), .val (.ref d1), .val (.int (7 : Int32))] [(.ref d0), (.int (7 : Int32))])) rfl rfl (hb hby d7_11)
  rw [len_of Sa24 Na24] at st24
  obtain ⟨cl25, Ar25, qa25, Sa25, Na25, Ha25, Ga25⟩ := id V_d0
  have hi25 := inb_of (j := (7 : Int32)) Sa25 ⟨by decide, by decide⟩
  have st25 := X0.baloadBytes hx (j := (7 : Int32)) (v := (.int (103 : Int32))) (by rw [e0]; exact Ar25.1) (State.isArrayOf_alike hZ.alike Ar25.2.1) Ar25.2.2 hi25 (Has.at Ha25 hi25 rfl) (g := (mkF m 17 #[.val (.ref d0), .val (.ref d1), .val (.int (7 : Int32))] [(.int (7 : Int32)), (.ref d0)])) rfl rfl (hb hby d7_17)
  obtain ⟨cl26, Ar26, qa26, Sa26, Na26, Ha26, Ga26⟩ := id V_d1
  have hi26 := inb_of (j := (7 : Int32)) Sa26 ⟨by decide, by decide⟩
  have st26 := X0.baloadBytes hx (j := (7 : Int32)) (v := (.int (103 : Int32))) (by rw [e0]; exact Ar26.1) (State.isArrayOf_alike hZ.alike Ar26.2.1) Ar26.2.2 hi26 (Has.at Ha26 hi26 rfl) (g := (mkF m 20 #[.val (.ref d0), .val (.ref d1), .val (.int (7 : Int32))] [(.int (7 : Int32)), (.ref d1), (.int (103 : Int32))])) rfl rfl (hb hby d7_20)
  obtain ⟨cl27, Ar27, qa27, Sa27, Na27, Ha27, Ga27⟩ := id V_d0
  have st27 := X0.arraylength hx (by rw [e0]; exact Ar27.1) (State.isArrayOf_alike hZ.alike Ar27.2.1) (g := (mkF m 11 #[.val (.ref d0), .val (.ref d1), .val (.int (8 : Int32))] [(.ref d0), (.int (8 : Int32))])) rfl rfl (hb hby d7_11)
  rw [len_of Sa27 Na27] at st27
  obtain ⟨cl28, Ar28, qa28, Sa28, Na28, Ha28, Ga28⟩ := id V_d0
  have hi28 := inb_of (j := (8 : Int32)) Sa28 ⟨by decide, by decide⟩
  have st28 := X0.baloadBytes hx (j := (8 : Int32)) (v := (.int (101 : Int32))) (by rw [e0]; exact Ar28.1) (State.isArrayOf_alike hZ.alike Ar28.2.1) Ar28.2.2 hi28 (Has.at Ha28 hi28 rfl) (g := (mkF m 17 #[.val (.ref d0), .val (.ref d1), .val (.int (8 : Int32))] [(.int (8 : Int32)), (.ref d0)])) rfl rfl (hb hby d7_17)
  obtain ⟨cl29, Ar29, qa29, Sa29, Na29, Ha29, Ga29⟩ := id V_d1
  have hi29 := inb_of (j := (8 : Int32)) Sa29 ⟨by decide, by decide⟩
  have st29 := X0.baloadBytes hx (j := (8 : Int32)) (v := (.int (101 : Int32))) (by rw [e0]; exact Ar29.1) (State.isArrayOf_alike hZ.alike Ar29.2.1) Ar29.2.2 hi29 (Has.at Ha29 hi29 rfl) (g := (mkF m 20 #[.val (.ref d0), .val (.ref d1), .val (.int (8 : Int32))] [(.int (8 : Int32)), (.ref d1), (.int (101 : Int32))])) rfl rfl (hb hby d7_20)
  obtain ⟨cl30, Ar30, qa30, Sa30, Na30, Ha30, Ga30⟩ := id V_d0
  have st30 := X0.arraylength hx (by rw [e0]; exact Ar30.1) (State.isArrayOf_alike hZ.alike Ar30.2.1) (g := (mkF m 11 #[.val (.ref d0), .val (.ref d1), .val (.int (9 : Int32))] [(.ref d0), (.int (9 : Int32))])) rfl rfl (hb hby d7_11)
  rw [len_of Sa30 Na30] at st30
  obtain ⟨cl31, Ar31, qa31, Sa31, Na31, Ha31, Ga31⟩ := id V_d0
  have hi31 := inb_of (j := (9 : Int32)) Sa31 ⟨by decide, by decide⟩
  have st31 := X0.baloadBytes hx (j := (9 : Int32)) (v := (.int (115 : Int32))) (by rw [e0]; exact Ar31.1) (State.isArrayOf_alike hZ.alike Ar31.2.1) Ar31.2.2 hi31 (Has.at Ha31 hi31 rfl) (g := (mkF m 17 #[.val (.ref d0), .val (.ref d1), .val (.int (9 : Int32))] [(.int (9 : Int32)), (.ref d0)])) rfl rfl (hb hby d7_17)
  obtain ⟨cl32, Ar32, qa32, Sa32, Na32, Ha32, Ga32⟩ := id V_d1
  have hi32 := inb_of (j := (9 : Int32)) Sa32 ⟨by decide, by decide⟩
  have st32 := X0.baloadBytes hx (j := (9 : Int32)) (v := (.int (115 : Int32))) (by rw [e0]; exact Ar32.1) (State.isArrayOf_alike hZ.alike Ar32.2.1) Ar32.2.2 hi32 (Has.at Ha32 hi32 rfl) (g := (mkF m 20 #[.val (.ref d0), .val (.ref d1), .val (.int (9 : Int32))] [(.int (9 : Int32)), (.ref d1), (.int (115 : Int32))])) rfl rfl (hb hby d7_20)
  obtain ⟨cl33, Ar33, qa33, Sa33, Na33, Ha33, Ga33⟩ := id V_d0
  have st33 := X0.arraylength hx (by rw [e0]; exact Ar33.1) (State.isArrayOf_alike hZ.alike Ar33.2.1) (g := (mkF m 11 #[.val (.ref d0), .val (.ref d1), .val (.int (10 : Int32))] [(.ref d0), (.int (10 : Int32))])) rfl rfl (hb hby d7_11)
  rw [len_of Sa33 Na33] at st33
  obtain ⟨fs, hr, hrun, hended, hW, hsame⟩ := X0.leave (v := some (.int (1 : Int32))) (fun h => by rw [Bd.returns] at h; cases h)
  refine ⟨_, _, pre0 _ ?_, hrun, hended, _, _, rfl, ?_, ⟨_, rfl⟩, hW, hsame.mono (by decide) (by decide)⟩
  · show Steps p.tables e below (s₁.setTop (mkF m 0 #[.val (.ref d0), .val (.ref d1), .unset] [])) _
    refine XS.aloadN X0.here hx rfl (hb hby d7_0) rfl rfl ?_
    show Steps p.tables e below (s₁.setTop (mkF m 1 #[.val (.ref d0), .val (.ref d1), .unset] [(.ref d0)])) _
    refine st1 _ ?_
    show Steps p.tables e below (s₁.setTop (mkF m 2 #[.val (.ref d0), .val (.ref d1), .unset] [(.int (10 : Int32))])) _
    refine XS.aloadN X0.here hx rfl (hb hby d7_2) rfl rfl ?_
    show Steps p.tables e below (s₁.setTop (mkF m 3 #[.val (.ref d0), .val (.ref d1), .unset] [(.ref d1), (.int (10 : Int32))])) _
    refine st2 _ ?_
    show Steps p.tables e below (s₁.setTop (mkF m 4 #[.val (.ref d0), .val (.ref d1), .unset] [(.int (10 : Int32)), (.int (10 : Int32))])) _
    refine XS.icmpNo X0.here hx rfl (hb hby d7_4) rfl (teq (by decide)).2 ?_
    show Steps p.tables e below (s₁.setTop (mkF m 7 #[.val (.ref d0), .val (.ref d1), .unset] [])) _
    refine XS.iconst X0.here hx rfl (hb hby d7_7) ?_
    show Steps p.tables e below (s₁.setTop (mkF m 8 #[.val (.ref d0), .val (.ref d1), .unset] [(.int (0 : Int32))])) _
    refine XS.istoreN X0.here hx rfl (hb hby d7_8) rfl (l' := #[.val (.ref d0), .val (.ref d1), .val (.int (0 : Int32))]) rfl ?_
    show Steps p.tables e below (s₁.setTop (mkF m 9 #[.val (.ref d0), .val (.ref d1), .val (.int (0 : Int32))] [])) _
    refine XS.iloadN X0.here hx rfl (hb hby d7_9) rfl ?_
    show Steps p.tables e below (s₁.setTop (mkF m 10 #[.val (.ref d0), .val (.ref d1), .val (.int (0 : Int32))] [(.int (0 : Int32))])) _
    refine XS.aloadN X0.here hx rfl (hb hby d7_10) rfl rfl ?_
    show Steps p.tables e below (s₁.setTop (mkF m 11 #[.val (.ref d0), .val (.ref d1), .val (.int (0 : Int32))] [(.ref d0), (.int (0 : Int32))])) _
    refine st3 _ ?_
    show Steps p.tables e below (s₁.setTop (mkF m 12 #[.val (.ref d0), .val (.ref d1), .val (.int (0 : Int32))] [(.int (10 : Int32)), (.int (0 : Int32))])) _
    refine XS.icmpNo X0.here hx rfl (hb hby d7_12) rfl (tlt (by decide)).2.1 ?_
    show Steps p.tables e below (s₁.setTop (mkF m 15 #[.val (.ref d0), .val (.ref d1), .val (.int (0 : Int32))] [])) _
    refine XS.aloadN X0.here hx rfl (hb hby d7_15) rfl rfl ?_
    show Steps p.tables e below (s₁.setTop (mkF m 16 #[.val (.ref d0), .val (.ref d1), .val (.int (0 : Int32))] [(.ref d0)])) _
    refine XS.iloadN X0.here hx rfl (hb hby d7_16) rfl ?_
    show Steps p.tables e below (s₁.setTop (mkF m 17 #[.val (.ref d0), .val (.ref d1), .val (.int (0 : Int32))] [(.int (0 : Int32)), (.ref d0)])) _
    refine st4 _ ?_
    show Steps p.tables e below (s₁.setTop (mkF m 18 #[.val (.ref d0), .val (.ref d1), .val (.int (0 : Int32))] [(.int (108 : Int32))])) _
    refine XS.aloadN X0.here hx rfl (hb hby d7_18) rfl rfl ?_
    show Steps p.tables e below (s₁.setTop (mkF m 19 #[.val (.ref d0), .val (.ref d1), .val (.int (0 : Int32))] [(.ref d1), (.int (108 : Int32))])) _
    refine XS.iloadN X0.here hx rfl (hb hby d7_19) rfl ?_
    show Steps p.tables e below (s₁.setTop (mkF m 20 #[.val (.ref d0), .val (.ref d1), .val (.int (0 : Int32))] [(.int (0 : Int32)), (.ref d1), (.int (108 : Int32))])) _
    refine st5 _ ?_
    show Steps p.tables e below (s₁.setTop (mkF m 21 #[.val (.ref d0), .val (.ref d1), .val (.int (0 : Int32))] [(.int (108 : Int32)), (.int (108 : Int32))])) _
    refine XS.icmpYes X0.here hx rfl (pc0 := 21) (pc' := 26) rfl (hb hby d7_21) rfl (teq (by decide)).1 (by decide) (by decide) ?_
    show Steps p.tables e below (s₁.setTop (mkF m 26 #[.val (.ref d0), .val (.ref d1), .val (.int (0 : Int32))] [])) _
    refine XS.iinc X0.here hx rfl (hb hby d7_26) rfl (l' := #[.val (.ref d0), .val (.ref d1), .val (.int (1 : Int32))]) rfl ?_
    show Steps p.tables e below (s₁.setTop (mkF m 29 #[.val (.ref d0), .val (.ref d1), .val (.int (1 : Int32))] [])) _
    refine XS.goto X0.here hx rfl (pc0 := 29) (pc' := 9) rfl (hb hby d7_29) (by decide) (by decide) ?_
    show Steps p.tables e below (s₁.setTop (mkF m 9 #[.val (.ref d0), .val (.ref d1), .val (.int (1 : Int32))] [])) _
    refine XS.iloadN X0.here hx rfl (hb hby d7_9) rfl ?_
    show Steps p.tables e below (s₁.setTop (mkF m 10 #[.val (.ref d0), .val (.ref d1), .val (.int (1 : Int32))] [(.int (1 : Int32))])) _
    refine XS.aloadN X0.here hx rfl (hb hby d7_10) rfl rfl ?_
    show Steps p.tables e below (s₁.setTop (mkF m 11 #[.val (.ref d0), .val (.ref d1), .val (.int (1 : Int32))] [(.ref d0), (.int (1 : Int32))])) _
    refine st6 _ ?_
    show Steps p.tables e below (s₁.setTop (mkF m 12 #[.val (.ref d0), .val (.ref d1), .val (.int (1 : Int32))] [(.int (10 : Int32)), (.int (1 : Int32))])) _
    refine XS.icmpNo X0.here hx rfl (hb hby d7_12) rfl (tlt (by decide)).2.1 ?_
    show Steps p.tables e below (s₁.setTop (mkF m 15 #[.val (.ref d0), .val (.ref d1), .val (.int (1 : Int32))] [])) _
    refine XS.aloadN X0.here hx rfl (hb hby d7_15) rfl rfl ?_
    show Steps p.tables e below (s₁.setTop (mkF m 16 #[.val (.ref d0), .val (.ref d1), .val (.int (1 : Int32))] [(.ref d0)])) _
    refine XS.iloadN X0.here hx rfl (hb hby d7_16) rfl ?_
    show Steps p.tables e below (s₁.setTop (mkF m 17 #[.val (.ref d0), .val (.ref d1), .val (.int (1 : Int32))] [(.int (1 : Int32)), (.ref d0)])) _
    refine st7 _ ?_
    show Steps p.tables e below (s₁.setTop (mkF m 18 #[.val (.ref d0), .val (.ref d1), .val (.int (1 : Int32))] [(.int (105 : Int32))])) _
    refine XS.aloadN X0.here hx rfl (hb hby d7_18) rfl rfl ?_
    show Steps p.tables e below (s₁.setTop (mkF m 19 #[.val (.ref d0), .val (.ref d1), .val (.int (1 : Int32))] [(.ref d1), (.int (105 : Int32))])) _
    refine XS.iloadN X0.here hx rfl (hb hby d7_19) rfl ?_
    show Steps p.tables e below (s₁.setTop (mkF m 20 #[.val (.ref d0), .val (.ref d1), .val (.int (1 : Int32))] [(.int (1 : Int32)), (.ref d1), (.int (105 : Int32))])) _
    refine st8 _ ?_
    show Steps p.tables e below (s₁.setTop (mkF m 21 #[.val (.ref d0), .val (.ref d1), .val (.int (1 : Int32))] [(.int (105 : Int32)), (.int (105 : Int32))])) _
    refine XS.icmpYes X0.here hx rfl (pc0 := 21) (pc' := 26) rfl (hb hby d7_21) rfl (teq (by decide)).1 (by decide) (by decide) ?_
    show Steps p.tables e below (s₁.setTop (mkF m 26 #[.val (.ref d0), .val (.ref d1), .val (.int (1 : Int32))] [])) _
    refine XS.iinc X0.here hx rfl (hb hby d7_26) rfl (l' := #[.val (.ref d0), .val (.ref d1), .val (.int (2 : Int32))]) rfl ?_
    show Steps p.tables e below (s₁.setTop (mkF m 29 #[.val (.ref d0), .val (.ref d1), .val (.int (2 : Int32))] [])) _
    refine XS.goto X0.here hx rfl (pc0 := 29) (pc' := 9) rfl (hb hby d7_29) (by decide) (by decide) ?_
    show Steps p.tables e below (s₁.setTop (mkF m 9 #[.val (.ref d0), .val (.ref d1), .val (.int (2 : Int32))] [])) _
    refine XS.iloadN X0.here hx rfl (hb hby d7_9) rfl ?_
    show Steps p.tables e below (s₁.setTop (mkF m 10 #[.val (.ref d0), .val (.ref d1), .val (.int (2 : Int32))] [(.int (2 : Int32))])) _
    refine XS.aloadN X0.here hx rfl (hb hby d7_10) rfl rfl ?_
    show Steps p.tables e below (s₁.setTop (mkF m 11 #[.val (.ref d0), .val (.ref d1), .val (.int (2 : Int32))] [(.ref d0), (.int (2 : Int32))])) _
    refine st9 _ ?_
    show Steps p.tables e below (s₁.setTop (mkF m 12 #[.val (.ref d0), .val (.ref d1), .val (.int (2 : Int32))] [(.int (10 : Int32)), (.int (2 : Int32))])) _
    refine XS.icmpNo X0.here hx rfl (hb hby d7_12) rfl (tlt (by decide)).2.1 ?_
    show Steps p.tables e below (s₁.setTop (mkF m 15 #[.val (.ref d0), .val (.ref d1), .val (.int (2 : Int32))] [])) _
    refine XS.aloadN X0.here hx rfl (hb hby d7_15) rfl rfl ?_
    show Steps p.tables e below (s₁.setTop (mkF m 16 #[.val (.ref d0), .val (.ref d1), .val (.int (2 : Int32))] [(.ref d0)])) _
    refine XS.iloadN X0.here hx rfl (hb hby d7_16) rfl ?_
    show Steps p.tables e below (s₁.setTop (mkF m 17 #[.val (.ref d0), .val (.ref d1), .val (.int (2 : Int32))] [(.int (2 : Int32)), (.ref d0)])) _
    refine st10 _ ?_
    show Steps p.tables e below (s₁.setTop (mkF m 18 #[.val (.ref d0), .val (.ref d1), .val (.int (2 : Int32))] [(.int (115 : Int32))])) _
    refine XS.aloadN X0.here hx rfl (hb hby d7_18) rfl rfl ?_
    show Steps p.tables e below (s₁.setTop (mkF m 19 #[.val (.ref d0), .val (.ref d1), .val (.int (2 : Int32))] [(.ref d1), (.int (115 : Int32))])) _
    refine XS.iloadN X0.here hx rfl (hb hby d7_19) rfl ?_
    show Steps p.tables e below (s₁.setTop (mkF m 20 #[.val (.ref d0), .val (.ref d1), .val (.int (2 : Int32))] [(.int (2 : Int32)), (.ref d1), (.int (115 : Int32))])) _
    refine st11 _ ?_
    show Steps p.tables e below (s₁.setTop (mkF m 21 #[.val (.ref d0), .val (.ref d1), .val (.int (2 : Int32))] [(.int (115 : Int32)), (.int (115 : Int32))])) _
    refine XS.icmpYes X0.here hx rfl (pc0 := 21) (pc' := 26) rfl (hb hby d7_21) rfl (teq (by decide)).1 (by decide) (by decide) ?_
    show Steps p.tables e below (s₁.setTop (mkF m 26 #[.val (.ref d0), .val (.ref d1), .val (.int (2 : Int32))] [])) _
    refine XS.iinc X0.here hx rfl (hb hby d7_26) rfl (l' := #[.val (.ref d0), .val (.ref d1), .val (.int (3 : Int32))]) rfl ?_
    show Steps p.tables e below (s₁.setTop (mkF m 29 #[.val (.ref d0), .val (.ref d1), .val (.int (3 : Int32))] [])) _
    refine XS.goto X0.here hx rfl (pc0 := 29) (pc' := 9) rfl (hb hby d7_29) (by decide) (by decide) ?_
    show Steps p.tables e below (s₁.setTop (mkF m 9 #[.val (.ref d0), .val (.ref d1), .val (.int (3 : Int32))] [])) _
    refine XS.iloadN X0.here hx rfl (hb hby d7_9) rfl ?_
    show Steps p.tables e below (s₁.setTop (mkF m 10 #[.val (.ref d0), .val (.ref d1), .val (.int (3 : Int32))] [(.int (3 : Int32))])) _
    refine XS.aloadN X0.here hx rfl (hb hby d7_10) rfl rfl ?_
    show Steps p.tables e below (s₁.setTop (mkF m 11 #[.val (.ref d0), .val (.ref d1), .val (.int (3 : Int32))] [(.ref d0), (.int (3 : Int32))])) _
    refine st12 _ ?_
    show Steps p.tables e below (s₁.setTop (mkF m 12 #[.val (.ref d0), .val (.ref d1), .val (.int (3 : Int32))] [(.int (10 : Int32)), (.int (3 : Int32))])) _
    refine XS.icmpNo X0.here hx rfl (hb hby d7_12) rfl (tlt (by decide)).2.1 ?_
    show Steps p.tables e below (s₁.setTop (mkF m 15 #[.val (.ref d0), .val (.ref d1), .val (.int (3 : Int32))] [])) _
    refine XS.aloadN X0.here hx rfl (hb hby d7_15) rfl rfl ?_
    show Steps p.tables e below (s₁.setTop (mkF m 16 #[.val (.ref d0), .val (.ref d1), .val (.int (3 : Int32))] [(.ref d0)])) _
    refine XS.iloadN X0.here hx rfl (hb hby d7_16) rfl ?_
    show Steps p.tables e below (s₁.setTop (mkF m 17 #[.val (.ref d0), .val (.ref d1), .val (.int (3 : Int32))] [(.int (3 : Int32)), (.ref d0)])) _
    refine st13 _ ?_
    show Steps p.tables e below (s₁.setTop (mkF m 18 #[.val (.ref d0), .val (.ref d1), .val (.int (3 : Int32))] [(.int (116 : Int32))])) _
    refine XS.aloadN X0.here hx rfl (hb hby d7_18) rfl rfl ?_
    show Steps p.tables e below (s₁.setTop (mkF m 19 #[.val (.ref d0), .val (.ref d1), .val (.int (3 : Int32))] [(.ref d1), (.int (116 : Int32))])) _
    refine XS.iloadN X0.here hx rfl (hb hby d7_19) rfl ?_
    show Steps p.tables e below (s₁.setTop (mkF m 20 #[.val (.ref d0), .val (.ref d1), .val (.int (3 : Int32))] [(.int (3 : Int32)), (.ref d1), (.int (116 : Int32))])) _
    refine st14 _ ?_
    show Steps p.tables e below (s₁.setTop (mkF m 21 #[.val (.ref d0), .val (.ref d1), .val (.int (3 : Int32))] [(.int (116 : Int32)), (.int (116 : Int32))])) _
    refine XS.icmpYes X0.here hx rfl (pc0 := 21) (pc' := 26) rfl (hb hby d7_21) rfl (teq (by decide)).1 (by decide) (by decide) ?_
    show Steps p.tables e below (s₁.setTop (mkF m 26 #[.val (.ref d0), .val (.ref d1), .val (.int (3 : Int32))] [])) _
    refine XS.iinc X0.here hx rfl (hb hby d7_26) rfl (l' := #[.val (.ref d0), .val (.ref d1), .val (.int (4 : Int32))]) rfl ?_
    show Steps p.tables e below (s₁.setTop (mkF m 29 #[.val (.ref d0), .val (.ref d1), .val (.int (4 : Int32))] [])) _
    refine XS.goto X0.here hx rfl (pc0 := 29) (pc' := 9) rfl (hb hby d7_29) (by decide) (by decide) ?_
    show Steps p.tables e below (s₁.setTop (mkF m 9 #[.val (.ref d0), .val (.ref d1), .val (.int (4 : Int32))] [])) _
    refine XS.iloadN X0.here hx rfl (hb hby d7_9) rfl ?_
    show Steps p.tables e below (s₁.setTop (mkF m 10 #[.val (.ref d0), .val (.ref d1), .val (.int (4 : Int32))] [(.int (4 : Int32))])) _
    refine XS.aloadN X0.here hx rfl (hb hby d7_10) rfl rfl ?_
    show Steps p.tables e below (s₁.setTop (mkF m 11 #[.val (.ref d0), .val (.ref d1), .val (.int (4 : Int32))] [(.ref d0), (.int (4 : Int32))])) _
    refine st15 _ ?_
    show Steps p.tables e below (s₁.setTop (mkF m 12 #[.val (.ref d0), .val (.ref d1), .val (.int (4 : Int32))] [(.int (10 : Int32)), (.int (4 : Int32))])) _
    refine XS.icmpNo X0.here hx rfl (hb hby d7_12) rfl (tlt (by decide)).2.1 ?_
    show Steps p.tables e below (s₁.setTop (mkF m 15 #[.val (.ref d0), .val (.ref d1), .val (.int (4 : Int32))] [])) _
    refine XS.aloadN X0.here hx rfl (hb hby d7_15) rfl rfl ?_
    show Steps p.tables e below (s₁.setTop (mkF m 16 #[.val (.ref d0), .val (.ref d1), .val (.int (4 : Int32))] [(.ref d0)])) _
    refine XS.iloadN X0.here hx rfl (hb hby d7_16) rfl ?_
    show Steps p.tables e below (s₁.setTop (mkF m 17 #[.val (.ref d0), .val (.ref d1), .val (.int (4 : Int32))] [(.int (4 : Int32)), (.ref d0)])) _
    refine st16 _ ?_
    show Steps p.tables e below (s₁.setTop (mkF m 18 #[.val (.ref d0), .val (.ref d1), .val (.int (4 : Int32))] [(.int (32 : Int32))])) _
    refine XS.aloadN X0.here hx rfl (hb hby d7_18) rfl rfl ?_
    show Steps p.tables e below (s₁.setTop (mkF m 19 #[.val (.ref d0), .val (.ref d1), .val (.int (4 : Int32))] [(.ref d1), (.int (32 : Int32))])) _
    refine XS.iloadN X0.here hx rfl (hb hby d7_19) rfl ?_
    show Steps p.tables e below (s₁.setTop (mkF m 20 #[.val (.ref d0), .val (.ref d1), .val (.int (4 : Int32))] [(.int (4 : Int32)), (.ref d1), (.int (32 : Int32))])) _
    refine st17 _ ?_
    show Steps p.tables e below (s₁.setTop (mkF m 21 #[.val (.ref d0), .val (.ref d1), .val (.int (4 : Int32))] [(.int (32 : Int32)), (.int (32 : Int32))])) _
    refine XS.icmpYes X0.here hx rfl (pc0 := 21) (pc' := 26) rfl (hb hby d7_21) rfl (teq (by decide)).1 (by decide) (by decide) ?_
    show Steps p.tables e below (s₁.setTop (mkF m 26 #[.val (.ref d0), .val (.ref d1), .val (.int (4 : Int32))] [])) _
    refine XS.iinc X0.here hx rfl (hb hby d7_26) rfl (l' := #[.val (.ref d0), .val (.ref d1), .val (.int (5 : Int32))]) rfl ?_
    show Steps p.tables e below (s₁.setTop (mkF m 29 #[.val (.ref d0), .val (.ref d1), .val (.int (5 : Int32))] [])) _
    refine XS.goto X0.here hx rfl (pc0 := 29) (pc' := 9) rfl (hb hby d7_29) (by decide) (by decide) ?_
    show Steps p.tables e below (s₁.setTop (mkF m 9 #[.val (.ref d0), .val (.ref d1), .val (.int (5 : Int32))] [])) _
    refine XS.iloadN X0.here hx rfl (hb hby d7_9) rfl ?_
    show Steps p.tables e below (s₁.setTop (mkF m 10 #[.val (.ref d0), .val (.ref d1), .val (.int (5 : Int32))] [(.int (5 : Int32))])) _
    refine XS.aloadN X0.here hx rfl (hb hby d7_10) rfl rfl ?_
    show Steps p.tables e below (s₁.setTop (mkF m 11 #[.val (.ref d0), .val (.ref d1), .val (.int (5 : Int32))] [(.ref d0), (.int (5 : Int32))])) _
    refine st18 _ ?_
    show Steps p.tables e below (s₁.setTop (mkF m 12 #[.val (.ref d0), .val (.ref d1), .val (.int (5 : Int32))] [(.int (10 : Int32)), (.int (5 : Int32))])) _
    refine XS.icmpNo X0.here hx rfl (hb hby d7_12) rfl (tlt (by decide)).2.1 ?_
    show Steps p.tables e below (s₁.setTop (mkF m 15 #[.val (.ref d0), .val (.ref d1), .val (.int (5 : Int32))] [])) _
    refine XS.aloadN X0.here hx rfl (hb hby d7_15) rfl rfl ?_
    show Steps p.tables e below (s₁.setTop (mkF m 16 #[.val (.ref d0), .val (.ref d1), .val (.int (5 : Int32))] [(.ref d0)])) _
    refine XS.iloadN X0.here hx rfl (hb hby d7_16) rfl ?_
    show Steps p.tables e below (s₁.setTop (mkF m 17 #[.val (.ref d0), .val (.ref d1), .val (.int (5 : Int32))] [(.int (5 : Int32)), (.ref d0)])) _
    refine st19 _ ?_
    show Steps p.tables e below (s₁.setTop (mkF m 18 #[.val (.ref d0), .val (.ref d1), .val (.int (5 : Int32))] [(.int (112 : Int32))])) _
    refine XS.aloadN X0.here hx rfl (hb hby d7_18) rfl rfl ?_
    show Steps p.tables e below (s₁.setTop (mkF m 19 #[.val (.ref d0), .val (.ref d1), .val (.int (5 : Int32))] [(.ref d1), (.int (112 : Int32))])) _
    refine XS.iloadN X0.here hx rfl (hb hby d7_19) rfl ?_
    show Steps p.tables e below (s₁.setTop (mkF m 20 #[.val (.ref d0), .val (.ref d1), .val (.int (5 : Int32))] [(.int (5 : Int32)), (.ref d1), (.int (112 : Int32))])) _
    refine st20 _ ?_
    show Steps p.tables e below (s₁.setTop (mkF m 21 #[.val (.ref d0), .val (.ref d1), .val (.int (5 : Int32))] [(.int (112 : Int32)), (.int (112 : Int32))])) _
    refine XS.icmpYes X0.here hx rfl (pc0 := 21) (pc' := 26) rfl (hb hby d7_21) rfl (teq (by decide)).1 (by decide) (by decide) ?_
    show Steps p.tables e below (s₁.setTop (mkF m 26 #[.val (.ref d0), .val (.ref d1), .val (.int (5 : Int32))] [])) _
    refine XS.iinc X0.here hx rfl (hb hby d7_26) rfl (l' := #[.val (.ref d0), .val (.ref d1), .val (.int (6 : Int32))]) rfl ?_
    show Steps p.tables e below (s₁.setTop (mkF m 29 #[.val (.ref d0), .val (.ref d1), .val (.int (6 : Int32))] [])) _
    refine XS.goto X0.here hx rfl (pc0 := 29) (pc' := 9) rfl (hb hby d7_29) (by decide) (by decide) ?_
    show Steps p.tables e below (s₁.setTop (mkF m 9 #[.val (.ref d0), .val (.ref d1), .val (.int (6 : Int32))] [])) _
    refine XS.iloadN X0.here hx rfl (hb hby d7_9) rfl ?_
    show Steps p.tables e below (s₁.setTop (mkF m 10 #[.val (.ref d0), .val (.ref d1), .val (.int (6 : Int32))] [(.int (6 : Int32))])) _
    refine XS.aloadN X0.here hx rfl (hb hby d7_10) rfl rfl ?_
    show Steps p.tables e below (s₁.setTop (mkF m 11 #[.val (.ref d0), .val (.ref d1), .val (.int (6 : Int32))] [(.ref d0), (.int (6 : Int32))])) _
    refine st21 _ ?_
    show Steps p.tables e below (s₁.setTop (mkF m 12 #[.val (.ref d0), .val (.ref d1), .val (.int (6 : Int32))] [(.int (10 : Int32)), (.int (6 : Int32))])) _
    refine XS.icmpNo X0.here hx rfl (hb hby d7_12) rfl (tlt (by decide)).2.1 ?_
    show Steps p.tables e below (s₁.setTop (mkF m 15 #[.val (.ref d0), .val (.ref d1), .val (.int (6 : Int32))] [])) _
    refine XS.aloadN X0.here hx rfl (hb hby d7_15) rfl rfl ?_
    show Steps p.tables e below (s₁.setTop (mkF m 16 #[.val (.ref d0), .val (.ref d1), .val (.int (6 : Int32))] [(.ref d0)])) _
    refine XS.iloadN X0.here hx rfl (hb hby d7_16) rfl ?_
    show Steps p.tables e below (s₁.setTop (mkF m 17 #[.val (.ref d0), .val (.ref d1), .val (.int (6 : Int32))] [(.int (6 : Int32)), (.ref d0)])) _
    refine st22 _ ?_
    show Steps p.tables e below (s₁.setTop (mkF m 18 #[.val (.ref d0), .val (.ref d1), .val (.int (6 : Int32))] [(.int (97 : Int32))])) _
    refine XS.aloadN X0.here hx rfl (hb hby d7_18) rfl rfl ?_
    show Steps p.tables e below (s₁.setTop (mkF m 19 #[.val (.ref d0), .val (.ref d1), .val (.int (6 : Int32))] [(.ref d1), (.int (97 : Int32))])) _
    refine XS.iloadN X0.here hx rfl (hb hby d7_19) rfl ?_
    show Steps p.tables e below (s₁.setTop (mkF m 20 #[.val (.ref d0), .val (.ref d1), .val (.int (6 : Int32))] [(.int (6 : Int32)), (.ref d1), (.int (97 : Int32))])) _
    refine st23 _ ?_
    show Steps p.tables e below (s₁.setTop (mkF m 21 #[.val (.ref d0), .val (.ref d1), .val (.int (6 : Int32))] [(.int (97 : Int32)), (.int (97 : Int32))])) _
    refine XS.icmpYes X0.here hx rfl (pc0 := 21) (pc' := 26) rfl (hb hby d7_21) rfl (teq (by decide)).1 (by decide) (by decide) ?_
    show Steps p.tables e below (s₁.setTop (mkF m 26 #[.val (.ref d0), .val (.ref d1), .val (.int (6 : Int32))] [])) _
    refine XS.iinc X0.here hx rfl (hb hby d7_26) rfl (l' := #[.val (.ref d0), .val (.ref d1), .val (.int (7 : Int32))]) rfl ?_
    show Steps p.tables e below (s₁.setTop (mkF m 29 #[.val (.ref d0), .val (.ref d1), .val (.int (7 : Int32))] [])) _
    refine XS.goto X0.here hx rfl (pc0 := 29) (pc' := 9) rfl (hb hby d7_29) (by decide) (by decide) ?_
    show Steps p.tables e below (s₁.setTop (mkF m 9 #[.val (.ref d0), .val (.ref d1), .val (.int (7 : Int32))] [])) _
    refine XS.iloadN X0.here hx rfl (hb hby d7_9) rfl ?_
    show Steps p.tables e below (s₁.setTop (mkF m 10 #[.val (.ref d0), .val (.ref d1), .val (.int (7 : Int32))] [(.int (7 : Int32))])) _
    refine XS.aloadN X0.here hx rfl (hb hby d7_10) rfl rfl ?_
    show Steps p.tables e below (s₁.setTop (mkF m 11 #[.val (.ref d0), .val (.ref d1), .val (.int (7 : Int32))] [(.ref d0), (.int (7 : Int32))])) _
    refine st24 _ ?_
    show Steps p.tables e below (s₁.setTop (mkF m 12 #[.val (.ref d0), .val (.ref d1), .val (.int (7 : Int32))] [(.int (10 : Int32)), (.int (7 : Int32))])) _
    refine XS.icmpNo X0.here hx rfl (hb hby d7_12) rfl (tlt (by decide)).2.1 ?_
    show Steps p.tables e below (s₁.setTop (mkF m 15 #[.val (.ref d0), .val (.ref d1), .val (.int (7 : Int32))] [])) _
    refine XS.aloadN X0.here hx rfl (hb hby d7_15) rfl rfl ?_
    show Steps p.tables e below (s₁.setTop (mkF m 16 #[.val (.ref d0), .val (.ref d1), .val (.int (7 : Int32))] [(.ref d0)])) _
    refine XS.iloadN X0.here hx rfl (hb hby d7_16) rfl ?_
    show Steps p.tables e below (s₁.setTop (mkF m 17 #[.val (.ref d0), .val (.ref d1), .val (.int (7 : Int32))] [(.int (7 : Int32)), (.ref d0)])) _
    refine st25 _ ?_
    show Steps p.tables e below (s₁.setTop (mkF m 18 #[.val (.ref d0), .val (.ref d1), .val (.int (7 : Int32))] [(.int (103 : Int32))])) _
    refine XS.aloadN X0.here hx rfl (hb hby d7_18) rfl rfl ?_
    show Steps p.tables e below (s₁.setTop (mkF m 19 #[.val (.ref d0), .val (.ref d1), .val (.int (7 : Int32))] [(.ref d1), (.int (103 : Int32))])) _
    refine XS.iloadN X0.here hx rfl (hb hby d7_19) rfl ?_
    show Steps p.tables e below (s₁.setTop (mkF m 20 #[.val (.ref d0), .val (.ref d1), .val (.int (7 : Int32))] [(.int (7 : Int32)), (.ref d1), (.int (103 : Int32))])) _
    refine st26 _ ?_
    show Steps p.tables e below (s₁.setTop (mkF m 21 #[.val (.ref d0), .val (.ref d1), .val (.int (7 : Int32))] [(.int (103 : Int32)), (.int (103 : Int32))])) _
    refine XS.icmpYes X0.here hx rfl (pc0 := 21) (pc' := 26) rfl (hb hby d7_21) rfl (teq (by decide)).1 (by decide) (by decide) ?_
    show Steps p.tables e below (s₁.setTop (mkF m 26 #[.val (.ref d0), .val (.ref d1), .val (.int (7 : Int32))] [])) _
    refine XS.iinc X0.here hx rfl (hb hby d7_26) rfl (l' := #[.val (.ref d0), .val (.ref d1), .val (.int (8 : Int32))]) rfl ?_
    show Steps p.tables e below (s₁.setTop (mkF m 29 #[.val (.ref d0), .val (.ref d1), .val (.int (8 : Int32))] [])) _
    refine XS.goto X0.here hx rfl (pc0 := 29) (pc' := 9) rfl (hb hby d7_29) (by decide) (by decide) ?_
    show Steps p.tables e below (s₁.setTop (mkF m 9 #[.val (.ref d0), .val (.ref d1), .val (.int (8 : Int32))] [])) _
    refine XS.iloadN X0.here hx rfl (hb hby d7_9) rfl ?_
    show Steps p.tables e below (s₁.setTop (mkF m 10 #[.val (.ref d0), .val (.ref d1), .val (.int (8 : Int32))] [(.int (8 : Int32))])) _
    refine XS.aloadN X0.here hx rfl (hb hby d7_10) rfl rfl ?_
    show Steps p.tables e below (s₁.setTop (mkF m 11 #[.val (.ref d0), .val (.ref d1), .val (.int (8 : Int32))] [(.ref d0), (.int (8 : Int32))])) _
    refine st27 _ ?_
    show Steps p.tables e below (s₁.setTop (mkF m 12 #[.val (.ref d0), .val (.ref d1), .val (.int (8 : Int32))] [(.int (10 : Int32)), (.int (8 : Int32))])) _
    refine XS.icmpNo X0.here hx rfl (hb hby d7_12) rfl (tlt (by decide)).2.1 ?_
    show Steps p.tables e below (s₁.setTop (mkF m 15 #[.val (.ref d0), .val (.ref d1), .val (.int (8 : Int32))] [])) _
    refine XS.aloadN X0.here hx rfl (hb hby d7_15) rfl rfl ?_
    show Steps p.tables e below (s₁.setTop (mkF m 16 #[.val (.ref d0), .val (.ref d1), .val (.int (8 : Int32))] [(.ref d0)])) _
    refine XS.iloadN X0.here hx rfl (hb hby d7_16) rfl ?_
    show Steps p.tables e below (s₁.setTop (mkF m 17 #[.val (.ref d0), .val (.ref d1), .val (.int (8 : Int32))] [(.int (8 : Int32)), (.ref d0)])) _
    refine st28 _ ?_
    show Steps p.tables e below (s₁.setTop (mkF m 18 #[.val (.ref d0), .val (.ref d1), .val (.int (8 : Int32))] [(.int (101 : Int32))])) _
    refine XS.aloadN X0.here hx rfl (hb hby d7_18) rfl rfl ?_
    show Steps p.tables e below (s₁.setTop (mkF m 19 #[.val (.ref d0), .val (.ref d1), .val (.int (8 : Int32))] [(.ref d1), (.int (101 : Int32))])) _
    refine XS.iloadN X0.here hx rfl (hb hby d7_19) rfl ?_
    show Steps p.tables e below (s₁.setTop (mkF m 20 #[.val (.ref d0), .val (.ref d1), .val (.int (8 : Int32))] [(.int (8 : Int32)), (.ref d1), (.int (101 : Int32))])) _
    refine st29 _ ?_
    show Steps p.tables e below (s₁.setTop (mkF m 21 #[.val (.ref d0), .val (.ref d1), .val (.int (8 : Int32))] [(.int (101 : Int32)), (.int (101 : Int32))])) _
    refine XS.icmpYes X0.here hx rfl (pc0 := 21) (pc' := 26) rfl (hb hby d7_21) rfl (teq (by decide)).1 (by decide) (by decide) ?_
    show Steps p.tables e below (s₁.setTop (mkF m 26 #[.val (.ref d0), .val (.ref d1), .val (.int (8 : Int32))] [])) _
    refine XS.iinc X0.here hx rfl (hb hby d7_26) rfl (l' := #[.val (.ref d0), .val (.ref d1), .val (.int (9 : Int32))]) rfl ?_
    show Steps p.tables e below (s₁.setTop (mkF m 29 #[.val (.ref d0), .val (.ref d1), .val (.int (9 : Int32))] [])) _
    refine XS.goto X0.here hx rfl (pc0 := 29) (pc' := 9) rfl (hb hby d7_29) (by decide) (by decide) ?_
    show Steps p.tables e below (s₁.setTop (mkF m 9 #[.val (.ref d0), .val (.ref d1), .val (.int (9 : Int32))] [])) _
    refine XS.iloadN X0.here hx rfl (hb hby d7_9) rfl ?_
    show Steps p.tables e below (s₁.setTop (mkF m 10 #[.val (.ref d0), .val (.ref d1), .val (.int (9 : Int32))] [(.int (9 : Int32))])) _
    refine XS.aloadN X0.here hx rfl (hb hby d7_10) rfl rfl ?_
    show Steps p.tables e below (s₁.setTop (mkF m 11 #[.val (.ref d0), .val (.ref d1), .val (.int (9 : Int32))] [(.ref d0), (.int (9 : Int32))])) _
    refine st30 _ ?_
    show Steps p.tables e below (s₁.setTop (mkF m 12 #[.val (.ref d0), .val (.ref d1), .val (.int (9 : Int32))] [(.int (10 : Int32)), (.int (9 : Int32))])) _
    refine XS.icmpNo X0.here hx rfl (hb hby d7_12) rfl (tlt (by decide)).2.1 ?_
    show Steps p.tables e below (s₁.setTop (mkF m 15 #[.val (.ref d0), .val (.ref d1), .val (.int (9 : Int32))] [])) _
    refine XS.aloadN X0.here hx rfl (hb hby d7_15) rfl rfl ?_
    show Steps p.tables e below (s₁.setTop (mkF m 16 #[.val (.ref d0), .val (.ref d1), .val (.int (9 : Int32))] [(.ref d0)])) _
    refine XS.iloadN X0.here hx rfl (hb hby d7_16) rfl ?_
    show Steps p.tables e below (s₁.setTop (mkF m 17 #[.val (.ref d0), .val (.ref d1), .val (.int (9 : Int32))] [(.int (9 : Int32)), (.ref d0)])) _
    refine st31 _ ?_
    show Steps p.tables e below (s₁.setTop (mkF m 18 #[.val (.ref d0), .val (.ref d1), .val (.int (9 : Int32))] [(.int (115 : Int32))])) _
    refine XS.aloadN X0.here hx rfl (hb hby d7_18) rfl rfl ?_
    show Steps p.tables e below (s₁.setTop (mkF m 19 #[.val (.ref d0), .val (.ref d1), .val (.int (9 : Int32))] [(.ref d1), (.int (115 : Int32))])) _
    refine XS.iloadN X0.here hx rfl (hb hby d7_19) rfl ?_
    show Steps p.tables e below (s₁.setTop (mkF m 20 #[.val (.ref d0), .val (.ref d1), .val (.int (9 : Int32))] [(.int (9 : Int32)), (.ref d1), (.int (115 : Int32))])) _
    refine st32 _ ?_
    show Steps p.tables e below (s₁.setTop (mkF m 21 #[.val (.ref d0), .val (.ref d1), .val (.int (9 : Int32))] [(.int (115 : Int32)), (.int (115 : Int32))])) _
    refine XS.icmpYes X0.here hx rfl (pc0 := 21) (pc' := 26) rfl (hb hby d7_21) rfl (teq (by decide)).1 (by decide) (by decide) ?_
    show Steps p.tables e below (s₁.setTop (mkF m 26 #[.val (.ref d0), .val (.ref d1), .val (.int (9 : Int32))] [])) _
    refine XS.iinc X0.here hx rfl (hb hby d7_26) rfl (l' := #[.val (.ref d0), .val (.ref d1), .val (.int (10 : Int32))]) rfl ?_
    show Steps p.tables e below (s₁.setTop (mkF m 29 #[.val (.ref d0), .val (.ref d1), .val (.int (10 : Int32))] [])) _
    refine XS.goto X0.here hx rfl (pc0 := 29) (pc' := 9) rfl (hb hby d7_29) (by decide) (by decide) ?_
    show Steps p.tables e below (s₁.setTop (mkF m 9 #[.val (.ref d0), .val (.ref d1), .val (.int (10 : Int32))] [])) _
    refine XS.iloadN X0.here hx rfl (hb hby d7_9) rfl ?_
    show Steps p.tables e below (s₁.setTop (mkF m 10 #[.val (.ref d0), .val (.ref d1), .val (.int (10 : Int32))] [(.int (10 : Int32))])) _
    refine XS.aloadN X0.here hx rfl (hb hby d7_10) rfl rfl ?_
    show Steps p.tables e below (s₁.setTop (mkF m 11 #[.val (.ref d0), .val (.ref d1), .val (.int (10 : Int32))] [(.ref d0), (.int (10 : Int32))])) _
    refine st33 _ ?_
    show Steps p.tables e below (s₁.setTop (mkF m 12 #[.val (.ref d0), .val (.ref d1), .val (.int (10 : Int32))] [(.int (10 : Int32)), (.int (10 : Int32))])) _
    refine XS.icmpYes X0.here hx rfl (pc0 := 12) (pc' := 32) rfl (hb hby d7_12) rfl (flt (by decide)).2.1 (by decide) (by decide) ?_
    show Steps p.tables e below (s₁.setTop (mkF m 32 #[.val (.ref d0), .val (.ref d1), .val (.int (10 : Int32))] [])) _
    refine XS.iconst X0.here hx rfl (hb hby d7_32) ?_
    show Steps p.tables e below (s₁.setTop (mkF m 33 #[.val (.ref d0), .val (.ref d1), .val (.int (10 : Int32))] [(.int (1 : Int32))])) _
    exact retN X0 hx (t := .boolean) Bd.returns (by simp) (hb hby d7_33) hr
  · show Q7LL Z d0 d1 k0 k1 h0 n0 _ s₁.heap _
    rw [e0]
    exact ⟨rfl, N0, rfl⟩
theorem ef_7LI (m : MethodId) (d0 : Addr) (d1 : Addr) : entryFrame m #[(.ref d0), (.ref d1)] 3 = mkF m 0 #[.val (.ref d0), .val (.ref d1), .unset] [] := by first | (simp [entryFrame, mkF, argsToLocals, Value.category]; done) | rfl
def Q7LI (Z : State) (d0 : Addr) (d1 : Addr) (k0 : ClassId) (k1 : ClassId) (h0 : Heap) (n0 : Nat) (v : Option Value) (h : Heap) (L : List Loc) : Prop := v = some (.int (0 : Int32)) ∧ Fr n0 L ∧ h = h0
set_option maxRecDepth 65536 in
set_option maxHeartbeats 40000000 in
theorem rm7LI (l : Launch) (Z : State) (a0 : Array Value) (hw : ∀ d ∈ tables_1, d.before a0 Z = true) (ws : List Jvm.Cond) (d0 : Addr) (d1 : Addr) (k0 : ClassId) (k1 : ClassId) (h0 : Heap) (n0 : Nat) (Z0 : n0 ≤ h0.size) (V_d0 : Arv Z h0 d0 k0 .byte (10 : Int32) [(.int (108 : Int32)), (.int (105 : Int32)), (.int (115 : Int32)), (.int (116 : Int32)), (.int (32 : Int32)), (.int (112 : Int32)), (.int (97 : Int32)), (.int (103 : Int32)), (.int (101 : Int32)), (.int (115 : Int32))] (.int 0)) (V_d1 : Arv Z h0 d1 k1 .byte (5 : Int32) [(.int (105 : Int32)), (.int (116 : Int32)), (.int (101 : Int32)), (.int (109 : Int32)), (.int (115 : Int32))] (.int 0)) :
    MetFree l (⟨"java/lang/StringLatin1", "equals", "([B[B)Z"⟩ : MethodName) (head1 (Jvm.Cond.code (⟨"java/lang/StringLatin1", "equals", "([B[B)Z"⟩ : MethodName) jdk_43_method_13_code 3 (some .boolean) :: ws) ({ frames := 0, cells := 0, slots := 0, locals := 0 } : Room)) (fun a U => a = #[(.ref d0), (.ref d1)] ∧ Z.Warmed39 U.vm ∧ U.heap = h0) (fun _ _ _ _ _ => True) (fun _ U o U' => ∃ v L, o = .returned v ∧ Q7LI Z d0 d1 k0 k1 h0 n0 v U'.heap L ∧ FrameEnd U o U' L ({ frames := 0, cells := 0, slots := 0, locals := 0 } : Room).cells ({ frames := 0, cells := 0, slots := 0, locals := 0 } : Room).slots) := by
  refine MetFree.of_bodySF (plainFor_of_name pn_java_lang_StringLatin1) hisR ?_
  intro p e s m args below meth c s₁ Bd hml0 hP hK
  obtain ⟨rfl, hZ, hh⟩ := hP
  have hx := Bd.exec
  have hby := Bd.bytes
  have hml : c.maxLocals = 3 := hml0
  have hown : s.vm.findClass "java/lang/StringLatin1" = some m.cls := findClass_of_methodNamed Bd.named
  have hnm := (name_of_methodNamed Bd.named Bd.method).1
  have X0 : Stand p l e ({ frames := 0, cells := 0, slots := 0, locals := 0 } : Room) s m #[(.ref d0), (.ref d1)] below meth c s₁ [] 0 0 := Stand.of_body Bd
  have e0 : s₁.heap = h0 := by rw [← hh, Bd.state]; rfl
  have N0 := Fr.nil n0
  have pre0 : ∀ t, Steps p.tables e below (s₁.setTop (mkF m 0 #[.val (.ref d0), .val (.ref d1), .unset] [])) t → Steps p.tables e below (s₁.setTop (entryFrame m #[(.ref d0), (.ref d1)] 3)) t := fun t k => castTop (ef_7LI m d0 d1) k
  obtain ⟨cl1, Ar1, qa1, Sa1, Na1, Ha1, Ga1⟩ := id V_d0
  have st1 := X0.arraylength hx (by rw [e0]; exact Ar1.1) (State.isArrayOf_alike hZ.alike Ar1.2.1) (g := (mkF m 1 #[.val (.ref d0), .val (.ref d1), .unset] [(.ref d0)])) rfl rfl (hb hby d7_1)
  rw [len_of Sa1 Na1] at st1
  obtain ⟨cl2, Ar2, qa2, Sa2, Na2, Ha2, Ga2⟩ := id V_d1
  have st2 := X0.arraylength hx (by rw [e0]; exact Ar2.1) (State.isArrayOf_alike hZ.alike Ar2.2.1) (g := (mkF m 3 #[.val (.ref d0), .val (.ref d1), .unset] [(.ref d1), (.int (10 : Int32))])) rfl rfl (hb hby d7_3)
  rw [len_of Sa2 Na2] at st2
  obtain ⟨fs, hr, hrun, hended, hW, hsame⟩ := X0.leave (v := some (.int (0 : Int32))) (fun h => by rw [Bd.returns] at h; cases h)
  refine ⟨_, _, pre0 _ ?_, hrun, hended, _, _, rfl, ?_, ⟨_, rfl⟩, hW, hsame.mono (by decide) (by decide)⟩
  · show Steps p.tables e below (s₁.setTop (mkF m 0 #[.val (.ref d0), .val (.ref d1), .unset] [])) _
    refine XS.aloadN X0.here hx rfl (hb hby d7_0) rfl rfl ?_
    show Steps p.tables e below (s₁.setTop (mkF m 1 #[.val (.ref d0), .val (.ref d1), .unset] [(.ref d0)])) _
    refine st1 _ ?_
    show Steps p.tables e below (s₁.setTop (mkF m 2 #[.val (.ref d0), .val (.ref d1), .unset] [(.int (10 : Int32))])) _
    refine XS.aloadN X0.here hx rfl (hb hby d7_2) rfl rfl ?_
    show Steps p.tables e below (s₁.setTop (mkF m 3 #[.val (.ref d0), .val (.ref d1), .unset] [(.ref d1), (.int (10 : Int32))])) _
    refine st2 _ ?_
    show Steps p.tables e below (s₁.setTop (mkF m 4 #[.val (.ref d0), .val (.ref d1), .unset] [(.int (5 : Int32)), (.int (10 : Int32))])) _
    refine XS.icmpYes X0.here hx rfl (pc0 := 4) (pc' := 34) rfl (hb hby d7_4) rfl (feq (by decide)).2 (by decide) (by decide) ?_
    show Steps p.tables e below (s₁.setTop (mkF m 34 #[.val (.ref d0), .val (.ref d1), .unset] [])) _
    refine XS.iconst X0.here hx rfl (hb hby d7_34) ?_
    show Steps p.tables e below (s₁.setTop (mkF m 35 #[.val (.ref d0), .val (.ref d1), .unset] [(.int (0 : Int32))])) _
    exact retN X0 hx (t := .boolean) Bd.returns (by simp) (hb hby d7_35) hr
  · show Q7LI Z d0 d1 k0 k1 h0 n0 _ s₁.heap _
    rw [e0]
    exact ⟨rfl, N0, rfl⟩
theorem ef_7IU (m : MethodId) (d0 : Addr) (d1 : Addr) : entryFrame m #[(.ref d0), (.ref d1)] 3 = mkF m 0 #[.val (.ref d0), .val (.ref d1), .unset] [] := by first | (simp [entryFrame, mkF, argsToLocals, Value.category]; done) | rfl
def Q7IU (Z : State) (d0 : Addr) (d1 : Addr) (k0 : ClassId) (k1 : ClassId) (h0 : Heap) (n0 : Nat) (v : Option Value) (h : Heap) (L : List Loc) : Prop := v = some (.int (0 : Int32)) ∧ Fr n0 L ∧ h = h0
set_option maxRecDepth 65536 in
set_option maxHeartbeats 40000000 in
theorem rm7IU (l : Launch) (Z : State) (a0 : Array Value) (hw : ∀ d ∈ tables_1, d.before a0 Z = true) (ws : List Jvm.Cond) (d0 : Addr) (d1 : Addr) (k0 : ClassId) (k1 : ClassId) (h0 : Heap) (n0 : Nat) (Z0 : n0 ≤ h0.size) (V_d0 : Arv Z h0 d0 k0 .byte (5 : Int32) [(.int (105 : Int32)), (.int (116 : Int32)), (.int (101 : Int32)), (.int (109 : Int32)), (.int (115 : Int32))] (.int 0)) (V_d1 : Arv Z h0 d1 k1 .byte (12 : Int32) [(.int (97 : Int32)), (.int (108 : Int32)), (.int (108 : Int32)), (.int (32 : Int32)), (.int (114 : Int32)), (.int (101 : Int32)), (.int (113 : Int32)), (.int (117 : Int32)), (.int (101 : Int32)), (.int (115 : Int32)), (.int (116 : Int32)), (.int (115 : Int32))] (.int 0)) :
    MetFree l (⟨"java/lang/StringLatin1", "equals", "([B[B)Z"⟩ : MethodName) (head1 (Jvm.Cond.code (⟨"java/lang/StringLatin1", "equals", "([B[B)Z"⟩ : MethodName) jdk_43_method_13_code 3 (some .boolean) :: ws) ({ frames := 0, cells := 0, slots := 0, locals := 0 } : Room)) (fun a U => a = #[(.ref d0), (.ref d1)] ∧ Z.Warmed39 U.vm ∧ U.heap = h0) (fun _ _ _ _ _ => True) (fun _ U o U' => ∃ v L, o = .returned v ∧ Q7IU Z d0 d1 k0 k1 h0 n0 v U'.heap L ∧ FrameEnd U o U' L ({ frames := 0, cells := 0, slots := 0, locals := 0 } : Room).cells ({ frames := 0, cells := 0, slots := 0, locals := 0 } : Room).slots) := by
  refine MetFree.of_bodySF (plainFor_of_name pn_java_lang_StringLatin1) hisR ?_
  intro p e s m args below meth c s₁ Bd hml0 hP hK
  obtain ⟨rfl, hZ, hh⟩ := hP
  have hx := Bd.exec
  have hby := Bd.bytes
  have hml : c.maxLocals = 3 := hml0
  have hown : s.vm.findClass "java/lang/StringLatin1" = some m.cls := findClass_of_methodNamed Bd.named
  have hnm := (name_of_methodNamed Bd.named Bd.method).1
  have X0 : Stand p l e ({ frames := 0, cells := 0, slots := 0, locals := 0 } : Room) s m #[(.ref d0), (.ref d1)] below meth c s₁ [] 0 0 := Stand.of_body Bd
  have e0 : s₁.heap = h0 := by rw [← hh, Bd.state]; rfl
  have N0 := Fr.nil n0
  have pre0 : ∀ t, Steps p.tables e below (s₁.setTop (mkF m 0 #[.val (.ref d0), .val (.ref d1), .unset] [])) t → Steps p.tables e below (s₁.setTop (entryFrame m #[(.ref d0), (.ref d1)] 3)) t := fun t k => castTop (ef_7IU m d0 d1) k
  obtain ⟨cl1, Ar1, qa1, Sa1, Na1, Ha1, Ga1⟩ := id V_d0
  have st1 := X0.arraylength hx (by rw [e0]; exact Ar1.1) (State.isArrayOf_alike hZ.alike Ar1.2.1) (g := (mkF m 1 #[.val (.ref d0), .val (.ref d1), .unset] [(.ref d0)])) rfl rfl (hb hby d7_1)
  rw [len_of Sa1 Na1] at st1
  obtain ⟨cl2, Ar2, qa2, Sa2, Na2, Ha2, Ga2⟩ := id V_d1
  have st2 := X0.arraylength hx (by rw [e0]; exact Ar2.1) (State.isArrayOf_alike hZ.alike Ar2.2.1) (g := (mkF m 3 #[.val (.ref d0), .val (.ref d1), .unset] [(.ref d1), (.int (5 : Int32))])) rfl rfl (hb hby d7_3)
  rw [len_of Sa2 Na2] at st2
  obtain ⟨fs, hr, hrun, hended, hW, hsame⟩ := X0.leave (v := some (.int (0 : Int32))) (fun h => by rw [Bd.returns] at h; cases h)
  refine ⟨_, _, pre0 _ ?_, hrun, hended, _, _, rfl, ?_, ⟨_, rfl⟩, hW, hsame.mono (by decide) (by decide)⟩
  · show Steps p.tables e below (s₁.setTop (mkF m 0 #[.val (.ref d0), .val (.ref d1), .unset] [])) _
    refine XS.aloadN X0.here hx rfl (hb hby d7_0) rfl rfl ?_
    show Steps p.tables e below (s₁.setTop (mkF m 1 #[.val (.ref d0), .val (.ref d1), .unset] [(.ref d0)])) _
    refine st1 _ ?_
    show Steps p.tables e below (s₁.setTop (mkF m 2 #[.val (.ref d0), .val (.ref d1), .unset] [(.int (5 : Int32))])) _
    refine XS.aloadN X0.here hx rfl (hb hby d7_2) rfl rfl ?_
    show Steps p.tables e below (s₁.setTop (mkF m 3 #[.val (.ref d0), .val (.ref d1), .unset] [(.ref d1), (.int (5 : Int32))])) _
    refine st2 _ ?_
    show Steps p.tables e below (s₁.setTop (mkF m 4 #[.val (.ref d0), .val (.ref d1), .unset] [(.int (12 : Int32)), (.int (5 : Int32))])) _
    refine XS.icmpYes X0.here hx rfl (pc0 := 4) (pc' := 34) rfl (hb hby d7_4) rfl (feq (by decide)).2 (by decide) (by decide) ?_
    show Steps p.tables e below (s₁.setTop (mkF m 34 #[.val (.ref d0), .val (.ref d1), .unset] [])) _
    refine XS.iconst X0.here hx rfl (hb hby d7_34) ?_
    show Steps p.tables e below (s₁.setTop (mkF m 35 #[.val (.ref d0), .val (.ref d1), .unset] [(.int (0 : Int32))])) _
    exact retN X0 hx (t := .boolean) Bd.returns (by simp) (hb hby d7_35) hr
  · show Q7IU Z d0 d1 k0 k1 h0 n0 _ s₁.heap _
    rw [e0]
    exact ⟨rfl, N0, rfl⟩
theorem ef_7IL (m : MethodId) (d0 : Addr) (d1 : Addr) : entryFrame m #[(.ref d0), (.ref d1)] 3 = mkF m 0 #[.val (.ref d0), .val (.ref d1), .unset] [] := by first | (simp [entryFrame, mkF, argsToLocals, Value.category]; done) | rfl
def Q7IL (Z : State) (d0 : Addr) (d1 : Addr) (k0 : ClassId) (k1 : ClassId) (h0 : Heap) (n0 : Nat) (v : Option Value) (h : Heap) (L : List Loc) : Prop := v = some (.int (0 : Int32)) ∧ Fr n0 L ∧ h = h0
set_option maxRecDepth 65536 in
set_option maxHeartbeats 40000000 in
theorem rm7IL (l : Launch) (Z : State) (a0 : Array Value) (hw : ∀ d ∈ tables_1, d.before a0 Z = true) (ws : List Jvm.Cond) (d0 : Addr) (d1 : Addr) (k0 : ClassId) (k1 : ClassId) (h0 : Heap) (n0 : Nat) (Z0 : n0 ≤ h0.size) (V_d0 : Arv Z h0 d0 k0 .byte (5 : Int32) [(.int (105 : Int32)), (.int (116 : Int32)), (.int (101 : Int32)), (.int (109 : Int32)), (.int (115 : Int32))] (.int 0)) (V_d1 : Arv Z h0 d1 k1 .byte (10 : Int32) [(.int (108 : Int32)), (.int (105 : Int32)), (.int (115 : Int32)), (.int (116 : Int32)), (.int (32 : Int32)), (.int (112 : Int32)), (.int (97 : Int32)), (.int (103 : Int32)), (.int (101 : Int32)), (.int (115 : Int32))] (.int 0)) :
    MetFree l (⟨"java/lang/StringLatin1", "equals", "([B[B)Z"⟩ : MethodName) (head1 (Jvm.Cond.code (⟨"java/lang/StringLatin1", "equals", "([B[B)Z"⟩ : MethodName) jdk_43_method_13_code 3 (some .boolean) :: ws) ({ frames := 0, cells := 0, slots := 0, locals := 0 } : Room)) (fun a U => a = #[(.ref d0), (.ref d1)] ∧ Z.Warmed39 U.vm ∧ U.heap = h0) (fun _ _ _ _ _ => True) (fun _ U o U' => ∃ v L, o = .returned v ∧ Q7IL Z d0 d1 k0 k1 h0 n0 v U'.heap L ∧ FrameEnd U o U' L ({ frames := 0, cells := 0, slots := 0, locals := 0 } : Room).cells ({ frames := 0, cells := 0, slots := 0, locals := 0 } : Room).slots) := by
  refine MetFree.of_bodySF (plainFor_of_name pn_java_lang_StringLatin1) hisR ?_
  intro p e s m args below meth c s₁ Bd hml0 hP hK
  obtain ⟨rfl, hZ, hh⟩ := hP
  have hx := Bd.exec
  have hby := Bd.bytes
  have hml : c.maxLocals = 3 := hml0
  have hown : s.vm.findClass "java/lang/StringLatin1" = some m.cls := findClass_of_methodNamed Bd.named
  have hnm := (name_of_methodNamed Bd.named Bd.method).1
  have X0 : Stand p l e ({ frames := 0, cells := 0, slots := 0, locals := 0 } : Room) s m #[(.ref d0), (.ref d1)] below meth c s₁ [] 0 0 := Stand.of_body Bd
  have e0 : s₁.heap = h0 := by rw [← hh, Bd.state]; rfl
  have N0 := Fr.nil n0
  have pre0 : ∀ t, Steps p.tables e below (s₁.setTop (mkF m 0 #[.val (.ref d0), .val (.ref d1), .unset] [])) t → Steps p.tables e below (s₁.setTop (entryFrame m #[(.ref d0), (.ref d1)] 3)) t := fun t k => castTop (ef_7IL m d0 d1) k
  obtain ⟨cl1, Ar1, qa1, Sa1, Na1, Ha1, Ga1⟩ := id V_d0
  have st1 := X0.arraylength hx (by rw [e0]; exact Ar1.1) (State.isArrayOf_alike hZ.alike Ar1.2.1) (g := (mkF m 1 #[.val (.ref d0), .val (.ref d1), .unset] [(.ref d0)])) rfl rfl (hb hby d7_1)
  rw [len_of Sa1 Na1] at st1
  obtain ⟨cl2, Ar2, qa2, Sa2, Na2, Ha2, Ga2⟩ := id V_d1
  have st2 := X0.arraylength hx (by rw [e0]; exact Ar2.1) (State.isArrayOf_alike hZ.alike Ar2.2.1) (g := (mkF m 3 #[.val (.ref d0), .val (.ref d1), .unset] [(.ref d1), (.int (5 : Int32))])) rfl rfl (hb hby d7_3)
  rw [len_of Sa2 Na2] at st2
  obtain ⟨fs, hr, hrun, hended, hW, hsame⟩ := X0.leave (v := some (.int (0 : Int32))) (fun h => by rw [Bd.returns] at h; cases h)
  refine ⟨_, _, pre0 _ ?_, hrun, hended, _, _, rfl, ?_, ⟨_, rfl⟩, hW, hsame.mono (by decide) (by decide)⟩
  · show Steps p.tables e below (s₁.setTop (mkF m 0 #[.val (.ref d0), .val (.ref d1), .unset] [])) _
    refine XS.aloadN X0.here hx rfl (hb hby d7_0) rfl rfl ?_
    show Steps p.tables e below (s₁.setTop (mkF m 1 #[.val (.ref d0), .val (.ref d1), .unset] [(.ref d0)])) _
    refine st1 _ ?_
    show Steps p.tables e below (s₁.setTop (mkF m 2 #[.val (.ref d0), .val (.ref d1), .unset] [(.int (5 : Int32))])) _
    refine XS.aloadN X0.here hx rfl (hb hby d7_2) rfl rfl ?_
    show Steps p.tables e below (s₁.setTop (mkF m 3 #[.val (.ref d0), .val (.ref d1), .unset] [(.ref d1), (.int (5 : Int32))])) _
    refine st2 _ ?_
    show Steps p.tables e below (s₁.setTop (mkF m 4 #[.val (.ref d0), .val (.ref d1), .unset] [(.int (10 : Int32)), (.int (5 : Int32))])) _
    refine XS.icmpYes X0.here hx rfl (pc0 := 4) (pc' := 34) rfl (hb hby d7_4) rfl (feq (by decide)).2 (by decide) (by decide) ?_
    show Steps p.tables e below (s₁.setTop (mkF m 34 #[.val (.ref d0), .val (.ref d1), .unset] [])) _
    refine XS.iconst X0.here hx rfl (hb hby d7_34) ?_
    show Steps p.tables e below (s₁.setTop (mkF m 35 #[.val (.ref d0), .val (.ref d1), .unset] [(.int (0 : Int32))])) _
    exact retN X0 hx (t := .boolean) Bd.returns (by simp) (hb hby d7_35) hr
  · show Q7IL Z d0 d1 k0 k1 h0 n0 _ s₁.heap _
    rw [e0]
    exact ⟨rfl, N0, rfl⟩
theorem ef_7II (m : MethodId) (d0 : Addr) (d1 : Addr) : entryFrame m #[(.ref d0), (.ref d1)] 3 = mkF m 0 #[.val (.ref d0), .val (.ref d1), .unset] [] := by first | (simp [entryFrame, mkF, argsToLocals, Value.category]; done) | rfl
def Q7II (Z : State) (d0 : Addr) (d1 : Addr) (k0 : ClassId) (k1 : ClassId) (h0 : Heap) (n0 : Nat) (v : Option Value) (h : Heap) (L : List Loc) : Prop := v = some (.int (1 : Int32)) ∧ Fr n0 L ∧ h = h0
set_option maxRecDepth 65536 in
set_option maxHeartbeats 40000000 in
theorem rm7II (l : Launch) (Z : State) (a0 : Array Value) (hw : ∀ d ∈ tables_1, d.before a0 Z = true) (ws : List Jvm.Cond) (d0 : Addr) (d1 : Addr) (k0 : ClassId) (k1 : ClassId) (h0 : Heap) (n0 : Nat) (Z0 : n0 ≤ h0.size) (V_d0 : Arv Z h0 d0 k0 .byte (5 : Int32) [(.int (105 : Int32)), (.int (116 : Int32)), (.int (101 : Int32)), (.int (109 : Int32)), (.int (115 : Int32))] (.int 0)) (V_d1 : Arv Z h0 d1 k1 .byte (5 : Int32) [(.int (105 : Int32)), (.int (116 : Int32)), (.int (101 : Int32)), (.int (109 : Int32)), (.int (115 : Int32))] (.int 0)) :
    MetFree l (⟨"java/lang/StringLatin1", "equals", "([B[B)Z"⟩ : MethodName) (head1 (Jvm.Cond.code (⟨"java/lang/StringLatin1", "equals", "([B[B)Z"⟩ : MethodName) jdk_43_method_13_code 3 (some .boolean) :: ws) ({ frames := 0, cells := 0, slots := 0, locals := 0 } : Room)) (fun a U => a = #[(.ref d0), (.ref d1)] ∧ Z.Warmed39 U.vm ∧ U.heap = h0) (fun _ _ _ _ _ => True) (fun _ U o U' => ∃ v L, o = .returned v ∧ Q7II Z d0 d1 k0 k1 h0 n0 v U'.heap L ∧ FrameEnd U o U' L ({ frames := 0, cells := 0, slots := 0, locals := 0 } : Room).cells ({ frames := 0, cells := 0, slots := 0, locals := 0 } : Room).slots) := by
  refine MetFree.of_bodySF (plainFor_of_name pn_java_lang_StringLatin1) hisR ?_
  intro p e s m args below meth c s₁ Bd hml0 hP hK
  obtain ⟨rfl, hZ, hh⟩ := hP
  have hx := Bd.exec
  have hby := Bd.bytes
  have hml : c.maxLocals = 3 := hml0
  have hown : s.vm.findClass "java/lang/StringLatin1" = some m.cls := findClass_of_methodNamed Bd.named
  have hnm := (name_of_methodNamed Bd.named Bd.method).1
  have X0 : Stand p l e ({ frames := 0, cells := 0, slots := 0, locals := 0 } : Room) s m #[(.ref d0), (.ref d1)] below meth c s₁ [] 0 0 := Stand.of_body Bd
  have e0 : s₁.heap = h0 := by rw [← hh, Bd.state]; rfl
  have N0 := Fr.nil n0
  have pre0 : ∀ t, Steps p.tables e below (s₁.setTop (mkF m 0 #[.val (.ref d0), .val (.ref d1), .unset] [])) t → Steps p.tables e below (s₁.setTop (entryFrame m #[(.ref d0), (.ref d1)] 3)) t := fun t k => castTop (ef_7II m d0 d1) k
  obtain ⟨cl1, Ar1, qa1, Sa1, Na1, Ha1, Ga1⟩ := id V_d0
  have st1 := X0.arraylength hx (by rw [e0]; exact Ar1.1) (State.isArrayOf_alike hZ.alike Ar1.2.1) (g := (mkF m 1 #[.val (.ref d0), .val (.ref d1), .unset] [(.ref d0)])) rfl rfl (hb hby d7_1)
  rw [len_of Sa1 Na1] at st1
  obtain ⟨cl2, Ar2, qa2, Sa2, Na2, Ha2, Ga2⟩ := id V_d1
  have st2 := X0.arraylength hx (by rw [e0]; exact Ar2.1) (State.isArrayOf_alike hZ.alike Ar2.2.1) (g := (mkF m 3 #[.val (.ref d0), .val (.ref d1), .unset] [(.ref d1), (.int (5 : Int32))])) rfl rfl (hb hby d7_3)
  rw [len_of Sa2 Na2] at st2
  obtain ⟨cl3, Ar3, qa3, Sa3, Na3, Ha3, Ga3⟩ := id V_d0
  have st3 := X0.arraylength hx (by rw [e0]; exact Ar3.1) (State.isArrayOf_alike hZ.alike Ar3.2.1) (g := (mkF m 11 #[.val (.ref d0), .val (.ref d1), .val (.int (0 : Int32))] [(.ref d0), (.int (0 : Int32))])) rfl rfl (hb hby d7_11)
  rw [len_of Sa3 Na3] at st3
  obtain ⟨cl4, Ar4, qa4, Sa4, Na4, Ha4, Ga4⟩ := id V_d0
  have hi4 := inb_of (j := (0 : Int32)) Sa4 ⟨by decide, by decide⟩
  have st4 := X0.baloadBytes hx (j := (0 : Int32)) (v := (.int (105 : Int32))) (by rw [e0]; exact Ar4.1) (State.isArrayOf_alike hZ.alike Ar4.2.1) Ar4.2.2 hi4 (Has.at Ha4 hi4 rfl) (g := (mkF m 17 #[.val (.ref d0), .val (.ref d1), .val (.int (0 : Int32))] [(.int (0 : Int32)), (.ref d0)])) rfl rfl (hb hby d7_17)
  obtain ⟨cl5, Ar5, qa5, Sa5, Na5, Ha5, Ga5⟩ := id V_d1
  have hi5 := inb_of (j := (0 : Int32)) Sa5 ⟨by decide, by decide⟩
  have st5 := X0.baloadBytes hx (j := (0 : Int32)) (v := (.int (105 : Int32))) (by rw [e0]; exact Ar5.1) (State.isArrayOf_alike hZ.alike Ar5.2.1) Ar5.2.2 hi5 (Has.at Ha5 hi5 rfl) (g := (mkF m 20 #[.val (.ref d0), .val (.ref d1), .val (.int (0 : Int32))] [(.int (0 : Int32)), (.ref d1), (.int (105 : Int32))])) rfl rfl (hb hby d7_20)
  obtain ⟨cl6, Ar6, qa6, Sa6, Na6, Ha6, Ga6⟩ := id V_d0
  have st6 := X0.arraylength hx (by rw [e0]; exact Ar6.1) (State.isArrayOf_alike hZ.alike Ar6.2.1) (g := (mkF m 11 #[.val (.ref d0), .val (.ref d1), .val (.int (1 : Int32))] [(.ref d0), (.int (1 : Int32))])) rfl rfl (hb hby d7_11)
  rw [len_of Sa6 Na6] at st6
  obtain ⟨cl7, Ar7, qa7, Sa7, Na7, Ha7, Ga7⟩ := id V_d0
  have hi7 := inb_of (j := (1 : Int32)) Sa7 ⟨by decide, by decide⟩
  have st7 := X0.baloadBytes hx (j := (1 : Int32)) (v := (.int (116 : Int32))) (by rw [e0]; exact Ar7.1) (State.isArrayOf_alike hZ.alike Ar7.2.1) Ar7.2.2 hi7 (Has.at Ha7 hi7 rfl) (g := (mkF m 17 #[.val (.ref d0), .val (.ref d1), .val (.int (1 : Int32))] [(.int (1 : Int32)), (.ref d0)])) rfl rfl (hb hby d7_17)
  obtain ⟨cl8, Ar8, qa8, Sa8, Na8, Ha8, Ga8⟩ := id V_d1
  have hi8 := inb_of (j := (1 : Int32)) Sa8 ⟨by decide, by decide⟩
  have st8 := X0.baloadBytes hx (j := (1 : Int32)) (v := (.int (116 : Int32))) (by rw [e0]; exact Ar8.1) (State.isArrayOf_alike hZ.alike Ar8.2.1) Ar8.2.2 hi8 (Has.at Ha8 hi8 rfl) (g := (mkF m 20 #[.val (.ref d0), .val (.ref d1), .val (.int (1 : Int32))] [(.int (1 : Int32)), (.ref d1), (.int (116 : Int32))])) rfl rfl (hb hby d7_20)
  obtain ⟨cl9, Ar9, qa9, Sa9, Na9, Ha9, Ga9⟩ := id V_d0
  have st9 := X0.arraylength hx (by rw [e0]; exact Ar9.1) (State.isArrayOf_alike hZ.alike Ar9.2.1) (g := (mkF m 11 #[.val (.ref d0), .val (.ref d1), .val (.int (2 : Int32))] [(.ref d0), (.int (2 : Int32))])) rfl rfl (hb hby d7_11)
  rw [len_of Sa9 Na9] at st9
  obtain ⟨cl10, Ar10, qa10, Sa10, Na10, Ha10, Ga10⟩ := id V_d0
  have hi10 := inb_of (j := (2 : Int32)) Sa10 ⟨by decide, by decide⟩
  have st10 := X0.baloadBytes hx (j := (2 : Int32)) (v := (.int (101 : Int32))) (by rw [e0]; exact Ar10.1) (State.isArrayOf_alike hZ.alike Ar10.2.1) Ar10.2.2 hi10 (Has.at Ha10 hi10 rfl) (g := (mkF m 17 #[.val (.ref d0), .val (.ref d1), .val (.int (2 : Int32))] [(.int (2 : Int32)), (.ref d0)])) rfl rfl (hb hby d7_17)
  obtain ⟨cl11, Ar11, qa11, Sa11, Na11, Ha11, Ga11⟩ := id V_d1
  have hi11 := inb_of (j := (2 : Int32)) Sa11 ⟨by decide, by decide⟩
  have st11 := X0.baloadBytes hx (j := (2 : Int32)) (v := (.int (101 : Int32))) (by rw [e0]; exact Ar11.1) (State.isArrayOf_alike hZ.alike Ar11.2.1) Ar11.2.2 hi11 (Has.at Ha11 hi11 rfl) (g := (mkF m 20 #[.val (.ref d0), .val (.ref d1), .val (.int (2 : Int32))] [(.int (2 : Int32)), (.ref d1), (.int (101 : Int32))])) rfl rfl (hb hby d7_20)
  obtain ⟨cl12, Ar12, qa12, Sa12, Na12, Ha12, Ga12⟩ := id V_d0
  have st12 := X0.arraylength hx (by rw [e0]; exact Ar12.1) (State.isArrayOf_alike hZ.alike Ar12.2.1) (g := (mkF m 11 #[.val (.ref d0), .val (.ref d1), .val (.int (3 : Int32))] [(.ref d0), (.int (3 : Int32))])) rfl rfl (hb hby d7_11)
  rw [len_of Sa12 Na12] at st12
  obtain ⟨cl13, Ar13, qa13, Sa13, Na13, Ha13, Ga13⟩ := id V_d0
  have hi13 := inb_of (j := (3 : Int32)) Sa13 ⟨by decide, by decide⟩
  have st13 := X0.baloadBytes hx (j := (3 : Int32)) (v := (.int (109 : Int32))) (by rw [e0]; exact Ar13.1) (State.isArrayOf_alike hZ.alike Ar13.2.1) Ar13.2.2 hi13 (Has.at Ha13 hi13 rfl) (g := (mkF m 17 #[.val (.ref d0), .val (.ref d1), .val (.int (3 : Int32))] [(.int (3 : Int32)), (.ref d0)])) rfl rfl (hb hby d7_17)
  obtain ⟨cl14, Ar14, qa14, Sa14, Na14, Ha14, Ga14⟩ := id V_d1
  have hi14 := inb_of (j := (3 : Int32)) Sa14 ⟨by decide, by decide⟩
  have st14 := X0.baloadBytes hx (j := (3 : Int32)) (v := (.int (109 : Int32))) (by rw [e0]; exact Ar14.1) (State.isArrayOf_alike hZ.alike Ar14.2.1) Ar14.2.2 hi14 (Has.at Ha14 hi14 rfl) (g := (mkF m 20 #[.val (.ref d0), .val (.ref d1), .val (.int (3 : Int32))] [(.int (3 : Int32)), (.ref d1), (.int (109 : Int32))])) rfl rfl (hb hby d7_20)
  obtain ⟨cl15, Ar15, qa15, Sa15, Na15, Ha15, Ga15⟩ := id V_d0
  have st15 := X0.arraylength hx (by rw [e0]; exact Ar15.1) (State.isArrayOf_alike hZ.alike Ar15.2.1) (g := (mkF m 11 #[.val (.ref d0), .val (.ref d1), .val (.int (4 : Int32))] [(.ref d0), (.int (4 : Int32))])) rfl rfl (hb hby d7_11)
  rw [len_of Sa15 Na15] at st15
  obtain ⟨cl16, Ar16, qa16, Sa16, Na16, Ha16, Ga16⟩ := id V_d0
  have hi16 := inb_of (j := (4 : Int32)) Sa16 ⟨by decide, by decide⟩
  have st16 := X0.baloadBytes hx (j := (4 : Int32)) (v := (.int (115 : Int32))) (by rw [e0]; exact Ar16.1) (State.isArrayOf_alike hZ.alike Ar16.2.1) Ar16.2.2 hi16 (Has.at Ha16 hi16 rfl) (g := (mkF m 17 #[.val (.ref d0), .val (.ref d1), .val (.int (4 : Int32))] [(.int (4 : Int32)), (.ref d0)])) rfl rfl (hb hby d7_17)
  obtain ⟨cl17, Ar17, qa17, Sa17, Na17, Ha17, Ga17⟩ := id V_d1
  have hi17 := inb_of (j := (4 : Int32)) Sa17 ⟨by decide, by decide⟩
  have st17 := X0.baloadBytes hx (j := (4 : Int32)) (v := (.int (115 : Int32))) (by rw [e0]; exact Ar17.1) (State.isArrayOf_alike hZ.alike Ar17.2.1) Ar17.2.2 hi17 (Has.at Ha17 hi17 rfl) (g := (mkF m 20 #[.val (.ref d0), .val (.ref d1), .val (.int (4 : Int32))] [(.int (4 : Int32)), (.ref d1), (.int (115 : Int32))])) rfl rfl (hb hby d7_20)
  obtain ⟨cl18, Ar18, qa18, Sa18, Na18, Ha18, Ga18⟩ := id V_d0
  have st18 := X0.arraylength hx (by rw [e0]; exact Ar18.1) (State.isArrayOf_alike hZ.alike Ar18.2.1) (g := (mkF m 11 #[.val (.ref d0), .val (.ref d1), .val (.int (5 : Int32))] [(.ref d0), (.int (5 : Int32))])) rfl rfl (hb hby d7_11)
  rw [len_of Sa18 Na18] at st18
  obtain ⟨fs, hr, hrun, hended, hW, hsame⟩ := X0.leave (v := some (.int (1 : Int32))) (fun h => by rw [Bd.returns] at h; cases h)
  refine ⟨_, _, pre0 _ ?_, hrun, hended, _, _, rfl, ?_, ⟨_, rfl⟩, hW, hsame.mono (by decide) (by decide)⟩
  · show Steps p.tables e below (s₁.setTop (mkF m 0 #[.val (.ref d0), .val (.ref d1), .unset] [])) _
    refine XS.aloadN X0.here hx rfl (hb hby d7_0) rfl rfl ?_
    show Steps p.tables e below (s₁.setTop (mkF m 1 #[.val (.ref d0), .val (.ref d1), .unset] [(.ref d0)])) _
    refine st1 _ ?_
    show Steps p.tables e below (s₁.setTop (mkF m 2 #[.val (.ref d0), .val (.ref d1), .unset] [(.int (5 : Int32))])) _
    refine XS.aloadN X0.here hx rfl (hb hby d7_2) rfl rfl ?_
    show Steps p.tables e below (s₁.setTop (mkF m 3 #[.val (.ref d0), .val (.ref d1), .unset] [(.ref d1), (.int (5 : Int32))])) _
    refine st2 _ ?_
    show Steps p.tables e below (s₁.setTop (mkF m 4 #[.val (.ref d0), .val (.ref d1), .unset] [(.int (5 : Int32)), (.int (5 : Int32))])) _
    refine XS.icmpNo X0.here hx rfl (hb hby d7_4) rfl (teq (by decide)).2 ?_
    show Steps p.tables e below (s₁.setTop (mkF m 7 #[.val (.ref d0), .val (.ref d1), .unset] [])) _
    refine XS.iconst X0.here hx rfl (hb hby d7_7) ?_
    show Steps p.tables e below (s₁.setTop (mkF m 8 #[.val (.ref d0), .val (.ref d1), .unset] [(.int (0 : Int32))])) _
    refine XS.istoreN X0.here hx rfl (hb hby d7_8) rfl (l' := #[.val (.ref d0), .val (.ref d1), .val (.int (0 : Int32))]) rfl ?_
    show Steps p.tables e below (s₁.setTop (mkF m 9 #[.val (.ref d0), .val (.ref d1), .val (.int (0 : Int32))] [])) _
    refine XS.iloadN X0.here hx rfl (hb hby d7_9) rfl ?_
    show Steps p.tables e below (s₁.setTop (mkF m 10 #[.val (.ref d0), .val (.ref d1), .val (.int (0 : Int32))] [(.int (0 : Int32))])) _
    refine XS.aloadN X0.here hx rfl (hb hby d7_10) rfl rfl ?_
    show Steps p.tables e below (s₁.setTop (mkF m 11 #[.val (.ref d0), .val (.ref d1), .val (.int (0 : Int32))] [(.ref d0), (.int (0 : Int32))])) _
    refine st3 _ ?_
    show Steps p.tables e below (s₁.setTop (mkF m 12 #[.val (.ref d0), .val (.ref d1), .val (.int (0 : Int32))] [(.int (5 : Int32)), (.int (0 : Int32))])) _
    refine XS.icmpNo X0.here hx rfl (hb hby d7_12) rfl (tlt (by decide)).2.1 ?_
    show Steps p.tables e below (s₁.setTop (mkF m 15 #[.val (.ref d0), .val (.ref d1), .val (.int (0 : Int32))] [])) _
    refine XS.aloadN X0.here hx rfl (hb hby d7_15) rfl rfl ?_
    show Steps p.tables e below (s₁.setTop (mkF m 16 #[.val (.ref d0), .val (.ref d1), .val (.int (0 : Int32))] [(.ref d0)])) _
    refine XS.iloadN X0.here hx rfl (hb hby d7_16) rfl ?_
    show Steps p.tables e below (s₁.setTop (mkF m 17 #[.val (.ref d0), .val (.ref d1), .val (.int (0 : Int32))] [(.int (0 : Int32)), (.ref d0)])) _
    refine st4 _ ?_
    show Steps p.tables e below (s₁.setTop (mkF m 18 #[.val (.ref d0), .val (.ref d1), .val (.int (0 : Int32))] [(.int (105 : Int32))])) _
    refine XS.aloadN X0.here hx rfl (hb hby d7_18) rfl rfl ?_
    show Steps p.tables e below (s₁.setTop (mkF m 19 #[.val (.ref d0), .val (.ref d1), .val (.int (0 : Int32))] [(.ref d1), (.int (105 : Int32))])) _
    refine XS.iloadN X0.here hx rfl (hb hby d7_19) rfl ?_
    show Steps p.tables e below (s₁.setTop (mkF m 20 #[.val (.ref d0), .val (.ref d1), .val (.int (0 : Int32))] [(.int (0 : Int32)), (.ref d1), (.int (105 : Int32))])) _
    refine st5 _ ?_
    show Steps p.tables e below (s₁.setTop (mkF m 21 #[.val (.ref d0), .val (.ref d1), .val (.int (0 : Int32))] [(.int (105 : Int32)), (.int (105 : Int32))])) _
    refine XS.icmpYes X0.here hx rfl (pc0 := 21) (pc' := 26) rfl (hb hby d7_21) rfl (teq (by decide)).1 (by decide) (by decide) ?_
    show Steps p.tables e below (s₁.setTop (mkF m 26 #[.val (.ref d0), .val (.ref d1), .val (.int (0 : Int32))] [])) _
    refine XS.iinc X0.here hx rfl (hb hby d7_26) rfl (l' := #[.val (.ref d0), .val (.ref d1), .val (.int (1 : Int32))]) rfl ?_
    show Steps p.tables e below (s₁.setTop (mkF m 29 #[.val (.ref d0), .val (.ref d1), .val (.int (1 : Int32))] [])) _
    refine XS.goto X0.here hx rfl (pc0 := 29) (pc' := 9) rfl (hb hby d7_29) (by decide) (by decide) ?_
    show Steps p.tables e below (s₁.setTop (mkF m 9 #[.val (.ref d0), .val (.ref d1), .val (.int (1 : Int32))] [])) _
    refine XS.iloadN X0.here hx rfl (hb hby d7_9) rfl ?_
    show Steps p.tables e below (s₁.setTop (mkF m 10 #[.val (.ref d0), .val (.ref d1), .val (.int (1 : Int32))] [(.int (1 : Int32))])) _
    refine XS.aloadN X0.here hx rfl (hb hby d7_10) rfl rfl ?_
    show Steps p.tables e below (s₁.setTop (mkF m 11 #[.val (.ref d0), .val (.ref d1), .val (.int (1 : Int32))] [(.ref d0), (.int (1 : Int32))])) _
    refine st6 _ ?_
    show Steps p.tables e below (s₁.setTop (mkF m 12 #[.val (.ref d0), .val (.ref d1), .val (.int (1 : Int32))] [(.int (5 : Int32)), (.int (1 : Int32))])) _
    refine XS.icmpNo X0.here hx rfl (hb hby d7_12) rfl (tlt (by decide)).2.1 ?_
    show Steps p.tables e below (s₁.setTop (mkF m 15 #[.val (.ref d0), .val (.ref d1), .val (.int (1 : Int32))] [])) _
    refine XS.aloadN X0.here hx rfl (hb hby d7_15) rfl rfl ?_
    show Steps p.tables e below (s₁.setTop (mkF m 16 #[.val (.ref d0), .val (.ref d1), .val (.int (1 : Int32))] [(.ref d0)])) _
    refine XS.iloadN X0.here hx rfl (hb hby d7_16) rfl ?_
    show Steps p.tables e below (s₁.setTop (mkF m 17 #[.val (.ref d0), .val (.ref d1), .val (.int (1 : Int32))] [(.int (1 : Int32)), (.ref d0)])) _
    refine st7 _ ?_
    show Steps p.tables e below (s₁.setTop (mkF m 18 #[.val (.ref d0), .val (.ref d1), .val (.int (1 : Int32))] [(.int (116 : Int32))])) _
    refine XS.aloadN X0.here hx rfl (hb hby d7_18) rfl rfl ?_
    show Steps p.tables e below (s₁.setTop (mkF m 19 #[.val (.ref d0), .val (.ref d1), .val (.int (1 : Int32))] [(.ref d1), (.int (116 : Int32))])) _
    refine XS.iloadN X0.here hx rfl (hb hby d7_19) rfl ?_
    show Steps p.tables e below (s₁.setTop (mkF m 20 #[.val (.ref d0), .val (.ref d1), .val (.int (1 : Int32))] [(.int (1 : Int32)), (.ref d1), (.int (116 : Int32))])) _
    refine st8 _ ?_
    show Steps p.tables e below (s₁.setTop (mkF m 21 #[.val (.ref d0), .val (.ref d1), .val (.int (1 : Int32))] [(.int (116 : Int32)), (.int (116 : Int32))])) _
    refine XS.icmpYes X0.here hx rfl (pc0 := 21) (pc' := 26) rfl (hb hby d7_21) rfl (teq (by decide)).1 (by decide) (by decide) ?_
    show Steps p.tables e below (s₁.setTop (mkF m 26 #[.val (.ref d0), .val (.ref d1), .val (.int (1 : Int32))] [])) _
    refine XS.iinc X0.here hx rfl (hb hby d7_26) rfl (l' := #[.val (.ref d0), .val (.ref d1), .val (.int (2 : Int32))]) rfl ?_
    show Steps p.tables e below (s₁.setTop (mkF m 29 #[.val (.ref d0), .val (.ref d1), .val (.int (2 : Int32))] [])) _
    refine XS.goto X0.here hx rfl (pc0 := 29) (pc' := 9) rfl (hb hby d7_29) (by decide) (by decide) ?_
    show Steps p.tables e below (s₁.setTop (mkF m 9 #[.val (.ref d0), .val (.ref d1), .val (.int (2 : Int32))] [])) _
    refine XS.iloadN X0.here hx rfl (hb hby d7_9) rfl ?_
    show Steps p.tables e below (s₁.setTop (mkF m 10 #[.val (.ref d0), .val (.ref d1), .val (.int (2 : Int32))] [(.int (2 : Int32))])) _
    refine XS.aloadN X0.here hx rfl (hb hby d7_10) rfl rfl ?_
    show Steps p.tables e below (s₁.setTop (mkF m 11 #[.val (.ref d0), .val (.ref d1), .val (.int (2 : Int32))] [(.ref d0), (.int (2 : Int32))])) _
    refine st9 _ ?_
    show Steps p.tables e below (s₁.setTop (mkF m 12 #[.val (.ref d0), .val (.ref d1), .val (.int (2 : Int32))] [(.int (5 : Int32)), (.int (2 : Int32))])) _
    refine XS.icmpNo X0.here hx rfl (hb hby d7_12) rfl (tlt (by decide)).2.1 ?_
    show Steps p.tables e below (s₁.setTop (mkF m 15 #[.val (.ref d0), .val (.ref d1), .val (.int (2 : Int32))] [])) _
    refine XS.aloadN X0.here hx rfl (hb hby d7_15) rfl rfl ?_
    show Steps p.tables e below (s₁.setTop (mkF m 16 #[.val (.ref d0), .val (.ref d1), .val (.int (2 : Int32))] [(.ref d0)])) _
    refine XS.iloadN X0.here hx rfl (hb hby d7_16) rfl ?_
    show Steps p.tables e below (s₁.setTop (mkF m 17 #[.val (.ref d0), .val (.ref d1), .val (.int (2 : Int32))] [(.int (2 : Int32)), (.ref d0)])) _
    refine st10 _ ?_
    show Steps p.tables e below (s₁.setTop (mkF m 18 #[.val (.ref d0), .val (.ref d1), .val (.int (2 : Int32))] [(.int (101 : Int32))])) _
    refine XS.aloadN X0.here hx rfl (hb hby d7_18) rfl rfl ?_
    show Steps p.tables e below (s₁.setTop (mkF m 19 #[.val (.ref d0), .val (.ref d1), .val (.int (2 : Int32))] [(.ref d1), (.int (101 : Int32))])) _
    refine XS.iloadN X0.here hx rfl (hb hby d7_19) rfl ?_
    show Steps p.tables e below (s₁.setTop (mkF m 20 #[.val (.ref d0), .val (.ref d1), .val (.int (2 : Int32))] [(.int (2 : Int32)), (.ref d1), (.int (101 : Int32))])) _
    refine st11 _ ?_
    show Steps p.tables e below (s₁.setTop (mkF m 21 #[.val (.ref d0), .val (.ref d1), .val (.int (2 : Int32))] [(.int (101 : Int32)), (.int (101 : Int32))])) _
    refine XS.icmpYes X0.here hx rfl (pc0 := 21) (pc' := 26) rfl (hb hby d7_21) rfl (teq (by decide)).1 (by decide) (by decide) ?_
    show Steps p.tables e below (s₁.setTop (mkF m 26 #[.val (.ref d0), .val (.ref d1), .val (.int (2 : Int32))] [])) _
    refine XS.iinc X0.here hx rfl (hb hby d7_26) rfl (l' := #[.val (.ref d0), .val (.ref d1), .val (.int (3 : Int32))]) rfl ?_
    show Steps p.tables e below (s₁.setTop (mkF m 29 #[.val (.ref d0), .val (.ref d1), .val (.int (3 : Int32))] [])) _
    refine XS.goto X0.here hx rfl (pc0 := 29) (pc' := 9) rfl (hb hby d7_29) (by decide) (by decide) ?_
    show Steps p.tables e below (s₁.setTop (mkF m 9 #[.val (.ref d0), .val (.ref d1), .val (.int (3 : Int32))] [])) _
    refine XS.iloadN X0.here hx rfl (hb hby d7_9) rfl ?_
    show Steps p.tables e below (s₁.setTop (mkF m 10 #[.val (.ref d0), .val (.ref d1), .val (.int (3 : Int32))] [(.int (3 : Int32))])) _
    refine XS.aloadN X0.here hx rfl (hb hby d7_10) rfl rfl ?_
    show Steps p.tables e below (s₁.setTop (mkF m 11 #[.val (.ref d0), .val (.ref d1), .val (.int (3 : Int32))] [(.ref d0), (.int (3 : Int32))])) _
    refine st12 _ ?_
    show Steps p.tables e below (s₁.setTop (mkF m 12 #[.val (.ref d0), .val (.ref d1), .val (.int (3 : Int32))] [(.int (5 : Int32)), (.int (3 : Int32))])) _
    refine XS.icmpNo X0.here hx rfl (hb hby d7_12) rfl (tlt (by decide)).2.1 ?_
    show Steps p.tables e below (s₁.setTop (mkF m 15 #[.val (.ref d0), .val (.ref d1), .val (.int (3 : Int32))] [])) _
    refine XS.aloadN X0.here hx rfl (hb hby d7_15) rfl rfl ?_
    show Steps p.tables e below (s₁.setTop (mkF m 16 #[.val (.ref d0), .val (.ref d1), .val (.int (3 : Int32))] [(.ref d0)])) _
    refine XS.iloadN X0.here hx rfl (hb hby d7_16) rfl ?_
    show Steps p.tables e below (s₁.setTop (mkF m 17 #[.val (.ref d0), .val (.ref d1), .val (.int (3 : Int32))] [(.int (3 : Int32)), (.ref d0)])) _
    refine st13 _ ?_
    show Steps p.tables e below (s₁.setTop (mkF m 18 #[.val (.ref d0), .val (.ref d1), .val (.int (3 : Int32))] [(.int (109 : Int32))])) _
    refine XS.aloadN X0.here hx rfl (hb hby d7_18) rfl rfl ?_
    show Steps p.tables e below (s₁.setTop (mkF m 19 #[.val (.ref d0), .val (.ref d1), .val (.int (3 : Int32))] [(.ref d1), (.int (109 : Int32))])) _
    refine XS.iloadN X0.here hx rfl (hb hby d7_19) rfl ?_
    show Steps p.tables e below (s₁.setTop (mkF m 20 #[.val (.ref d0), .val (.ref d1), .val (.int (3 : Int32))] [(.int (3 : Int32)), (.ref d1), (.int (109 : Int32))])) _
    refine st14 _ ?_
    show Steps p.tables e below (s₁.setTop (mkF m 21 #[.val (.ref d0), .val (.ref d1), .val (.int (3 : Int32))] [(.int (109 : Int32)), (.int (109 : Int32))])) _
    refine XS.icmpYes X0.here hx rfl (pc0 := 21) (pc' := 26) rfl (hb hby d7_21) rfl (teq (by decide)).1 (by decide) (by decide) ?_
    show Steps p.tables e below (s₁.setTop (mkF m 26 #[.val (.ref d0), .val (.ref d1), .val (.int (3 : Int32))] [])) _
    refine XS.iinc X0.here hx rfl (hb hby d7_26) rfl (l' := #[.val (.ref d0), .val (.ref d1), .val (.int (4 : Int32))]) rfl ?_
    show Steps p.tables e below (s₁.setTop (mkF m 29 #[.val (.ref d0), .val (.ref d1), .val (.int (4 : Int32))] [])) _
    refine XS.goto X0.here hx rfl (pc0 := 29) (pc' := 9) rfl (hb hby d7_29) (by decide) (by decide) ?_
    show Steps p.tables e below (s₁.setTop (mkF m 9 #[.val (.ref d0), .val (.ref d1), .val (.int (4 : Int32))] [])) _
    refine XS.iloadN X0.here hx rfl (hb hby d7_9) rfl ?_
    show Steps p.tables e below (s₁.setTop (mkF m 10 #[.val (.ref d0), .val (.ref d1), .val (.int (4 : Int32))] [(.int (4 : Int32))])) _
    refine XS.aloadN X0.here hx rfl (hb hby d7_10) rfl rfl ?_
    show Steps p.tables e below (s₁.setTop (mkF m 11 #[.val (.ref d0), .val (.ref d1), .val (.int (4 : Int32))] [(.ref d0), (.int (4 : Int32))])) _
    refine st15 _ ?_
    show Steps p.tables e below (s₁.setTop (mkF m 12 #[.val (.ref d0), .val (.ref d1), .val (.int (4 : Int32))] [(.int (5 : Int32)), (.int (4 : Int32))])) _
    refine XS.icmpNo X0.here hx rfl (hb hby d7_12) rfl (tlt (by decide)).2.1 ?_
    show Steps p.tables e below (s₁.setTop (mkF m 15 #[.val (.ref d0), .val (.ref d1), .val (.int (4 : Int32))] [])) _
    refine XS.aloadN X0.here hx rfl (hb hby d7_15) rfl rfl ?_
    show Steps p.tables e below (s₁.setTop (mkF m 16 #[.val (.ref d0), .val (.ref d1), .val (.int (4 : Int32))] [(.ref d0)])) _
    refine XS.iloadN X0.here hx rfl (hb hby d7_16) rfl ?_
    show Steps p.tables e below (s₁.setTop (mkF m 17 #[.val (.ref d0), .val (.ref d1), .val (.int (4 : Int32))] [(.int (4 : Int32)), (.ref d0)])) _
    refine st16 _ ?_
    show Steps p.tables e below (s₁.setTop (mkF m 18 #[.val (.ref d0), .val (.ref d1), .val (.int (4 : Int32))] [(.int (115 : Int32))])) _
    refine XS.aloadN X0.here hx rfl (hb hby d7_18) rfl rfl ?_
    show Steps p.tables e below (s₁.setTop (mkF m 19 #[.val (.ref d0), .val (.ref d1), .val (.int (4 : Int32))] [(.ref d1), (.int (115 : Int32))])) _
    refine XS.iloadN X0.here hx rfl (hb hby d7_19) rfl ?_
    show Steps p.tables e below (s₁.setTop (mkF m 20 #[.val (.ref d0), .val (.ref d1), .val (.int (4 : Int32))] [(.int (4 : Int32)), (.ref d1), (.int (115 : Int32))])) _
    refine st17 _ ?_
    show Steps p.tables e below (s₁.setTop (mkF m 21 #[.val (.ref d0), .val (.ref d1), .val (.int (4 : Int32))] [(.int (115 : Int32)), (.int (115 : Int32))])) _
    refine XS.icmpYes X0.here hx rfl (pc0 := 21) (pc' := 26) rfl (hb hby d7_21) rfl (teq (by decide)).1 (by decide) (by decide) ?_
    show Steps p.tables e below (s₁.setTop (mkF m 26 #[.val (.ref d0), .val (.ref d1), .val (.int (4 : Int32))] [])) _
    refine XS.iinc X0.here hx rfl (hb hby d7_26) rfl (l' := #[.val (.ref d0), .val (.ref d1), .val (.int (5 : Int32))]) rfl ?_
    show Steps p.tables e below (s₁.setTop (mkF m 29 #[.val (.ref d0), .val (.ref d1), .val (.int (5 : Int32))] [])) _
    refine XS.goto X0.here hx rfl (pc0 := 29) (pc' := 9) rfl (hb hby d7_29) (by decide) (by decide) ?_
    show Steps p.tables e below (s₁.setTop (mkF m 9 #[.val (.ref d0), .val (.ref d1), .val (.int (5 : Int32))] [])) _
    refine XS.iloadN X0.here hx rfl (hb hby d7_9) rfl ?_
    show Steps p.tables e below (s₁.setTop (mkF m 10 #[.val (.ref d0), .val (.ref d1), .val (.int (5 : Int32))] [(.int (5 : Int32))])) _
    refine XS.aloadN X0.here hx rfl (hb hby d7_10) rfl rfl ?_
    show Steps p.tables e below (s₁.setTop (mkF m 11 #[.val (.ref d0), .val (.ref d1), .val (.int (5 : Int32))] [(.ref d0), (.int (5 : Int32))])) _
    refine st18 _ ?_
    show Steps p.tables e below (s₁.setTop (mkF m 12 #[.val (.ref d0), .val (.ref d1), .val (.int (5 : Int32))] [(.int (5 : Int32)), (.int (5 : Int32))])) _
    refine XS.icmpYes X0.here hx rfl (pc0 := 12) (pc' := 32) rfl (hb hby d7_12) rfl (flt (by decide)).2.1 (by decide) (by decide) ?_
    show Steps p.tables e below (s₁.setTop (mkF m 32 #[.val (.ref d0), .val (.ref d1), .val (.int (5 : Int32))] [])) _
    refine XS.iconst X0.here hx rfl (hb hby d7_32) ?_
    show Steps p.tables e below (s₁.setTop (mkF m 33 #[.val (.ref d0), .val (.ref d1), .val (.int (5 : Int32))] [(.int (1 : Int32))])) _
    exact retN X0 hx (t := .boolean) Bd.returns (by simp) (hb hby d7_33) hr
  · show Q7II Z d0 d1 k0 k1 h0 n0 _ s₁.heap _
    rw [e0]
    exact ⟨rfl, N0, rfl⟩
theorem pd_6 : parseMethodDescriptor "([B[B)Z" = some ⟨[(.array .byte), (.array .byte)], some .boolean⟩ := by decide +kernel
theorem d6_0 : decode jdk_42_method_66_code 0 = .ok (.aload_n 0, 1) := by decide +kernel
theorem d6_1 : decode jdk_42_method_66_code 1 = .ok (.aload_n 1, 1) := by decide +kernel
theorem d6_2 : decode jdk_42_method_66_code 2 = .ok (.if_acmp .ne 5, 3) := by decide +kernel
theorem d6_5 : decode jdk_42_method_66_code 5 = .ok (.iconst 1, 1) := by decide +kernel
theorem d6_6 : decode jdk_42_method_66_code 6 = .ok (.ireturn, 1) := by decide +kernel
theorem d6_7 : decode jdk_42_method_66_code 7 = .ok (.aload_n 1, 1) := by decide +kernel
theorem d6_8 : decode jdk_42_method_66_code 8 = .ok (.instanceof 10, 3) := by decide +kernel
theorem d6_11 : decode jdk_42_method_66_code 11 = .ok (.ifCond .eq 43, 3) := by decide +kernel
theorem d6_14 : decode jdk_42_method_66_code 14 = .ok (.aload_n 1, 1) := by decide +kernel
theorem d6_15 : decode jdk_42_method_66_code 15 = .ok (.checkcast 10, 3) := by decide +kernel
theorem d6_18 : decode jdk_42_method_66_code 18 = .ok (.astore_n 2, 1) := by decide +kernel
theorem d6_19 : decode jdk_42_method_66_code 19 = .ok (.getstatic 38, 3) := by decide +kernel
theorem d6_22 : decode jdk_42_method_66_code 22 = .ok (.ifCond .eq 14, 3) := by decide +kernel
theorem d6_25 : decode jdk_42_method_66_code 25 = .ok (.aload_n 0, 1) := by decide +kernel
theorem d6_26 : decode jdk_42_method_66_code 26 = .ok (.getfield 15, 3) := by decide +kernel
theorem d6_29 : decode jdk_42_method_66_code 29 = .ok (.aload_n 2, 1) := by decide +kernel
theorem d6_30 : decode jdk_42_method_66_code 30 = .ok (.getfield 15, 3) := by decide +kernel
theorem d6_33 : decode jdk_42_method_66_code 33 = .ok (.if_icmp .ne 21, 3) := by decide +kernel
theorem d6_36 : decode jdk_42_method_66_code 36 = .ok (.aload_n 0, 1) := by decide +kernel
theorem d6_37 : decode jdk_42_method_66_code 37 = .ok (.getfield 9, 3) := by decide +kernel
theorem d6_40 : decode jdk_42_method_66_code 40 = .ok (.aload_n 2, 1) := by decide +kernel
theorem d6_41 : decode jdk_42_method_66_code 41 = .ok (.getfield 9, 3) := by decide +kernel
theorem d6_44 : decode jdk_42_method_66_code 44 = .ok (.invokestatic 541, 3) := by decide +kernel
theorem d6_47 : decode jdk_42_method_66_code 47 = .ok (.ifCond .eq 7, 3) := by decide +kernel
theorem d6_50 : decode jdk_42_method_66_code 50 = .ok (.iconst 1, 1) := by decide +kernel
theorem d6_51 : decode jdk_42_method_66_code 51 = .ok (.goto 4, 3) := by decide +kernel
theorem d6_55 : decode jdk_42_method_66_code 55 = .ok (.ireturn, 1) := by decide +kernel
theorem pn_java_lang_String : plainName "java/lang/String" = true := by first | (simp [plainName, overriddenIn]; done) | decide +kernel
theorem ef_6UU (m : MethodId) (u0 : Addr) (u1 : Addr) : entryFrame m #[(.ref u0), (.ref u1)] 3 = mkF m 0 #[.val (.ref u0), .val (.ref u1), .unset] [] := by first | (simp [entryFrame, mkF, argsToLocals, Value.category]; done) | rfl
def Q6UU (Z : State) (u0 : Addr) (u1 : Addr) (d0 : Addr) (d1 : Addr) (k0 : ClassId) (k1 : ClassId) (G_COMPACT : Int32) (h0 : Heap) (n0 : Nat) (v : Option Value) (h : Heap) (L : List Loc) : Prop := v = some (.int (1 : Int32)) ∧ Fr n0 L ∧ h = h0
set_option maxRecDepth 65536 in
set_option maxHeartbeats 40000000 in
theorem rm6UU (l : Launch) (Z : State) (a0 : Array Value) (hw : ∀ d ∈ tables_1, d.before a0 Z = true) (ws : List Jvm.Cond) (u0 : Addr) (u1 : Addr) (d0 : Addr) (d1 : Addr) (k0 : ClassId) (k1 : ClassId) (G_COMPACT : Int32) (h0 : Heap) (n0 : Nat) (Z0 : n0 ≤ h0.size) (O0 : Old Z n0 h0) (E_u0 : Exa Z h0 u0 "java/lang/String") (F_coder_u0 : Fld Z h0 u0 "java/lang/String" "coder" "B" (.int 0)) (F_value_u0 : Fld Z h0 u0 "java/lang/String" "value" "[B" (.ref d0)) (E_u1 : Exa Z h0 u1 "java/lang/String") (F_coder_u1 : Fld Z h0 u1 "java/lang/String" "coder" "B" (.int 0)) (F_value_u1 : Fld Z h0 u1 "java/lang/String" "value" "[B" (.ref d1)) (V_d0 : Arv Z h0 d0 k0 .byte (12 : Int32) [(.int (97 : Int32)), (.int (108 : Int32)), (.int (108 : Int32)), (.int (32 : Int32)), (.int (114 : Int32)), (.int (101 : Int32)), (.int (113 : Int32)), (.int (117 : Int32)), (.int (101 : Int32)), (.int (115 : Int32)), (.int (116 : Int32)), (.int (115 : Int32))] (.int 0)) (V_d1 : Arv Z h0 d1 k1 .byte (12 : Int32) [(.int (97 : Int32)), (.int (108 : Int32)), (.int (108 : Int32)), (.int (32 : Int32)), (.int (114 : Int32)), (.int (101 : Int32)), (.int (113 : Int32)), (.int (117 : Int32)), (.int (101 : Int32)), (.int (115 : Int32)), (.int (116 : Int32)), (.int (115 : Int32))] (.int 0)) (S_COMPACT : Sta Z Z.heap "java/lang/String" "COMPACT_STRINGS" "Z" (.int G_COMPACT)) (P_COMPACT : ¬ G_COMPACT = 0) :
    MetFree l (⟨"java/lang/String", "equals", "(Ljava/lang/Object;)Z"⟩ : MethodName) (head1 (Jvm.Cond.code (⟨"java/lang/String", "equals", "(Ljava/lang/Object;)Z"⟩ : MethodName) jdk_42_method_66_code 3 (some .boolean) :: ws) ({ frames := 1, cells := 0, slots := 0, locals := 14 } : Room)) (fun a U => a = #[(.ref u0), (.ref u1)] ∧ Z.Warmed39 U.vm ∧ U.heap = h0) (fun _ _ _ _ _ => True) (fun _ U o U' => ∃ v L, o = .returned v ∧ Q6UU Z u0 u1 d0 d1 k0 k1 G_COMPACT h0 n0 v U'.heap L ∧ FrameEnd U o U' L ({ frames := 1, cells := 0, slots := 0, locals := 14 } : Room).cells ({ frames := 1, cells := 0, slots := 0, locals := 14 } : Room).slots) := by
  refine MetFree.of_bodySF (plainFor_of_name pn_java_lang_String) hisR ?_
  intro p e s m args below meth c s₁ Bd hml0 hP hK
  obtain ⟨rfl, hZ, hh⟩ := hP
  have hx := Bd.exec
  have hby := Bd.bytes
  have hml : c.maxLocals = 3 := hml0
  have hown : s.vm.findClass "java/lang/String" = some m.cls := findClass_of_methodNamed Bd.named
  have hnm := (name_of_methodNamed Bd.named Bd.method).1
  have X0 : Stand p l e ({ frames := 1, cells := 0, slots := 0, locals := 14 } : Room) s m #[(.ref u0), (.ref u1)] below meth c s₁ [] 0 0 := Stand.of_body Bd
  have e0 : s₁.heap = h0 := by rw [← hh, Bd.state]; rfl
  have N0 := Fr.nil n0
  have pre0 : ∀ t, Steps p.tables e below (s₁.setTop (mkF m 0 #[.val (.ref u0), .val (.ref u1), .unset] [])) t → Steps p.tables e below (s₁.setTop (entryFrame m #[(.ref u0), (.ref u1)] 3)) t := fun t k => castTop (ef_6UU m u0 u1) k
  by_cases ha2 : u0 = u1
  · obtain ⟨fs, hr, hrun, hended, hW, hsame⟩ := X0.leave (v := some (.int (1 : Int32))) (fun h => by rw [Bd.returns] at h; cases h)
    refine ⟨_, _, pre0 _ ?_, hrun, hended, _, _, rfl, ?_, ⟨_, rfl⟩, hW, hsame.mono (by decide) (by decide)⟩
    · show Steps p.tables e below (s₁.setTop (mkF m 0 #[.val (.ref u0), .val (.ref u1), .unset] [])) _
      refine XS.aloadN X0.here hx rfl (hb hby d6_0) rfl rfl ?_
      show Steps p.tables e below (s₁.setTop (mkF m 1 #[.val (.ref u0), .val (.ref u1), .unset] [(.ref u0)])) _
      refine XS.aloadN X0.here hx rfl (hb hby d6_1) rfl rfl ?_
      show Steps p.tables e below (s₁.setTop (mkF m 2 #[.val (.ref u0), .val (.ref u1), .unset] [(.ref u1), (.ref u0)])) _
      refine Jvm.RoadKit.acmp (g := (mkF m 2 #[.val (.ref u0), .val (.ref u1), .unset] [(.ref u1), (.ref u0)])) X0 hx rfl rfl rfl (pc0 := 2) (pc' := 5) (same := true) rfl (hb hby d6_2) rfl (decide_eq_true (congrArg Value.ref ha2)) (by decide) (by decide) ?_
      show Steps p.tables e below (s₁.setTop (mkF m 5 #[.val (.ref u0), .val (.ref u1), .unset] [])) _
      refine XS.iconst X0.here hx rfl (hb hby d6_5) ?_
      show Steps p.tables e below (s₁.setTop (mkF m 6 #[.val (.ref u0), .val (.ref u1), .unset] [(.int (1 : Int32))])) _
      exact retN X0 hx (t := .boolean) Bd.returns (by simp) (hb hby d6_6) hr
    · show Q6UU Z u0 u1 d0 d1 k0 k1 G_COMPACT h0 n0 _ s₁.heap _
      rw [e0]
      exact ⟨rfl, N0, rfl⟩
  · obtain ⟨T1, X1, e1, st1⟩ := instY X0 hx hZ hown (hw _ (List.mem_of_getElem? (i := 50) rfl)) e0 (Ins.self E_u1) (g := (mkF m 8 #[.val (.ref u0), .val (.ref u1), .unset] [(.ref u1)])) rfl rfl (hb hby d6_8)
    obtain ⟨T2, X2, e2, st2⟩ := castY X1 hx hZ hown (hw _ (List.mem_of_getElem? (i := 50) rfl)) e1 (Ins.self E_u1) (g := (mkF m 15 #[.val (.ref u0), .val (.ref u1), .unset] [(.ref u1)])) rfl rfl (hb hby d6_15)
    obtain ⟨T3, X3, e3, st3⟩ := getS2 X2 hx hZ hown (host := "") (Or.inl (hw _ (List.mem_of_getElem? (i := 52) rfl))) Via.refl e2 (S_COMPACT.ext O0.2) (g := (mkF m 19 #[.val (.ref u0), .val (.ref u1), .val (.ref u1)] [])) rfl (hb hby d6_19)
    obtain ⟨T4, X4, e4, st4⟩ := getF X3 hx hZ hown (host := "") (Or.inl (hw _ (List.mem_of_getElem? (i := 53) rfl))) Via.refl e3 F_coder_u0 (g := (mkF m 26 #[.val (.ref u0), .val (.ref u1), .val (.ref u1)] [(.ref u0)])) rfl rfl (hb hby d6_26)
    obtain ⟨T5, X5, e5, st5⟩ := getF X4 hx hZ hown (host := "") (Or.inl (hw _ (List.mem_of_getElem? (i := 53) rfl))) Via.refl e4 F_coder_u1 (g := (mkF m 30 #[.val (.ref u0), .val (.ref u1), .val (.ref u1)] [(.ref u1), (.int (0 : Int32))])) rfl rfl (hb hby d6_30)
    obtain ⟨T6, X6, e6, st6⟩ := getF X5 hx hZ hown (host := "") (Or.inl (hw _ (List.mem_of_getElem? (i := 54) rfl))) Via.refl e5 F_value_u0 (g := (mkF m 37 #[.val (.ref u0), .val (.ref u1), .val (.ref u1)] [(.ref u0)])) rfl rfl (hb hby d6_37)
    obtain ⟨T7, X7, e7, st7⟩ := getF X6 hx hZ hown (host := "") (Or.inl (hw _ (List.mem_of_getElem? (i := 54) rfl))) Via.refl e6 F_value_u1 (g := (mkF m 41 #[.val (.ref u0), .val (.ref u1), .val (.ref u1)] [(.ref u1), (.ref d0)])) rfl rfl (hb hby d6_41)
    obtain ⟨_, _, ⟨T8, L8, k8, n8⟩, -, X8, ⟨Lc8, hQ8, l8, y8, z8⟩, st8⟩ := Jvm.LawKit.callS X7 hx (y := (⟨"java/lang/StringLatin1", "equals", "([B[B)Z"⟩ : MethodName)) hown (mvT hZ (hw _ (List.mem_of_getElem? (i := 55) rfl))) (mvT hZ (hw _ (List.mem_of_getElem? (i := 56) rfl))) (mvT hZ (hw _ (List.mem_of_getElem? (i := 57) rfl))) (mvT hZ (hw _ (List.mem_of_getElem? (i := 58) rfl))) (by decide) (backOf (W := 0) (rm7UU l Z a0 hw [] d0 d1 k0 k1 h0 n0 Z0 V_d0 V_d1) hZ (hw _ (List.mem_of_getElem? (i := 58) rfl)) (hw _ (List.mem_of_getElem? (i := 57) rfl)) (by decide) (by decide)) (g := (mkF m 44 #[.val (.ref u0), .val (.ref u1), .val (.ref u1)] [(.ref d1), (.ref d0)])) rfl (by rw [hml]; rfl) (argsL := [(.ref d0), (.ref d1)]) (rest := []) (lenOf pd_6 rfl) rfl (by show 2 * 0 + _ ≤ _; exact Nat.le_of_eq rfl) (hb hby d6_44) (fun _ _ => ⟨rfl, e7, (by decide : 0 + 0 ≤ _), (by decide : 0 + 0 ≤ _)⟩)
    dsimp only [Pt.U, Pt.locs, Pt.cells, Pt.slots] at X8 l8 y8 z8 st8 hQ8
    subst l8 y8 z8
    obtain ⟨rfl, N8q, e8⟩ := hQ8
    have N8 := Fr.app N0 N8q
    obtain ⟨fs, hr, hrun, hended, hW, hsame⟩ := X8.leave (v := some (.int (1 : Int32))) (fun h => by rw [Bd.returns] at h; cases h)
    refine ⟨_, _, pre0 _ ?_, hrun, hended, _, _, rfl, ?_, ⟨_, rfl⟩, hW, hsame.mono (by decide) (by decide)⟩
    · show Steps p.tables e below (s₁.setTop (mkF m 0 #[.val (.ref u0), .val (.ref u1), .unset] [])) _
      refine XS.aloadN X0.here hx rfl (hb hby d6_0) rfl rfl ?_
      show Steps p.tables e below (s₁.setTop (mkF m 1 #[.val (.ref u0), .val (.ref u1), .unset] [(.ref u0)])) _
      refine XS.aloadN X0.here hx rfl (hb hby d6_1) rfl rfl ?_
      show Steps p.tables e below (s₁.setTop (mkF m 2 #[.val (.ref u0), .val (.ref u1), .unset] [(.ref u1), (.ref u0)])) _
      refine Jvm.RoadKit.acmp (g := (mkF m 2 #[.val (.ref u0), .val (.ref u1), .unset] [(.ref u1), (.ref u0)])) X0 hx rfl rfl rfl (pc0 := 2) (pc' := 7) (same := false) rfl (hb hby d6_2) rfl (decide_eq_false fun q => ha2 (Value.ref.inj q)) (by decide) (by decide) ?_
      show Steps p.tables e below (s₁.setTop (mkF m 7 #[.val (.ref u0), .val (.ref u1), .unset] [])) _
      refine XS.aloadN X0.here hx rfl (hb hby d6_7) rfl rfl ?_
      show Steps p.tables e below (s₁.setTop (mkF m 8 #[.val (.ref u0), .val (.ref u1), .unset] [(.ref u1)])) _
      refine st1 _ ?_
      show Steps p.tables e below (T1.setTop (mkF m 11 #[.val (.ref u0), .val (.ref u1), .unset] [(.int (1 : Int32))])) _
      refine XS.ifNo X1.here hx rfl (hb hby d6_11) rfl ((if0 _ _).trans (feq (by decide)).1) ?_
      show Steps p.tables e below (T1.setTop (mkF m 14 #[.val (.ref u0), .val (.ref u1), .unset] [])) _
      refine XS.aloadN X1.here hx rfl (hb hby d6_14) rfl rfl ?_
      show Steps p.tables e below (T1.setTop (mkF m 15 #[.val (.ref u0), .val (.ref u1), .unset] [(.ref u1)])) _
      refine st2 _ ?_
      show Steps p.tables e below (T2.setTop (mkF m 18 #[.val (.ref u0), .val (.ref u1), .unset] [(.ref u1)])) _
      refine XS.astoreN X2.here hx rfl (hb hby d6_18) rfl rfl (l' := #[.val (.ref u0), .val (.ref u1), .val (.ref u1)]) rfl ?_
      show Steps p.tables e below (T2.setTop (mkF m 19 #[.val (.ref u0), .val (.ref u1), .val (.ref u1)] [])) _
      refine st3 _ ?_
      show Steps p.tables e below (T3.setTop (mkF m 22 #[.val (.ref u0), .val (.ref u1), .val (.ref u1)] [(.int G_COMPACT)])) _
      refine XS.ifNo X3.here hx rfl (hb hby d6_22) rfl ((if0 _ _).trans (feq P_COMPACT).1) ?_
      show Steps p.tables e below (T3.setTop (mkF m 25 #[.val (.ref u0), .val (.ref u1), .val (.ref u1)] [])) _
      refine XS.aloadN X3.here hx rfl (hb hby d6_25) rfl rfl ?_
      show Steps p.tables e below (T3.setTop (mkF m 26 #[.val (.ref u0), .val (.ref u1), .val (.ref u1)] [(.ref u0)])) _
      refine st4 _ ?_
      show Steps p.tables e below (T4.setTop (mkF m 29 #[.val (.ref u0), .val (.ref u1), .val (.ref u1)] [(.int (0 : Int32))])) _
      refine XS.aloadN X4.here hx rfl (hb hby d6_29) rfl rfl ?_
      show Steps p.tables e below (T4.setTop (mkF m 30 #[.val (.ref u0), .val (.ref u1), .val (.ref u1)] [(.ref u1), (.int (0 : Int32))])) _
      refine st5 _ ?_
      show Steps p.tables e below (T5.setTop (mkF m 33 #[.val (.ref u0), .val (.ref u1), .val (.ref u1)] [(.int (0 : Int32)), (.int (0 : Int32))])) _
      refine XS.icmpNo X5.here hx rfl (hb hby d6_33) rfl (teq (by decide)).2 ?_
      show Steps p.tables e below (T5.setTop (mkF m 36 #[.val (.ref u0), .val (.ref u1), .val (.ref u1)] [])) _
      refine XS.aloadN X5.here hx rfl (hb hby d6_36) rfl rfl ?_
      show Steps p.tables e below (T5.setTop (mkF m 37 #[.val (.ref u0), .val (.ref u1), .val (.ref u1)] [(.ref u0)])) _
      refine st6 _ ?_
      show Steps p.tables e below (T6.setTop (mkF m 40 #[.val (.ref u0), .val (.ref u1), .val (.ref u1)] [(.ref d0)])) _
      refine XS.aloadN X6.here hx rfl (hb hby d6_40) rfl rfl ?_
      show Steps p.tables e below (T6.setTop (mkF m 41 #[.val (.ref u0), .val (.ref u1), .val (.ref u1)] [(.ref u1), (.ref d0)])) _
      refine st7 _ ?_
      show Steps p.tables e below (T7.setTop (mkF m 44 #[.val (.ref u0), .val (.ref u1), .val (.ref u1)] [(.ref d1), (.ref d0)])) _
      refine st8 _ ?_
      show Steps p.tables e below (T8.setTop (mkF m 47 #[.val (.ref u0), .val (.ref u1), .val (.ref u1)] [(.int (1 : Int32))])) _
      refine XS.ifNo X8.here hx rfl (hb hby d6_47) rfl ((if0 _ _).trans (feq (by decide)).1) ?_
      show Steps p.tables e below (T8.setTop (mkF m 50 #[.val (.ref u0), .val (.ref u1), .val (.ref u1)] [])) _
      refine XS.iconst X8.here hx rfl (hb hby d6_50) ?_
      show Steps p.tables e below (T8.setTop (mkF m 51 #[.val (.ref u0), .val (.ref u1), .val (.ref u1)] [(.int (1 : Int32))])) _
      refine XS.goto X8.here hx rfl (pc0 := 51) (pc' := 55) rfl (hb hby d6_51) (by decide) (by decide) ?_
      show Steps p.tables e below (T8.setTop (mkF m 55 #[.val (.ref u0), .val (.ref u1), .val (.ref u1)] [(.int (1 : Int32))])) _
      exact retN X8 hx (t := .boolean) Bd.returns (by simp) (hb hby d6_55) hr
    · show Q6UU Z u0 u1 d0 d1 k0 k1 G_COMPACT h0 n0 _ T8.heap _
      rw [e8]
      exact ⟨rfl, N8, rfl⟩
theorem d6_54 : decode jdk_42_method_66_code 54 = .ok (.iconst 0, 1) := by decide +kernel
theorem ef_6UL (m : MethodId) (u0 : Addr) (u1 : Addr) : entryFrame m #[(.ref u0), (.ref u1)] 3 = mkF m 0 #[.val (.ref u0), .val (.ref u1), .unset] [] := by first | (simp [entryFrame, mkF, argsToLocals, Value.category]; done) | rfl
def Q6UL (Z : State) (u0 : Addr) (u1 : Addr) (d0 : Addr) (d1 : Addr) (k0 : ClassId) (k1 : ClassId) (G_COMPACT : Int32) (h0 : Heap) (n0 : Nat) (v : Option Value) (h : Heap) (L : List Loc) : Prop := v = some (.int (0 : Int32)) ∧ Fr n0 L ∧ h = h0
set_option maxRecDepth 65536 in
set_option maxHeartbeats 40000000 in
theorem rm6UL (l : Launch) (Z : State) (a0 : Array Value) (hw : ∀ d ∈ tables_1, d.before a0 Z = true) (ws : List Jvm.Cond) (u0 : Addr) (u1 : Addr) (d0 : Addr) (d1 : Addr) (k0 : ClassId) (k1 : ClassId) (G_COMPACT : Int32) (h0 : Heap) (n0 : Nat) (Z0 : n0 ≤ h0.size) (O0 : Old Z n0 h0) (E_u0 : Exa Z h0 u0 "java/lang/String") (F_coder_u0 : Fld Z h0 u0 "java/lang/String" "coder" "B" (.int 0)) (F_value_u0 : Fld Z h0 u0 "java/lang/String" "value" "[B" (.ref d0)) (E_u1 : Exa Z h0 u1 "java/lang/String") (F_coder_u1 : Fld Z h0 u1 "java/lang/String" "coder" "B" (.int 0)) (F_value_u1 : Fld Z h0 u1 "java/lang/String" "value" "[B" (.ref d1)) (V_d0 : Arv Z h0 d0 k0 .byte (12 : Int32) [(.int (97 : Int32)), (.int (108 : Int32)), (.int (108 : Int32)), (.int (32 : Int32)), (.int (114 : Int32)), (.int (101 : Int32)), (.int (113 : Int32)), (.int (117 : Int32)), (.int (101 : Int32)), (.int (115 : Int32)), (.int (116 : Int32)), (.int (115 : Int32))] (.int 0)) (V_d1 : Arv Z h0 d1 k1 .byte (10 : Int32) [(.int (108 : Int32)), (.int (105 : Int32)), (.int (115 : Int32)), (.int (116 : Int32)), (.int (32 : Int32)), (.int (112 : Int32)), (.int (97 : Int32)), (.int (103 : Int32)), (.int (101 : Int32)), (.int (115 : Int32))] (.int 0)) (S_COMPACT : Sta Z Z.heap "java/lang/String" "COMPACT_STRINGS" "Z" (.int G_COMPACT)) (P_COMPACT : ¬ G_COMPACT = 0) (hne : u0 ≠ u1) :
    MetFree l (⟨"java/lang/String", "equals", "(Ljava/lang/Object;)Z"⟩ : MethodName) (head1 (Jvm.Cond.code (⟨"java/lang/String", "equals", "(Ljava/lang/Object;)Z"⟩ : MethodName) jdk_42_method_66_code 3 (some .boolean) :: ws) ({ frames := 1, cells := 0, slots := 0, locals := 14 } : Room)) (fun a U => a = #[(.ref u0), (.ref u1)] ∧ Z.Warmed39 U.vm ∧ U.heap = h0) (fun _ _ _ _ _ => True) (fun _ U o U' => ∃ v L, o = .returned v ∧ Q6UL Z u0 u1 d0 d1 k0 k1 G_COMPACT h0 n0 v U'.heap L ∧ FrameEnd U o U' L ({ frames := 1, cells := 0, slots := 0, locals := 14 } : Room).cells ({ frames := 1, cells := 0, slots := 0, locals := 14 } : Room).slots) := by
  refine MetFree.of_bodySF (plainFor_of_name pn_java_lang_String) hisR ?_
  intro p e s m args below meth c s₁ Bd hml0 hP hK
  obtain ⟨rfl, hZ, hh⟩ := hP
  have hx := Bd.exec
  have hby := Bd.bytes
  have hml : c.maxLocals = 3 := hml0
  have hown : s.vm.findClass "java/lang/String" = some m.cls := findClass_of_methodNamed Bd.named
  have hnm := (name_of_methodNamed Bd.named Bd.method).1
  have X0 : Stand p l e ({ frames := 1, cells := 0, slots := 0, locals := 14 } : Room) s m #[(.ref u0), (.ref u1)] below meth c s₁ [] 0 0 := Stand.of_body Bd
  have e0 : s₁.heap = h0 := by rw [← hh, Bd.state]; rfl
  have N0 := Fr.nil n0
  have pre0 : ∀ t, Steps p.tables e below (s₁.setTop (mkF m 0 #[.val (.ref u0), .val (.ref u1), .unset] [])) t → Steps p.tables e below (s₁.setTop (entryFrame m #[(.ref u0), (.ref u1)] 3)) t := fun t k => castTop (ef_6UL m u0 u1) k
  obtain ⟨T1, X1, e1, st1⟩ := instY X0 hx hZ hown (hw _ (List.mem_of_getElem? (i := 50) rfl)) e0 (Ins.self E_u1) (g := (mkF m 8 #[.val (.ref u0), .val (.ref u1), .unset] [(.ref u1)])) rfl rfl (hb hby d6_8)
  obtain ⟨T2, X2, e2, st2⟩ := castY X1 hx hZ hown (hw _ (List.mem_of_getElem? (i := 50) rfl)) e1 (Ins.self E_u1) (g := (mkF m 15 #[.val (.ref u0), .val (.ref u1), .unset] [(.ref u1)])) rfl rfl (hb hby d6_15)
  obtain ⟨T3, X3, e3, st3⟩ := getS2 X2 hx hZ hown (host := "") (Or.inl (hw _ (List.mem_of_getElem? (i := 52) rfl))) Via.refl e2 (S_COMPACT.ext O0.2) (g := (mkF m 19 #[.val (.ref u0), .val (.ref u1), .val (.ref u1)] [])) rfl (hb hby d6_19)
  obtain ⟨T4, X4, e4, st4⟩ := getF X3 hx hZ hown (host := "") (Or.inl (hw _ (List.mem_of_getElem? (i := 53) rfl))) Via.refl e3 F_coder_u0 (g := (mkF m 26 #[.val (.ref u0), .val (.ref u1), .val (.ref u1)] [(.ref u0)])) rfl rfl (hb hby d6_26)
  obtain ⟨T5, X5, e5, st5⟩ := getF X4 hx hZ hown (host := "") (Or.inl (hw _ (List.mem_of_getElem? (i := 53) rfl))) Via.refl e4 F_coder_u1 (g := (mkF m 30 #[.val (.ref u0), .val (.ref u1), .val (.ref u1)] [(.ref u1), (.int (0 : Int32))])) rfl rfl (hb hby d6_30)
  obtain ⟨T6, X6, e6, st6⟩ := getF X5 hx hZ hown (host := "") (Or.inl (hw _ (List.mem_of_getElem? (i := 54) rfl))) Via.refl e5 F_value_u0 (g := (mkF m 37 #[.val (.ref u0), .val (.ref u1), .val (.ref u1)] [(.ref u0)])) rfl rfl (hb hby d6_37)
  obtain ⟨T7, X7, e7, st7⟩ := getF X6 hx hZ hown (host := "") (Or.inl (hw _ (List.mem_of_getElem? (i := 54) rfl))) Via.refl e6 F_value_u1 (g := (mkF m 41 #[.val (.ref u0), .val (.ref u1), .val (.ref u1)] [(.ref u1), (.ref d0)])) rfl rfl (hb hby d6_41)
  obtain ⟨_, _, ⟨T8, L8, k8, n8⟩, -, X8, ⟨Lc8, hQ8, l8, y8, z8⟩, st8⟩ := Jvm.LawKit.callS X7 hx (y := (⟨"java/lang/StringLatin1", "equals", "([B[B)Z"⟩ : MethodName)) hown (mvT hZ (hw _ (List.mem_of_getElem? (i := 55) rfl))) (mvT hZ (hw _ (List.mem_of_getElem? (i := 56) rfl))) (mvT hZ (hw _ (List.mem_of_getElem? (i := 57) rfl))) (mvT hZ (hw _ (List.mem_of_getElem? (i := 58) rfl))) (by decide) (backOf (W := 0) (rm7UL l Z a0 hw [] d0 d1 k0 k1 h0 n0 Z0 V_d0 V_d1) hZ (hw _ (List.mem_of_getElem? (i := 58) rfl)) (hw _ (List.mem_of_getElem? (i := 57) rfl)) (by decide) (by decide)) (g := (mkF m 44 #[.val (.ref u0), .val (.ref u1), .val (.ref u1)] [(.ref d1), (.ref d0)])) rfl (by rw [hml]; rfl) (argsL := [(.ref d0), (.ref d1)]) (rest := []) (lenOf pd_6 rfl) rfl (by show 2 * 0 + _ ≤ _; exact Nat.le_of_eq rfl) (hb hby d6_44) (fun _ _ => ⟨rfl, e7, (by decide : 0 + 0 ≤ _), (by decide : 0 + 0 ≤ _)⟩)
  dsimp only [Pt.U, Pt.locs, Pt.cells, Pt.slots] at X8 l8 y8 z8 st8 hQ8
  subst l8 y8 z8
  obtain ⟨rfl, N8q, e8⟩ := hQ8
  have N8 := Fr.app N0 N8q
  obtain ⟨fs, hr, hrun, hended, hW, hsame⟩ := X8.leave (v := some (.int (0 : Int32))) (fun h => by rw [Bd.returns] at h; cases h)
  refine ⟨_, _, pre0 _ ?_, hrun, hended, _, _, rfl, ?_, ⟨_, rfl⟩, hW, hsame.mono (by decide) (by decide)⟩
  · show Steps p.tables e below (s₁.setTop (mkF m 0 #[.val (.ref u0), .val (.ref u1), .unset] [])) _
    refine XS.aloadN X0.here hx rfl (hb hby d6_0) rfl rfl ?_
    show Steps p.tables e below (s₁.setTop (mkF m 1 #[.val (.ref u0), .val (.ref u1), .unset] [(.ref u0)])) _
    refine XS.aloadN X0.here hx rfl (hb hby d6_1) rfl rfl ?_
    show Steps p.tables e below (s₁.setTop (mkF m 2 #[.val (.ref u0), .val (.ref u1), .unset] [(.ref u1), (.ref u0)])) _
    refine Jvm.RoadKit.acmp (g := (mkF m 2 #[.val (.ref u0), .val (.ref u1), .unset] [(.ref u1), (.ref u0)])) X0 hx rfl rfl rfl (pc0 := 2) (pc' := 7) (same := false) rfl (hb hby d6_2) rfl (decide_eq_false fun q => hne (Value.ref.inj q)) (by decide) (by decide) ?_
    show Steps p.tables e below (s₁.setTop (mkF m 7 #[.val (.ref u0), .val (.ref u1), .unset] [])) _
    refine XS.aloadN X0.here hx rfl (hb hby d6_7) rfl rfl ?_
    show Steps p.tables e below (s₁.setTop (mkF m 8 #[.val (.ref u0), .val (.ref u1), .unset] [(.ref u1)])) _
    refine st1 _ ?_
    show Steps p.tables e below (T1.setTop (mkF m 11 #[.val (.ref u0), .val (.ref u1), .unset] [(.int (1 : Int32))])) _
    refine XS.ifNo X1.here hx rfl (hb hby d6_11) rfl ((if0 _ _).trans (feq (by decide)).1) ?_
    show Steps p.tables e below (T1.setTop (mkF m 14 #[.val (.ref u0), .val (.ref u1), .unset] [])) _
    refine XS.aloadN X1.here hx rfl (hb hby d6_14) rfl rfl ?_
    show Steps p.tables e below (T1.setTop (mkF m 15 #[.val (.ref u0), .val (.ref u1), .unset] [(.ref u1)])) _
    refine st2 _ ?_
    show Steps p.tables e below (T2.setTop (mkF m 18 #[.val (.ref u0), .val (.ref u1), .unset] [(.ref u1)])) _
    refine XS.astoreN X2.here hx rfl (hb hby d6_18) rfl rfl (l' := #[.val (.ref u0), .val (.ref u1), .val (.ref u1)]) rfl ?_
    show Steps p.tables e below (T2.setTop (mkF m 19 #[.val (.ref u0), .val (.ref u1), .val (.ref u1)] [])) _
    refine st3 _ ?_
    show Steps p.tables e below (T3.setTop (mkF m 22 #[.val (.ref u0), .val (.ref u1), .val (.ref u1)] [(.int G_COMPACT)])) _
    refine XS.ifNo X3.here hx rfl (hb hby d6_22) rfl ((if0 _ _).trans (feq P_COMPACT).1) ?_
    show Steps p.tables e below (T3.setTop (mkF m 25 #[.val (.ref u0), .val (.ref u1), .val (.ref u1)] [])) _
    refine XS.aloadN X3.here hx rfl (hb hby d6_25) rfl rfl ?_
    show Steps p.tables e below (T3.setTop (mkF m 26 #[.val (.ref u0), .val (.ref u1), .val (.ref u1)] [(.ref u0)])) _
    refine st4 _ ?_
    show Steps p.tables e below (T4.setTop (mkF m 29 #[.val (.ref u0), .val (.ref u1), .val (.ref u1)] [(.int (0 : Int32))])) _
    refine XS.aloadN X4.here hx rfl (hb hby d6_29) rfl rfl ?_
    show Steps p.tables e below (T4.setTop (mkF m 30 #[.val (.ref u0), .val (.ref u1), .val (.ref u1)] [(.ref u1), (.int (0 : Int32))])) _
    refine st5 _ ?_
    show Steps p.tables e below (T5.setTop (mkF m 33 #[.val (.ref u0), .val (.ref u1), .val (.ref u1)] [(.int (0 : Int32)), (.int (0 : Int32))])) _
    refine XS.icmpNo X5.here hx rfl (hb hby d6_33) rfl (teq (by decide)).2 ?_
    show Steps p.tables e below (T5.setTop (mkF m 36 #[.val (.ref u0), .val (.ref u1), .val (.ref u1)] [])) _
    refine XS.aloadN X5.here hx rfl (hb hby d6_36) rfl rfl ?_
    show Steps p.tables e below (T5.setTop (mkF m 37 #[.val (.ref u0), .val (.ref u1), .val (.ref u1)] [(.ref u0)])) _
    refine st6 _ ?_
    show Steps p.tables e below (T6.setTop (mkF m 40 #[.val (.ref u0), .val (.ref u1), .val (.ref u1)] [(.ref d0)])) _
    refine XS.aloadN X6.here hx rfl (hb hby d6_40) rfl rfl ?_
    show Steps p.tables e below (T6.setTop (mkF m 41 #[.val (.ref u0), .val (.ref u1), .val (.ref u1)] [(.ref u1), (.ref d0)])) _
    refine st7 _ ?_
    show Steps p.tables e below (T7.setTop (mkF m 44 #[.val (.ref u0), .val (.ref u1), .val (.ref u1)] [(.ref d1), (.ref d0)])) _
    refine st8 _ ?_
    show Steps p.tables e below (T8.setTop (mkF m 47 #[.val (.ref u0), .val (.ref u1), .val (.ref u1)] [(.int (0 : Int32))])) _
    refine XS.ifYes X8.here hx rfl (pc0 := 47) (pc' := 54) rfl (hb hby d6_47) rfl ((if0 _ _).trans (teq (by decide)).1) (by decide) (by decide) ?_
    show Steps p.tables e below (T8.setTop (mkF m 54 #[.val (.ref u0), .val (.ref u1), .val (.ref u1)] [])) _
    refine XS.iconst X8.here hx rfl (hb hby d6_54) ?_
    show Steps p.tables e below (T8.setTop (mkF m 55 #[.val (.ref u0), .val (.ref u1), .val (.ref u1)] [(.int (0 : Int32))])) _
    exact retN X8 hx (t := .boolean) Bd.returns (by simp) (hb hby d6_55) hr
  · show Q6UL Z u0 u1 d0 d1 k0 k1 G_COMPACT h0 n0 _ T8.heap _
    rw [e8]
    exact ⟨rfl, N8, rfl⟩
theorem ef_6UI (m : MethodId) (u0 : Addr) (u1 : Addr) : entryFrame m #[(.ref u0), (.ref u1)] 3 = mkF m 0 #[.val (.ref u0), .val (.ref u1), .unset] [] := by first | (simp [entryFrame, mkF, argsToLocals, Value.category]; done) | rfl
def Q6UI (Z : State) (u0 : Addr) (u1 : Addr) (d0 : Addr) (d1 : Addr) (k0 : ClassId) (k1 : ClassId) (G_COMPACT : Int32) (h0 : Heap) (n0 : Nat) (v : Option Value) (h : Heap) (L : List Loc) : Prop := v = some (.int (0 : Int32)) ∧ Fr n0 L ∧ h = h0
set_option maxRecDepth 65536 in
set_option maxHeartbeats 40000000 in
theorem rm6UI (l : Launch) (Z : State) (a0 : Array Value) (hw : ∀ d ∈ tables_1, d.before a0 Z = true) (ws : List Jvm.Cond) (u0 : Addr) (u1 : Addr) (d0 : Addr) (d1 : Addr) (k0 : ClassId) (k1 : ClassId) (G_COMPACT : Int32) (h0 : Heap) (n0 : Nat) (Z0 : n0 ≤ h0.size) (O0 : Old Z n0 h0) (E_u0 : Exa Z h0 u0 "java/lang/String") (F_coder_u0 : Fld Z h0 u0 "java/lang/String" "coder" "B" (.int 0)) (F_value_u0 : Fld Z h0 u0 "java/lang/String" "value" "[B" (.ref d0)) (E_u1 : Exa Z h0 u1 "java/lang/String") (F_coder_u1 : Fld Z h0 u1 "java/lang/String" "coder" "B" (.int 0)) (F_value_u1 : Fld Z h0 u1 "java/lang/String" "value" "[B" (.ref d1)) (V_d0 : Arv Z h0 d0 k0 .byte (12 : Int32) [(.int (97 : Int32)), (.int (108 : Int32)), (.int (108 : Int32)), (.int (32 : Int32)), (.int (114 : Int32)), (.int (101 : Int32)), (.int (113 : Int32)), (.int (117 : Int32)), (.int (101 : Int32)), (.int (115 : Int32)), (.int (116 : Int32)), (.int (115 : Int32))] (.int 0)) (V_d1 : Arv Z h0 d1 k1 .byte (5 : Int32) [(.int (105 : Int32)), (.int (116 : Int32)), (.int (101 : Int32)), (.int (109 : Int32)), (.int (115 : Int32))] (.int 0)) (S_COMPACT : Sta Z Z.heap "java/lang/String" "COMPACT_STRINGS" "Z" (.int G_COMPACT)) (P_COMPACT : ¬ G_COMPACT = 0) (hne : u0 ≠ u1) :
    MetFree l (⟨"java/lang/String", "equals", "(Ljava/lang/Object;)Z"⟩ : MethodName) (head1 (Jvm.Cond.code (⟨"java/lang/String", "equals", "(Ljava/lang/Object;)Z"⟩ : MethodName) jdk_42_method_66_code 3 (some .boolean) :: ws) ({ frames := 1, cells := 0, slots := 0, locals := 14 } : Room)) (fun a U => a = #[(.ref u0), (.ref u1)] ∧ Z.Warmed39 U.vm ∧ U.heap = h0) (fun _ _ _ _ _ => True) (fun _ U o U' => ∃ v L, o = .returned v ∧ Q6UI Z u0 u1 d0 d1 k0 k1 G_COMPACT h0 n0 v U'.heap L ∧ FrameEnd U o U' L ({ frames := 1, cells := 0, slots := 0, locals := 14 } : Room).cells ({ frames := 1, cells := 0, slots := 0, locals := 14 } : Room).slots) := by
  refine MetFree.of_bodySF (plainFor_of_name pn_java_lang_String) hisR ?_
  intro p e s m args below meth c s₁ Bd hml0 hP hK
  obtain ⟨rfl, hZ, hh⟩ := hP
  have hx := Bd.exec
  have hby := Bd.bytes
  have hml : c.maxLocals = 3 := hml0
  have hown : s.vm.findClass "java/lang/String" = some m.cls := findClass_of_methodNamed Bd.named
  have hnm := (name_of_methodNamed Bd.named Bd.method).1
  have X0 : Stand p l e ({ frames := 1, cells := 0, slots := 0, locals := 14 } : Room) s m #[(.ref u0), (.ref u1)] below meth c s₁ [] 0 0 := Stand.of_body Bd
  have e0 : s₁.heap = h0 := by rw [← hh, Bd.state]; rfl
  have N0 := Fr.nil n0
  have pre0 : ∀ t, Steps p.tables e below (s₁.setTop (mkF m 0 #[.val (.ref u0), .val (.ref u1), .unset] [])) t → Steps p.tables e below (s₁.setTop (entryFrame m #[(.ref u0), (.ref u1)] 3)) t := fun t k => castTop (ef_6UI m u0 u1) k
  obtain ⟨T1, X1, e1, st1⟩ := instY X0 hx hZ hown (hw _ (List.mem_of_getElem? (i := 50) rfl)) e0 (Ins.self E_u1) (g := (mkF m 8 #[.val (.ref u0), .val (.ref u1), .unset] [(.ref u1)])) rfl rfl (hb hby d6_8)
  obtain ⟨T2, X2, e2, st2⟩ := castY X1 hx hZ hown (hw _ (List.mem_of_getElem? (i := 50) rfl)) e1 (Ins.self E_u1) (g := (mkF m 15 #[.val (.ref u0), .val (.ref u1), .unset] [(.ref u1)])) rfl rfl (hb hby d6_15)
  obtain ⟨T3, X3, e3, st3⟩ := getS2 X2 hx hZ hown (host := "") (Or.inl (hw _ (List.mem_of_getElem? (i := 52) rfl))) Via.refl e2 (S_COMPACT.ext O0.2) (g := (mkF m 19 #[.val (.ref u0), .val (.ref u1), .val (.ref u1)] [])) rfl (hb hby d6_19)
  obtain ⟨T4, X4, e4, st4⟩ := getF X3 hx hZ hown (host := "") (Or.inl (hw _ (List.mem_of_getElem? (i := 53) rfl))) Via.refl e3 F_coder_u0 (g := (mkF m 26 #[.val (.ref u0), .val (.ref u1), .val (.ref u1)] [(.ref u0)])) rfl rfl (hb hby d6_26)
  obtain ⟨T5, X5, e5, st5⟩ := getF X4 hx hZ hown (host := "") (Or.inl (hw _ (List.mem_of_getElem? (i := 53) rfl))) Via.refl e4 F_coder_u1 (g := (mkF m 30 #[.val (.ref u0), .val (.ref u1), .val (.ref u1)] [(.ref u1), (.int (0 : Int32))])) rfl rfl (hb hby d6_30)
  obtain ⟨T6, X6, e6, st6⟩ := getF X5 hx hZ hown (host := "") (Or.inl (hw _ (List.mem_of_getElem? (i := 54) rfl))) Via.refl e5 F_value_u0 (g := (mkF m 37 #[.val (.ref u0), .val (.ref u1), .val (.ref u1)] [(.ref u0)])) rfl rfl (hb hby d6_37)
  obtain ⟨T7, X7, e7, st7⟩ := getF X6 hx hZ hown (host := "") (Or.inl (hw _ (List.mem_of_getElem? (i := 54) rfl))) Via.refl e6 F_value_u1 (g := (mkF m 41 #[.val (.ref u0), .val (.ref u1), .val (.ref u1)] [(.ref u1), (.ref d0)])) rfl rfl (hb hby d6_41)
  obtain ⟨_, _, ⟨T8, L8, k8, n8⟩, -, X8, ⟨Lc8, hQ8, l8, y8, z8⟩, st8⟩ := Jvm.LawKit.callS X7 hx (y := (⟨"java/lang/StringLatin1", "equals", "([B[B)Z"⟩ : MethodName)) hown (mvT hZ (hw _ (List.mem_of_getElem? (i := 55) rfl))) (mvT hZ (hw _ (List.mem_of_getElem? (i := 56) rfl))) (mvT hZ (hw _ (List.mem_of_getElem? (i := 57) rfl))) (mvT hZ (hw _ (List.mem_of_getElem? (i := 58) rfl))) (by decide) (backOf (W := 0) (rm7UI l Z a0 hw [] d0 d1 k0 k1 h0 n0 Z0 V_d0 V_d1) hZ (hw _ (List.mem_of_getElem? (i := 58) rfl)) (hw _ (List.mem_of_getElem? (i := 57) rfl)) (by decide) (by decide)) (g := (mkF m 44 #[.val (.ref u0), .val (.ref u1), .val (.ref u1)] [(.ref d1), (.ref d0)])) rfl (by rw [hml]; rfl) (argsL := [(.ref d0), (.ref d1)]) (rest := []) (lenOf pd_6 rfl) rfl (by show 2 * 0 + _ ≤ _; exact Nat.le_of_eq rfl) (hb hby d6_44) (fun _ _ => ⟨rfl, e7, (by decide : 0 + 0 ≤ _), (by decide : 0 + 0 ≤ _)⟩)
  dsimp only [Pt.U, Pt.locs, Pt.cells, Pt.slots] at X8 l8 y8 z8 st8 hQ8
  subst l8 y8 z8
  obtain ⟨rfl, N8q, e8⟩ := hQ8
  have N8 := Fr.app N0 N8q
  obtain ⟨fs, hr, hrun, hended, hW, hsame⟩ := X8.leave (v := some (.int (0 : Int32))) (fun h => by rw [Bd.returns] at h; cases h)
  refine ⟨_, _, pre0 _ ?_, hrun, hended, _, _, rfl, ?_, ⟨_, rfl⟩, hW, hsame.mono (by decide) (by decide)⟩
  · show Steps p.tables e below (s₁.setTop (mkF m 0 #[.val (.ref u0), .val (.ref u1), .unset] [])) _
    refine XS.aloadN X0.here hx rfl (hb hby d6_0) rfl rfl ?_
    show Steps p.tables e below (s₁.setTop (mkF m 1 #[.val (.ref u0), .val (.ref u1), .unset] [(.ref u0)])) _
    refine XS.aloadN X0.here hx rfl (hb hby d6_1) rfl rfl ?_
    show Steps p.tables e below (s₁.setTop (mkF m 2 #[.val (.ref u0), .val (.ref u1), .unset] [(.ref u1), (.ref u0)])) _
    refine Jvm.RoadKit.acmp (g := (mkF m 2 #[.val (.ref u0), .val (.ref u1), .unset] [(.ref u1), (.ref u0)])) X0 hx rfl rfl rfl (pc0 := 2) (pc' := 7) (same := false) rfl (hb hby d6_2) rfl (decide_eq_false fun q => hne (Value.ref.inj q)) (by decide) (by decide) ?_
    show Steps p.tables e below (s₁.setTop (mkF m 7 #[.val (.ref u0), .val (.ref u1), .unset] [])) _
    refine XS.aloadN X0.here hx rfl (hb hby d6_7) rfl rfl ?_
    show Steps p.tables e below (s₁.setTop (mkF m 8 #[.val (.ref u0), .val (.ref u1), .unset] [(.ref u1)])) _
    refine st1 _ ?_
    show Steps p.tables e below (T1.setTop (mkF m 11 #[.val (.ref u0), .val (.ref u1), .unset] [(.int (1 : Int32))])) _
    refine XS.ifNo X1.here hx rfl (hb hby d6_11) rfl ((if0 _ _).trans (feq (by decide)).1) ?_
    show Steps p.tables e below (T1.setTop (mkF m 14 #[.val (.ref u0), .val (.ref u1), .unset] [])) _
    refine XS.aloadN X1.here hx rfl (hb hby d6_14) rfl rfl ?_
    show Steps p.tables e below (T1.setTop (mkF m 15 #[.val (.ref u0), .val (.ref u1), .unset] [(.ref u1)])) _
    refine st2 _ ?_
    show Steps p.tables e below (T2.setTop (mkF m 18 #[.val (.ref u0), .val (.ref u1), .unset] [(.ref u1)])) _
    refine XS.astoreN X2.here hx rfl (hb hby d6_18) rfl rfl (l' := #[.val (.ref u0), .val (.ref u1), .val (.ref u1)]) rfl ?_
    show Steps p.tables e below (T2.setTop (mkF m 19 #[.val (.ref u0), .val (.ref u1), .val (.ref u1)] [])) _
    refine st3 _ ?_
    show Steps p.tables e below (T3.setTop (mkF m 22 #[.val (.ref u0), .val (.ref u1), .val (.ref u1)] [(.int G_COMPACT)])) _
    refine XS.ifNo X3.here hx rfl (hb hby d6_22) rfl ((if0 _ _).trans (feq P_COMPACT).1) ?_
    show Steps p.tables e below (T3.setTop (mkF m 25 #[.val (.ref u0), .val (.ref u1), .val (.ref u1)] [])) _
    refine XS.aloadN X3.here hx rfl (hb hby d6_25) rfl rfl ?_
    show Steps p.tables e below (T3.setTop (mkF m 26 #[.val (.ref u0), .val (.ref u1), .val (.ref u1)] [(.ref u0)])) _
    refine st4 _ ?_
    show Steps p.tables e below (T4.setTop (mkF m 29 #[.val (.ref u0), .val (.ref u1), .val (.ref u1)] [(.int (0 : Int32))])) _
    refine XS.aloadN X4.here hx rfl (hb hby d6_29) rfl rfl ?_
    show Steps p.tables e below (T4.setTop (mkF m 30 #[.val (.ref u0), .val (.ref u1), .val (.ref u1)] [(.ref u1), (.int (0 : Int32))])) _
    refine st5 _ ?_
    show Steps p.tables e below (T5.setTop (mkF m 33 #[.val (.ref u0), .val (.ref u1), .val (.ref u1)] [(.int (0 : Int32)), (.int (0 : Int32))])) _
    refine XS.icmpNo X5.here hx rfl (hb hby d6_33) rfl (teq (by decide)).2 ?_
    show Steps p.tables e below (T5.setTop (mkF m 36 #[.val (.ref u0), .val (.ref u1), .val (.ref u1)] [])) _
    refine XS.aloadN X5.here hx rfl (hb hby d6_36) rfl rfl ?_
    show Steps p.tables e below (T5.setTop (mkF m 37 #[.val (.ref u0), .val (.ref u1), .val (.ref u1)] [(.ref u0)])) _
    refine st6 _ ?_
    show Steps p.tables e below (T6.setTop (mkF m 40 #[.val (.ref u0), .val (.ref u1), .val (.ref u1)] [(.ref d0)])) _
    refine XS.aloadN X6.here hx rfl (hb hby d6_40) rfl rfl ?_
    show Steps p.tables e below (T6.setTop (mkF m 41 #[.val (.ref u0), .val (.ref u1), .val (.ref u1)] [(.ref u1), (.ref d0)])) _
    refine st7 _ ?_
    show Steps p.tables e below (T7.setTop (mkF m 44 #[.val (.ref u0), .val (.ref u1), .val (.ref u1)] [(.ref d1), (.ref d0)])) _
    refine st8 _ ?_
    show Steps p.tables e below (T8.setTop (mkF m 47 #[.val (.ref u0), .val (.ref u1), .val (.ref u1)] [(.int (0 : Int32))])) _
    refine XS.ifYes X8.here hx rfl (pc0 := 47) (pc' := 54) rfl (hb hby d6_47) rfl ((if0 _ _).trans (teq (by decide)).1) (by decide) (by decide) ?_
    show Steps p.tables e below (T8.setTop (mkF m 54 #[.val (.ref u0), .val (.ref u1), .val (.ref u1)] [])) _
    refine XS.iconst X8.here hx rfl (hb hby d6_54) ?_
    show Steps p.tables e below (T8.setTop (mkF m 55 #[.val (.ref u0), .val (.ref u1), .val (.ref u1)] [(.int (0 : Int32))])) _
    exact retN X8 hx (t := .boolean) Bd.returns (by simp) (hb hby d6_55) hr
  · show Q6UI Z u0 u1 d0 d1 k0 k1 G_COMPACT h0 n0 _ T8.heap _
    rw [e8]
    exact ⟨rfl, N8, rfl⟩
theorem ef_6LU (m : MethodId) (u0 : Addr) (u1 : Addr) : entryFrame m #[(.ref u0), (.ref u1)] 3 = mkF m 0 #[.val (.ref u0), .val (.ref u1), .unset] [] := by first | (simp [entryFrame, mkF, argsToLocals, Value.category]; done) | rfl
def Q6LU (Z : State) (u0 : Addr) (u1 : Addr) (d0 : Addr) (d1 : Addr) (k0 : ClassId) (k1 : ClassId) (G_COMPACT : Int32) (h0 : Heap) (n0 : Nat) (v : Option Value) (h : Heap) (L : List Loc) : Prop := v = some (.int (0 : Int32)) ∧ Fr n0 L ∧ h = h0
set_option maxRecDepth 65536 in
set_option maxHeartbeats 40000000 in
theorem rm6LU (l : Launch) (Z : State) (a0 : Array Value) (hw : ∀ d ∈ tables_1, d.before a0 Z = true) (ws : List Jvm.Cond) (u0 : Addr) (u1 : Addr) (d0 : Addr) (d1 : Addr) (k0 : ClassId) (k1 : ClassId) (G_COMPACT : Int32) (h0 : Heap) (n0 : Nat) (Z0 : n0 ≤ h0.size) (O0 : Old Z n0 h0) (E_u0 : Exa Z h0 u0 "java/lang/String") (F_coder_u0 : Fld Z h0 u0 "java/lang/String" "coder" "B" (.int 0)) (F_value_u0 : Fld Z h0 u0 "java/lang/String" "value" "[B" (.ref d0)) (E_u1 : Exa Z h0 u1 "java/lang/String") (F_coder_u1 : Fld Z h0 u1 "java/lang/String" "coder" "B" (.int 0)) (F_value_u1 : Fld Z h0 u1 "java/lang/String" "value" "[B" (.ref d1)) (V_d0 : Arv Z h0 d0 k0 .byte (10 : Int32) [(.int (108 : Int32)), (.int (105 : Int32)), (.int (115 : Int32)), (.int (116 : Int32)), (.int (32 : Int32)), (.int (112 : Int32)), (.int (97 : Int32)), (.int (103 : Int32)), (.int (101 : Int32)), (.int (115 : Int32))] (.int 0)) (V_d1 : Arv Z h0 d1 k1 .byte (12 : Int32) [(.int (97 : Int32)), (.int (108 : Int32)), (.int (108 : Int32)), (.int (32 : Int32)), (.int (114 : Int32)), (.int (101 : Int32)), (.int (113 : Int32)), (.int (117 : Int32)), (.int (101 : Int32)), (.int (115 : Int32)), (.int (116 : Int32)), (.int (115 : Int32))] (.int 0)) (S_COMPACT : Sta Z Z.heap "java/lang/String" "COMPACT_STRINGS" "Z" (.int G_COMPACT)) (P_COMPACT : ¬ G_COMPACT = 0) (hne : u0 ≠ u1) :
    MetFree l (⟨"java/lang/String", "equals", "(Ljava/lang/Object;)Z"⟩ : MethodName) (head1 (Jvm.Cond.code (⟨"java/lang/String", "equals", "(Ljava/lang/Object;)Z"⟩ : MethodName) jdk_42_method_66_code 3 (some .boolean) :: ws) ({ frames := 1, cells := 0, slots := 0, locals := 14 } : Room)) (fun a U => a = #[(.ref u0), (.ref u1)] ∧ Z.Warmed39 U.vm ∧ U.heap = h0) (fun _ _ _ _ _ => True) (fun _ U o U' => ∃ v L, o = .returned v ∧ Q6LU Z u0 u1 d0 d1 k0 k1 G_COMPACT h0 n0 v U'.heap L ∧ FrameEnd U o U' L ({ frames := 1, cells := 0, slots := 0, locals := 14 } : Room).cells ({ frames := 1, cells := 0, slots := 0, locals := 14 } : Room).slots) := by
  refine MetFree.of_bodySF (plainFor_of_name pn_java_lang_String) hisR ?_
  intro p e s m args below meth c s₁ Bd hml0 hP hK
  obtain ⟨rfl, hZ, hh⟩ := hP
  have hx := Bd.exec
  have hby := Bd.bytes
  have hml : c.maxLocals = 3 := hml0
  have hown : s.vm.findClass "java/lang/String" = some m.cls := findClass_of_methodNamed Bd.named
  have hnm := (name_of_methodNamed Bd.named Bd.method).1
  have X0 : Stand p l e ({ frames := 1, cells := 0, slots := 0, locals := 14 } : Room) s m #[(.ref u0), (.ref u1)] below meth c s₁ [] 0 0 := Stand.of_body Bd
  have e0 : s₁.heap = h0 := by rw [← hh, Bd.state]; rfl
  have N0 := Fr.nil n0
  have pre0 : ∀ t, Steps p.tables e below (s₁.setTop (mkF m 0 #[.val (.ref u0), .val (.ref u1), .unset] [])) t → Steps p.tables e below (s₁.setTop (entryFrame m #[(.ref u0), (.ref u1)] 3)) t := fun t k => castTop (ef_6LU m u0 u1) k
  obtain ⟨T1, X1, e1, st1⟩ := instY X0 hx hZ hown (hw _ (List.mem_of_getElem? (i := 50) rfl)) e0 (Ins.self E_u1) (g := (mkF m 8 #[.val (.ref u0), .val (.ref u1), .unset] [(.ref u1)])) rfl rfl (hb hby d6_8)
  obtain ⟨T2, X2, e2, st2⟩ := castY X1 hx hZ hown (hw _ (List.mem_of_getElem? (i := 50) rfl)) e1 (Ins.self E_u1) (g := (mkF m 15 #[.val (.ref u0), .val (.ref u1), .unset] [(.ref u1)])) rfl rfl (hb hby d6_15)
  obtain ⟨T3, X3, e3, st3⟩ := getS2 X2 hx hZ hown (host := "") (Or.inl (hw _ (List.mem_of_getElem? (i := 52) rfl))) Via.refl e2 (S_COMPACT.ext O0.2) (g := (mkF m 19 #[.val (.ref u0), .val (.ref u1), .val (.ref u1)] [])) rfl (hb hby d6_19)
  obtain ⟨T4, X4, e4, st4⟩ := getF X3 hx hZ hown (host := "") (Or.inl (hw _ (List.mem_of_getElem? (i := 53) rfl))) Via.refl e3 F_coder_u0 (g := (mkF m 26 #[.val (.ref u0), .val (.ref u1), .val (.ref u1)] [(.ref u0)])) rfl rfl (hb hby d6_26)
  obtain ⟨T5, X5, e5, st5⟩ := getF X4 hx hZ hown (host := "") (Or.inl (hw _ (List.mem_of_getElem? (i := 53) rfl))) Via.refl e4 F_coder_u1 (g := (mkF m 30 #[.val (.ref u0), .val (.ref u1), .val (.ref u1)] [(.ref u1), (.int (0 : Int32))])) rfl rfl (hb hby d6_30)
  obtain ⟨T6, X6, e6, st6⟩ := getF X5 hx hZ hown (host := "") (Or.inl (hw _ (List.mem_of_getElem? (i := 54) rfl))) Via.refl e5 F_value_u0 (g := (mkF m 37 #[.val (.ref u0), .val (.ref u1), .val (.ref u1)] [(.ref u0)])) rfl rfl (hb hby d6_37)
  obtain ⟨T7, X7, e7, st7⟩ := getF X6 hx hZ hown (host := "") (Or.inl (hw _ (List.mem_of_getElem? (i := 54) rfl))) Via.refl e6 F_value_u1 (g := (mkF m 41 #[.val (.ref u0), .val (.ref u1), .val (.ref u1)] [(.ref u1), (.ref d0)])) rfl rfl (hb hby d6_41)
  obtain ⟨_, _, ⟨T8, L8, k8, n8⟩, -, X8, ⟨Lc8, hQ8, l8, y8, z8⟩, st8⟩ := Jvm.LawKit.callS X7 hx (y := (⟨"java/lang/StringLatin1", "equals", "([B[B)Z"⟩ : MethodName)) hown (mvT hZ (hw _ (List.mem_of_getElem? (i := 55) rfl))) (mvT hZ (hw _ (List.mem_of_getElem? (i := 56) rfl))) (mvT hZ (hw _ (List.mem_of_getElem? (i := 57) rfl))) (mvT hZ (hw _ (List.mem_of_getElem? (i := 58) rfl))) (by decide) (backOf (W := 0) (rm7LU l Z a0 hw [] d0 d1 k0 k1 h0 n0 Z0 V_d0 V_d1) hZ (hw _ (List.mem_of_getElem? (i := 58) rfl)) (hw _ (List.mem_of_getElem? (i := 57) rfl)) (by decide) (by decide)) (g := (mkF m 44 #[.val (.ref u0), .val (.ref u1), .val (.ref u1)] [(.ref d1), (.ref d0)])) rfl (by rw [hml]; rfl) (argsL := [(.ref d0), (.ref d1)]) (rest := []) (lenOf pd_6 rfl) rfl (by show 2 * 0 + _ ≤ _; exact Nat.le_of_eq rfl) (hb hby d6_44) (fun _ _ => ⟨rfl, e7, (by decide : 0 + 0 ≤ _), (by decide : 0 + 0 ≤ _)⟩)
  dsimp only [Pt.U, Pt.locs, Pt.cells, Pt.slots] at X8 l8 y8 z8 st8 hQ8
  subst l8 y8 z8
  obtain ⟨rfl, N8q, e8⟩ := hQ8
  have N8 := Fr.app N0 N8q
  obtain ⟨fs, hr, hrun, hended, hW, hsame⟩ := X8.leave (v := some (.int (0 : Int32))) (fun h => by rw [Bd.returns] at h; cases h)
  refine ⟨_, _, pre0 _ ?_, hrun, hended, _, _, rfl, ?_, ⟨_, rfl⟩, hW, hsame.mono (by decide) (by decide)⟩
  · show Steps p.tables e below (s₁.setTop (mkF m 0 #[.val (.ref u0), .val (.ref u1), .unset] [])) _
    refine XS.aloadN X0.here hx rfl (hb hby d6_0) rfl rfl ?_
    show Steps p.tables e below (s₁.setTop (mkF m 1 #[.val (.ref u0), .val (.ref u1), .unset] [(.ref u0)])) _
    refine XS.aloadN X0.here hx rfl (hb hby d6_1) rfl rfl ?_
    show Steps p.tables e below (s₁.setTop (mkF m 2 #[.val (.ref u0), .val (.ref u1), .unset] [(.ref u1), (.ref u0)])) _
    refine Jvm.RoadKit.acmp (g := (mkF m 2 #[.val (.ref u0), .val (.ref u1), .unset] [(.ref u1), (.ref u0)])) X0 hx rfl rfl rfl (pc0 := 2) (pc' := 7) (same := false) rfl (hb hby d6_2) rfl (decide_eq_false fun q => hne (Value.ref.inj q)) (by decide) (by decide) ?_
    show Steps p.tables e below (s₁.setTop (mkF m 7 #[.val (.ref u0), .val (.ref u1), .unset] [])) _
    refine XS.aloadN X0.here hx rfl (hb hby d6_7) rfl rfl ?_
    show Steps p.tables e below (s₁.setTop (mkF m 8 #[.val (.ref u0), .val (.ref u1), .unset] [(.ref u1)])) _
    refine st1 _ ?_
    show Steps p.tables e below (T1.setTop (mkF m 11 #[.val (.ref u0), .val (.ref u1), .unset] [(.int (1 : Int32))])) _
    refine XS.ifNo X1.here hx rfl (hb hby d6_11) rfl ((if0 _ _).trans (feq (by decide)).1) ?_
    show Steps p.tables e below (T1.setTop (mkF m 14 #[.val (.ref u0), .val (.ref u1), .unset] [])) _
    refine XS.aloadN X1.here hx rfl (hb hby d6_14) rfl rfl ?_
    show Steps p.tables e below (T1.setTop (mkF m 15 #[.val (.ref u0), .val (.ref u1), .unset] [(.ref u1)])) _
    refine st2 _ ?_
    show Steps p.tables e below (T2.setTop (mkF m 18 #[.val (.ref u0), .val (.ref u1), .unset] [(.ref u1)])) _
    refine XS.astoreN X2.here hx rfl (hb hby d6_18) rfl rfl (l' := #[.val (.ref u0), .val (.ref u1), .val (.ref u1)]) rfl ?_
    show Steps p.tables e below (T2.setTop (mkF m 19 #[.val (.ref u0), .val (.ref u1), .val (.ref u1)] [])) _
    refine st3 _ ?_
    show Steps p.tables e below (T3.setTop (mkF m 22 #[.val (.ref u0), .val (.ref u1), .val (.ref u1)] [(.int G_COMPACT)])) _
    refine XS.ifNo X3.here hx rfl (hb hby d6_22) rfl ((if0 _ _).trans (feq P_COMPACT).1) ?_
    show Steps p.tables e below (T3.setTop (mkF m 25 #[.val (.ref u0), .val (.ref u1), .val (.ref u1)] [])) _
    refine XS.aloadN X3.here hx rfl (hb hby d6_25) rfl rfl ?_
    show Steps p.tables e below (T3.setTop (mkF m 26 #[.val (.ref u0), .val (.ref u1), .val (.ref u1)] [(.ref u0)])) _
    refine st4 _ ?_
    show Steps p.tables e below (T4.setTop (mkF m 29 #[.val (.ref u0), .val (.ref u1), .val (.ref u1)] [(.int (0 : Int32))])) _
    refine XS.aloadN X4.here hx rfl (hb hby d6_29) rfl rfl ?_
    show Steps p.tables e below (T4.setTop (mkF m 30 #[.val (.ref u0), .val (.ref u1), .val (.ref u1)] [(.ref u1), (.int (0 : Int32))])) _
    refine st5 _ ?_
    show Steps p.tables e below (T5.setTop (mkF m 33 #[.val (.ref u0), .val (.ref u1), .val (.ref u1)] [(.int (0 : Int32)), (.int (0 : Int32))])) _
    refine XS.icmpNo X5.here hx rfl (hb hby d6_33) rfl (teq (by decide)).2 ?_
    show Steps p.tables e below (T5.setTop (mkF m 36 #[.val (.ref u0), .val (.ref u1), .val (.ref u1)] [])) _
    refine XS.aloadN X5.here hx rfl (hb hby d6_36) rfl rfl ?_
    show Steps p.tables e below (T5.setTop (mkF m 37 #[.val (.ref u0), .val (.ref u1), .val (.ref u1)] [(.ref u0)])) _
    refine st6 _ ?_
    show Steps p.tables e below (T6.setTop (mkF m 40 #[.val (.ref u0), .val (.ref u1), .val (.ref u1)] [(.ref d0)])) _
    refine XS.aloadN X6.here hx rfl (hb hby d6_40) rfl rfl ?_
    show Steps p.tables e below (T6.setTop (mkF m 41 #[.val (.ref u0), .val (.ref u1), .val (.ref u1)] [(.ref u1), (.ref d0)])) _
    refine st7 _ ?_
    show Steps p.tables e below (T7.setTop (mkF m 44 #[.val (.ref u0), .val (.ref u1), .val (.ref u1)] [(.ref d1), (.ref d0)])) _
    refine st8 _ ?_
    show Steps p.tables e below (T8.setTop (mkF m 47 #[.val (.ref u0), .val (.ref u1), .val (.ref u1)] [(.int (0 : Int32))])) _
    refine XS.ifYes X8.here hx rfl (pc0 := 47) (pc' := 54) rfl (hb hby d6_47) rfl ((if0 _ _).trans (teq (by decide)).1) (by decide) (by decide) ?_
    show Steps p.tables e below (T8.setTop (mkF m 54 #[.val (.ref u0), .val (.ref u1), .val (.ref u1)] [])) _
    refine XS.iconst X8.here hx rfl (hb hby d6_54) ?_
    show Steps p.tables e below (T8.setTop (mkF m 55 #[.val (.ref u0), .val (.ref u1), .val (.ref u1)] [(.int (0 : Int32))])) _
    exact retN X8 hx (t := .boolean) Bd.returns (by simp) (hb hby d6_55) hr
  · show Q6LU Z u0 u1 d0 d1 k0 k1 G_COMPACT h0 n0 _ T8.heap _
    rw [e8]
    exact ⟨rfl, N8, rfl⟩
theorem ef_6LL (m : MethodId) (u0 : Addr) (u1 : Addr) : entryFrame m #[(.ref u0), (.ref u1)] 3 = mkF m 0 #[.val (.ref u0), .val (.ref u1), .unset] [] := by first | (simp [entryFrame, mkF, argsToLocals, Value.category]; done) | rfl
def Q6LL (Z : State) (u0 : Addr) (u1 : Addr) (d0 : Addr) (d1 : Addr) (k0 : ClassId) (k1 : ClassId) (G_COMPACT : Int32) (h0 : Heap) (n0 : Nat) (v : Option Value) (h : Heap) (L : List Loc) : Prop := v = some (.int (1 : Int32)) ∧ Fr n0 L ∧ h = h0
set_option maxRecDepth 65536 in
set_option maxHeartbeats 40000000 in
theorem rm6LL (l : Launch) (Z : State) (a0 : Array Value) (hw : ∀ d ∈ tables_1, d.before a0 Z = true) (ws : List Jvm.Cond) (u0 : Addr) (u1 : Addr) (d0 : Addr) (d1 : Addr) (k0 : ClassId) (k1 : ClassId) (G_COMPACT : Int32) (h0 : Heap) (n0 : Nat) (Z0 : n0 ≤ h0.size) (O0 : Old Z n0 h0) (E_u0 : Exa Z h0 u0 "java/lang/String") (F_coder_u0 : Fld Z h0 u0 "java/lang/String" "coder" "B" (.int 0)) (F_value_u0 : Fld Z h0 u0 "java/lang/String" "value" "[B" (.ref d0)) (E_u1 : Exa Z h0 u1 "java/lang/String") (F_coder_u1 : Fld Z h0 u1 "java/lang/String" "coder" "B" (.int 0)) (F_value_u1 : Fld Z h0 u1 "java/lang/String" "value" "[B" (.ref d1)) (V_d0 : Arv Z h0 d0 k0 .byte (10 : Int32) [(.int (108 : Int32)), (.int (105 : Int32)), (.int (115 : Int32)), (.int (116 : Int32)), (.int (32 : Int32)), (.int (112 : Int32)), (.int (97 : Int32)), (.int (103 : Int32)), (.int (101 : Int32)), (.int (115 : Int32))] (.int 0)) (V_d1 : Arv Z h0 d1 k1 .byte (10 : Int32) [(.int (108 : Int32)), (.int (105 : Int32)), (.int (115 : Int32)), (.int (116 : Int32)), (.int (32 : Int32)), (.int (112 : Int32)), (.int (97 : Int32)), (.int (103 : Int32)), (.int (101 : Int32)), (.int (115 : Int32))] (.int 0)) (S_COMPACT : Sta Z Z.heap "java/lang/String" "COMPACT_STRINGS" "Z" (.int G_COMPACT)) (P_COMPACT : ¬ G_COMPACT = 0) :
    MetFree l (⟨"java/lang/String", "equals", "(Ljava/lang/Object;)Z"⟩ : MethodName) (head1 (Jvm.Cond.code (⟨"java/lang/String", "equals", "(Ljava/lang/Object;)Z"⟩ : MethodName) jdk_42_method_66_code 3 (some .boolean) :: ws) ({ frames := 1, cells := 0, slots := 0, locals := 14 } : Room)) (fun a U => a = #[(.ref u0), (.ref u1)] ∧ Z.Warmed39 U.vm ∧ U.heap = h0) (fun _ _ _ _ _ => True) (fun _ U o U' => ∃ v L, o = .returned v ∧ Q6LL Z u0 u1 d0 d1 k0 k1 G_COMPACT h0 n0 v U'.heap L ∧ FrameEnd U o U' L ({ frames := 1, cells := 0, slots := 0, locals := 14 } : Room).cells ({ frames := 1, cells := 0, slots := 0, locals := 14 } : Room).slots) := by
  refine MetFree.of_bodySF (plainFor_of_name pn_java_lang_String) hisR ?_
  intro p e s m args below meth c s₁ Bd hml0 hP hK
  obtain ⟨rfl, hZ, hh⟩ := hP
  have hx := Bd.exec
  have hby := Bd.bytes
  have hml : c.maxLocals = 3 := hml0
  have hown : s.vm.findClass "java/lang/String" = some m.cls := findClass_of_methodNamed Bd.named
  have hnm := (name_of_methodNamed Bd.named Bd.method).1
  have X0 : Stand p l e ({ frames := 1, cells := 0, slots := 0, locals := 14 } : Room) s m #[(.ref u0), (.ref u1)] below meth c s₁ [] 0 0 := Stand.of_body Bd
  have e0 : s₁.heap = h0 := by rw [← hh, Bd.state]; rfl
  have N0 := Fr.nil n0
  have pre0 : ∀ t, Steps p.tables e below (s₁.setTop (mkF m 0 #[.val (.ref u0), .val (.ref u1), .unset] [])) t → Steps p.tables e below (s₁.setTop (entryFrame m #[(.ref u0), (.ref u1)] 3)) t := fun t k => castTop (ef_6LL m u0 u1) k
  by_cases ha2 : u0 = u1
  · obtain ⟨fs, hr, hrun, hended, hW, hsame⟩ := X0.leave (v := some (.int (1 : Int32))) (fun h => by rw [Bd.returns] at h; cases h)
    refine ⟨_, _, pre0 _ ?_, hrun, hended, _, _, rfl, ?_, ⟨_, rfl⟩, hW, hsame.mono (by decide) (by decide)⟩
    · show Steps p.tables e below (s₁.setTop (mkF m 0 #[.val (.ref u0), .val (.ref u1), .unset] [])) _
      refine XS.aloadN X0.here hx rfl (hb hby d6_0) rfl rfl ?_
      show Steps p.tables e below (s₁.setTop (mkF m 1 #[.val (.ref u0), .val (.ref u1), .unset] [(.ref u0)])) _
      refine XS.aloadN X0.here hx rfl (hb hby d6_1) rfl rfl ?_
      show Steps p.tables e below (s₁.setTop (mkF m 2 #[.val (.ref u0), .val (.ref u1), .unset] [(.ref u1), (.ref u0)])) _
      refine Jvm.RoadKit.acmp (g := (mkF m 2 #[.val (.ref u0), .val (.ref u1), .unset] [(.ref u1), (.ref u0)])) X0 hx rfl rfl rfl (pc0 := 2) (pc' := 5) (same := true) rfl (hb hby d6_2) rfl (decide_eq_true (congrArg Value.ref ha2)) (by decide) (by decide) ?_
      show Steps p.tables e below (s₁.setTop (mkF m 5 #[.val (.ref u0), .val (.ref u1), .unset] [])) _
      refine XS.iconst X0.here hx rfl (hb hby d6_5) ?_
      show Steps p.tables e below (s₁.setTop (mkF m 6 #[.val (.ref u0), .val (.ref u1), .unset] [(.int (1 : Int32))])) _
      exact retN X0 hx (t := .boolean) Bd.returns (by simp) (hb hby d6_6) hr
    · show Q6LL Z u0 u1 d0 d1 k0 k1 G_COMPACT h0 n0 _ s₁.heap _
      rw [e0]
      exact ⟨rfl, N0, rfl⟩
  · obtain ⟨T1, X1, e1, st1⟩ := instY X0 hx hZ hown (hw _ (List.mem_of_getElem? (i := 50) rfl)) e0 (Ins.self E_u1) (g := (mkF m 8 #[.val (.ref u0), .val (.ref u1), .unset] [(.ref u1)])) rfl rfl (hb hby d6_8)
    obtain ⟨T2, X2, e2, st2⟩ := castY X1 hx hZ hown (hw _ (List.mem_of_getElem? (i := 50) rfl)) e1 (Ins.self E_u1) (g := (mkF m 15 #[.val (.ref u0), .val (.ref u1), .unset] [(.ref u1)])) rfl rfl (hb hby d6_15)
    obtain ⟨T3, X3, e3, st3⟩ := getS2 X2 hx hZ hown (host := "") (Or.inl (hw _ (List.mem_of_getElem? (i := 52) rfl))) Via.refl e2 (S_COMPACT.ext O0.2) (g := (mkF m 19 #[.val (.ref u0), .val (.ref u1), .val (.ref u1)] [])) rfl (hb hby d6_19)
    obtain ⟨T4, X4, e4, st4⟩ := getF X3 hx hZ hown (host := "") (Or.inl (hw _ (List.mem_of_getElem? (i := 53) rfl))) Via.refl e3 F_coder_u0 (g := (mkF m 26 #[.val (.ref u0), .val (.ref u1), .val (.ref u1)] [(.ref u0)])) rfl rfl (hb hby d6_26)
    obtain ⟨T5, X5, e5, st5⟩ := getF X4 hx hZ hown (host := "") (Or.inl (hw _ (List.mem_of_getElem? (i := 53) rfl))) Via.refl e4 F_coder_u1 (g := (mkF m 30 #[.val (.ref u0), .val (.ref u1), .val (.ref u1)] [(.ref u1), (.int (0 : Int32))])) rfl rfl (hb hby d6_30)
    obtain ⟨T6, X6, e6, st6⟩ := getF X5 hx hZ hown (host := "") (Or.inl (hw _ (List.mem_of_getElem? (i := 54) rfl))) Via.refl e5 F_value_u0 (g := (mkF m 37 #[.val (.ref u0), .val (.ref u1), .val (.ref u1)] [(.ref u0)])) rfl rfl (hb hby d6_37)
    obtain ⟨T7, X7, e7, st7⟩ := getF X6 hx hZ hown (host := "") (Or.inl (hw _ (List.mem_of_getElem? (i := 54) rfl))) Via.refl e6 F_value_u1 (g := (mkF m 41 #[.val (.ref u0), .val (.ref u1), .val (.ref u1)] [(.ref u1), (.ref d0)])) rfl rfl (hb hby d6_41)
    obtain ⟨_, _, ⟨T8, L8, k8, n8⟩, -, X8, ⟨Lc8, hQ8, l8, y8, z8⟩, st8⟩ := Jvm.LawKit.callS X7 hx (y := (⟨"java/lang/StringLatin1", "equals", "([B[B)Z"⟩ : MethodName)) hown (mvT hZ (hw _ (List.mem_of_getElem? (i := 55) rfl))) (mvT hZ (hw _ (List.mem_of_getElem? (i := 56) rfl))) (mvT hZ (hw _ (List.mem_of_getElem? (i := 57) rfl))) (mvT hZ (hw _ (List.mem_of_getElem? (i := 58) rfl))) (by decide) (backOf (W := 0) (rm7LL l Z a0 hw [] d0 d1 k0 k1 h0 n0 Z0 V_d0 V_d1) hZ (hw _ (List.mem_of_getElem? (i := 58) rfl)) (hw _ (List.mem_of_getElem? (i := 57) rfl)) (by decide) (by decide)) (g := (mkF m 44 #[.val (.ref u0), .val (.ref u1), .val (.ref u1)] [(.ref d1), (.ref d0)])) rfl (by rw [hml]; rfl) (argsL := [(.ref d0), (.ref d1)]) (rest := []) (lenOf pd_6 rfl) rfl (by show 2 * 0 + _ ≤ _; exact Nat.le_of_eq rfl) (hb hby d6_44) (fun _ _ => ⟨rfl, e7, (by decide : 0 + 0 ≤ _), (by decide : 0 + 0 ≤ _)⟩)
    dsimp only [Pt.U, Pt.locs, Pt.cells, Pt.slots] at X8 l8 y8 z8 st8 hQ8
    subst l8 y8 z8
    obtain ⟨rfl, N8q, e8⟩ := hQ8
    have N8 := Fr.app N0 N8q
    obtain ⟨fs, hr, hrun, hended, hW, hsame⟩ := X8.leave (v := some (.int (1 : Int32))) (fun h => by rw [Bd.returns] at h; cases h)
    refine ⟨_, _, pre0 _ ?_, hrun, hended, _, _, rfl, ?_, ⟨_, rfl⟩, hW, hsame.mono (by decide) (by decide)⟩
    · show Steps p.tables e below (s₁.setTop (mkF m 0 #[.val (.ref u0), .val (.ref u1), .unset] [])) _
      refine XS.aloadN X0.here hx rfl (hb hby d6_0) rfl rfl ?_
      show Steps p.tables e below (s₁.setTop (mkF m 1 #[.val (.ref u0), .val (.ref u1), .unset] [(.ref u0)])) _
      refine XS.aloadN X0.here hx rfl (hb hby d6_1) rfl rfl ?_
      show Steps p.tables e below (s₁.setTop (mkF m 2 #[.val (.ref u0), .val (.ref u1), .unset] [(.ref u1), (.ref u0)])) _
      refine Jvm.RoadKit.acmp (g := (mkF m 2 #[.val (.ref u0), .val (.ref u1), .unset] [(.ref u1), (.ref u0)])) X0 hx rfl rfl rfl (pc0 := 2) (pc' := 7) (same := false) rfl (hb hby d6_2) rfl (decide_eq_false fun q => ha2 (Value.ref.inj q)) (by decide) (by decide) ?_
      show Steps p.tables e below (s₁.setTop (mkF m 7 #[.val (.ref u0), .val (.ref u1), .unset] [])) _
      refine XS.aloadN X0.here hx rfl (hb hby d6_7) rfl rfl ?_
      show Steps p.tables e below (s₁.setTop (mkF m 8 #[.val (.ref u0), .val (.ref u1), .unset] [(.ref u1)])) _
      refine st1 _ ?_
      show Steps p.tables e below (T1.setTop (mkF m 11 #[.val (.ref u0), .val (.ref u1), .unset] [(.int (1 : Int32))])) _
      refine XS.ifNo X1.here hx rfl (hb hby d6_11) rfl ((if0 _ _).trans (feq (by decide)).1) ?_
      show Steps p.tables e below (T1.setTop (mkF m 14 #[.val (.ref u0), .val (.ref u1), .unset] [])) _
      refine XS.aloadN X1.here hx rfl (hb hby d6_14) rfl rfl ?_
      show Steps p.tables e below (T1.setTop (mkF m 15 #[.val (.ref u0), .val (.ref u1), .unset] [(.ref u1)])) _
      refine st2 _ ?_
      show Steps p.tables e below (T2.setTop (mkF m 18 #[.val (.ref u0), .val (.ref u1), .unset] [(.ref u1)])) _
      refine XS.astoreN X2.here hx rfl (hb hby d6_18) rfl rfl (l' := #[.val (.ref u0), .val (.ref u1), .val (.ref u1)]) rfl ?_
      show Steps p.tables e below (T2.setTop (mkF m 19 #[.val (.ref u0), .val (.ref u1), .val (.ref u1)] [])) _
      refine st3 _ ?_
      show Steps p.tables e below (T3.setTop (mkF m 22 #[.val (.ref u0), .val (.ref u1), .val (.ref u1)] [(.int G_COMPACT)])) _
      refine XS.ifNo X3.here hx rfl (hb hby d6_22) rfl ((if0 _ _).trans (feq P_COMPACT).1) ?_
      show Steps p.tables e below (T3.setTop (mkF m 25 #[.val (.ref u0), .val (.ref u1), .val (.ref u1)] [])) _
      refine XS.aloadN X3.here hx rfl (hb hby d6_25) rfl rfl ?_
      show Steps p.tables e below (T3.setTop (mkF m 26 #[.val (.ref u0), .val (.ref u1), .val (.ref u1)] [(.ref u0)])) _
      refine st4 _ ?_
      show Steps p.tables e below (T4.setTop (mkF m 29 #[.val (.ref u0), .val (.ref u1), .val (.ref u1)] [(.int (0 : Int32))])) _
      refine XS.aloadN X4.here hx rfl (hb hby d6_29) rfl rfl ?_
      show Steps p.tables e below (T4.setTop (mkF m 30 #[.val (.ref u0), .val (.ref u1), .val (.ref u1)] [(.ref u1), (.int (0 : Int32))])) _
      refine st5 _ ?_
      show Steps p.tables e below (T5.setTop (mkF m 33 #[.val (.ref u0), .val (.ref u1), .val (.ref u1)] [(.int (0 : Int32)), (.int (0 : Int32))])) _
      refine XS.icmpNo X5.here hx rfl (hb hby d6_33) rfl (teq (by decide)).2 ?_
      show Steps p.tables e below (T5.setTop (mkF m 36 #[.val (.ref u0), .val (.ref u1), .val (.ref u1)] [])) _
      refine XS.aloadN X5.here hx rfl (hb hby d6_36) rfl rfl ?_
      show Steps p.tables e below (T5.setTop (mkF m 37 #[.val (.ref u0), .val (.ref u1), .val (.ref u1)] [(.ref u0)])) _
      refine st6 _ ?_
      show Steps p.tables e below (T6.setTop (mkF m 40 #[.val (.ref u0), .val (.ref u1), .val (.ref u1)] [(.ref d0)])) _
      refine XS.aloadN X6.here hx rfl (hb hby d6_40) rfl rfl ?_
      show Steps p.tables e below (T6.setTop (mkF m 41 #[.val (.ref u0), .val (.ref u1), .val (.ref u1)] [(.ref u1), (.ref d0)])) _
      refine st7 _ ?_
      show Steps p.tables e below (T7.setTop (mkF m 44 #[.val (.ref u0), .val (.ref u1), .val (.ref u1)] [(.ref d1), (.ref d0)])) _
      refine st8 _ ?_
      show Steps p.tables e below (T8.setTop (mkF m 47 #[.val (.ref u0), .val (.ref u1), .val (.ref u1)] [(.int (1 : Int32))])) _
      refine XS.ifNo X8.here hx rfl (hb hby d6_47) rfl ((if0 _ _).trans (feq (by decide)).1) ?_
      show Steps p.tables e below (T8.setTop (mkF m 50 #[.val (.ref u0), .val (.ref u1), .val (.ref u1)] [])) _
      refine XS.iconst X8.here hx rfl (hb hby d6_50) ?_
      show Steps p.tables e below (T8.setTop (mkF m 51 #[.val (.ref u0), .val (.ref u1), .val (.ref u1)] [(.int (1 : Int32))])) _
      refine XS.goto X8.here hx rfl (pc0 := 51) (pc' := 55) rfl (hb hby d6_51) (by decide) (by decide) ?_
      show Steps p.tables e below (T8.setTop (mkF m 55 #[.val (.ref u0), .val (.ref u1), .val (.ref u1)] [(.int (1 : Int32))])) _
      exact retN X8 hx (t := .boolean) Bd.returns (by simp) (hb hby d6_55) hr
    · show Q6LL Z u0 u1 d0 d1 k0 k1 G_COMPACT h0 n0 _ T8.heap _
      rw [e8]
      exact ⟨rfl, N8, rfl⟩
theorem ef_6LI (m : MethodId) (u0 : Addr) (u1 : Addr) : entryFrame m #[(.ref u0), (.ref u1)] 3 = mkF m 0 #[.val (.ref u0), .val (.ref u1), .unset] [] := by first | (simp [entryFrame, mkF, argsToLocals, Value.category]; done) | rfl
def Q6LI (Z : State) (u0 : Addr) (u1 : Addr) (d0 : Addr) (d1 : Addr) (k0 : ClassId) (k1 : ClassId) (G_COMPACT : Int32) (h0 : Heap) (n0 : Nat) (v : Option Value) (h : Heap) (L : List Loc) : Prop := v = some (.int (0 : Int32)) ∧ Fr n0 L ∧ h = h0
set_option maxRecDepth 65536 in
set_option maxHeartbeats 40000000 in
theorem rm6LI (l : Launch) (Z : State) (a0 : Array Value) (hw : ∀ d ∈ tables_1, d.before a0 Z = true) (ws : List Jvm.Cond) (u0 : Addr) (u1 : Addr) (d0 : Addr) (d1 : Addr) (k0 : ClassId) (k1 : ClassId) (G_COMPACT : Int32) (h0 : Heap) (n0 : Nat) (Z0 : n0 ≤ h0.size) (O0 : Old Z n0 h0) (E_u0 : Exa Z h0 u0 "java/lang/String") (F_coder_u0 : Fld Z h0 u0 "java/lang/String" "coder" "B" (.int 0)) (F_value_u0 : Fld Z h0 u0 "java/lang/String" "value" "[B" (.ref d0)) (E_u1 : Exa Z h0 u1 "java/lang/String") (F_coder_u1 : Fld Z h0 u1 "java/lang/String" "coder" "B" (.int 0)) (F_value_u1 : Fld Z h0 u1 "java/lang/String" "value" "[B" (.ref d1)) (V_d0 : Arv Z h0 d0 k0 .byte (10 : Int32) [(.int (108 : Int32)), (.int (105 : Int32)), (.int (115 : Int32)), (.int (116 : Int32)), (.int (32 : Int32)), (.int (112 : Int32)), (.int (97 : Int32)), (.int (103 : Int32)), (.int (101 : Int32)), (.int (115 : Int32))] (.int 0)) (V_d1 : Arv Z h0 d1 k1 .byte (5 : Int32) [(.int (105 : Int32)), (.int (116 : Int32)), (.int (101 : Int32)), (.int (109 : Int32)), (.int (115 : Int32))] (.int 0)) (S_COMPACT : Sta Z Z.heap "java/lang/String" "COMPACT_STRINGS" "Z" (.int G_COMPACT)) (P_COMPACT : ¬ G_COMPACT = 0) (hne : u0 ≠ u1) :
    MetFree l (⟨"java/lang/String", "equals", "(Ljava/lang/Object;)Z"⟩ : MethodName) (head1 (Jvm.Cond.code (⟨"java/lang/String", "equals", "(Ljava/lang/Object;)Z"⟩ : MethodName) jdk_42_method_66_code 3 (some .boolean) :: ws) ({ frames := 1, cells := 0, slots := 0, locals := 14 } : Room)) (fun a U => a = #[(.ref u0), (.ref u1)] ∧ Z.Warmed39 U.vm ∧ U.heap = h0) (fun _ _ _ _ _ => True) (fun _ U o U' => ∃ v L, o = .returned v ∧ Q6LI Z u0 u1 d0 d1 k0 k1 G_COMPACT h0 n0 v U'.heap L ∧ FrameEnd U o U' L ({ frames := 1, cells := 0, slots := 0, locals := 14 } : Room).cells ({ frames := 1, cells := 0, slots := 0, locals := 14 } : Room).slots) := by
  refine MetFree.of_bodySF (plainFor_of_name pn_java_lang_String) hisR ?_
  intro p e s m args below meth c s₁ Bd hml0 hP hK
  obtain ⟨rfl, hZ, hh⟩ := hP
  have hx := Bd.exec
  have hby := Bd.bytes
  have hml : c.maxLocals = 3 := hml0
  have hown : s.vm.findClass "java/lang/String" = some m.cls := findClass_of_methodNamed Bd.named
  have hnm := (name_of_methodNamed Bd.named Bd.method).1
  have X0 : Stand p l e ({ frames := 1, cells := 0, slots := 0, locals := 14 } : Room) s m #[(.ref u0), (.ref u1)] below meth c s₁ [] 0 0 := Stand.of_body Bd
  have e0 : s₁.heap = h0 := by rw [← hh, Bd.state]; rfl
  have N0 := Fr.nil n0
  have pre0 : ∀ t, Steps p.tables e below (s₁.setTop (mkF m 0 #[.val (.ref u0), .val (.ref u1), .unset] [])) t → Steps p.tables e below (s₁.setTop (entryFrame m #[(.ref u0), (.ref u1)] 3)) t := fun t k => castTop (ef_6LI m u0 u1) k
  obtain ⟨T1, X1, e1, st1⟩ := instY X0 hx hZ hown (hw _ (List.mem_of_getElem? (i := 50) rfl)) e0 (Ins.self E_u1) (g := (mkF m 8 #[.val (.ref u0), .val (.ref u1), .unset] [(.ref u1)])) rfl rfl (hb hby d6_8)
  obtain ⟨T2, X2, e2, st2⟩ := castY X1 hx hZ hown (hw _ (List.mem_of_getElem? (i := 50) rfl)) e1 (Ins.self E_u1) (g := (mkF m 15 #[.val (.ref u0), .val (.ref u1), .unset] [(.ref u1)])) rfl rfl (hb hby d6_15)
  obtain ⟨T3, X3, e3, st3⟩ := getS2 X2 hx hZ hown (host := "") (Or.inl (hw _ (List.mem_of_getElem? (i := 52) rfl))) Via.refl e2 (S_COMPACT.ext O0.2) (g := (mkF m 19 #[.val (.ref u0), .val (.ref u1), .val (.ref u1)] [])) rfl (hb hby d6_19)
  obtain ⟨T4, X4, e4, st4⟩ := getF X3 hx hZ hown (host := "") (Or.inl (hw _ (List.mem_of_getElem? (i := 53) rfl))) Via.refl e3 F_coder_u0 (g := (mkF m 26 #[.val (.ref u0), .val (.ref u1), .val (.ref u1)] [(.ref u0)])) rfl rfl (hb hby d6_26)
  obtain ⟨T5, X5, e5, st5⟩ := getF X4 hx hZ hown (host := "") (Or.inl (hw _ (List.mem_of_getElem? (i := 53) rfl))) Via.refl e4 F_coder_u1 (g := (mkF m 30 #[.val (.ref u0), .val (.ref u1), .val (.ref u1)] [(.ref u1), (.int (0 : Int32))])) rfl rfl (hb hby d6_30)
  obtain ⟨T6, X6, e6, st6⟩ := getF X5 hx hZ hown (host := "") (Or.inl (hw _ (List.mem_of_getElem? (i := 54) rfl))) Via.refl e5 F_value_u0 (g := (mkF m 37 #[.val (.ref u0), .val (.ref u1), .val (.ref u1)] [(.ref u0)])) rfl rfl (hb hby d6_37)
  obtain ⟨T7, X7, e7, st7⟩ := getF X6 hx hZ hown (host := "") (Or.inl (hw _ (List.mem_of_getElem? (i := 54) rfl))) Via.refl e6 F_value_u1 (g := (mkF m 41 #[.val (.ref u0), .val (.ref u1), .val (.ref u1)] [(.ref u1), (.ref d0)])) rfl rfl (hb hby d6_41)
  obtain ⟨_, _, ⟨T8, L8, k8, n8⟩, -, X8, ⟨Lc8, hQ8, l8, y8, z8⟩, st8⟩ := Jvm.LawKit.callS X7 hx (y := (⟨"java/lang/StringLatin1", "equals", "([B[B)Z"⟩ : MethodName)) hown (mvT hZ (hw _ (List.mem_of_getElem? (i := 55) rfl))) (mvT hZ (hw _ (List.mem_of_getElem? (i := 56) rfl))) (mvT hZ (hw _ (List.mem_of_getElem? (i := 57) rfl))) (mvT hZ (hw _ (List.mem_of_getElem? (i := 58) rfl))) (by decide) (backOf (W := 0) (rm7LI l Z a0 hw [] d0 d1 k0 k1 h0 n0 Z0 V_d0 V_d1) hZ (hw _ (List.mem_of_getElem? (i := 58) rfl)) (hw _ (List.mem_of_getElem? (i := 57) rfl)) (by decide) (by decide)) (g := (mkF m 44 #[.val (.ref u0), .val (.ref u1), .val (.ref u1)] [(.ref d1), (.ref d0)])) rfl (by rw [hml]; rfl) (argsL := [(.ref d0), (.ref d1)]) (rest := []) (lenOf pd_6 rfl) rfl (by show 2 * 0 + _ ≤ _; exact Nat.le_of_eq rfl) (hb hby d6_44) (fun _ _ => ⟨rfl, e7, (by decide : 0 + 0 ≤ _), (by decide : 0 + 0 ≤ _)⟩)
  dsimp only [Pt.U, Pt.locs, Pt.cells, Pt.slots] at X8 l8 y8 z8 st8 hQ8
  subst l8 y8 z8
  obtain ⟨rfl, N8q, e8⟩ := hQ8
  have N8 := Fr.app N0 N8q
  obtain ⟨fs, hr, hrun, hended, hW, hsame⟩ := X8.leave (v := some (.int (0 : Int32))) (fun h => by rw [Bd.returns] at h; cases h)
  refine ⟨_, _, pre0 _ ?_, hrun, hended, _, _, rfl, ?_, ⟨_, rfl⟩, hW, hsame.mono (by decide) (by decide)⟩
  · show Steps p.tables e below (s₁.setTop (mkF m 0 #[.val (.ref u0), .val (.ref u1), .unset] [])) _
    refine XS.aloadN X0.here hx rfl (hb hby d6_0) rfl rfl ?_
    show Steps p.tables e below (s₁.setTop (mkF m 1 #[.val (.ref u0), .val (.ref u1), .unset] [(.ref u0)])) _
    refine XS.aloadN X0.here hx rfl (hb hby d6_1) rfl rfl ?_
    show Steps p.tables e below (s₁.setTop (mkF m 2 #[.val (.ref u0), .val (.ref u1), .unset] [(.ref u1), (.ref u0)])) _
    refine Jvm.RoadKit.acmp (g := (mkF m 2 #[.val (.ref u0), .val (.ref u1), .unset] [(.ref u1), (.ref u0)])) X0 hx rfl rfl rfl (pc0 := 2) (pc' := 7) (same := false) rfl (hb hby d6_2) rfl (decide_eq_false fun q => hne (Value.ref.inj q)) (by decide) (by decide) ?_
    show Steps p.tables e below (s₁.setTop (mkF m 7 #[.val (.ref u0), .val (.ref u1), .unset] [])) _
    refine XS.aloadN X0.here hx rfl (hb hby d6_7) rfl rfl ?_
    show Steps p.tables e below (s₁.setTop (mkF m 8 #[.val (.ref u0), .val (.ref u1), .unset] [(.ref u1)])) _
    refine st1 _ ?_
    show Steps p.tables e below (T1.setTop (mkF m 11 #[.val (.ref u0), .val (.ref u1), .unset] [(.int (1 : Int32))])) _
    refine XS.ifNo X1.here hx rfl (hb hby d6_11) rfl ((if0 _ _).trans (feq (by decide)).1) ?_
    show Steps p.tables e below (T1.setTop (mkF m 14 #[.val (.ref u0), .val (.ref u1), .unset] [])) _
    refine XS.aloadN X1.here hx rfl (hb hby d6_14) rfl rfl ?_
    show Steps p.tables e below (T1.setTop (mkF m 15 #[.val (.ref u0), .val (.ref u1), .unset] [(.ref u1)])) _
    refine st2 _ ?_
    show Steps p.tables e below (T2.setTop (mkF m 18 #[.val (.ref u0), .val (.ref u1), .unset] [(.ref u1)])) _
    refine XS.astoreN X2.here hx rfl (hb hby d6_18) rfl rfl (l' := #[.val (.ref u0), .val (.ref u1), .val (.ref u1)]) rfl ?_
    show Steps p.tables e below (T2.setTop (mkF m 19 #[.val (.ref u0), .val (.ref u1), .val (.ref u1)] [])) _
    refine st3 _ ?_
    show Steps p.tables e below (T3.setTop (mkF m 22 #[.val (.ref u0), .val (.ref u1), .val (.ref u1)] [(.int G_COMPACT)])) _
    refine XS.ifNo X3.here hx rfl (hb hby d6_22) rfl ((if0 _ _).trans (feq P_COMPACT).1) ?_
    show Steps p.tables e below (T3.setTop (mkF m 25 #[.val (.ref u0), .val (.ref u1), .val (.ref u1)] [])) _
    refine XS.aloadN X3.here hx rfl (hb hby d6_25) rfl rfl ?_
    show Steps p.tables e below (T3.setTop (mkF m 26 #[.val (.ref u0), .val (.ref u1), .val (.ref u1)] [(.ref u0)])) _
    refine st4 _ ?_
    show Steps p.tables e below (T4.setTop (mkF m 29 #[.val (.ref u0), .val (.ref u1), .val (.ref u1)] [(.int (0 : Int32))])) _
    refine XS.aloadN X4.here hx rfl (hb hby d6_29) rfl rfl ?_
    show Steps p.tables e below (T4.setTop (mkF m 30 #[.val (.ref u0), .val (.ref u1), .val (.ref u1)] [(.ref u1), (.int (0 : Int32))])) _
    refine st5 _ ?_
    show Steps p.tables e below (T5.setTop (mkF m 33 #[.val (.ref u0), .val (.ref u1), .val (.ref u1)] [(.int (0 : Int32)), (.int (0 : Int32))])) _
    refine XS.icmpNo X5.here hx rfl (hb hby d6_33) rfl (teq (by decide)).2 ?_
    show Steps p.tables e below (T5.setTop (mkF m 36 #[.val (.ref u0), .val (.ref u1), .val (.ref u1)] [])) _
    refine XS.aloadN X5.here hx rfl (hb hby d6_36) rfl rfl ?_
    show Steps p.tables e below (T5.setTop (mkF m 37 #[.val (.ref u0), .val (.ref u1), .val (.ref u1)] [(.ref u0)])) _
    refine st6 _ ?_
    show Steps p.tables e below (T6.setTop (mkF m 40 #[.val (.ref u0), .val (.ref u1), .val (.ref u1)] [(.ref d0)])) _
    refine XS.aloadN X6.here hx rfl (hb hby d6_40) rfl rfl ?_
    show Steps p.tables e below (T6.setTop (mkF m 41 #[.val (.ref u0), .val (.ref u1), .val (.ref u1)] [(.ref u1), (.ref d0)])) _
    refine st7 _ ?_
    show Steps p.tables e below (T7.setTop (mkF m 44 #[.val (.ref u0), .val (.ref u1), .val (.ref u1)] [(.ref d1), (.ref d0)])) _
    refine st8 _ ?_
    show Steps p.tables e below (T8.setTop (mkF m 47 #[.val (.ref u0), .val (.ref u1), .val (.ref u1)] [(.int (0 : Int32))])) _
    refine XS.ifYes X8.here hx rfl (pc0 := 47) (pc' := 54) rfl (hb hby d6_47) rfl ((if0 _ _).trans (teq (by decide)).1) (by decide) (by decide) ?_
    show Steps p.tables e below (T8.setTop (mkF m 54 #[.val (.ref u0), .val (.ref u1), .val (.ref u1)] [])) _
    refine XS.iconst X8.here hx rfl (hb hby d6_54) ?_
    show Steps p.tables e below (T8.setTop (mkF m 55 #[.val (.ref u0), .val (.ref u1), .val (.ref u1)] [(.int (0 : Int32))])) _
    exact retN X8 hx (t := .boolean) Bd.returns (by simp) (hb hby d6_55) hr
  · show Q6LI Z u0 u1 d0 d1 k0 k1 G_COMPACT h0 n0 _ T8.heap _
    rw [e8]
    exact ⟨rfl, N8, rfl⟩
theorem ef_6IU (m : MethodId) (u0 : Addr) (u1 : Addr) : entryFrame m #[(.ref u0), (.ref u1)] 3 = mkF m 0 #[.val (.ref u0), .val (.ref u1), .unset] [] := by first | (simp [entryFrame, mkF, argsToLocals, Value.category]; done) | rfl
def Q6IU (Z : State) (u0 : Addr) (u1 : Addr) (d0 : Addr) (d1 : Addr) (k0 : ClassId) (k1 : ClassId) (G_COMPACT : Int32) (h0 : Heap) (n0 : Nat) (v : Option Value) (h : Heap) (L : List Loc) : Prop := v = some (.int (0 : Int32)) ∧ Fr n0 L ∧ h = h0
set_option maxRecDepth 65536 in
set_option maxHeartbeats 40000000 in
theorem rm6IU (l : Launch) (Z : State) (a0 : Array Value) (hw : ∀ d ∈ tables_1, d.before a0 Z = true) (ws : List Jvm.Cond) (u0 : Addr) (u1 : Addr) (d0 : Addr) (d1 : Addr) (k0 : ClassId) (k1 : ClassId) (G_COMPACT : Int32) (h0 : Heap) (n0 : Nat) (Z0 : n0 ≤ h0.size) (O0 : Old Z n0 h0) (E_u0 : Exa Z h0 u0 "java/lang/String") (F_coder_u0 : Fld Z h0 u0 "java/lang/String" "coder" "B" (.int 0)) (F_value_u0 : Fld Z h0 u0 "java/lang/String" "value" "[B" (.ref d0)) (E_u1 : Exa Z h0 u1 "java/lang/String") (F_coder_u1 : Fld Z h0 u1 "java/lang/String" "coder" "B" (.int 0)) (F_value_u1 : Fld Z h0 u1 "java/lang/String" "value" "[B" (.ref d1)) (V_d0 : Arv Z h0 d0 k0 .byte (5 : Int32) [(.int (105 : Int32)), (.int (116 : Int32)), (.int (101 : Int32)), (.int (109 : Int32)), (.int (115 : Int32))] (.int 0)) (V_d1 : Arv Z h0 d1 k1 .byte (12 : Int32) [(.int (97 : Int32)), (.int (108 : Int32)), (.int (108 : Int32)), (.int (32 : Int32)), (.int (114 : Int32)), (.int (101 : Int32)), (.int (113 : Int32)), (.int (117 : Int32)), (.int (101 : Int32)), (.int (115 : Int32)), (.int (116 : Int32)), (.int (115 : Int32))] (.int 0)) (S_COMPACT : Sta Z Z.heap "java/lang/String" "COMPACT_STRINGS" "Z" (.int G_COMPACT)) (P_COMPACT : ¬ G_COMPACT = 0) (hne : u0 ≠ u1) :
    MetFree l (⟨"java/lang/String", "equals", "(Ljava/lang/Object;)Z"⟩ : MethodName) (head1 (Jvm.Cond.code (⟨"java/lang/String", "equals", "(Ljava/lang/Object;)Z"⟩ : MethodName) jdk_42_method_66_code 3 (some .boolean) :: ws) ({ frames := 1, cells := 0, slots := 0, locals := 14 } : Room)) (fun a U => a = #[(.ref u0), (.ref u1)] ∧ Z.Warmed39 U.vm ∧ U.heap = h0) (fun _ _ _ _ _ => True) (fun _ U o U' => ∃ v L, o = .returned v ∧ Q6IU Z u0 u1 d0 d1 k0 k1 G_COMPACT h0 n0 v U'.heap L ∧ FrameEnd U o U' L ({ frames := 1, cells := 0, slots := 0, locals := 14 } : Room).cells ({ frames := 1, cells := 0, slots := 0, locals := 14 } : Room).slots) := by
  refine MetFree.of_bodySF (plainFor_of_name pn_java_lang_String) hisR ?_
  intro p e s m args below meth c s₁ Bd hml0 hP hK
  obtain ⟨rfl, hZ, hh⟩ := hP
  have hx := Bd.exec
  have hby := Bd.bytes
  have hml : c.maxLocals = 3 := hml0
  have hown : s.vm.findClass "java/lang/String" = some m.cls := findClass_of_methodNamed Bd.named
  have hnm := (name_of_methodNamed Bd.named Bd.method).1
  have X0 : Stand p l e ({ frames := 1, cells := 0, slots := 0, locals := 14 } : Room) s m #[(.ref u0), (.ref u1)] below meth c s₁ [] 0 0 := Stand.of_body Bd
  have e0 : s₁.heap = h0 := by rw [← hh, Bd.state]; rfl
  have N0 := Fr.nil n0
  have pre0 : ∀ t, Steps p.tables e below (s₁.setTop (mkF m 0 #[.val (.ref u0), .val (.ref u1), .unset] [])) t → Steps p.tables e below (s₁.setTop (entryFrame m #[(.ref u0), (.ref u1)] 3)) t := fun t k => castTop (ef_6IU m u0 u1) k
  obtain ⟨T1, X1, e1, st1⟩ := instY X0 hx hZ hown (hw _ (List.mem_of_getElem? (i := 50) rfl)) e0 (Ins.self E_u1) (g := (mkF m 8 #[.val (.ref u0), .val (.ref u1), .unset] [(.ref u1)])) rfl rfl (hb hby d6_8)
  obtain ⟨T2, X2, e2, st2⟩ := castY X1 hx hZ hown (hw _ (List.mem_of_getElem? (i := 50) rfl)) e1 (Ins.self E_u1) (g := (mkF m 15 #[.val (.ref u0), .val (.ref u1), .unset] [(.ref u1)])) rfl rfl (hb hby d6_15)
  obtain ⟨T3, X3, e3, st3⟩ := getS2 X2 hx hZ hown (host := "") (Or.inl (hw _ (List.mem_of_getElem? (i := 52) rfl))) Via.refl e2 (S_COMPACT.ext O0.2) (g := (mkF m 19 #[.val (.ref u0), .val (.ref u1), .val (.ref u1)] [])) rfl (hb hby d6_19)
  obtain ⟨T4, X4, e4, st4⟩ := getF X3 hx hZ hown (host := "") (Or.inl (hw _ (List.mem_of_getElem? (i := 53) rfl))) Via.refl e3 F_coder_u0 (g := (mkF m 26 #[.val (.ref u0), .val (.ref u1), .val (.ref u1)] [(.ref u0)])) rfl rfl (hb hby d6_26)
  obtain ⟨T5, X5, e5, st5⟩ := getF X4 hx hZ hown (host := "") (Or.inl (hw _ (List.mem_of_getElem? (i := 53) rfl))) Via.refl e4 F_coder_u1 (g := (mkF m 30 #[.val (.ref u0), .val (.ref u1), .val (.ref u1)] [(.ref u1), (.int (0 : Int32))])) rfl rfl (hb hby d6_30)
  obtain ⟨T6, X6, e6, st6⟩ := getF X5 hx hZ hown (host := "") (Or.inl (hw _ (List.mem_of_getElem? (i := 54) rfl))) Via.refl e5 F_value_u0 (g := (mkF m 37 #[.val (.ref u0), .val (.ref u1), .val (.ref u1)] [(.ref u0)])) rfl rfl (hb hby d6_37)
  obtain ⟨T7, X7, e7, st7⟩ := getF X6 hx hZ hown (host := "") (Or.inl (hw _ (List.mem_of_getElem? (i := 54) rfl))) Via.refl e6 F_value_u1 (g := (mkF m 41 #[.val (.ref u0), .val (.ref u1), .val (.ref u1)] [(.ref u1), (.ref d0)])) rfl rfl (hb hby d6_41)
  obtain ⟨_, _, ⟨T8, L8, k8, n8⟩, -, X8, ⟨Lc8, hQ8, l8, y8, z8⟩, st8⟩ := Jvm.LawKit.callS X7 hx (y := (⟨"java/lang/StringLatin1", "equals", "([B[B)Z"⟩ : MethodName)) hown (mvT hZ (hw _ (List.mem_of_getElem? (i := 55) rfl))) (mvT hZ (hw _ (List.mem_of_getElem? (i := 56) rfl))) (mvT hZ (hw _ (List.mem_of_getElem? (i := 57) rfl))) (mvT hZ (hw _ (List.mem_of_getElem? (i := 58) rfl))) (by decide) (backOf (W := 0) (rm7IU l Z a0 hw [] d0 d1 k0 k1 h0 n0 Z0 V_d0 V_d1) hZ (hw _ (List.mem_of_getElem? (i := 58) rfl)) (hw _ (List.mem_of_getElem? (i := 57) rfl)) (by decide) (by decide)) (g := (mkF m 44 #[.val (.ref u0), .val (.ref u1), .val (.ref u1)] [(.ref d1), (.ref d0)])) rfl (by rw [hml]; rfl) (argsL := [(.ref d0), (.ref d1)]) (rest := []) (lenOf pd_6 rfl) rfl (by show 2 * 0 + _ ≤ _; exact Nat.le_of_eq rfl) (hb hby d6_44) (fun _ _ => ⟨rfl, e7, (by decide : 0 + 0 ≤ _), (by decide : 0 + 0 ≤ _)⟩)
  dsimp only [Pt.U, Pt.locs, Pt.cells, Pt.slots] at X8 l8 y8 z8 st8 hQ8
  subst l8 y8 z8
  obtain ⟨rfl, N8q, e8⟩ := hQ8
  have N8 := Fr.app N0 N8q
  obtain ⟨fs, hr, hrun, hended, hW, hsame⟩ := X8.leave (v := some (.int (0 : Int32))) (fun h => by rw [Bd.returns] at h; cases h)
  refine ⟨_, _, pre0 _ ?_, hrun, hended, _, _, rfl, ?_, ⟨_, rfl⟩, hW, hsame.mono (by decide) (by decide)⟩
  · show Steps p.tables e below (s₁.setTop (mkF m 0 #[.val (.ref u0), .val (.ref u1), .unset] [])) _
    refine XS.aloadN X0.here hx rfl (hb hby d6_0) rfl rfl ?_
    show Steps p.tables e below (s₁.setTop (mkF m 1 #[.val (.ref u0), .val (.ref u1), .unset] [(.ref u0)])) _
    refine XS.aloadN X0.here hx rfl (hb hby d6_1) rfl rfl ?_
    show Steps p.tables e below (s₁.setTop (mkF m 2 #[.val (.ref u0), .val (.ref u1), .unset] [(.ref u1), (.ref u0)])) _
    refine Jvm.RoadKit.acmp (g := (mkF m 2 #[.val (.ref u0), .val (.ref u1), .unset] [(.ref u1), (.ref u0)])) X0 hx rfl rfl rfl (pc0 := 2) (pc' := 7) (same := false) rfl (hb hby d6_2) rfl (decide_eq_false fun q => hne (Value.ref.inj q)) (by decide) (by decide) ?_
    show Steps p.tables e below (s₁.setTop (mkF m 7 #[.val (.ref u0), .val (.ref u1), .unset] [])) _
    refine XS.aloadN X0.here hx rfl (hb hby d6_7) rfl rfl ?_
    show Steps p.tables e below (s₁.setTop (mkF m 8 #[.val (.ref u0), .val (.ref u1), .unset] [(.ref u1)])) _
    refine st1 _ ?_
    show Steps p.tables e below (T1.setTop (mkF m 11 #[.val (.ref u0), .val (.ref u1), .unset] [(.int (1 : Int32))])) _
    refine XS.ifNo X1.here hx rfl (hb hby d6_11) rfl ((if0 _ _).trans (feq (by decide)).1) ?_
    show Steps p.tables e below (T1.setTop (mkF m 14 #[.val (.ref u0), .val (.ref u1), .unset] [])) _
    refine XS.aloadN X1.here hx rfl (hb hby d6_14) rfl rfl ?_
    show Steps p.tables e below (T1.setTop (mkF m 15 #[.val (.ref u0), .val (.ref u1), .unset] [(.ref u1)])) _
    refine st2 _ ?_
    show Steps p.tables e below (T2.setTop (mkF m 18 #[.val (.ref u0), .val (.ref u1), .unset] [(.ref u1)])) _
    refine XS.astoreN X2.here hx rfl (hb hby d6_18) rfl rfl (l' := #[.val (.ref u0), .val (.ref u1), .val (.ref u1)]) rfl ?_
    show Steps p.tables e below (T2.setTop (mkF m 19 #[.val (.ref u0), .val (.ref u1), .val (.ref u1)] [])) _
    refine st3 _ ?_
    show Steps p.tables e below (T3.setTop (mkF m 22 #[.val (.ref u0), .val (.ref u1), .val (.ref u1)] [(.int G_COMPACT)])) _
    refine XS.ifNo X3.here hx rfl (hb hby d6_22) rfl ((if0 _ _).trans (feq P_COMPACT).1) ?_
    show Steps p.tables e below (T3.setTop (mkF m 25 #[.val (.ref u0), .val (.ref u1), .val (.ref u1)] [])) _
    refine XS.aloadN X3.here hx rfl (hb hby d6_25) rfl rfl ?_
    show Steps p.tables e below (T3.setTop (mkF m 26 #[.val (.ref u0), .val (.ref u1), .val (.ref u1)] [(.ref u0)])) _
    refine st4 _ ?_
    show Steps p.tables e below (T4.setTop (mkF m 29 #[.val (.ref u0), .val (.ref u1), .val (.ref u1)] [(.int (0 : Int32))])) _
    refine XS.aloadN X4.here hx rfl (hb hby d6_29) rfl rfl ?_
    show Steps p.tables e below (T4.setTop (mkF m 30 #[.val (.ref u0), .val (.ref u1), .val (.ref u1)] [(.ref u1), (.int (0 : Int32))])) _
    refine st5 _ ?_
    show Steps p.tables e below (T5.setTop (mkF m 33 #[.val (.ref u0), .val (.ref u1), .val (.ref u1)] [(.int (0 : Int32)), (.int (0 : Int32))])) _
    refine XS.icmpNo X5.here hx rfl (hb hby d6_33) rfl (teq (by decide)).2 ?_
    show Steps p.tables e below (T5.setTop (mkF m 36 #[.val (.ref u0), .val (.ref u1), .val (.ref u1)] [])) _
    refine XS.aloadN X5.here hx rfl (hb hby d6_36) rfl rfl ?_
    show Steps p.tables e below (T5.setTop (mkF m 37 #[.val (.ref u0), .val (.ref u1), .val (.ref u1)] [(.ref u0)])) _
    refine st6 _ ?_
    show Steps p.tables e below (T6.setTop (mkF m 40 #[.val (.ref u0), .val (.ref u1), .val (.ref u1)] [(.ref d0)])) _
    refine XS.aloadN X6.here hx rfl (hb hby d6_40) rfl rfl ?_
    show Steps p.tables e below (T6.setTop (mkF m 41 #[.val (.ref u0), .val (.ref u1), .val (.ref u1)] [(.ref u1), (.ref d0)])) _
    refine st7 _ ?_
    show Steps p.tables e below (T7.setTop (mkF m 44 #[.val (.ref u0), .val (.ref u1), .val (.ref u1)] [(.ref d1), (.ref d0)])) _
    refine st8 _ ?_
    show Steps p.tables e below (T8.setTop (mkF m 47 #[.val (.ref u0), .val (.ref u1), .val (.ref u1)] [(.int (0 : Int32))])) _
    refine XS.ifYes X8.here hx rfl (pc0 := 47) (pc' := 54) rfl (hb hby d6_47) rfl ((if0 _ _).trans (teq (by decide)).1) (by decide) (by decide) ?_
    show Steps p.tables e below (T8.setTop (mkF m 54 #[.val (.ref u0), .val (.ref u1), .val (.ref u1)] [])) _
    refine XS.iconst X8.here hx rfl (hb hby d6_54) ?_
    show Steps p.tables e below (T8.setTop (mkF m 55 #[.val (.ref u0), .val (.ref u1), .val (.ref u1)] [(.int (0 : Int32))])) _
    exact retN X8 hx (t := .boolean) Bd.returns (by simp) (hb hby d6_55) hr
  · show Q6IU Z u0 u1 d0 d1 k0 k1 G_COMPACT h0 n0 _ T8.heap _
    rw [e8]
    exact ⟨rfl, N8, rfl⟩
theorem ef_6IL (m : MethodId) (u0 : Addr) (u1 : Addr) : entryFrame m #[(.ref u0), (.ref u1)] 3 = mkF m 0 #[.val (.ref u0), .val (.ref u1), .unset] [] := by first | (simp [entryFrame, mkF, argsToLocals, Value.category]; done) | rfl
def Q6IL (Z : State) (u0 : Addr) (u1 : Addr) (d0 : Addr) (d1 : Addr) (k0 : ClassId) (k1 : ClassId) (G_COMPACT : Int32) (h0 : Heap) (n0 : Nat) (v : Option Value) (h : Heap) (L : List Loc) : Prop := v = some (.int (0 : Int32)) ∧ Fr n0 L ∧ h = h0
set_option maxRecDepth 65536 in
set_option maxHeartbeats 40000000 in
theorem rm6IL (l : Launch) (Z : State) (a0 : Array Value) (hw : ∀ d ∈ tables_1, d.before a0 Z = true) (ws : List Jvm.Cond) (u0 : Addr) (u1 : Addr) (d0 : Addr) (d1 : Addr) (k0 : ClassId) (k1 : ClassId) (G_COMPACT : Int32) (h0 : Heap) (n0 : Nat) (Z0 : n0 ≤ h0.size) (O0 : Old Z n0 h0) (E_u0 : Exa Z h0 u0 "java/lang/String") (F_coder_u0 : Fld Z h0 u0 "java/lang/String" "coder" "B" (.int 0)) (F_value_u0 : Fld Z h0 u0 "java/lang/String" "value" "[B" (.ref d0)) (E_u1 : Exa Z h0 u1 "java/lang/String") (F_coder_u1 : Fld Z h0 u1 "java/lang/String" "coder" "B" (.int 0)) (F_value_u1 : Fld Z h0 u1 "java/lang/String" "value" "[B" (.ref d1)) (V_d0 : Arv Z h0 d0 k0 .byte (5 : Int32) [(.int (105 : Int32)), (.int (116 : Int32)), (.int (101 : Int32)), (.int (109 : Int32)), (.int (115 : Int32))] (.int 0)) (V_d1 : Arv Z h0 d1 k1 .byte (10 : Int32) [(.int (108 : Int32)), (.int (105 : Int32)), (.int (115 : Int32)), (.int (116 : Int32)), (.int (32 : Int32)), (.int (112 : Int32)), (.int (97 : Int32)), (.int (103 : Int32)), (.int (101 : Int32)), (.int (115 : Int32))] (.int 0)) (S_COMPACT : Sta Z Z.heap "java/lang/String" "COMPACT_STRINGS" "Z" (.int G_COMPACT)) (P_COMPACT : ¬ G_COMPACT = 0) (hne : u0 ≠ u1) :
    MetFree l (⟨"java/lang/String", "equals", "(Ljava/lang/Object;)Z"⟩ : MethodName) (head1 (Jvm.Cond.code (⟨"java/lang/String", "equals", "(Ljava/lang/Object;)Z"⟩ : MethodName) jdk_42_method_66_code 3 (some .boolean) :: ws) ({ frames := 1, cells := 0, slots := 0, locals := 14 } : Room)) (fun a U => a = #[(.ref u0), (.ref u1)] ∧ Z.Warmed39 U.vm ∧ U.heap = h0) (fun _ _ _ _ _ => True) (fun _ U o U' => ∃ v L, o = .returned v ∧ Q6IL Z u0 u1 d0 d1 k0 k1 G_COMPACT h0 n0 v U'.heap L ∧ FrameEnd U o U' L ({ frames := 1, cells := 0, slots := 0, locals := 14 } : Room).cells ({ frames := 1, cells := 0, slots := 0, locals := 14 } : Room).slots) := by
  refine MetFree.of_bodySF (plainFor_of_name pn_java_lang_String) hisR ?_
  intro p e s m args below meth c s₁ Bd hml0 hP hK
  obtain ⟨rfl, hZ, hh⟩ := hP
  have hx := Bd.exec
  have hby := Bd.bytes
  have hml : c.maxLocals = 3 := hml0
  have hown : s.vm.findClass "java/lang/String" = some m.cls := findClass_of_methodNamed Bd.named
  have hnm := (name_of_methodNamed Bd.named Bd.method).1
  have X0 : Stand p l e ({ frames := 1, cells := 0, slots := 0, locals := 14 } : Room) s m #[(.ref u0), (.ref u1)] below meth c s₁ [] 0 0 := Stand.of_body Bd
  have e0 : s₁.heap = h0 := by rw [← hh, Bd.state]; rfl
  have N0 := Fr.nil n0
  have pre0 : ∀ t, Steps p.tables e below (s₁.setTop (mkF m 0 #[.val (.ref u0), .val (.ref u1), .unset] [])) t → Steps p.tables e below (s₁.setTop (entryFrame m #[(.ref u0), (.ref u1)] 3)) t := fun t k => castTop (ef_6IL m u0 u1) k
  obtain ⟨T1, X1, e1, st1⟩ := instY X0 hx hZ hown (hw _ (List.mem_of_getElem? (i := 50) rfl)) e0 (Ins.self E_u1) (g := (mkF m 8 #[.val (.ref u0), .val (.ref u1), .unset] [(.ref u1)])) rfl rfl (hb hby d6_8)
  obtain ⟨T2, X2, e2, st2⟩ := castY X1 hx hZ hown (hw _ (List.mem_of_getElem? (i := 50) rfl)) e1 (Ins.self E_u1) (g := (mkF m 15 #[.val (.ref u0), .val (.ref u1), .unset] [(.ref u1)])) rfl rfl (hb hby d6_15)
  obtain ⟨T3, X3, e3, st3⟩ := getS2 X2 hx hZ hown (host := "") (Or.inl (hw _ (List.mem_of_getElem? (i := 52) rfl))) Via.refl e2 (S_COMPACT.ext O0.2) (g := (mkF m 19 #[.val (.ref u0), .val (.ref u1), .val (.ref u1)] [])) rfl (hb hby d6_19)
  obtain ⟨T4, X4, e4, st4⟩ := getF X3 hx hZ hown (host := "") (Or.inl (hw _ (List.mem_of_getElem? (i := 53) rfl))) Via.refl e3 F_coder_u0 (g := (mkF m 26 #[.val (.ref u0), .val (.ref u1), .val (.ref u1)] [(.ref u0)])) rfl rfl (hb hby d6_26)
  obtain ⟨T5, X5, e5, st5⟩ := getF X4 hx hZ hown (host := "") (Or.inl (hw _ (List.mem_of_getElem? (i := 53) rfl))) Via.refl e4 F_coder_u1 (g := (mkF m 30 #[.val (.ref u0), .val (.ref u1), .val (.ref u1)] [(.ref u1), (.int (0 : Int32))])) rfl rfl (hb hby d6_30)
  obtain ⟨T6, X6, e6, st6⟩ := getF X5 hx hZ hown (host := "") (Or.inl (hw _ (List.mem_of_getElem? (i := 54) rfl))) Via.refl e5 F_value_u0 (g := (mkF m 37 #[.val (.ref u0), .val (.ref u1), .val (.ref u1)] [(.ref u0)])) rfl rfl (hb hby d6_37)
  obtain ⟨T7, X7, e7, st7⟩ := getF X6 hx hZ hown (host := "") (Or.inl (hw _ (List.mem_of_getElem? (i := 54) rfl))) Via.refl e6 F_value_u1 (g := (mkF m 41 #[.val (.ref u0), .val (.ref u1), .val (.ref u1)] [(.ref u1), (.ref d0)])) rfl rfl (hb hby d6_41)
  obtain ⟨_, _, ⟨T8, L8, k8, n8⟩, -, X8, ⟨Lc8, hQ8, l8, y8, z8⟩, st8⟩ := Jvm.LawKit.callS X7 hx (y := (⟨"java/lang/StringLatin1", "equals", "([B[B)Z"⟩ : MethodName)) hown (mvT hZ (hw _ (List.mem_of_getElem? (i := 55) rfl))) (mvT hZ (hw _ (List.mem_of_getElem? (i := 56) rfl))) (mvT hZ (hw _ (List.mem_of_getElem? (i := 57) rfl))) (mvT hZ (hw _ (List.mem_of_getElem? (i := 58) rfl))) (by decide) (backOf (W := 0) (rm7IL l Z a0 hw [] d0 d1 k0 k1 h0 n0 Z0 V_d0 V_d1) hZ (hw _ (List.mem_of_getElem? (i := 58) rfl)) (hw _ (List.mem_of_getElem? (i := 57) rfl)) (by decide) (by decide)) (g := (mkF m 44 #[.val (.ref u0), .val (.ref u1), .val (.ref u1)] [(.ref d1), (.ref d0)])) rfl (by rw [hml]; rfl) (argsL := [(.ref d0), (.ref d1)]) (rest := []) (lenOf pd_6 rfl) rfl (by show 2 * 0 + _ ≤ _; exact Nat.le_of_eq rfl) (hb hby d6_44) (fun _ _ => ⟨rfl, e7, (by decide : 0 + 0 ≤ _), (by decide : 0 + 0 ≤ _)⟩)
  dsimp only [Pt.U, Pt.locs, Pt.cells, Pt.slots] at X8 l8 y8 z8 st8 hQ8
  subst l8 y8 z8
  obtain ⟨rfl, N8q, e8⟩ := hQ8
  have N8 := Fr.app N0 N8q
  obtain ⟨fs, hr, hrun, hended, hW, hsame⟩ := X8.leave (v := some (.int (0 : Int32))) (fun h => by rw [Bd.returns] at h; cases h)
  refine ⟨_, _, pre0 _ ?_, hrun, hended, _, _, rfl, ?_, ⟨_, rfl⟩, hW, hsame.mono (by decide) (by decide)⟩
  · show Steps p.tables e below (s₁.setTop (mkF m 0 #[.val (.ref u0), .val (.ref u1), .unset] [])) _
    refine XS.aloadN X0.here hx rfl (hb hby d6_0) rfl rfl ?_
    show Steps p.tables e below (s₁.setTop (mkF m 1 #[.val (.ref u0), .val (.ref u1), .unset] [(.ref u0)])) _
    refine XS.aloadN X0.here hx rfl (hb hby d6_1) rfl rfl ?_
    show Steps p.tables e below (s₁.setTop (mkF m 2 #[.val (.ref u0), .val (.ref u1), .unset] [(.ref u1), (.ref u0)])) _
    refine Jvm.RoadKit.acmp (g := (mkF m 2 #[.val (.ref u0), .val (.ref u1), .unset] [(.ref u1), (.ref u0)])) X0 hx rfl rfl rfl (pc0 := 2) (pc' := 7) (same := false) rfl (hb hby d6_2) rfl (decide_eq_false fun q => hne (Value.ref.inj q)) (by decide) (by decide) ?_
    show Steps p.tables e below (s₁.setTop (mkF m 7 #[.val (.ref u0), .val (.ref u1), .unset] [])) _
    refine XS.aloadN X0.here hx rfl (hb hby d6_7) rfl rfl ?_
    show Steps p.tables e below (s₁.setTop (mkF m 8 #[.val (.ref u0), .val (.ref u1), .unset] [(.ref u1)])) _
    refine st1 _ ?_
    show Steps p.tables e below (T1.setTop (mkF m 11 #[.val (.ref u0), .val (.ref u1), .unset] [(.int (1 : Int32))])) _
    refine XS.ifNo X1.here hx rfl (hb hby d6_11) rfl ((if0 _ _).trans (feq (by decide)).1) ?_
    show Steps p.tables e below (T1.setTop (mkF m 14 #[.val (.ref u0), .val (.ref u1), .unset] [])) _
    refine XS.aloadN X1.here hx rfl (hb hby d6_14) rfl rfl ?_
    show Steps p.tables e below (T1.setTop (mkF m 15 #[.val (.ref u0), .val (.ref u1), .unset] [(.ref u1)])) _
    refine st2 _ ?_
    show Steps p.tables e below (T2.setTop (mkF m 18 #[.val (.ref u0), .val (.ref u1), .unset] [(.ref u1)])) _
    refine XS.astoreN X2.here hx rfl (hb hby d6_18) rfl rfl (l' := #[.val (.ref u0), .val (.ref u1), .val (.ref u1)]) rfl ?_
    show Steps p.tables e below (T2.setTop (mkF m 19 #[.val (.ref u0), .val (.ref u1), .val (.ref u1)] [])) _
    refine st3 _ ?_
    show Steps p.tables e below (T3.setTop (mkF m 22 #[.val (.ref u0), .val (.ref u1), .val (.ref u1)] [(.int G_COMPACT)])) _
    refine XS.ifNo X3.here hx rfl (hb hby d6_22) rfl ((if0 _ _).trans (feq P_COMPACT).1) ?_
    show Steps p.tables e below (T3.setTop (mkF m 25 #[.val (.ref u0), .val (.ref u1), .val (.ref u1)] [])) _
    refine XS.aloadN X3.here hx rfl (hb hby d6_25) rfl rfl ?_
    show Steps p.tables e below (T3.setTop (mkF m 26 #[.val (.ref u0), .val (.ref u1), .val (.ref u1)] [(.ref u0)])) _
    refine st4 _ ?_
    show Steps p.tables e below (T4.setTop (mkF m 29 #[.val (.ref u0), .val (.ref u1), .val (.ref u1)] [(.int (0 : Int32))])) _
    refine XS.aloadN X4.here hx rfl (hb hby d6_29) rfl rfl ?_
    show Steps p.tables e below (T4.setTop (mkF m 30 #[.val (.ref u0), .val (.ref u1), .val (.ref u1)] [(.ref u1), (.int (0 : Int32))])) _
    refine st5 _ ?_
    show Steps p.tables e below (T5.setTop (mkF m 33 #[.val (.ref u0), .val (.ref u1), .val (.ref u1)] [(.int (0 : Int32)), (.int (0 : Int32))])) _
    refine XS.icmpNo X5.here hx rfl (hb hby d6_33) rfl (teq (by decide)).2 ?_
    show Steps p.tables e below (T5.setTop (mkF m 36 #[.val (.ref u0), .val (.ref u1), .val (.ref u1)] [])) _
    refine XS.aloadN X5.here hx rfl (hb hby d6_36) rfl rfl ?_
    show Steps p.tables e below (T5.setTop (mkF m 37 #[.val (.ref u0), .val (.ref u1), .val (.ref u1)] [(.ref u0)])) _
    refine st6 _ ?_
    show Steps p.tables e below (T6.setTop (mkF m 40 #[.val (.ref u0), .val (.ref u1), .val (.ref u1)] [(.ref d0)])) _
    refine XS.aloadN X6.here hx rfl (hb hby d6_40) rfl rfl ?_
    show Steps p.tables e below (T6.setTop (mkF m 41 #[.val (.ref u0), .val (.ref u1), .val (.ref u1)] [(.ref u1), (.ref d0)])) _
    refine st7 _ ?_
    show Steps p.tables e below (T7.setTop (mkF m 44 #[.val (.ref u0), .val (.ref u1), .val (.ref u1)] [(.ref d1), (.ref d0)])) _
    refine st8 _ ?_
    show Steps p.tables e below (T8.setTop (mkF m 47 #[.val (.ref u0), .val (.ref u1), .val (.ref u1)] [(.int (0 : Int32))])) _
    refine XS.ifYes X8.here hx rfl (pc0 := 47) (pc' := 54) rfl (hb hby d6_47) rfl ((if0 _ _).trans (teq (by decide)).1) (by decide) (by decide) ?_
    show Steps p.tables e below (T8.setTop (mkF m 54 #[.val (.ref u0), .val (.ref u1), .val (.ref u1)] [])) _
    refine XS.iconst X8.here hx rfl (hb hby d6_54) ?_
    show Steps p.tables e below (T8.setTop (mkF m 55 #[.val (.ref u0), .val (.ref u1), .val (.ref u1)] [(.int (0 : Int32))])) _
    exact retN X8 hx (t := .boolean) Bd.returns (by simp) (hb hby d6_55) hr
  · show Q6IL Z u0 u1 d0 d1 k0 k1 G_COMPACT h0 n0 _ T8.heap _
    rw [e8]
    exact ⟨rfl, N8, rfl⟩
theorem ef_6II (m : MethodId) (u0 : Addr) (u1 : Addr) : entryFrame m #[(.ref u0), (.ref u1)] 3 = mkF m 0 #[.val (.ref u0), .val (.ref u1), .unset] [] := by first | (simp [entryFrame, mkF, argsToLocals, Value.category]; done) | rfl
def Q6II (Z : State) (u0 : Addr) (u1 : Addr) (d0 : Addr) (d1 : Addr) (k0 : ClassId) (k1 : ClassId) (G_COMPACT : Int32) (h0 : Heap) (n0 : Nat) (v : Option Value) (h : Heap) (L : List Loc) : Prop := v = some (.int (1 : Int32)) ∧ Fr n0 L ∧ h = h0
set_option maxRecDepth 65536 in
set_option maxHeartbeats 40000000 in
theorem rm6II (l : Launch) (Z : State) (a0 : Array Value) (hw : ∀ d ∈ tables_1, d.before a0 Z = true) (ws : List Jvm.Cond) (u0 : Addr) (u1 : Addr) (d0 : Addr) (d1 : Addr) (k0 : ClassId) (k1 : ClassId) (G_COMPACT : Int32) (h0 : Heap) (n0 : Nat) (Z0 : n0 ≤ h0.size) (O0 : Old Z n0 h0) (E_u0 : Exa Z h0 u0 "java/lang/String") (F_coder_u0 : Fld Z h0 u0 "java/lang/String" "coder" "B" (.int 0)) (F_value_u0 : Fld Z h0 u0 "java/lang/String" "value" "[B" (.ref d0)) (E_u1 : Exa Z h0 u1 "java/lang/String") (F_coder_u1 : Fld Z h0 u1 "java/lang/String" "coder" "B" (.int 0)) (F_value_u1 : Fld Z h0 u1 "java/lang/String" "value" "[B" (.ref d1)) (V_d0 : Arv Z h0 d0 k0 .byte (5 : Int32) [(.int (105 : Int32)), (.int (116 : Int32)), (.int (101 : Int32)), (.int (109 : Int32)), (.int (115 : Int32))] (.int 0)) (V_d1 : Arv Z h0 d1 k1 .byte (5 : Int32) [(.int (105 : Int32)), (.int (116 : Int32)), (.int (101 : Int32)), (.int (109 : Int32)), (.int (115 : Int32))] (.int 0)) (S_COMPACT : Sta Z Z.heap "java/lang/String" "COMPACT_STRINGS" "Z" (.int G_COMPACT)) (P_COMPACT : ¬ G_COMPACT = 0) :
    MetFree l (⟨"java/lang/String", "equals", "(Ljava/lang/Object;)Z"⟩ : MethodName) (head1 (Jvm.Cond.code (⟨"java/lang/String", "equals", "(Ljava/lang/Object;)Z"⟩ : MethodName) jdk_42_method_66_code 3 (some .boolean) :: ws) ({ frames := 1, cells := 0, slots := 0, locals := 14 } : Room)) (fun a U => a = #[(.ref u0), (.ref u1)] ∧ Z.Warmed39 U.vm ∧ U.heap = h0) (fun _ _ _ _ _ => True) (fun _ U o U' => ∃ v L, o = .returned v ∧ Q6II Z u0 u1 d0 d1 k0 k1 G_COMPACT h0 n0 v U'.heap L ∧ FrameEnd U o U' L ({ frames := 1, cells := 0, slots := 0, locals := 14 } : Room).cells ({ frames := 1, cells := 0, slots := 0, locals := 14 } : Room).slots) := by
  refine MetFree.of_bodySF (plainFor_of_name pn_java_lang_String) hisR ?_
  intro p e s m args below meth c s₁ Bd hml0 hP hK
  obtain ⟨rfl, hZ, hh⟩ := hP
  have hx := Bd.exec
  have hby := Bd.bytes
  have hml : c.maxLocals = 3 := hml0
  have hown : s.vm.findClass "java/lang/String" = some m.cls := findClass_of_methodNamed Bd.named
  have hnm := (name_of_methodNamed Bd.named Bd.method).1
  have X0 : Stand p l e ({ frames := 1, cells := 0, slots := 0, locals := 14 } : Room) s m #[(.ref u0), (.ref u1)] below meth c s₁ [] 0 0 := Stand.of_body Bd
  have e0 : s₁.heap = h0 := by rw [← hh, Bd.state]; rfl
  have N0 := Fr.nil n0
  have pre0 : ∀ t, Steps p.tables e below (s₁.setTop (mkF m 0 #[.val (.ref u0), .val (.ref u1), .unset] [])) t → Steps p.tables e below (s₁.setTop (entryFrame m #[(.ref u0), (.ref u1)] 3)) t := fun t k => castTop (ef_6II m u0 u1) k
  by_cases ha2 : u0 = u1
  · obtain ⟨fs, hr, hrun, hended, hW, hsame⟩ := X0.leave (v := some (.int (1 : Int32))) (fun h => by rw [Bd.returns] at h; cases h)
    refine ⟨_, _, pre0 _ ?_, hrun, hended, _, _, rfl, ?_, ⟨_, rfl⟩, hW, hsame.mono (by decide) (by decide)⟩
    · show Steps p.tables e below (s₁.setTop (mkF m 0 #[.val (.ref u0), .val (.ref u1), .unset] [])) _
      refine XS.aloadN X0.here hx rfl (hb hby d6_0) rfl rfl ?_
      show Steps p.tables e below (s₁.setTop (mkF m 1 #[.val (.ref u0), .val (.ref u1), .unset] [(.ref u0)])) _
      refine XS.aloadN X0.here hx rfl (hb hby d6_1) rfl rfl ?_
      show Steps p.tables e below (s₁.setTop (mkF m 2 #[.val (.ref u0), .val (.ref u1), .unset] [(.ref u1), (.ref u0)])) _
      refine Jvm.RoadKit.acmp (g := (mkF m 2 #[.val (.ref u0), .val (.ref u1), .unset] [(.ref u1), (.ref u0)])) X0 hx rfl rfl rfl (pc0 := 2) (pc' := 5) (same := true) rfl (hb hby d6_2) rfl (decide_eq_true (congrArg Value.ref ha2)) (by decide) (by decide) ?_
      show Steps p.tables e below (s₁.setTop (mkF m 5 #[.val (.ref u0), .val (.ref u1), .unset] [])) _
      refine XS.iconst X0.here hx rfl (hb hby d6_5) ?_
      show Steps p.tables e below (s₁.setTop (mkF m 6 #[.val (.ref u0), .val (.ref u1), .unset] [(.int (1 : Int32))])) _
      exact retN X0 hx (t := .boolean) Bd.returns (by simp) (hb hby d6_6) hr
    · show Q6II Z u0 u1 d0 d1 k0 k1 G_COMPACT h0 n0 _ s₁.heap _
      rw [e0]
      exact ⟨rfl, N0, rfl⟩
  · obtain ⟨T1, X1, e1, st1⟩ := instY X0 hx hZ hown (hw _ (List.mem_of_getElem? (i := 50) rfl)) e0 (Ins.self E_u1) (g := (mkF m 8 #[.val (.ref u0), .val (.ref u1), .unset] [(.ref u1)])) rfl rfl (hb hby d6_8)
    obtain ⟨T2, X2, e2, st2⟩ := castY X1 hx hZ hown (hw _ (List.mem_of_getElem? (i := 50) rfl)) e1 (Ins.self E_u1) (g := (mkF m 15 #[.val (.ref u0), .val (.ref u1), .unset] [(.ref u1)])) rfl rfl (hb hby d6_15)
    obtain ⟨T3, X3, e3, st3⟩ := getS2 X2 hx hZ hown (host := "") (Or.inl (hw _ (List.mem_of_getElem? (i := 52) rfl))) Via.refl e2 (S_COMPACT.ext O0.2) (g := (mkF m 19 #[.val (.ref u0), .val (.ref u1), .val (.ref u1)] [])) rfl (hb hby d6_19)
    obtain ⟨T4, X4, e4, st4⟩ := getF X3 hx hZ hown (host := "") (Or.inl (hw _ (List.mem_of_getElem? (i := 53) rfl))) Via.refl e3 F_coder_u0 (g := (mkF m 26 #[.val (.ref u0), .val (.ref u1), .val (.ref u1)] [(.ref u0)])) rfl rfl (hb hby d6_26)
    obtain ⟨T5, X5, e5, st5⟩ := getF X4 hx hZ hown (host := "") (Or.inl (hw _ (List.mem_of_getElem? (i := 53) rfl))) Via.refl e4 F_coder_u1 (g := (mkF m 30 #[.val (.ref u0), .val (.ref u1), .val (.ref u1)] [(.ref u1), (.int (0 : Int32))])) rfl rfl (hb hby d6_30)
    obtain ⟨T6, X6, e6, st6⟩ := getF X5 hx hZ hown (host := "") (Or.inl (hw _ (List.mem_of_getElem? (i := 54) rfl))) Via.refl e5 F_value_u0 (g := (mkF m 37 #[.val (.ref u0), .val (.ref u1), .val (.ref u1)] [(.ref u0)])) rfl rfl (hb hby d6_37)
    obtain ⟨T7, X7, e7, st7⟩ := getF X6 hx hZ hown (host := "") (Or.inl (hw _ (List.mem_of_getElem? (i := 54) rfl))) Via.refl e6 F_value_u1 (g := (mkF m 41 #[.val (.ref u0), .val (.ref u1), .val (.ref u1)] [(.ref u1), (.ref d0)])) rfl rfl (hb hby d6_41)
    obtain ⟨_, _, ⟨T8, L8, k8, n8⟩, -, X8, ⟨Lc8, hQ8, l8, y8, z8⟩, st8⟩ := Jvm.LawKit.callS X7 hx (y := (⟨"java/lang/StringLatin1", "equals", "([B[B)Z"⟩ : MethodName)) hown (mvT hZ (hw _ (List.mem_of_getElem? (i := 55) rfl))) (mvT hZ (hw _ (List.mem_of_getElem? (i := 56) rfl))) (mvT hZ (hw _ (List.mem_of_getElem? (i := 57) rfl))) (mvT hZ (hw _ (List.mem_of_getElem? (i := 58) rfl))) (by decide) (backOf (W := 0) (rm7II l Z a0 hw [] d0 d1 k0 k1 h0 n0 Z0 V_d0 V_d1) hZ (hw _ (List.mem_of_getElem? (i := 58) rfl)) (hw _ (List.mem_of_getElem? (i := 57) rfl)) (by decide) (by decide)) (g := (mkF m 44 #[.val (.ref u0), .val (.ref u1), .val (.ref u1)] [(.ref d1), (.ref d0)])) rfl (by rw [hml]; rfl) (argsL := [(.ref d0), (.ref d1)]) (rest := []) (lenOf pd_6 rfl) rfl (by show 2 * 0 + _ ≤ _; exact Nat.le_of_eq rfl) (hb hby d6_44) (fun _ _ => ⟨rfl, e7, (by decide : 0 + 0 ≤ _), (by decide : 0 + 0 ≤ _)⟩)
    dsimp only [Pt.U, Pt.locs, Pt.cells, Pt.slots] at X8 l8 y8 z8 st8 hQ8
    subst l8 y8 z8
    obtain ⟨rfl, N8q, e8⟩ := hQ8
    have N8 := Fr.app N0 N8q
    obtain ⟨fs, hr, hrun, hended, hW, hsame⟩ := X8.leave (v := some (.int (1 : Int32))) (fun h => by rw [Bd.returns] at h; cases h)
    refine ⟨_, _, pre0 _ ?_, hrun, hended, _, _, rfl, ?_, ⟨_, rfl⟩, hW, hsame.mono (by decide) (by decide)⟩
    · show Steps p.tables e below (s₁.setTop (mkF m 0 #[.val (.ref u0), .val (.ref u1), .unset] [])) _
      refine XS.aloadN X0.here hx rfl (hb hby d6_0) rfl rfl ?_
      show Steps p.tables e below (s₁.setTop (mkF m 1 #[.val (.ref u0), .val (.ref u1), .unset] [(.ref u0)])) _
      refine XS.aloadN X0.here hx rfl (hb hby d6_1) rfl rfl ?_
      show Steps p.tables e below (s₁.setTop (mkF m 2 #[.val (.ref u0), .val (.ref u1), .unset] [(.ref u1), (.ref u0)])) _
      refine Jvm.RoadKit.acmp (g := (mkF m 2 #[.val (.ref u0), .val (.ref u1), .unset] [(.ref u1), (.ref u0)])) X0 hx rfl rfl rfl (pc0 := 2) (pc' := 7) (same := false) rfl (hb hby d6_2) rfl (decide_eq_false fun q => ha2 (Value.ref.inj q)) (by decide) (by decide) ?_
      show Steps p.tables e below (s₁.setTop (mkF m 7 #[.val (.ref u0), .val (.ref u1), .unset] [])) _
      refine XS.aloadN X0.here hx rfl (hb hby d6_7) rfl rfl ?_
      show Steps p.tables e below (s₁.setTop (mkF m 8 #[.val (.ref u0), .val (.ref u1), .unset] [(.ref u1)])) _
      refine st1 _ ?_
      show Steps p.tables e below (T1.setTop (mkF m 11 #[.val (.ref u0), .val (.ref u1), .unset] [(.int (1 : Int32))])) _
      refine XS.ifNo X1.here hx rfl (hb hby d6_11) rfl ((if0 _ _).trans (feq (by decide)).1) ?_
      show Steps p.tables e below (T1.setTop (mkF m 14 #[.val (.ref u0), .val (.ref u1), .unset] [])) _
      refine XS.aloadN X1.here hx rfl (hb hby d6_14) rfl rfl ?_
      show Steps p.tables e below (T1.setTop (mkF m 15 #[.val (.ref u0), .val (.ref u1), .unset] [(.ref u1)])) _
      refine st2 _ ?_
      show Steps p.tables e below (T2.setTop (mkF m 18 #[.val (.ref u0), .val (.ref u1), .unset] [(.ref u1)])) _
      refine XS.astoreN X2.here hx rfl (hb hby d6_18) rfl rfl (l' := #[.val (.ref u0), .val (.ref u1), .val (.ref u1)]) rfl ?_
      show Steps p.tables e below (T2.setTop (mkF m 19 #[.val (.ref u0), .val (.ref u1), .val (.ref u1)] [])) _
      refine st3 _ ?_
      show Steps p.tables e below (T3.setTop (mkF m 22 #[.val (.ref u0), .val (.ref u1), .val (.ref u1)] [(.int G_COMPACT)])) _
      refine XS.ifNo X3.here hx rfl (hb hby d6_22) rfl ((if0 _ _).trans (feq P_COMPACT).1) ?_
      show Steps p.tables e below (T3.setTop (mkF m 25 #[.val (.ref u0), .val (.ref u1), .val (.ref u1)] [])) _
      refine XS.aloadN X3.here hx rfl (hb hby d6_25) rfl rfl ?_
      show Steps p.tables e below (T3.setTop (mkF m 26 #[.val (.ref u0), .val (.ref u1), .val (.ref u1)] [(.ref u0)])) _
      refine st4 _ ?_
      show Steps p.tables e below (T4.setTop (mkF m 29 #[.val (.ref u0), .val (.ref u1), .val (.ref u1)] [(.int (0 : Int32))])) _
      refine XS.aloadN X4.here hx rfl (hb hby d6_29) rfl rfl ?_
      show Steps p.tables e below (T4.setTop (mkF m 30 #[.val (.ref u0), .val (.ref u1), .val (.ref u1)] [(.ref u1), (.int (0 : Int32))])) _
      refine st5 _ ?_
      show Steps p.tables e below (T5.setTop (mkF m 33 #[.val (.ref u0), .val (.ref u1), .val (.ref u1)] [(.int (0 : Int32)), (.int (0 : Int32))])) _
      refine XS.icmpNo X5.here hx rfl (hb hby d6_33) rfl (teq (by decide)).2 ?_
      show Steps p.tables e below (T5.setTop (mkF m 36 #[.val (.ref u0), .val (.ref u1), .val (.ref u1)] [])) _
      refine XS.aloadN X5.here hx rfl (hb hby d6_36) rfl rfl ?_
      show Steps p.tables e below (T5.setTop (mkF m 37 #[.val (.ref u0), .val (.ref u1), .val (.ref u1)] [(.ref u0)])) _
      refine st6 _ ?_
      show Steps p.tables e below (T6.setTop (mkF m 40 #[.val (.ref u0), .val (.ref u1), .val (.ref u1)] [(.ref d0)])) _
      refine XS.aloadN X6.here hx rfl (hb hby d6_40) rfl rfl ?_
      show Steps p.tables e below (T6.setTop (mkF m 41 #[.val (.ref u0), .val (.ref u1), .val (.ref u1)] [(.ref u1), (.ref d0)])) _
      refine st7 _ ?_
      show Steps p.tables e below (T7.setTop (mkF m 44 #[.val (.ref u0), .val (.ref u1), .val (.ref u1)] [(.ref d1), (.ref d0)])) _
      refine st8 _ ?_
      show Steps p.tables e below (T8.setTop (mkF m 47 #[.val (.ref u0), .val (.ref u1), .val (.ref u1)] [(.int (1 : Int32))])) _
      refine XS.ifNo X8.here hx rfl (hb hby d6_47) rfl ((if0 _ _).trans (feq (by decide)).1) ?_
      show Steps p.tables e below (T8.setTop (mkF m 50 #[.val (.ref u0), .val (.ref u1), .val (.ref u1)] [])) _
      refine XS.iconst X8.here hx rfl (hb hby d6_50) ?_
      show Steps p.tables e below (T8.setTop (mkF m 51 #[.val (.ref u0), .val (.ref u1), .val (.ref u1)] [(.int (1 : Int32))])) _
      refine XS.goto X8.here hx rfl (pc0 := 51) (pc' := 55) rfl (hb hby d6_51) (by decide) (by decide) ?_
      show Steps p.tables e below (T8.setTop (mkF m 55 #[.val (.ref u0), .val (.ref u1), .val (.ref u1)] [(.int (1 : Int32))])) _
      exact retN X8 hx (t := .boolean) Bd.returns (by simp) (hb hby d6_55) hr
    · show Q6II Z u0 u1 d0 d1 k0 k1 G_COMPACT h0 n0 _ T8.heap _
      rw [e8]
      exact ⟨rfl, N8, rfl⟩
theorem pd_0 : parseMethodDescriptor "()I" = some ⟨[], some .int⟩ := by decide +kernel
theorem d3_0 : decode prog_19_method_6_code 0 = .ok (.aload_n 0, 1) := by decide +kernel
theorem d3_1 : decode prog_19_method_6_code 1 = .ok (.invokevirtual 54, 3) := by decide +kernel
theorem d3_4 : decode prog_19_method_6_code 4 = .ok (.tableswitch 28 0 2 #[38, 43, 48], 28) := by decide +kernel
theorem d3_42 : decode prog_19_method_6_code 42 = .ok (.ldc 63, 2) := by decide +kernel
theorem d3_44 : decode prog_19_method_6_code 44 = .ok (.goto 10, 3) := by decide +kernel
theorem d3_54 : decode prog_19_method_6_code 54 = .ok (.areturn, 1) := by decide +kernel
theorem pn_com_example_backfill_backfill_engine_Lane : plainName "com/example/backfill/backfill/engine/Lane" = true := by first | (simp [plainName, overriddenIn]; done) | decide +kernel
theorem ef_3UPSTREAM (m : MethodId) (u0 : Addr) : entryFrame m #[(.ref u0)] 1 = mkF m 0 #[.val (.ref u0)] [] := by first | (simp [entryFrame, mkF, argsToLocals, Value.category]; done) | rfl
def Q3UPSTREAM (Z : State) (u0 : Addr) (h0 : Heap) (n0 : Nat) (v : Option Value) (h : Heap) (L : List Loc) : Prop := ∃ (sa sd : Addr) (kc : ClassId), v = some (.ref sa) ∧ Fr n0 L ∧ Keep h0 h [] ∧ Exa Z h sa "java/lang/String" ∧ Fld Z h sa "java/lang/String" "coder" "B" (.int 0) ∧ Fld Z h sa "java/lang/String" "value" "[B" (.ref sd) ∧ Arv Z h sd kc .byte (12 : Int32) [(.int (97 : Int32)), (.int (108 : Int32)), (.int (108 : Int32)), (.int (32 : Int32)), (.int (114 : Int32)), (.int (101 : Int32)), (.int (113 : Int32)), (.int (117 : Int32)), (.int (101 : Int32)), (.int (115 : Int32)), (.int (116 : Int32)), (.int (115 : Int32))] (.int 0)
set_option maxRecDepth 65536 in
set_option maxHeartbeats 40000000 in
theorem rm3UPSTREAM (l : Launch) (Z : State) (a0 : Array Value) (hw : ∀ d ∈ tables_1, d.before a0 Z = true) (ws : List Jvm.Cond) (u0 : Addr) (h0 : Heap) (n0 : Nat) (Z0 : n0 ≤ h0.size) (E_u0 : Exa Z h0 u0 "com/example/backfill/backfill/engine/Lane") (F_ord : Fld Z h0 u0 "java/lang/Enum" "ordinal" "I" (.int (0 : Int32))) :
    MetFree l (⟨"com/example/backfill/backfill/engine/Lane", "requests", "()Ljava/lang/String;"⟩ : MethodName) (head1 (Jvm.Cond.code (⟨"com/example/backfill/backfill/engine/Lane", "requests", "()Ljava/lang/String;"⟩ : MethodName) prog_19_method_6_code 1 (some (.object "java/lang/String")) :: ws) ({ frames := 1, cells := 2, slots := 52, locals := 12 } : Room)) (fun a U => a = #[(.ref u0)] ∧ Z.Warmed39 U.vm ∧ U.heap = h0 ∧ CHv Z EL U.vm h0) (fun _ _ _ _ _ => True) (fun _ U o U' => ∃ v L, o = .returned v ∧ Q3UPSTREAM Z u0 h0 n0 v U'.heap L ∧ CHr Z EL U.vm U.heap U'.vm U'.heap ∧ ReturnedEndW U o U' L ({ frames := 1, cells := 2, slots := 52, locals := 12 } : Room).cells ({ frames := 1, cells := 2, slots := 52, locals := 12 } : Room).slots) := by
  refine MetFree.of_bodySF (plainFor_of_name pn_com_example_backfill_backfill_engine_Lane) hisR ?_
  intro p e s m args below meth c s₁ Bd hml0 hP hK
  obtain ⟨rfl, hZ, hh, hC0⟩ := hP
  replace hZ : Z.Warmed39 (s.setVm s.vm).vm := hZ
  have hx := Bd.exec
  have hby := Bd.bytes
  have hml : c.maxLocals = 1 := hml0
  have hown : (s.setVm s.vm).vm.findClass "com/example/backfill/backfill/engine/Lane" = some m.cls := findClass_of_methodNamed Bd.named
  have hnm := (name_of_methodNamed Bd.named Bd.method).1
  have X0 : Stand p l e ({ frames := 1, cells := 2, slots := 52, locals := 12 } : Room) (s.setVm s.vm) m #[(.ref u0)] below meth c s₁ [] 0 0 := Stand.of_body Bd
  have e0 : s₁.heap = h0 := by rw [← hh, Bd.state]; rfl
  have N0 := Fr.nil n0
  have pre0 : ∀ t, Steps p.tables e below (s₁.setTop (mkF m 0 #[.val (.ref u0)] [])) t → Steps p.tables e below (s₁.setTop (entryFrame m #[(.ref u0)] 1)) t := fun t k => castTop (ef_3UPSTREAM m u0) k
  have hS0 : s.Since s.vm s.heap.size := own_since s
  have hk0 : s.heap.size ≤ h0.size := Nat.le_of_eq (congrArg Array.size hh)
  have C0 : CHr Z EL s.vm h0 s.vm h0 := CHr.refl hC0
  have wS : ∀ d ∈ Bundle.stringAtoms, d.before a0 Z = true := fun d hd => hw d ((by decide +kernel : ∀ d ∈ Bundle.stringAtoms, d ∈ tables_1) d hd)
  obtain ⟨cq1, kq1, q1a, q1b, q1c⟩ := isOf hZ e0 E_u0
  obtain ⟨_, _, ⟨T1, L1, k1, n1⟩, -, X1, ⟨Lc1, hQ1, l1, y1, z1⟩, st1⟩ := X0.virtualBackUp hx (x := (⟨"com/example/backfill/backfill/engine/Lane", "ordinal", "()I"⟩ : MethodName)) (y := (⟨"java/lang/Enum", "ordinal", "()I"⟩ : MethodName)) (owner := "java/lang/Enum") hown (mvT hZ (hw _ (List.mem_of_getElem? (i := 16) rfl))) (mvT hZ (hw _ (List.mem_of_getElem? (i := 17) rfl))) (mvT hZ (hw _ (List.mem_of_getElem? (i := 18) rfl))) (by decide) (mvT hZ (hw _ (List.mem_of_getElem? (i := 20) rfl))) (mvT hZ (hw _ (List.mem_of_getElem? (i := 19) rfl))) (backOf (W := 0) (rm4 l Z a0 hw [] u0 (0 : Int32) h0 n0 Z0 F_ord) hZ (hw _ (List.mem_of_getElem? (i := 22) rfl)) (hw _ (List.mem_of_getElem? (i := 21) rfl)) (by decide) (by decide)) q1a q1c (g := (mkF m 1 #[.val (.ref u0)] [(.ref u0)])) rfl (by rw [hml]; rfl) (Steps.refl _) (argsL := []) (rest := []) (lenOf pd_0 rfl) rfl (by show 2 * 0 + _ ≤ _; exact Nat.le_of_eq rfl) (hb hby d3_1) (fun _ _ => ⟨rfl, e0, (by decide : 0 + 0 ≤ _), (by decide : 0 + 0 ≤ _)⟩)
  dsimp only [Pt.U, Pt.locs, Pt.cells, Pt.slots] at X1 l1 y1 z1 st1 hQ1
  subst l1 y1 z1
  obtain ⟨rfl, N1q, e1⟩ := hQ1
  have N1 := Fr.app N0 N1q
  obtain ⟨s2, T2, h2, q2, d2, kc2, X2, e2, E2, hS2, hk2, hZ, hown, A2, F2_coder, F2_value, V2, ls2, ld2, Cq2, Lt2, sf2, st2⟩ := ldcCH X1 hx hZ hown (hw _ (List.mem_of_getElem? (i := 25) rfl)) wS e1 hS0 hk0 (hEL hw) (List.mem_of_getElem? (i := 0) rfl) C0.1 (vs := [(.int (97 : Int32)), (.int (108 : Int32)), (.int (108 : Int32)), (.int (32 : Int32)), (.int (114 : Int32)), (.int (101 : Int32)), (.int (113 : Int32)), (.int (117 : Int32)), (.int (101 : Int32)), (.int (115 : Int32)), (.int (116 : Int32)), (.int (115 : Int32))]) (z := (12 : Int32)) (by constructor <;> decide +kernel) (by decide) (by decide +kernel) (g := (mkF m 42 #[.val (.ref u0)] [])) rfl (hb hby d3_42) (n := 48) (by decide +kernel) (by decide) (by decide) (by decide)
  have Z2 : n0 ≤ h2.size := Nat.le_trans Z0 E2.1
  have KK2 := (Keep.refl h0 []).ext E2
  have C2 := C0.trans Cq2
  obtain ⟨fs, hr, hrun, hended, hE⟩ := X2.leaveW hS2 (Nat.le_trans hk2 (Nat.le_of_eq (congrArg Array.size e2).symm)) (v := some (.ref s2)) (fun h => by rw [Bd.returns] at h; cases h)
  refine ⟨_, _, pre0 _ ?_, hrun, hended, _, _, rfl, ?_, ?_, own_monoW hE (by decide) (by decide)⟩
  · show Steps p.tables e below (s₁.setTop (mkF m 0 #[.val (.ref u0)] [])) _
    refine XS.aloadN X0.here hx rfl (hb hby d3_0) rfl rfl ?_
    show Steps p.tables e below (s₁.setTop (mkF m 1 #[.val (.ref u0)] [(.ref u0)])) _
    refine st1.trans ?_
    show Steps p.tables e below (T1.setTop (mkF m 4 #[.val (.ref u0)] [(.int (0 : Int32))])) _
    refine XS.tswIn X1.here hx rfl (pc0 := 4) (pc' := 42) rfl (hb hby d3_4) rfl (by decide) (o := 38) (by decide) (by decide) (by decide) ?_
    show Steps p.tables e below (T1.setTop (mkF m 42 #[.val (.ref u0)] [])) _
    refine st2 _ ?_
    show Steps p.tables e below (T2.setTop (mkF m 44 #[.val (.ref u0)] [(.ref s2)])) _
    refine XS.goto X2.here hx rfl (pc0 := 44) (pc' := 54) rfl (hb hby d3_44) (by decide) (by decide) ?_
    show Steps p.tables e below (T2.setTop (mkF m 54 #[.val (.ref u0)] [(.ref s2)])) _
    jvm_step X2.here [X2.here.top, hx, (hb hby d3_54), X2.method', Bd.returns, Value.isRef, FieldType.isReference]
    first | (intro acts; rw [hr _ acts rfl rfl rfl]) | rw [hr _ _ rfl rfl rfl]
    exact Steps.refl _
  · show Q3UPSTREAM Z u0 h0 n0 _ T2.heap _
    rw [e2]
    exact ⟨s2, d2, _, rfl, N1, KK2, A2, F2_coder, F2_value, V2⟩
  · show CHr Z EL s.vm s.heap T2.vm T2.heap
    rw [e2]
    rw [hh]
    exact C2.trans (CHv.at X2 hZ (hEL hw) C2.1)
theorem d5_0 : decode method_4_code 0 = .ok (.iload_n 0, 1) := by decide +kernel
theorem d5_1 : decode method_4_code 1 = .ok (.invokestatic 8, 3) := by decide +kernel
theorem d5_4 : decode method_4_code 4 = .ok (.istore_n 1, 1) := by decide +kernel
theorem d5_5 : decode method_4_code 5 = .ok (.iload_n 1, 1) := by decide +kernel
theorem d5_6 : decode method_4_code 6 = .ok (.ifCond .ne 6, 3) := by decide +kernel
theorem d5_9 : decode method_4_code 9 = .ok (.ldc 26, 2) := by decide +kernel
theorem d5_11 : decode method_4_code 11 = .ok (.areturn, 1) := by decide +kernel
theorem ef_5UPSTREAM (m : MethodId) (u0 : Int32) : entryFrame m #[(.int u0)] 2 = mkF m 0 #[.val (.int u0), .unset] [] := by first | (simp [entryFrame, mkF, argsToLocals, Value.category]; done) | rfl
def Q5UPSTREAM (Z : State) (u0 : Int32) (h0 : Heap) (n0 : Nat) (v : Option Value) (h : Heap) (L : List Loc) : Prop := ∃ (sa sd : Addr) (kc : ClassId), v = some (.ref sa) ∧ Fr n0 L ∧ Keep h0 h [] ∧ Exa Z h sa "java/lang/String" ∧ Fld Z h sa "java/lang/String" "coder" "B" (.int 0) ∧ Fld Z h sa "java/lang/String" "value" "[B" (.ref sd) ∧ Arv Z h sd kc .byte (12 : Int32) [(.int (97 : Int32)), (.int (108 : Int32)), (.int (108 : Int32)), (.int (32 : Int32)), (.int (114 : Int32)), (.int (101 : Int32)), (.int (113 : Int32)), (.int (117 : Int32)), (.int (101 : Int32)), (.int (115 : Int32)), (.int (116 : Int32)), (.int (115 : Int32))] (.int 0)
set_option maxRecDepth 65536 in
set_option maxHeartbeats 40000000 in
theorem rm5UPSTREAM (l : Launch) (Z : State) (a0 : Array Value) (hw : ∀ d ∈ tables_1, d.before a0 Z = true) (ws : List Jvm.Cond) (u0 : Int32) (h0 : Heap) (n0 : Nat) (Z0 : n0 ≤ h0.size) (h0s : ((u0 &&& (2147483647 : Int32)) % (3 : Int32)) = (0 : Int32)) :
    MetFree l (⟨"com/example/backfill/backfill/engine/LaneRequestsPinLaw", "expected", "(I)Ljava/lang/String;"⟩ : MethodName) (head1 (Jvm.Cond.code (⟨"com/example/backfill/backfill/engine/LaneRequestsPinLaw", "expected", "(I)Ljava/lang/String;"⟩ : MethodName) method_4_code 2 (some (.object "java/lang/String")) :: ws) ({ frames := 1, cells := 2, slots := 52, locals := 12 } : Room)) (fun a U => a = #[(.int u0)] ∧ Z.Warmed39 U.vm ∧ U.heap = h0 ∧ CHv Z EL U.vm h0) (fun _ _ _ _ _ => True) (fun _ U o U' => ∃ v L, o = .returned v ∧ Q5UPSTREAM Z u0 h0 n0 v U'.heap L ∧ CHr Z EL U.vm U.heap U'.vm U'.heap ∧ ReturnedEndW U o U' L ({ frames := 1, cells := 2, slots := 52, locals := 12 } : Room).cells ({ frames := 1, cells := 2, slots := 52, locals := 12 } : Room).slots) := by
  refine MetFree.of_bodySF (plainFor_of_name pn_com_example_backfill_backfill_engine_LaneRequestsPinLaw) hisR ?_
  intro p e s m args below meth c s₁ Bd hml0 hP hK
  obtain ⟨rfl, hZ, hh, hC0⟩ := hP
  replace hZ : Z.Warmed39 (s.setVm s.vm).vm := hZ
  have hx := Bd.exec
  have hby := Bd.bytes
  have hml : c.maxLocals = 2 := hml0
  have hown : (s.setVm s.vm).vm.findClass "com/example/backfill/backfill/engine/LaneRequestsPinLaw" = some m.cls := findClass_of_methodNamed Bd.named
  have hnm := (name_of_methodNamed Bd.named Bd.method).1
  have X0 : Stand p l e ({ frames := 1, cells := 2, slots := 52, locals := 12 } : Room) (s.setVm s.vm) m #[(.int u0)] below meth c s₁ [] 0 0 := Stand.of_body Bd
  have e0 : s₁.heap = h0 := by rw [← hh, Bd.state]; rfl
  have N0 := Fr.nil n0
  have pre0 : ∀ t, Steps p.tables e below (s₁.setTop (mkF m 0 #[.val (.int u0), .unset] [])) t → Steps p.tables e below (s₁.setTop (entryFrame m #[(.int u0)] 2)) t := fun t k => castTop (ef_5UPSTREAM m u0) k
  have hS0 : s.Since s.vm s.heap.size := own_since s
  have hk0 : s.heap.size ≤ h0.size := Nat.le_of_eq (congrArg Array.size hh)
  have C0 : CHr Z EL s.vm h0 s.vm h0 := CHr.refl hC0
  have wS : ∀ d ∈ Bundle.stringAtoms, d.before a0 Z = true := fun d hd => hw d ((by decide +kernel : ∀ d ∈ Bundle.stringAtoms, d ∈ tables_1) d hd)
  obtain ⟨_, _, ⟨T1, L1, k1, n1⟩, -, X1, ⟨Lc1, hQ1, l1, y1, z1⟩, st1⟩ := Jvm.LawKit.callS X0 hx (y := (⟨"com/example/backfill/backfill/engine/LaneRequestsPinLaw", "sel", "(I)I"⟩ : MethodName)) hown (mvT hZ (hw _ (List.mem_of_getElem? (i := 4) rfl))) (mvT hZ (hw _ (List.mem_of_getElem? (i := 5) rfl))) (mvT hZ (hw _ (List.mem_of_getElem? (i := 2) rfl))) (mvT hZ (hw _ (List.mem_of_getElem? (i := 6) rfl))) (by decide) (backOf (W := 0) (rm2 l Z a0 hw [] u0 h0 n0 Z0 ) hZ (hw _ (List.mem_of_getElem? (i := 6) rfl)) (hw _ (List.mem_of_getElem? (i := 2) rfl)) (by decide) (by decide)) (g := (mkF m 1 #[.val (.int u0), .unset] [(.int u0)])) rfl (by rw [hml]; rfl) (argsL := [(.int u0)]) (rest := []) (lenOf pd_2 rfl) rfl (by show 2 * 0 + _ ≤ _; exact Nat.le_of_eq rfl) (hb hby d5_1) (fun _ _ => ⟨rfl, e0, (by decide : 0 + 0 ≤ _), (by decide : 0 + 0 ≤ _)⟩)
  dsimp only [Pt.U, Pt.locs, Pt.cells, Pt.slots] at X1 l1 y1 z1 st1 hQ1
  subst l1 y1 z1
  obtain ⟨rfl, N1q, e1⟩ := hQ1
  have N1 := Fr.app N0 N1q
  obtain ⟨s2, T2, h2, q2, d2, kc2, X2, e2, E2, hS2, hk2, hZ, hown, A2, F2_coder, F2_value, V2, ls2, ld2, Cq2, Lt2, sf2, st2⟩ := ldcCH X1 hx hZ hown (hw _ (List.mem_of_getElem? (i := 36) rfl)) wS e1 hS0 hk0 (hEL hw) (List.mem_of_getElem? (i := 3) rfl) C0.1 (vs := [(.int (97 : Int32)), (.int (108 : Int32)), (.int (108 : Int32)), (.int (32 : Int32)), (.int (114 : Int32)), (.int (101 : Int32)), (.int (113 : Int32)), (.int (117 : Int32)), (.int (101 : Int32)), (.int (115 : Int32)), (.int (116 : Int32)), (.int (115 : Int32))]) (z := (12 : Int32)) (by constructor <;> decide +kernel) (by decide) (by decide +kernel) (g := (mkF m 9 #[.val (.int u0), .val (.int ((u0 &&& (2147483647 : Int32)) % (3 : Int32)))] [])) rfl (hb hby d5_9) (n := 48) (by decide +kernel) (by decide) (by decide) (by decide)
  have Z2 : n0 ≤ h2.size := Nat.le_trans Z0 E2.1
  have KK2 := (Keep.refl h0 []).ext E2
  have C2 := C0.trans Cq2
  obtain ⟨fs, hr, hrun, hended, hE⟩ := X2.leaveW hS2 (Nat.le_trans hk2 (Nat.le_of_eq (congrArg Array.size e2).symm)) (v := some (.ref s2)) (fun h => by rw [Bd.returns] at h; cases h)
  refine ⟨_, _, pre0 _ ?_, hrun, hended, _, _, rfl, ?_, ?_, own_monoW hE (by decide) (by decide)⟩
  · show Steps p.tables e below (s₁.setTop (mkF m 0 #[.val (.int u0), .unset] [])) _
    refine XS.iloadN X0.here hx rfl (hb hby d5_0) rfl ?_
    show Steps p.tables e below (s₁.setTop (mkF m 1 #[.val (.int u0), .unset] [(.int u0)])) _
    refine st1 _ ?_
    show Steps p.tables e below (T1.setTop (mkF m 4 #[.val (.int u0), .unset] [(.int ((u0 &&& (2147483647 : Int32)) % (3 : Int32)))])) _
    refine XS.istoreN X1.here hx rfl (hb hby d5_4) rfl (l' := #[.val (.int u0), .val (.int ((u0 &&& (2147483647 : Int32)) % (3 : Int32)))]) rfl ?_
    show Steps p.tables e below (T1.setTop (mkF m 5 #[.val (.int u0), .val (.int ((u0 &&& (2147483647 : Int32)) % (3 : Int32)))] [])) _
    refine XS.iloadN X1.here hx rfl (hb hby d5_5) rfl ?_
    show Steps p.tables e below (T1.setTop (mkF m 6 #[.val (.int u0), .val (.int ((u0 &&& (2147483647 : Int32)) % (3 : Int32)))] [(.int ((u0 &&& (2147483647 : Int32)) % (3 : Int32)))])) _
    refine XS.ifNo X1.here hx rfl (hb hby d5_6) rfl ((if0 _ _).trans (teq h0s).2) ?_
    show Steps p.tables e below (T1.setTop (mkF m 9 #[.val (.int u0), .val (.int ((u0 &&& (2147483647 : Int32)) % (3 : Int32)))] [])) _
    refine st2 _ ?_
    show Steps p.tables e below (T2.setTop (mkF m 11 #[.val (.int u0), .val (.int ((u0 &&& (2147483647 : Int32)) % (3 : Int32)))] [(.ref s2)])) _
    jvm_step X2.here [X2.here.top, hx, (hb hby d5_11), X2.method', Bd.returns, Value.isRef, FieldType.isReference]
    first | (intro acts; rw [hr _ acts rfl rfl rfl]) | rw [hr _ _ rfl rfl rfl]
    exact Steps.refl _
  · show Q5UPSTREAM Z u0 h0 n0 _ T2.heap _
    rw [e2]
    exact ⟨s2, d2, _, rfl, N1, KK2, A2, F2_coder, F2_value, V2⟩
  · show CHr Z EL s.vm s.heap T2.vm T2.heap
    rw [e2]
    rw [hh]
    exact C2.trans (CHv.at X2 hZ (hEL hw) C2.1)
theorem d3_47 : decode prog_19_method_6_code 47 = .ok (.ldc 65, 2) := by decide +kernel
theorem d3_49 : decode prog_19_method_6_code 49 = .ok (.goto 5, 3) := by decide +kernel
theorem ef_3LIST (m : MethodId) (u0 : Addr) : entryFrame m #[(.ref u0)] 1 = mkF m 0 #[.val (.ref u0)] [] := by first | (simp [entryFrame, mkF, argsToLocals, Value.category]; done) | rfl
def Q3LIST (Z : State) (u0 : Addr) (h0 : Heap) (n0 : Nat) (v : Option Value) (h : Heap) (L : List Loc) : Prop := ∃ (sa sd : Addr) (kc : ClassId), v = some (.ref sa) ∧ Fr n0 L ∧ Keep h0 h [] ∧ Exa Z h sa "java/lang/String" ∧ Fld Z h sa "java/lang/String" "coder" "B" (.int 0) ∧ Fld Z h sa "java/lang/String" "value" "[B" (.ref sd) ∧ Arv Z h sd kc .byte (10 : Int32) [(.int (108 : Int32)), (.int (105 : Int32)), (.int (115 : Int32)), (.int (116 : Int32)), (.int (32 : Int32)), (.int (112 : Int32)), (.int (97 : Int32)), (.int (103 : Int32)), (.int (101 : Int32)), (.int (115 : Int32))] (.int 0)
set_option maxRecDepth 65536 in
set_option maxHeartbeats 40000000 in
theorem rm3LIST (l : Launch) (Z : State) (a0 : Array Value) (hw : ∀ d ∈ tables_1, d.before a0 Z = true) (ws : List Jvm.Cond) (u0 : Addr) (h0 : Heap) (n0 : Nat) (Z0 : n0 ≤ h0.size) (E_u0 : Exa Z h0 u0 "com/example/backfill/backfill/engine/Lane") (F_ord : Fld Z h0 u0 "java/lang/Enum" "ordinal" "I" (.int (1 : Int32))) :
    MetFree l (⟨"com/example/backfill/backfill/engine/Lane", "requests", "()Ljava/lang/String;"⟩ : MethodName) (head1 (Jvm.Cond.code (⟨"com/example/backfill/backfill/engine/Lane", "requests", "()Ljava/lang/String;"⟩ : MethodName) prog_19_method_6_code 1 (some (.object "java/lang/String")) :: ws) ({ frames := 1, cells := 2, slots := 44, locals := 12 } : Room)) (fun a U => a = #[(.ref u0)] ∧ Z.Warmed39 U.vm ∧ U.heap = h0 ∧ CHv Z EL U.vm h0) (fun _ _ _ _ _ => True) (fun _ U o U' => ∃ v L, o = .returned v ∧ Q3LIST Z u0 h0 n0 v U'.heap L ∧ CHr Z EL U.vm U.heap U'.vm U'.heap ∧ ReturnedEndW U o U' L ({ frames := 1, cells := 2, slots := 44, locals := 12 } : Room).cells ({ frames := 1, cells := 2, slots := 44, locals := 12 } : Room).slots) := by
  refine MetFree.of_bodySF (plainFor_of_name pn_com_example_backfill_backfill_engine_Lane) hisR ?_
  intro p e s m args below meth c s₁ Bd hml0 hP hK
  obtain ⟨rfl, hZ, hh, hC0⟩ := hP
  replace hZ : Z.Warmed39 (s.setVm s.vm).vm := hZ
  have hx := Bd.exec
  have hby := Bd.bytes
  have hml : c.maxLocals = 1 := hml0
  have hown : (s.setVm s.vm).vm.findClass "com/example/backfill/backfill/engine/Lane" = some m.cls := findClass_of_methodNamed Bd.named
  have hnm := (name_of_methodNamed Bd.named Bd.method).1
  have X0 : Stand p l e ({ frames := 1, cells := 2, slots := 44, locals := 12 } : Room) (s.setVm s.vm) m #[(.ref u0)] below meth c s₁ [] 0 0 := Stand.of_body Bd
  have e0 : s₁.heap = h0 := by rw [← hh, Bd.state]; rfl
  have N0 := Fr.nil n0
  have pre0 : ∀ t, Steps p.tables e below (s₁.setTop (mkF m 0 #[.val (.ref u0)] [])) t → Steps p.tables e below (s₁.setTop (entryFrame m #[(.ref u0)] 1)) t := fun t k => castTop (ef_3LIST m u0) k
  have hS0 : s.Since s.vm s.heap.size := own_since s
  have hk0 : s.heap.size ≤ h0.size := Nat.le_of_eq (congrArg Array.size hh)
  have C0 : CHr Z EL s.vm h0 s.vm h0 := CHr.refl hC0
  have wS : ∀ d ∈ Bundle.stringAtoms, d.before a0 Z = true := fun d hd => hw d ((by decide +kernel : ∀ d ∈ Bundle.stringAtoms, d ∈ tables_1) d hd)
  obtain ⟨cq1, kq1, q1a, q1b, q1c⟩ := isOf hZ e0 E_u0
  obtain ⟨_, _, ⟨T1, L1, k1, n1⟩, -, X1, ⟨Lc1, hQ1, l1, y1, z1⟩, st1⟩ := X0.virtualBackUp hx (x := (⟨"com/example/backfill/backfill/engine/Lane", "ordinal", "()I"⟩ : MethodName)) (y := (⟨"java/lang/Enum", "ordinal", "()I"⟩ : MethodName)) (owner := "java/lang/Enum") hown (mvT hZ (hw _ (List.mem_of_getElem? (i := 16) rfl))) (mvT hZ (hw _ (List.mem_of_getElem? (i := 17) rfl))) (mvT hZ (hw _ (List.mem_of_getElem? (i := 18) rfl))) (by decide) (mvT hZ (hw _ (List.mem_of_getElem? (i := 20) rfl))) (mvT hZ (hw _ (List.mem_of_getElem? (i := 19) rfl))) (backOf (W := 0) (rm4 l Z a0 hw [] u0 (1 : Int32) h0 n0 Z0 F_ord) hZ (hw _ (List.mem_of_getElem? (i := 22) rfl)) (hw _ (List.mem_of_getElem? (i := 21) rfl)) (by decide) (by decide)) q1a q1c (g := (mkF m 1 #[.val (.ref u0)] [(.ref u0)])) rfl (by rw [hml]; rfl) (Steps.refl _) (argsL := []) (rest := []) (lenOf pd_0 rfl) rfl (by show 2 * 0 + _ ≤ _; exact Nat.le_of_eq rfl) (hb hby d3_1) (fun _ _ => ⟨rfl, e0, (by decide : 0 + 0 ≤ _), (by decide : 0 + 0 ≤ _)⟩)
  dsimp only [Pt.U, Pt.locs, Pt.cells, Pt.slots] at X1 l1 y1 z1 st1 hQ1
  subst l1 y1 z1
  obtain ⟨rfl, N1q, e1⟩ := hQ1
  have N1 := Fr.app N0 N1q
  obtain ⟨s2, T2, h2, q2, d2, kc2, X2, e2, E2, hS2, hk2, hZ, hown, A2, F2_coder, F2_value, V2, ls2, ld2, Cq2, Lt2, sf2, st2⟩ := ldcCH X1 hx hZ hown (hw _ (List.mem_of_getElem? (i := 47) rfl)) wS e1 hS0 hk0 (hEL hw) (List.mem_of_getElem? (i := 1) rfl) C0.1 (vs := [(.int (108 : Int32)), (.int (105 : Int32)), (.int (115 : Int32)), (.int (116 : Int32)), (.int (32 : Int32)), (.int (112 : Int32)), (.int (97 : Int32)), (.int (103 : Int32)), (.int (101 : Int32)), (.int (115 : Int32))]) (z := (10 : Int32)) (by constructor <;> decide +kernel) (by decide) (by decide +kernel) (g := (mkF m 47 #[.val (.ref u0)] [])) rfl (hb hby d3_47) (n := 40) (by decide +kernel) (by decide) (by decide) (by decide)
  have Z2 : n0 ≤ h2.size := Nat.le_trans Z0 E2.1
  have KK2 := (Keep.refl h0 []).ext E2
  have C2 := C0.trans Cq2
  obtain ⟨fs, hr, hrun, hended, hE⟩ := X2.leaveW hS2 (Nat.le_trans hk2 (Nat.le_of_eq (congrArg Array.size e2).symm)) (v := some (.ref s2)) (fun h => by rw [Bd.returns] at h; cases h)
  refine ⟨_, _, pre0 _ ?_, hrun, hended, _, _, rfl, ?_, ?_, own_monoW hE (by decide) (by decide)⟩
  · show Steps p.tables e below (s₁.setTop (mkF m 0 #[.val (.ref u0)] [])) _
    refine XS.aloadN X0.here hx rfl (hb hby d3_0) rfl rfl ?_
    show Steps p.tables e below (s₁.setTop (mkF m 1 #[.val (.ref u0)] [(.ref u0)])) _
    refine st1.trans ?_
    show Steps p.tables e below (T1.setTop (mkF m 4 #[.val (.ref u0)] [(.int (1 : Int32))])) _
    refine XS.tswIn X1.here hx rfl (pc0 := 4) (pc' := 47) rfl (hb hby d3_4) rfl (by decide) (o := 43) (by decide) (by decide) (by decide) ?_
    show Steps p.tables e below (T1.setTop (mkF m 47 #[.val (.ref u0)] [])) _
    refine st2 _ ?_
    show Steps p.tables e below (T2.setTop (mkF m 49 #[.val (.ref u0)] [(.ref s2)])) _
    refine XS.goto X2.here hx rfl (pc0 := 49) (pc' := 54) rfl (hb hby d3_49) (by decide) (by decide) ?_
    show Steps p.tables e below (T2.setTop (mkF m 54 #[.val (.ref u0)] [(.ref s2)])) _
    jvm_step X2.here [X2.here.top, hx, (hb hby d3_54), X2.method', Bd.returns, Value.isRef, FieldType.isReference]
    first | (intro acts; rw [hr _ acts rfl rfl rfl]) | rw [hr _ _ rfl rfl rfl]
    exact Steps.refl _
  · show Q3LIST Z u0 h0 n0 _ T2.heap _
    rw [e2]
    exact ⟨s2, d2, _, rfl, N1, KK2, A2, F2_coder, F2_value, V2⟩
  · show CHr Z EL s.vm s.heap T2.vm T2.heap
    rw [e2]
    rw [hh]
    exact C2.trans (CHv.at X2 hZ (hEL hw) C2.1)
theorem d5_12 : decode method_4_code 12 = .ok (.iload_n 1, 1) := by decide +kernel
theorem d5_13 : decode method_4_code 13 = .ok (.iconst 1, 1) := by decide +kernel
theorem d5_14 : decode method_4_code 14 = .ok (.if_icmp .ne 6, 3) := by decide +kernel
theorem d5_17 : decode method_4_code 17 = .ok (.ldc 28, 2) := by decide +kernel
theorem d5_19 : decode method_4_code 19 = .ok (.areturn, 1) := by decide +kernel
theorem ef_5LIST (m : MethodId) (u0 : Int32) : entryFrame m #[(.int u0)] 2 = mkF m 0 #[.val (.int u0), .unset] [] := by first | (simp [entryFrame, mkF, argsToLocals, Value.category]; done) | rfl
def Q5LIST (Z : State) (u0 : Int32) (h0 : Heap) (n0 : Nat) (v : Option Value) (h : Heap) (L : List Loc) : Prop := ∃ (sa sd : Addr) (kc : ClassId), v = some (.ref sa) ∧ Fr n0 L ∧ Keep h0 h [] ∧ Exa Z h sa "java/lang/String" ∧ Fld Z h sa "java/lang/String" "coder" "B" (.int 0) ∧ Fld Z h sa "java/lang/String" "value" "[B" (.ref sd) ∧ Arv Z h sd kc .byte (10 : Int32) [(.int (108 : Int32)), (.int (105 : Int32)), (.int (115 : Int32)), (.int (116 : Int32)), (.int (32 : Int32)), (.int (112 : Int32)), (.int (97 : Int32)), (.int (103 : Int32)), (.int (101 : Int32)), (.int (115 : Int32))] (.int 0)
set_option maxRecDepth 65536 in
set_option maxHeartbeats 40000000 in
theorem rm5LIST (l : Launch) (Z : State) (a0 : Array Value) (hw : ∀ d ∈ tables_1, d.before a0 Z = true) (ws : List Jvm.Cond) (u0 : Int32) (h0 : Heap) (n0 : Nat) (Z0 : n0 ≤ h0.size) (h0s : ¬ ((u0 &&& (2147483647 : Int32)) % (3 : Int32)) = (0 : Int32)) (h1s : ((u0 &&& (2147483647 : Int32)) % (3 : Int32)) = (1 : Int32)) :
    MetFree l (⟨"com/example/backfill/backfill/engine/LaneRequestsPinLaw", "expected", "(I)Ljava/lang/String;"⟩ : MethodName) (head1 (Jvm.Cond.code (⟨"com/example/backfill/backfill/engine/LaneRequestsPinLaw", "expected", "(I)Ljava/lang/String;"⟩ : MethodName) method_4_code 2 (some (.object "java/lang/String")) :: ws) ({ frames := 1, cells := 2, slots := 44, locals := 12 } : Room)) (fun a U => a = #[(.int u0)] ∧ Z.Warmed39 U.vm ∧ U.heap = h0 ∧ CHv Z EL U.vm h0) (fun _ _ _ _ _ => True) (fun _ U o U' => ∃ v L, o = .returned v ∧ Q5LIST Z u0 h0 n0 v U'.heap L ∧ CHr Z EL U.vm U.heap U'.vm U'.heap ∧ ReturnedEndW U o U' L ({ frames := 1, cells := 2, slots := 44, locals := 12 } : Room).cells ({ frames := 1, cells := 2, slots := 44, locals := 12 } : Room).slots) := by
  refine MetFree.of_bodySF (plainFor_of_name pn_com_example_backfill_backfill_engine_LaneRequestsPinLaw) hisR ?_
  intro p e s m args below meth c s₁ Bd hml0 hP hK
  obtain ⟨rfl, hZ, hh, hC0⟩ := hP
  replace hZ : Z.Warmed39 (s.setVm s.vm).vm := hZ
  have hx := Bd.exec
  have hby := Bd.bytes
  have hml : c.maxLocals = 2 := hml0
  have hown : (s.setVm s.vm).vm.findClass "com/example/backfill/backfill/engine/LaneRequestsPinLaw" = some m.cls := findClass_of_methodNamed Bd.named
  have hnm := (name_of_methodNamed Bd.named Bd.method).1
  have X0 : Stand p l e ({ frames := 1, cells := 2, slots := 44, locals := 12 } : Room) (s.setVm s.vm) m #[(.int u0)] below meth c s₁ [] 0 0 := Stand.of_body Bd
  have e0 : s₁.heap = h0 := by rw [← hh, Bd.state]; rfl
  have N0 := Fr.nil n0
  have pre0 : ∀ t, Steps p.tables e below (s₁.setTop (mkF m 0 #[.val (.int u0), .unset] [])) t → Steps p.tables e below (s₁.setTop (entryFrame m #[(.int u0)] 2)) t := fun t k => castTop (ef_5LIST m u0) k
  have hS0 : s.Since s.vm s.heap.size := own_since s
  have hk0 : s.heap.size ≤ h0.size := Nat.le_of_eq (congrArg Array.size hh)
  have C0 : CHr Z EL s.vm h0 s.vm h0 := CHr.refl hC0
  have wS : ∀ d ∈ Bundle.stringAtoms, d.before a0 Z = true := fun d hd => hw d ((by decide +kernel : ∀ d ∈ Bundle.stringAtoms, d ∈ tables_1) d hd)
  obtain ⟨_, _, ⟨T1, L1, k1, n1⟩, -, X1, ⟨Lc1, hQ1, l1, y1, z1⟩, st1⟩ := Jvm.LawKit.callS X0 hx (y := (⟨"com/example/backfill/backfill/engine/LaneRequestsPinLaw", "sel", "(I)I"⟩ : MethodName)) hown (mvT hZ (hw _ (List.mem_of_getElem? (i := 4) rfl))) (mvT hZ (hw _ (List.mem_of_getElem? (i := 5) rfl))) (mvT hZ (hw _ (List.mem_of_getElem? (i := 2) rfl))) (mvT hZ (hw _ (List.mem_of_getElem? (i := 6) rfl))) (by decide) (backOf (W := 0) (rm2 l Z a0 hw [] u0 h0 n0 Z0 ) hZ (hw _ (List.mem_of_getElem? (i := 6) rfl)) (hw _ (List.mem_of_getElem? (i := 2) rfl)) (by decide) (by decide)) (g := (mkF m 1 #[.val (.int u0), .unset] [(.int u0)])) rfl (by rw [hml]; rfl) (argsL := [(.int u0)]) (rest := []) (lenOf pd_2 rfl) rfl (by show 2 * 0 + _ ≤ _; exact Nat.le_of_eq rfl) (hb hby d5_1) (fun _ _ => ⟨rfl, e0, (by decide : 0 + 0 ≤ _), (by decide : 0 + 0 ≤ _)⟩)
  dsimp only [Pt.U, Pt.locs, Pt.cells, Pt.slots] at X1 l1 y1 z1 st1 hQ1
  subst l1 y1 z1
  obtain ⟨rfl, N1q, e1⟩ := hQ1
  have N1 := Fr.app N0 N1q
  obtain ⟨s2, T2, h2, q2, d2, kc2, X2, e2, E2, hS2, hk2, hZ, hown, A2, F2_coder, F2_value, V2, ls2, ld2, Cq2, Lt2, sf2, st2⟩ := ldcCH X1 hx hZ hown (hw _ (List.mem_of_getElem? (i := 49) rfl)) wS e1 hS0 hk0 (hEL hw) (List.mem_of_getElem? (i := 4) rfl) C0.1 (vs := [(.int (108 : Int32)), (.int (105 : Int32)), (.int (115 : Int32)), (.int (116 : Int32)), (.int (32 : Int32)), (.int (112 : Int32)), (.int (97 : Int32)), (.int (103 : Int32)), (.int (101 : Int32)), (.int (115 : Int32))]) (z := (10 : Int32)) (by constructor <;> decide +kernel) (by decide) (by decide +kernel) (g := (mkF m 17 #[.val (.int u0), .val (.int ((u0 &&& (2147483647 : Int32)) % (3 : Int32)))] [])) rfl (hb hby d5_17) (n := 40) (by decide +kernel) (by decide) (by decide) (by decide)
  have Z2 : n0 ≤ h2.size := Nat.le_trans Z0 E2.1
  have KK2 := (Keep.refl h0 []).ext E2
  have C2 := C0.trans Cq2
  obtain ⟨fs, hr, hrun, hended, hE⟩ := X2.leaveW hS2 (Nat.le_trans hk2 (Nat.le_of_eq (congrArg Array.size e2).symm)) (v := some (.ref s2)) (fun h => by rw [Bd.returns] at h; cases h)
  refine ⟨_, _, pre0 _ ?_, hrun, hended, _, _, rfl, ?_, ?_, own_monoW hE (by decide) (by decide)⟩
  · show Steps p.tables e below (s₁.setTop (mkF m 0 #[.val (.int u0), .unset] [])) _
    refine XS.iloadN X0.here hx rfl (hb hby d5_0) rfl ?_
    show Steps p.tables e below (s₁.setTop (mkF m 1 #[.val (.int u0), .unset] [(.int u0)])) _
    refine st1 _ ?_
    show Steps p.tables e below (T1.setTop (mkF m 4 #[.val (.int u0), .unset] [(.int ((u0 &&& (2147483647 : Int32)) % (3 : Int32)))])) _
    refine XS.istoreN X1.here hx rfl (hb hby d5_4) rfl (l' := #[.val (.int u0), .val (.int ((u0 &&& (2147483647 : Int32)) % (3 : Int32)))]) rfl ?_
    show Steps p.tables e below (T1.setTop (mkF m 5 #[.val (.int u0), .val (.int ((u0 &&& (2147483647 : Int32)) % (3 : Int32)))] [])) _
    refine XS.iloadN X1.here hx rfl (hb hby d5_5) rfl ?_
    show Steps p.tables e below (T1.setTop (mkF m 6 #[.val (.int u0), .val (.int ((u0 &&& (2147483647 : Int32)) % (3 : Int32)))] [(.int ((u0 &&& (2147483647 : Int32)) % (3 : Int32)))])) _
    refine XS.ifYes X1.here hx rfl (pc0 := 6) (pc' := 12) rfl (hb hby d5_6) rfl ((if0 _ _).trans (feq h0s).2) (by decide) (by decide) ?_
    show Steps p.tables e below (T1.setTop (mkF m 12 #[.val (.int u0), .val (.int ((u0 &&& (2147483647 : Int32)) % (3 : Int32)))] [])) _
    refine XS.iloadN X1.here hx rfl (hb hby d5_12) rfl ?_
    show Steps p.tables e below (T1.setTop (mkF m 13 #[.val (.int u0), .val (.int ((u0 &&& (2147483647 : Int32)) % (3 : Int32)))] [(.int ((u0 &&& (2147483647 : Int32)) % (3 : Int32)))])) _
    refine XS.iconst X1.here hx rfl (hb hby d5_13) ?_
    show Steps p.tables e below (T1.setTop (mkF m 14 #[.val (.int u0), .val (.int ((u0 &&& (2147483647 : Int32)) % (3 : Int32)))] [(.int (1 : Int32)), (.int ((u0 &&& (2147483647 : Int32)) % (3 : Int32)))])) _
    refine XS.icmpNo X1.here hx rfl (hb hby d5_14) rfl (teq h1s).2 ?_
    show Steps p.tables e below (T1.setTop (mkF m 17 #[.val (.int u0), .val (.int ((u0 &&& (2147483647 : Int32)) % (3 : Int32)))] [])) _
    refine st2 _ ?_
    show Steps p.tables e below (T2.setTop (mkF m 19 #[.val (.int u0), .val (.int ((u0 &&& (2147483647 : Int32)) % (3 : Int32)))] [(.ref s2)])) _
    jvm_step X2.here [X2.here.top, hx, (hb hby d5_19), X2.method', Bd.returns, Value.isRef, FieldType.isReference]
    first | (intro acts; rw [hr _ acts rfl rfl rfl]) | rw [hr _ _ rfl rfl rfl]
    exact Steps.refl _
  · show Q5LIST Z u0 h0 n0 _ T2.heap _
    rw [e2]
    exact ⟨s2, d2, _, rfl, N1, KK2, A2, F2_coder, F2_value, V2⟩
  · show CHr Z EL s.vm s.heap T2.vm T2.heap
    rw [e2]
    rw [hh]
    exact C2.trans (CHv.at X2 hZ (hEL hw) C2.1)
theorem d3_52 : decode prog_19_method_6_code 52 = .ok (.ldc 67, 2) := by decide +kernel
theorem ef_3ITEM (m : MethodId) (u0 : Addr) : entryFrame m #[(.ref u0)] 1 = mkF m 0 #[.val (.ref u0)] [] := by first | (simp [entryFrame, mkF, argsToLocals, Value.category]; done) | rfl
def Q3ITEM (Z : State) (u0 : Addr) (h0 : Heap) (n0 : Nat) (v : Option Value) (h : Heap) (L : List Loc) : Prop := ∃ (sa sd : Addr) (kc : ClassId), v = some (.ref sa) ∧ Fr n0 L ∧ Keep h0 h [] ∧ Exa Z h sa "java/lang/String" ∧ Fld Z h sa "java/lang/String" "coder" "B" (.int 0) ∧ Fld Z h sa "java/lang/String" "value" "[B" (.ref sd) ∧ Arv Z h sd kc .byte (5 : Int32) [(.int (105 : Int32)), (.int (116 : Int32)), (.int (101 : Int32)), (.int (109 : Int32)), (.int (115 : Int32))] (.int 0)
set_option maxRecDepth 65536 in
set_option maxHeartbeats 40000000 in
theorem rm3ITEM (l : Launch) (Z : State) (a0 : Array Value) (hw : ∀ d ∈ tables_1, d.before a0 Z = true) (ws : List Jvm.Cond) (u0 : Addr) (h0 : Heap) (n0 : Nat) (Z0 : n0 ≤ h0.size) (E_u0 : Exa Z h0 u0 "com/example/backfill/backfill/engine/Lane") (F_ord : Fld Z h0 u0 "java/lang/Enum" "ordinal" "I" (.int (2 : Int32))) :
    MetFree l (⟨"com/example/backfill/backfill/engine/Lane", "requests", "()Ljava/lang/String;"⟩ : MethodName) (head1 (Jvm.Cond.code (⟨"com/example/backfill/backfill/engine/Lane", "requests", "()Ljava/lang/String;"⟩ : MethodName) prog_19_method_6_code 1 (some (.object "java/lang/String")) :: ws) ({ frames := 1, cells := 2, slots := 24, locals := 12 } : Room)) (fun a U => a = #[(.ref u0)] ∧ Z.Warmed39 U.vm ∧ U.heap = h0 ∧ CHv Z EL U.vm h0) (fun _ _ _ _ _ => True) (fun _ U o U' => ∃ v L, o = .returned v ∧ Q3ITEM Z u0 h0 n0 v U'.heap L ∧ CHr Z EL U.vm U.heap U'.vm U'.heap ∧ ReturnedEndW U o U' L ({ frames := 1, cells := 2, slots := 24, locals := 12 } : Room).cells ({ frames := 1, cells := 2, slots := 24, locals := 12 } : Room).slots) := by
  refine MetFree.of_bodySF (plainFor_of_name pn_com_example_backfill_backfill_engine_Lane) hisR ?_
  intro p e s m args below meth c s₁ Bd hml0 hP hK
  obtain ⟨rfl, hZ, hh, hC0⟩ := hP
  replace hZ : Z.Warmed39 (s.setVm s.vm).vm := hZ
  have hx := Bd.exec
  have hby := Bd.bytes
  have hml : c.maxLocals = 1 := hml0
  have hown : (s.setVm s.vm).vm.findClass "com/example/backfill/backfill/engine/Lane" = some m.cls := findClass_of_methodNamed Bd.named
  have hnm := (name_of_methodNamed Bd.named Bd.method).1
  have X0 : Stand p l e ({ frames := 1, cells := 2, slots := 24, locals := 12 } : Room) (s.setVm s.vm) m #[(.ref u0)] below meth c s₁ [] 0 0 := Stand.of_body Bd
  have e0 : s₁.heap = h0 := by rw [← hh, Bd.state]; rfl
  have N0 := Fr.nil n0
  have pre0 : ∀ t, Steps p.tables e below (s₁.setTop (mkF m 0 #[.val (.ref u0)] [])) t → Steps p.tables e below (s₁.setTop (entryFrame m #[(.ref u0)] 1)) t := fun t k => castTop (ef_3ITEM m u0) k
  have hS0 : s.Since s.vm s.heap.size := own_since s
  have hk0 : s.heap.size ≤ h0.size := Nat.le_of_eq (congrArg Array.size hh)
  have C0 : CHr Z EL s.vm h0 s.vm h0 := CHr.refl hC0
  have wS : ∀ d ∈ Bundle.stringAtoms, d.before a0 Z = true := fun d hd => hw d ((by decide +kernel : ∀ d ∈ Bundle.stringAtoms, d ∈ tables_1) d hd)
  obtain ⟨cq1, kq1, q1a, q1b, q1c⟩ := isOf hZ e0 E_u0
  obtain ⟨_, _, ⟨T1, L1, k1, n1⟩, -, X1, ⟨Lc1, hQ1, l1, y1, z1⟩, st1⟩ := X0.virtualBackUp hx (x := (⟨"com/example/backfill/backfill/engine/Lane", "ordinal", "()I"⟩ : MethodName)) (y := (⟨"java/lang/Enum", "ordinal", "()I"⟩ : MethodName)) (owner := "java/lang/Enum") hown (mvT hZ (hw _ (List.mem_of_getElem? (i := 16) rfl))) (mvT hZ (hw _ (List.mem_of_getElem? (i := 17) rfl))) (mvT hZ (hw _ (List.mem_of_getElem? (i := 18) rfl))) (by decide) (mvT hZ (hw _ (List.mem_of_getElem? (i := 20) rfl))) (mvT hZ (hw _ (List.mem_of_getElem? (i := 19) rfl))) (backOf (W := 0) (rm4 l Z a0 hw [] u0 (2 : Int32) h0 n0 Z0 F_ord) hZ (hw _ (List.mem_of_getElem? (i := 22) rfl)) (hw _ (List.mem_of_getElem? (i := 21) rfl)) (by decide) (by decide)) q1a q1c (g := (mkF m 1 #[.val (.ref u0)] [(.ref u0)])) rfl (by rw [hml]; rfl) (Steps.refl _) (argsL := []) (rest := []) (lenOf pd_0 rfl) rfl (by show 2 * 0 + _ ≤ _; exact Nat.le_of_eq rfl) (hb hby d3_1) (fun _ _ => ⟨rfl, e0, (by decide : 0 + 0 ≤ _), (by decide : 0 + 0 ≤ _)⟩)
  dsimp only [Pt.U, Pt.locs, Pt.cells, Pt.slots] at X1 l1 y1 z1 st1 hQ1
  subst l1 y1 z1
  obtain ⟨rfl, N1q, e1⟩ := hQ1
  have N1 := Fr.app N0 N1q
  obtain ⟨s2, T2, h2, q2, d2, kc2, X2, e2, E2, hS2, hk2, hZ, hown, A2, F2_coder, F2_value, V2, ls2, ld2, Cq2, Lt2, sf2, st2⟩ := ldcCH X1 hx hZ hown (hw _ (List.mem_of_getElem? (i := 46) rfl)) wS e1 hS0 hk0 (hEL hw) (List.mem_of_getElem? (i := 2) rfl) C0.1 (vs := [(.int (105 : Int32)), (.int (116 : Int32)), (.int (101 : Int32)), (.int (109 : Int32)), (.int (115 : Int32))]) (z := (5 : Int32)) (by constructor <;> decide +kernel) (by decide) (by decide +kernel) (g := (mkF m 52 #[.val (.ref u0)] [])) rfl (hb hby d3_52) (n := 20) (by decide +kernel) (by decide) (by decide) (by decide)
  have Z2 : n0 ≤ h2.size := Nat.le_trans Z0 E2.1
  have KK2 := (Keep.refl h0 []).ext E2
  have C2 := C0.trans Cq2
  obtain ⟨fs, hr, hrun, hended, hE⟩ := X2.leaveW hS2 (Nat.le_trans hk2 (Nat.le_of_eq (congrArg Array.size e2).symm)) (v := some (.ref s2)) (fun h => by rw [Bd.returns] at h; cases h)
  refine ⟨_, _, pre0 _ ?_, hrun, hended, _, _, rfl, ?_, ?_, own_monoW hE (by decide) (by decide)⟩
  · show Steps p.tables e below (s₁.setTop (mkF m 0 #[.val (.ref u0)] [])) _
    refine XS.aloadN X0.here hx rfl (hb hby d3_0) rfl rfl ?_
    show Steps p.tables e below (s₁.setTop (mkF m 1 #[.val (.ref u0)] [(.ref u0)])) _
    refine st1.trans ?_
    show Steps p.tables e below (T1.setTop (mkF m 4 #[.val (.ref u0)] [(.int (2 : Int32))])) _
    refine XS.tswIn X1.here hx rfl (pc0 := 4) (pc' := 52) rfl (hb hby d3_4) rfl (by decide) (o := 48) (by decide) (by decide) (by decide) ?_
    show Steps p.tables e below (T1.setTop (mkF m 52 #[.val (.ref u0)] [])) _
    refine st2 _ ?_
    show Steps p.tables e below (T2.setTop (mkF m 54 #[.val (.ref u0)] [(.ref s2)])) _
    jvm_step X2.here [X2.here.top, hx, (hb hby d3_54), X2.method', Bd.returns, Value.isRef, FieldType.isReference]
    first | (intro acts; rw [hr _ acts rfl rfl rfl]) | rw [hr _ _ rfl rfl rfl]
    exact Steps.refl _
  · show Q3ITEM Z u0 h0 n0 _ T2.heap _
    rw [e2]
    exact ⟨s2, d2, _, rfl, N1, KK2, A2, F2_coder, F2_value, V2⟩
  · show CHr Z EL s.vm s.heap T2.vm T2.heap
    rw [e2]
    rw [hh]
    exact C2.trans (CHv.at X2 hZ (hEL hw) C2.1)
theorem d5_20 : decode method_4_code 20 = .ok (.ldc 30, 2) := by decide +kernel
theorem d5_22 : decode method_4_code 22 = .ok (.areturn, 1) := by decide +kernel
theorem ef_5ITEM (m : MethodId) (u0 : Int32) : entryFrame m #[(.int u0)] 2 = mkF m 0 #[.val (.int u0), .unset] [] := by first | (simp [entryFrame, mkF, argsToLocals, Value.category]; done) | rfl
def Q5ITEM (Z : State) (u0 : Int32) (h0 : Heap) (n0 : Nat) (v : Option Value) (h : Heap) (L : List Loc) : Prop := ∃ (sa sd : Addr) (kc : ClassId), v = some (.ref sa) ∧ Fr n0 L ∧ Keep h0 h [] ∧ Exa Z h sa "java/lang/String" ∧ Fld Z h sa "java/lang/String" "coder" "B" (.int 0) ∧ Fld Z h sa "java/lang/String" "value" "[B" (.ref sd) ∧ Arv Z h sd kc .byte (5 : Int32) [(.int (105 : Int32)), (.int (116 : Int32)), (.int (101 : Int32)), (.int (109 : Int32)), (.int (115 : Int32))] (.int 0)
set_option maxRecDepth 65536 in
set_option maxHeartbeats 40000000 in
theorem rm5ITEM (l : Launch) (Z : State) (a0 : Array Value) (hw : ∀ d ∈ tables_1, d.before a0 Z = true) (ws : List Jvm.Cond) (u0 : Int32) (h0 : Heap) (n0 : Nat) (Z0 : n0 ≤ h0.size) (h0s : ¬ ((u0 &&& (2147483647 : Int32)) % (3 : Int32)) = (0 : Int32)) (h1s : ¬ ((u0 &&& (2147483647 : Int32)) % (3 : Int32)) = (1 : Int32)) :
    MetFree l (⟨"com/example/backfill/backfill/engine/LaneRequestsPinLaw", "expected", "(I)Ljava/lang/String;"⟩ : MethodName) (head1 (Jvm.Cond.code (⟨"com/example/backfill/backfill/engine/LaneRequestsPinLaw", "expected", "(I)Ljava/lang/String;"⟩ : MethodName) method_4_code 2 (some (.object "java/lang/String")) :: ws) ({ frames := 1, cells := 2, slots := 24, locals := 12 } : Room)) (fun a U => a = #[(.int u0)] ∧ Z.Warmed39 U.vm ∧ U.heap = h0 ∧ CHv Z EL U.vm h0) (fun _ _ _ _ _ => True) (fun _ U o U' => ∃ v L, o = .returned v ∧ Q5ITEM Z u0 h0 n0 v U'.heap L ∧ CHr Z EL U.vm U.heap U'.vm U'.heap ∧ ReturnedEndW U o U' L ({ frames := 1, cells := 2, slots := 24, locals := 12 } : Room).cells ({ frames := 1, cells := 2, slots := 24, locals := 12 } : Room).slots) := by
  refine MetFree.of_bodySF (plainFor_of_name pn_com_example_backfill_backfill_engine_LaneRequestsPinLaw) hisR ?_
  intro p e s m args below meth c s₁ Bd hml0 hP hK
  obtain ⟨rfl, hZ, hh, hC0⟩ := hP
  replace hZ : Z.Warmed39 (s.setVm s.vm).vm := hZ
  have hx := Bd.exec
  have hby := Bd.bytes
  have hml : c.maxLocals = 2 := hml0
  have hown : (s.setVm s.vm).vm.findClass "com/example/backfill/backfill/engine/LaneRequestsPinLaw" = some m.cls := findClass_of_methodNamed Bd.named
  have hnm := (name_of_methodNamed Bd.named Bd.method).1
  have X0 : Stand p l e ({ frames := 1, cells := 2, slots := 24, locals := 12 } : Room) (s.setVm s.vm) m #[(.int u0)] below meth c s₁ [] 0 0 := Stand.of_body Bd
  have e0 : s₁.heap = h0 := by rw [← hh, Bd.state]; rfl
  have N0 := Fr.nil n0
  have pre0 : ∀ t, Steps p.tables e below (s₁.setTop (mkF m 0 #[.val (.int u0), .unset] [])) t → Steps p.tables e below (s₁.setTop (entryFrame m #[(.int u0)] 2)) t := fun t k => castTop (ef_5ITEM m u0) k
  have hS0 : s.Since s.vm s.heap.size := own_since s
  have hk0 : s.heap.size ≤ h0.size := Nat.le_of_eq (congrArg Array.size hh)
  have C0 : CHr Z EL s.vm h0 s.vm h0 := CHr.refl hC0
  have wS : ∀ d ∈ Bundle.stringAtoms, d.before a0 Z = true := fun d hd => hw d ((by decide +kernel : ∀ d ∈ Bundle.stringAtoms, d ∈ tables_1) d hd)
  obtain ⟨_, _, ⟨T1, L1, k1, n1⟩, -, X1, ⟨Lc1, hQ1, l1, y1, z1⟩, st1⟩ := Jvm.LawKit.callS X0 hx (y := (⟨"com/example/backfill/backfill/engine/LaneRequestsPinLaw", "sel", "(I)I"⟩ : MethodName)) hown (mvT hZ (hw _ (List.mem_of_getElem? (i := 4) rfl))) (mvT hZ (hw _ (List.mem_of_getElem? (i := 5) rfl))) (mvT hZ (hw _ (List.mem_of_getElem? (i := 2) rfl))) (mvT hZ (hw _ (List.mem_of_getElem? (i := 6) rfl))) (by decide) (backOf (W := 0) (rm2 l Z a0 hw [] u0 h0 n0 Z0 ) hZ (hw _ (List.mem_of_getElem? (i := 6) rfl)) (hw _ (List.mem_of_getElem? (i := 2) rfl)) (by decide) (by decide)) (g := (mkF m 1 #[.val (.int u0), .unset] [(.int u0)])) rfl (by rw [hml]; rfl) (argsL := [(.int u0)]) (rest := []) (lenOf pd_2 rfl) rfl (by show 2 * 0 + _ ≤ _; exact Nat.le_of_eq rfl) (hb hby d5_1) (fun _ _ => ⟨rfl, e0, (by decide : 0 + 0 ≤ _), (by decide : 0 + 0 ≤ _)⟩)
  dsimp only [Pt.U, Pt.locs, Pt.cells, Pt.slots] at X1 l1 y1 z1 st1 hQ1
  subst l1 y1 z1
  obtain ⟨rfl, N1q, e1⟩ := hQ1
  have N1 := Fr.app N0 N1q
  obtain ⟨s2, T2, h2, q2, d2, kc2, X2, e2, E2, hS2, hk2, hZ, hown, A2, F2_coder, F2_value, V2, ls2, ld2, Cq2, Lt2, sf2, st2⟩ := ldcCH X1 hx hZ hown (hw _ (List.mem_of_getElem? (i := 48) rfl)) wS e1 hS0 hk0 (hEL hw) (List.mem_of_getElem? (i := 5) rfl) C0.1 (vs := [(.int (105 : Int32)), (.int (116 : Int32)), (.int (101 : Int32)), (.int (109 : Int32)), (.int (115 : Int32))]) (z := (5 : Int32)) (by constructor <;> decide +kernel) (by decide) (by decide +kernel) (g := (mkF m 20 #[.val (.int u0), .val (.int ((u0 &&& (2147483647 : Int32)) % (3 : Int32)))] [])) rfl (hb hby d5_20) (n := 20) (by decide +kernel) (by decide) (by decide) (by decide)
  have Z2 : n0 ≤ h2.size := Nat.le_trans Z0 E2.1
  have KK2 := (Keep.refl h0 []).ext E2
  have C2 := C0.trans Cq2
  obtain ⟨fs, hr, hrun, hended, hE⟩ := X2.leaveW hS2 (Nat.le_trans hk2 (Nat.le_of_eq (congrArg Array.size e2).symm)) (v := some (.ref s2)) (fun h => by rw [Bd.returns] at h; cases h)
  refine ⟨_, _, pre0 _ ?_, hrun, hended, _, _, rfl, ?_, ?_, own_monoW hE (by decide) (by decide)⟩
  · show Steps p.tables e below (s₁.setTop (mkF m 0 #[.val (.int u0), .unset] [])) _
    refine XS.iloadN X0.here hx rfl (hb hby d5_0) rfl ?_
    show Steps p.tables e below (s₁.setTop (mkF m 1 #[.val (.int u0), .unset] [(.int u0)])) _
    refine st1 _ ?_
    show Steps p.tables e below (T1.setTop (mkF m 4 #[.val (.int u0), .unset] [(.int ((u0 &&& (2147483647 : Int32)) % (3 : Int32)))])) _
    refine XS.istoreN X1.here hx rfl (hb hby d5_4) rfl (l' := #[.val (.int u0), .val (.int ((u0 &&& (2147483647 : Int32)) % (3 : Int32)))]) rfl ?_
    show Steps p.tables e below (T1.setTop (mkF m 5 #[.val (.int u0), .val (.int ((u0 &&& (2147483647 : Int32)) % (3 : Int32)))] [])) _
    refine XS.iloadN X1.here hx rfl (hb hby d5_5) rfl ?_
    show Steps p.tables e below (T1.setTop (mkF m 6 #[.val (.int u0), .val (.int ((u0 &&& (2147483647 : Int32)) % (3 : Int32)))] [(.int ((u0 &&& (2147483647 : Int32)) % (3 : Int32)))])) _
    refine XS.ifYes X1.here hx rfl (pc0 := 6) (pc' := 12) rfl (hb hby d5_6) rfl ((if0 _ _).trans (feq h0s).2) (by decide) (by decide) ?_
    show Steps p.tables e below (T1.setTop (mkF m 12 #[.val (.int u0), .val (.int ((u0 &&& (2147483647 : Int32)) % (3 : Int32)))] [])) _
    refine XS.iloadN X1.here hx rfl (hb hby d5_12) rfl ?_
    show Steps p.tables e below (T1.setTop (mkF m 13 #[.val (.int u0), .val (.int ((u0 &&& (2147483647 : Int32)) % (3 : Int32)))] [(.int ((u0 &&& (2147483647 : Int32)) % (3 : Int32)))])) _
    refine XS.iconst X1.here hx rfl (hb hby d5_13) ?_
    show Steps p.tables e below (T1.setTop (mkF m 14 #[.val (.int u0), .val (.int ((u0 &&& (2147483647 : Int32)) % (3 : Int32)))] [(.int (1 : Int32)), (.int ((u0 &&& (2147483647 : Int32)) % (3 : Int32)))])) _
    refine XS.icmpYes X1.here hx rfl (pc0 := 14) (pc' := 20) rfl (hb hby d5_14) rfl (feq h1s).2 (by decide) (by decide) ?_
    show Steps p.tables e below (T1.setTop (mkF m 20 #[.val (.int u0), .val (.int ((u0 &&& (2147483647 : Int32)) % (3 : Int32)))] [])) _
    refine st2 _ ?_
    show Steps p.tables e below (T2.setTop (mkF m 22 #[.val (.int u0), .val (.int ((u0 &&& (2147483647 : Int32)) % (3 : Int32)))] [(.ref s2)])) _
    jvm_step X2.here [X2.here.top, hx, (hb hby d5_22), X2.method', Bd.returns, Value.isRef, FieldType.isReference]
    first | (intro acts; rw [hr _ acts rfl rfl rfl]) | rw [hr _ _ rfl rfl rfl]
    exact Steps.refl _
  · show Q5ITEM Z u0 h0 n0 _ T2.heap _
    rw [e2]
    exact ⟨s2, d2, _, rfl, N1, KK2, A2, F2_coder, F2_value, V2⟩
  · show CHr Z EL s.vm s.heap T2.vm T2.heap
    rw [e2]
    rw [hh]
    exact C2.trans (CHv.at X2 hZ (hEL hw) C2.1)
theorem pd_3 : parseMethodDescriptor "(I)Lcom/example/backfill/backfill/engine/Lane;" = some ⟨[.int], some (.object "com/example/backfill/backfill/engine/Lane")⟩ := by decide +kernel
theorem pd_1 : parseMethodDescriptor "()Ljava/lang/String;" = some ⟨[], some (.object "java/lang/String")⟩ := by decide +kernel
theorem pd_4 : parseMethodDescriptor "(I)Ljava/lang/String;" = some ⟨[.int], some (.object "java/lang/String")⟩ := by decide +kernel
theorem pd_5 : parseMethodDescriptor "(Ljava/lang/Object;)Z" = some ⟨[(.object "java/lang/Object")], some .boolean⟩ := by decide +kernel
theorem ef_0 (m : MethodId) (u0 : Int32) (u1 : Int32) : entryFrame m #[(.int u0), (.int u1)] maxLocals = mkF m 0 #[.val (.int u0), .val (.int u1), .unset, .unset, .unset, .unset, .unset, .unset, .unset] [] := by first | (simp [entryFrame, mkF, argsToLocals, Value.category, maxLocals]; done) | rfl
def Q0 (Z : State) (u0 : Int32) (u1 : Int32) (a_UPSTREAM : Addr) (a_LIST : Addr) (a_ITEM : Addr) (G_COMPACT : Int32) (h0 : Heap) (n0 : Nat) (v : Option Value) (h : Heap) (L : List Loc) : Prop := v = some (.int (1 : Int32)) ∧ Fr n0 L
set_option maxRecDepth 65536 in
set_option maxHeartbeats 40000000 in
theorem rm0 (l : Launch) (Z : State) (a0 : Array Value) (hw : ∀ d ∈ tables_1, d.before a0 Z = true) (ws : List Jvm.Cond) (u0 : Int32) (u1 : Int32) (a_UPSTREAM : Addr) (a_LIST : Addr) (a_ITEM : Addr) (G_COMPACT : Int32) (h0 : Heap) (n0 : Nat) (Z0 : n0 ≤ h0.size) (O0 : Old Z n0 h0) (S_UPSTREAM : Sta Z Z.heap "com/example/backfill/backfill/engine/Lane" "UPSTREAM" "Lcom/example/backfill/backfill/engine/Lane;" (.ref a_UPSTREAM)) (S_LIST : Sta Z Z.heap "com/example/backfill/backfill/engine/Lane" "LIST" "Lcom/example/backfill/backfill/engine/Lane;" (.ref a_LIST)) (S_ITEM : Sta Z Z.heap "com/example/backfill/backfill/engine/Lane" "ITEM" "Lcom/example/backfill/backfill/engine/Lane;" (.ref a_ITEM)) (E_a_UPSTREAM : Exa Z Z.heap a_UPSTREAM "com/example/backfill/backfill/engine/Lane") (E_a_LIST : Exa Z Z.heap a_LIST "com/example/backfill/backfill/engine/Lane") (E_a_ITEM : Exa Z Z.heap a_ITEM "com/example/backfill/backfill/engine/Lane") (O_UPSTREAM : Fld Z Z.heap a_UPSTREAM "java/lang/Enum" "ordinal" "I" (.int (0 : Int32))) (O_LIST : Fld Z Z.heap a_LIST "java/lang/Enum" "ordinal" "I" (.int (1 : Int32))) (O_ITEM : Fld Z Z.heap a_ITEM "java/lang/Enum" "ordinal" "I" (.int (2 : Int32))) (ne_UPSTREAM_LIST : a_UPSTREAM ≠ a_LIST) (ne_UPSTREAM_ITEM : a_UPSTREAM ≠ a_ITEM) (ne_LIST_ITEM : a_LIST ≠ a_ITEM) (S_COMPACT : Sta Z Z.heap "java/lang/String" "COMPACT_STRINGS" "Z" (.int G_COMPACT)) (P_COMPACT : ¬ G_COMPACT = 0) :
    MetFree l x (head1 (Jvm.Cond.code x code maxLocals ret :: ws) room_1) (fun a U => a = #[(.int u0), (.int u1)] ∧ Z.Warmed39 U.vm ∧ U.heap = h0 ∧ CHv Z EL U.vm h0) (fun _ _ _ _ _ => True) (fun _ U o U' => ∃ v L, o = .returned v ∧ Q0 Z u0 u1 a_UPSTREAM a_LIST a_ITEM G_COMPACT h0 n0 v U'.heap L ∧ CHr Z EL U.vm U.heap U'.vm U'.heap ∧ ReturnedEndW U o U' L room_1.cells room_1.slots) := by
  refine MetFree.of_bodySF (plainFor_of_name pn_com_example_backfill_backfill_engine_LaneRequestsPinLaw) hisR ?_
  intro p e s m args below meth c s₁ Bd hml0 hP hK
  obtain ⟨rfl, hZ, hh, hC0⟩ := hP
  replace hZ : Z.Warmed39 (s.setVm s.vm).vm := hZ
  have hx := Bd.exec
  have hby := Bd.bytes
  have hml : c.maxLocals = 9 := hml0
  have hown : (s.setVm s.vm).vm.findClass "com/example/backfill/backfill/engine/LaneRequestsPinLaw" = some m.cls := findClass_of_methodNamed Bd.named
  have hnm := (name_of_methodNamed Bd.named Bd.method).1
  have X0 : Stand p l e room_1 (s.setVm s.vm) m #[(.int u0), (.int u1)] below meth c s₁ [] 0 0 := Stand.of_body Bd
  have e0 : s₁.heap = h0 := by rw [← hh, Bd.state]; rfl
  have N0 := Fr.nil n0
  have pre0 : ∀ t, Steps p.tables e below (s₁.setTop (mkF m 0 #[.val (.int u0), .val (.int u1), .unset, .unset, .unset, .unset, .unset, .unset, .unset] [])) t → Steps p.tables e below (s₁.setTop (entryFrame m #[(.int u0), (.int u1)] maxLocals)) t := fun t k => castTop (ef_0 m u0 u1) k
  have hS0 : s.Since s.vm s.heap.size := own_since s
  have hk0 : s.heap.size ≤ h0.size := Nat.le_of_eq (congrArg Array.size hh)
  have C0 : CHr Z EL s.vm h0 s.vm h0 := CHr.refl hC0
  have wS : ∀ d ∈ Bundle.stringAtoms, d.before a0 Z = true := fun d hd => hw d ((by decide +kernel : ∀ d ∈ Bundle.stringAtoms, d ∈ tables_1) d hd)
  rcases own_sel u0 a_UPSTREAM a_LIST a_ITEM with hp0 | hp0 | hp0
  · rcases own_sel u1 a_UPSTREAM a_LIST a_ITEM with hp1 | hp1 | hp1
    · obtain ⟨_, _, ⟨T1, L1, k1, n1⟩, -, X1, ⟨Lc1, hQ1, l1, y1, z1⟩, st1⟩ := Jvm.LawKit.callS X0 hx (y := (⟨"com/example/backfill/backfill/engine/LaneRequestsPinLaw", "pick", "(I)Lcom/example/backfill/backfill/engine/Lane;"⟩ : MethodName)) hown (mvT hZ (hw _ (List.mem_of_getElem? (i := 0) rfl))) (mvT hZ (hw _ (List.mem_of_getElem? (i := 1) rfl))) (mvT hZ (hw _ (List.mem_of_getElem? (i := 2) rfl))) (mvT hZ (hw _ (List.mem_of_getElem? (i := 3) rfl))) (by decide) (backOf (W := 0) (rm1 l Z a0 hw [] u0 a_UPSTREAM a_LIST a_ITEM h0 n0 Z0 O0 S_UPSTREAM S_LIST S_ITEM) hZ (hw _ (List.mem_of_getElem? (i := 3) rfl)) (hw _ (List.mem_of_getElem? (i := 2) rfl)) (by decide) (by decide)) (g := (mkF m 1 #[.val (.int u0), .val (.int u1), .unset, .unset, .unset, .unset, .unset, .unset, .unset] [(.int u0)])) rfl (by rw [hml]; rfl) (argsL := [(.int u0)]) (rest := []) (lenOf pd_3 rfl) rfl (by show 2 * 0 + _ ≤ _; exact Nat.le_of_eq rfl) (hb hby at_1) (fun _ _ => ⟨rfl, e0, (by decide : 0 + 0 ≤ _), (by decide : 0 + 0 ≤ _)⟩)
      dsimp only [Pt.U, Pt.locs, Pt.cells, Pt.slots] at X1 l1 y1 z1 st1 hQ1
      subst l1 y1 z1
      obtain ⟨hv1, N1q, e1⟩ := hQ1
      rw [hp0.2] at hv1
      subst hv1
      have N1 := Fr.app N0 N1q
      obtain ⟨_, _, ⟨T2, L2, k2, n2⟩, -, X2, ⟨Lc2, hQ2, l2, y2, z2⟩, st2⟩ := Jvm.LawKit.callS X1 hx (y := (⟨"com/example/backfill/backfill/engine/LaneRequestsPinLaw", "pick", "(I)Lcom/example/backfill/backfill/engine/Lane;"⟩ : MethodName)) hown (mvT hZ (hw _ (List.mem_of_getElem? (i := 0) rfl))) (mvT hZ (hw _ (List.mem_of_getElem? (i := 1) rfl))) (mvT hZ (hw _ (List.mem_of_getElem? (i := 2) rfl))) (mvT hZ (hw _ (List.mem_of_getElem? (i := 3) rfl))) (by decide) (backOf (W := 0) (rm1 l Z a0 hw [] u1 a_UPSTREAM a_LIST a_ITEM h0 n0 Z0 O0 S_UPSTREAM S_LIST S_ITEM) hZ (hw _ (List.mem_of_getElem? (i := 3) rfl)) (hw _ (List.mem_of_getElem? (i := 2) rfl)) (by decide) (by decide)) (g := (mkF m 6 #[.val (.int u0), .val (.int u1), .val (.ref a_UPSTREAM), .unset, .unset, .unset, .unset, .unset, .unset] [(.int u1)])) rfl (by rw [hml]; rfl) (argsL := [(.int u1)]) (rest := []) (lenOf pd_3 rfl) rfl (by show 2 * 0 + _ ≤ _; exact Nat.le_of_eq rfl) (hb hby at_6) (fun _ _ => ⟨rfl, e1, (by decide : 0 + 0 ≤ _), (by decide : 0 + 0 ≤ _)⟩)
      dsimp only [Pt.U, Pt.locs, Pt.cells, Pt.slots] at X2 l2 y2 z2 st2 hQ2
      subst l2 y2 z2
      obtain ⟨hv2, N2q, e2⟩ := hQ2
      rw [hp1.2] at hv2
      subst hv2
      have N2 := Fr.app N1 N2q
      obtain ⟨cq3, kq3, q3a, q3b, q3c⟩ := isOf hZ e2 (E_a_UPSTREAM.ext O0.2)
      obtain ⟨_, _, ⟨T3, L3, k3, n3⟩, -, X3, hS3, gr3, ⟨Lc3, hQ3, l3, y3, z3, Cq3⟩, st3⟩ := X2.virtualBackS hx (y := (⟨"com/example/backfill/backfill/engine/Lane", "requests", "()Ljava/lang/String;"⟩ : MethodName)) (z := (⟨"com/example/backfill/backfill/engine/Lane", "requests", "()Ljava/lang/String;"⟩ : MethodName)) hown (mvT hZ (hw _ (List.mem_of_getElem? (i := 11) rfl))) (mvT hZ (hw _ (List.mem_of_getElem? (i := 12) rfl))) (notFace_of_selects (args := #[]) (mvT hZ (hw _ (List.mem_of_getElem? (i := 14) rfl)))) (mvT hZ (hw _ (List.mem_of_getElem? (i := 14) rfl))) (mvT hZ (hw _ (List.mem_of_getElem? (i := 13) rfl))) (by decide) (backOfSH (W := 0) (rm3UPSTREAM l Z a0 hw [] a_UPSTREAM h0 n0 Z0 (E_a_UPSTREAM.ext O0.2) (O_UPSTREAM.ext O0.2)) hZ (hw _ (List.mem_of_getElem? (i := 15) rfl)) (hw _ (List.mem_of_getElem? (i := 9) rfl)) (by decide) (by decide) (hEL hw) C0.1) q3a q3c (g := (mkF m 11 #[.val (.int u0), .val (.int u1), .val (.ref a_UPSTREAM), .val (.ref a_UPSTREAM), .unset, .unset, .unset, .unset, .unset] [(.ref a_UPSTREAM)])) rfl (by rw [hml]; rfl) (Steps.refl _) (argsL := []) (rest := []) (lenOf pd_1 rfl) rfl (by show 2 * 0 + _ ≤ _; exact Nat.le_of_eq rfl) (hb hby at_11) (fun _ _ => ⟨rfl, e2, (by decide : 0 + 2 ≤ _), (by decide : 0 + 52 ≤ _)⟩)
      dsimp only [Pt.U, Pt.locs, Pt.cells, Pt.slots] at X3 l3 y3 z3 st3 hQ3 hS3 gr3 Cq3
      subst l3 y3 z3
      obtain ⟨X3, hS3, hZ, hown⟩ := rebS hS0 (Nat.le_trans hk0 (Nat.le_of_eq (congrArg Array.size e2).symm)) X3 hS3 gr3 hZ hown
      have hk3 := Nat.le_refl T3.heap.size
      obtain ⟨s3, d3, kc3, rfl, N3q, K3, A3, F3_coder, F3_value, V3⟩ := hQ3
      have N3 := Fr.app N2 N3q
      have Z3 : n0 ≤ T3.heap.size := Nat.le_trans Z0 K3.1
      have KK3 := (Keep.refl h0 []).trans K3 all0
      have O3 := O0.keep K3 all0
      have C3 := C0.trans Cq3
      obtain ⟨cq4, kq4, q4a, q4b, q4c⟩ := isOf hZ rfl (E_a_UPSTREAM.ext O3.2)
      obtain ⟨_, _, ⟨T4, L4, k4, n4⟩, -, X4, hS4, gr4, ⟨Lc4, hQ4, l4, y4, z4, Cq4⟩, st4⟩ := X3.virtualBackS hx (y := (⟨"com/example/backfill/backfill/engine/Lane", "requests", "()Ljava/lang/String;"⟩ : MethodName)) (z := (⟨"com/example/backfill/backfill/engine/Lane", "requests", "()Ljava/lang/String;"⟩ : MethodName)) hown (mvT hZ (hw _ (List.mem_of_getElem? (i := 11) rfl))) (mvT hZ (hw _ (List.mem_of_getElem? (i := 12) rfl))) (notFace_of_selects (args := #[]) (mvT hZ (hw _ (List.mem_of_getElem? (i := 14) rfl)))) (mvT hZ (hw _ (List.mem_of_getElem? (i := 14) rfl))) (mvT hZ (hw _ (List.mem_of_getElem? (i := 13) rfl))) (by decide) (backOfSH (W := 0) (rm3UPSTREAM l Z a0 hw [] a_UPSTREAM T3.heap n0 Z3 (E_a_UPSTREAM.ext O3.2) (O_UPSTREAM.ext O3.2)) hZ (hw _ (List.mem_of_getElem? (i := 15) rfl)) (hw _ (List.mem_of_getElem? (i := 9) rfl)) (by decide) (by decide) (hEL hw) C3.1) q4a q4c (g := (mkF m 17 #[.val (.int u0), .val (.int u1), .val (.ref a_UPSTREAM), .val (.ref a_UPSTREAM), .val (.ref s3), .unset, .unset, .unset, .unset] [(.ref a_UPSTREAM)])) rfl (by rw [hml]; rfl) (Steps.refl _) (argsL := []) (rest := []) (lenOf pd_1 rfl) rfl (by show 2 * 0 + _ ≤ _; exact Nat.le_of_eq rfl) (hb hby at_17) (fun _ _ => ⟨rfl, rfl, (by decide : 2 + 2 ≤ _), (by decide : 52 + 52 ≤ _)⟩)
      dsimp only [Pt.U, Pt.locs, Pt.cells, Pt.slots] at X4 l4 y4 z4 st4 hQ4 hS4 gr4 Cq4
      subst l4 y4 z4
      obtain ⟨X4, hS4, hZ, hown⟩ := rebS hS3 (Nat.le_trans hk3 (Nat.le_of_eq (congrArg Array.size rfl).symm)) X4 hS4 gr4 hZ hown
      have hk4 := Nat.le_refl T4.heap.size
      obtain ⟨s4, d4, kc4, rfl, N4q, K4, A4, F4_coder, F4_value, V4⟩ := hQ4
      have N4 := Fr.app N3 N4q
      have Z4 : n0 ≤ T4.heap.size := Nat.le_trans Z3 K4.1
      have KK4 := KK3.trans K4 all0
      have O4 := O3.keep K4 all0
      have C4 := C3.trans Cq4
      obtain ⟨_, _, ⟨T5, L5, k5, n5⟩, -, X5, hS5, gr5, ⟨Lc5, hQ5, l5, y5, z5, Cq5⟩, st5⟩ := callSS X4 hx (y := (⟨"com/example/backfill/backfill/engine/LaneRequestsPinLaw", "expected", "(I)Ljava/lang/String;"⟩ : MethodName)) hown (mvT hZ (hw _ (List.mem_of_getElem? (i := 33) rfl))) (mvT hZ (hw _ (List.mem_of_getElem? (i := 34) rfl))) (mvT hZ (hw _ (List.mem_of_getElem? (i := 2) rfl))) (mvT hZ (hw _ (List.mem_of_getElem? (i := 35) rfl))) (by decide) (backOfSH (W := 1) (rm5UPSTREAM l Z a0 hw [] u0 T4.heap n0 Z4 hp0.1) hZ (hw _ (List.mem_of_getElem? (i := 35) rfl)) (hw _ (List.mem_of_getElem? (i := 2) rfl)) (by decide) (by decide) (hEL hw) C4.1) (g := (mkF m 37 #[.val (.int u0), .val (.int u1), .val (.ref a_UPSTREAM), .val (.ref a_UPSTREAM), .val (.ref s3), .val (.ref s4), .unset, .unset, .unset] [(.int u0), (.ref s3)])) rfl (by rw [hml]; rfl) (argsL := [(.int u0)]) (rest := [(.ref s3)]) (lenOf pd_4 rfl) rfl (by show 2 * 0 + _ ≤ _; exact Nat.le_of_eq rfl) (hb hby at_37) (fun _ _ => ⟨rfl, rfl, (by decide : 4 + 2 ≤ _), (by decide : 104 + 52 ≤ _)⟩)
      dsimp only [Pt.U, Pt.locs, Pt.cells, Pt.slots] at X5 l5 y5 z5 st5 hQ5 hS5 gr5 Cq5
      subst l5 y5 z5
      obtain ⟨X5, hS5, hZ, hown⟩ := rebS hS4 (Nat.le_trans hk4 (Nat.le_of_eq (congrArg Array.size rfl).symm)) X5 hS5 gr5 hZ hown
      have hk5 := Nat.le_refl T5.heap.size
      obtain ⟨s5, d5, kc5, rfl, N5q, K5, A5, F5_coder, F5_value, V5⟩ := hQ5
      have N5 := Fr.app N4 N5q
      have Z5 : n0 ≤ T5.heap.size := Nat.le_trans Z4 K5.1
      have KK5 := KK4.trans K5 all0
      have O5 := O4.keep K5 all0
      have C5 := C4.trans Cq5
      obtain ⟨cq6, kq6, q6a, q6b, q6c⟩ := isOf hZ rfl ((A3.keep K4).keep K5)
      obtain ⟨_, _, ⟨T6, L6, k6, n6⟩, -, X6, ⟨Lc6, hQ6, l6, y6, z6⟩, st6⟩ := X5.virtualBack hx (y := (⟨"java/lang/String", "equals", "(Ljava/lang/Object;)Z"⟩ : MethodName)) (z := (⟨"java/lang/String", "equals", "(Ljava/lang/Object;)Z"⟩ : MethodName)) hown (mvT hZ (hw _ (List.mem_of_getElem? (i := 37) rfl))) (mvT hZ (hw _ (List.mem_of_getElem? (i := 38) rfl))) (notFace_of_selects (args := #[]) (mvT hZ (hw _ (List.mem_of_getElem? (i := 40) rfl)))) (mvT hZ (hw _ (List.mem_of_getElem? (i := 40) rfl))) (mvT hZ (hw _ (List.mem_of_getElem? (i := 39) rfl))) (by decide) (backOf (W := 0) (rm6UU l Z a0 hw [] s3 s5 d3 d5 kc3 kc5 G_COMPACT T5.heap n0 Z5 O5 ((A3.keep K4).keep K5) ((F3_coder.keep K4 nin0).keep K5 nin0) ((F3_value.keep K4 nin0).keep K5 nin0) A5 F5_coder F5_value ((V3.keep K4 nin0).keep K5 nin0) V5 S_COMPACT P_COMPACT) hZ (hw _ (List.mem_of_getElem? (i := 41) rfl)) (hw _ (List.mem_of_getElem? (i := 26) rfl)) (by decide) (by decide)) q6a q6c (g := (mkF m 40 #[.val (.int u0), .val (.int u1), .val (.ref a_UPSTREAM), .val (.ref a_UPSTREAM), .val (.ref s3), .val (.ref s4), .unset, .unset, .unset] [(.ref s5), (.ref s3)])) rfl (by rw [hml]; rfl) (Steps.refl _) (argsL := [(.ref s5)]) (rest := []) (lenOf pd_5 rfl) rfl (by show 2 * 0 + _ ≤ _; exact Nat.le_of_eq rfl) (hb hby at_40) (fun _ _ => ⟨rfl, rfl, (by decide : 6 + 0 ≤ _), (by decide : 156 + 0 ≤ _)⟩)
      dsimp only [Pt.U, Pt.locs, Pt.cells, Pt.slots] at X6 l6 y6 z6 st6 hQ6
      subst l6 y6 z6
      obtain ⟨rfl, N6q, e6⟩ := hQ6
      have N6 := Fr.app N5 N6q
      obtain ⟨_, _, ⟨T7, L7, k7, n7⟩, -, X7, hS7, gr7, ⟨Lc7, hQ7, l7, y7, z7, Cq7⟩, st7⟩ := callSS X6 hx (y := (⟨"com/example/backfill/backfill/engine/LaneRequestsPinLaw", "expected", "(I)Ljava/lang/String;"⟩ : MethodName)) hown (mvT hZ (hw _ (List.mem_of_getElem? (i := 33) rfl))) (mvT hZ (hw _ (List.mem_of_getElem? (i := 34) rfl))) (mvT hZ (hw _ (List.mem_of_getElem? (i := 2) rfl))) (mvT hZ (hw _ (List.mem_of_getElem? (i := 35) rfl))) (by decide) (backOfSH (W := 1) (rm5UPSTREAM l Z a0 hw [] u1 T5.heap n0 Z5 hp1.1) hZ (hw _ (List.mem_of_getElem? (i := 35) rfl)) (hw _ (List.mem_of_getElem? (i := 2) rfl)) (by decide) (by decide) (hEL hw) C5.1) (g := (mkF m 49 #[.val (.int u0), .val (.int u1), .val (.ref a_UPSTREAM), .val (.ref a_UPSTREAM), .val (.ref s3), .val (.ref s4), .unset, .unset, .unset] [(.int u1), (.ref s4)])) rfl (by rw [hml]; rfl) (argsL := [(.int u1)]) (rest := [(.ref s4)]) (lenOf pd_4 rfl) rfl (by show 2 * 0 + _ ≤ _; exact Nat.le_of_eq rfl) (hb hby at_49) (fun _ _ => ⟨rfl, e6, (by decide : 6 + 2 ≤ _), (by decide : 156 + 52 ≤ _)⟩)
      dsimp only [Pt.U, Pt.locs, Pt.cells, Pt.slots] at X7 l7 y7 z7 st7 hQ7 hS7 gr7 Cq7
      subst l7 y7 z7
      obtain ⟨X7, hS7, hZ, hown⟩ := rebS hS5 (Nat.le_trans hk5 (Nat.le_of_eq (congrArg Array.size e6).symm)) X7 hS7 gr7 hZ hown
      have hk7 := Nat.le_refl T7.heap.size
      obtain ⟨s7, d7, kc7, rfl, N7q, K7, A7, F7_coder, F7_value, V7⟩ := hQ7
      have N7 := Fr.app N6 N7q
      have Z7 : n0 ≤ T7.heap.size := Nat.le_trans Z5 K7.1
      have KK7 := KK5.trans K7 all0
      have O7 := O5.keep K7 all0
      have C7 := C5.trans Cq7
      obtain ⟨cq8, kq8, q8a, q8b, q8c⟩ := isOf hZ rfl ((A4.keep K5).keep K7)
      obtain ⟨_, _, ⟨T8, L8, k8, n8⟩, -, X8, ⟨Lc8, hQ8, l8, y8, z8⟩, st8⟩ := X7.virtualBack hx (y := (⟨"java/lang/String", "equals", "(Ljava/lang/Object;)Z"⟩ : MethodName)) (z := (⟨"java/lang/String", "equals", "(Ljava/lang/Object;)Z"⟩ : MethodName)) hown (mvT hZ (hw _ (List.mem_of_getElem? (i := 37) rfl))) (mvT hZ (hw _ (List.mem_of_getElem? (i := 38) rfl))) (notFace_of_selects (args := #[]) (mvT hZ (hw _ (List.mem_of_getElem? (i := 40) rfl)))) (mvT hZ (hw _ (List.mem_of_getElem? (i := 40) rfl))) (mvT hZ (hw _ (List.mem_of_getElem? (i := 39) rfl))) (by decide) (backOf (W := 0) (rm6UU l Z a0 hw [] s4 s7 d4 d7 kc4 kc7 G_COMPACT T7.heap n0 Z7 O7 ((A4.keep K5).keep K7) ((F4_coder.keep K5 nin0).keep K7 nin0) ((F4_value.keep K5 nin0).keep K7 nin0) A7 F7_coder F7_value ((V4.keep K5 nin0).keep K7 nin0) V7 S_COMPACT P_COMPACT) hZ (hw _ (List.mem_of_getElem? (i := 41) rfl)) (hw _ (List.mem_of_getElem? (i := 26) rfl)) (by decide) (by decide)) q8a q8c (g := (mkF m 52 #[.val (.int u0), .val (.int u1), .val (.ref a_UPSTREAM), .val (.ref a_UPSTREAM), .val (.ref s3), .val (.ref s4), .unset, .unset, .unset] [(.ref s7), (.ref s4)])) rfl (by rw [hml]; rfl) (Steps.refl _) (argsL := [(.ref s7)]) (rest := []) (lenOf pd_5 rfl) rfl (by show 2 * 0 + _ ≤ _; exact Nat.le_of_eq rfl) (hb hby at_52) (fun _ _ => ⟨rfl, rfl, (by decide : 8 + 0 ≤ _), (by decide : 208 + 0 ≤ _)⟩)
      dsimp only [Pt.U, Pt.locs, Pt.cells, Pt.slots] at X8 l8 y8 z8 st8 hQ8
      subst l8 y8 z8
      obtain ⟨rfl, N8q, e8⟩ := hQ8
      have N8 := Fr.app N7 N8q
      obtain ⟨cq9, kq9, q9a, q9b, q9c⟩ := isOf hZ e8 (((A3.keep K4).keep K5).keep K7)
      obtain ⟨_, _, ⟨T9, L9, k9, n9⟩, -, X9, ⟨Lc9, hQ9, l9, y9, z9⟩, st9⟩ := X8.virtualBack hx (y := (⟨"java/lang/String", "equals", "(Ljava/lang/Object;)Z"⟩ : MethodName)) (z := (⟨"java/lang/String", "equals", "(Ljava/lang/Object;)Z"⟩ : MethodName)) hown (mvT hZ (hw _ (List.mem_of_getElem? (i := 37) rfl))) (mvT hZ (hw _ (List.mem_of_getElem? (i := 38) rfl))) (notFace_of_selects (args := #[]) (mvT hZ (hw _ (List.mem_of_getElem? (i := 40) rfl)))) (mvT hZ (hw _ (List.mem_of_getElem? (i := 40) rfl))) (mvT hZ (hw _ (List.mem_of_getElem? (i := 39) rfl))) (by decide) (backOf (W := 1) (rm6UU l Z a0 hw [] s3 s4 d3 d4 kc3 kc4 G_COMPACT T7.heap n0 Z7 O7 (((A3.keep K4).keep K5).keep K7) (((F3_coder.keep K4 nin0).keep K5 nin0).keep K7 nin0) (((F3_value.keep K4 nin0).keep K5 nin0).keep K7 nin0) ((A4.keep K5).keep K7) ((F4_coder.keep K5 nin0).keep K7 nin0) ((F4_value.keep K5 nin0).keep K7 nin0) (((V3.keep K4 nin0).keep K5 nin0).keep K7 nin0) ((V4.keep K5 nin0).keep K7 nin0) S_COMPACT P_COMPACT) hZ (hw _ (List.mem_of_getElem? (i := 41) rfl)) (hw _ (List.mem_of_getElem? (i := 26) rfl)) (by decide) (by decide)) q9a q9c (g := (mkF m 79 #[.val (.int u0), .val (.int u1), .val (.ref a_UPSTREAM), .val (.ref a_UPSTREAM), .val (.ref s3), .val (.ref s4), .val (.int (1 : Int32)), .unset, .unset] [(.ref s4), (.ref s3), (.int (1 : Int32))])) rfl (by rw [hml]; rfl) (Steps.refl _) (argsL := [(.ref s4)]) (rest := [(.int (1 : Int32))]) (lenOf pd_5 rfl) rfl (by show 2 * 0 + _ ≤ _; exact Nat.le_of_eq rfl) (hb hby at_79) (fun _ _ => ⟨rfl, e8, (by decide : 8 + 0 ≤ _), (by decide : 208 + 0 ≤ _)⟩)
      dsimp only [Pt.U, Pt.locs, Pt.cells, Pt.slots] at X9 l9 y9 z9 st9 hQ9
      subst l9 y9 z9
      obtain ⟨rfl, N9q, e9⟩ := hQ9
      have N9 := Fr.app N8 N9q
      obtain ⟨cq10, kq10, q10a, q10b, q10c⟩ := isOf hZ e9 (E_a_UPSTREAM.ext O7.2)
      obtain ⟨_, _, ⟨T10, L10, k10, n10⟩, -, X10, hS10, gr10, ⟨Lc10, hQ10, l10, y10, z10, Cq10⟩, st10⟩ := X9.virtualBackS hx (y := (⟨"com/example/backfill/backfill/engine/Lane", "requests", "()Ljava/lang/String;"⟩ : MethodName)) (z := (⟨"com/example/backfill/backfill/engine/Lane", "requests", "()Ljava/lang/String;"⟩ : MethodName)) hown (mvT hZ (hw _ (List.mem_of_getElem? (i := 11) rfl))) (mvT hZ (hw _ (List.mem_of_getElem? (i := 12) rfl))) (notFace_of_selects (args := #[]) (mvT hZ (hw _ (List.mem_of_getElem? (i := 14) rfl)))) (mvT hZ (hw _ (List.mem_of_getElem? (i := 14) rfl))) (mvT hZ (hw _ (List.mem_of_getElem? (i := 13) rfl))) (by decide) (backOfSH (W := 1) (rm3UPSTREAM l Z a0 hw [] a_UPSTREAM T7.heap n0 Z7 (E_a_UPSTREAM.ext O7.2) (O_UPSTREAM.ext O7.2)) hZ (hw _ (List.mem_of_getElem? (i := 15) rfl)) (hw _ (List.mem_of_getElem? (i := 9) rfl)) (by decide) (by decide) (hEL hw) C7.1) q10a q10c (g := (mkF m 95 #[.val (.int u0), .val (.int u1), .val (.ref a_UPSTREAM), .val (.ref a_UPSTREAM), .val (.ref s3), .val (.ref s4), .val (.int (1 : Int32)), .val (.int (1 : Int32)), .unset] [(.ref a_UPSTREAM), (.ref s3)])) rfl (by rw [hml]; rfl) (Steps.refl _) (argsL := []) (rest := [(.ref s3)]) (lenOf pd_1 rfl) rfl (by show 2 * 0 + _ ≤ _; exact Nat.le_of_eq rfl) (hb hby at_95) (fun _ _ => ⟨rfl, e9, (by decide : 8 + 2 ≤ _), (by decide : 208 + 52 ≤ _)⟩)
      dsimp only [Pt.U, Pt.locs, Pt.cells, Pt.slots] at X10 l10 y10 z10 st10 hQ10 hS10 gr10 Cq10
      subst l10 y10 z10
      obtain ⟨X10, hS10, hZ, hown⟩ := rebS hS7 (Nat.le_trans hk7 (Nat.le_of_eq (congrArg Array.size e9).symm)) X10 hS10 gr10 hZ hown
      have hk10 := Nat.le_refl T10.heap.size
      obtain ⟨s10, d10, kc10, rfl, N10q, K10, A10, F10_coder, F10_value, V10⟩ := hQ10
      have N10 := Fr.app N9 N10q
      have Z10 : n0 ≤ T10.heap.size := Nat.le_trans Z7 K10.1
      have KK10 := KK7.trans K10 all0
      have O10 := O7.keep K10 all0
      have C10 := C7.trans Cq10
      obtain ⟨cq11, kq11, q11a, q11b, q11c⟩ := isOf hZ rfl ((((A3.keep K4).keep K5).keep K7).keep K10)
      obtain ⟨_, _, ⟨T11, L11, k11, n11⟩, -, X11, ⟨Lc11, hQ11, l11, y11, z11⟩, st11⟩ := X10.virtualBack hx (y := (⟨"java/lang/String", "equals", "(Ljava/lang/Object;)Z"⟩ : MethodName)) (z := (⟨"java/lang/String", "equals", "(Ljava/lang/Object;)Z"⟩ : MethodName)) hown (mvT hZ (hw _ (List.mem_of_getElem? (i := 37) rfl))) (mvT hZ (hw _ (List.mem_of_getElem? (i := 38) rfl))) (notFace_of_selects (args := #[]) (mvT hZ (hw _ (List.mem_of_getElem? (i := 40) rfl)))) (mvT hZ (hw _ (List.mem_of_getElem? (i := 40) rfl))) (mvT hZ (hw _ (List.mem_of_getElem? (i := 39) rfl))) (by decide) (backOf (W := 0) (rm6UU l Z a0 hw [] s3 s10 d3 d10 kc3 kc10 G_COMPACT T10.heap n0 Z10 O10 ((((A3.keep K4).keep K5).keep K7).keep K10) ((((F3_coder.keep K4 nin0).keep K5 nin0).keep K7 nin0).keep K10 nin0) ((((F3_value.keep K4 nin0).keep K5 nin0).keep K7 nin0).keep K10 nin0) A10 F10_coder F10_value ((((V3.keep K4 nin0).keep K5 nin0).keep K7 nin0).keep K10 nin0) V10 S_COMPACT P_COMPACT) hZ (hw _ (List.mem_of_getElem? (i := 41) rfl)) (hw _ (List.mem_of_getElem? (i := 26) rfl)) (by decide) (by decide)) q11a q11c (g := (mkF m 98 #[.val (.int u0), .val (.int u1), .val (.ref a_UPSTREAM), .val (.ref a_UPSTREAM), .val (.ref s3), .val (.ref s4), .val (.int (1 : Int32)), .val (.int (1 : Int32)), .unset] [(.ref s10), (.ref s3)])) rfl (by rw [hml]; rfl) (Steps.refl _) (argsL := [(.ref s10)]) (rest := []) (lenOf pd_5 rfl) rfl (by show 2 * 0 + _ ≤ _; exact Nat.le_of_eq rfl) (hb hby at_98) (fun _ _ => ⟨rfl, rfl, (by decide : 10 + 0 ≤ _), (by decide : 260 + 0 ≤ _)⟩)
      dsimp only [Pt.U, Pt.locs, Pt.cells, Pt.slots] at X11 l11 y11 z11 st11 hQ11
      subst l11 y11 z11
      obtain ⟨rfl, N11q, e11⟩ := hQ11
      have N11 := Fr.app N10 N11q
      obtain ⟨fs, hr, hrun, hended, hE⟩ := X11.leaveW hS10 (Nat.le_trans hk10 (Nat.le_of_eq (congrArg Array.size e11).symm)) (v := some (.int (1 : Int32))) (fun h => by rw [Bd.returns] at h; cases h)
      refine ⟨_, _, pre0 _ ?_, hrun, hended, _, _, rfl, ?_, ?_, own_monoW hE (by decide) (by decide)⟩
      · show Steps p.tables e below (s₁.setTop (mkF m 0 #[.val (.int u0), .val (.int u1), .unset, .unset, .unset, .unset, .unset, .unset, .unset] [])) _
        refine XS.iloadN X0.here hx rfl (hb hby at_0) rfl ?_
        show Steps p.tables e below (s₁.setTop (mkF m 1 #[.val (.int u0), .val (.int u1), .unset, .unset, .unset, .unset, .unset, .unset, .unset] [(.int u0)])) _
        refine st1 _ ?_
        show Steps p.tables e below (T1.setTop (mkF m 4 #[.val (.int u0), .val (.int u1), .unset, .unset, .unset, .unset, .unset, .unset, .unset] [(.ref a_UPSTREAM)])) _
        refine XS.astoreN X1.here hx rfl (hb hby at_4) rfl rfl (l' := #[.val (.int u0), .val (.int u1), .val (.ref a_UPSTREAM), .unset, .unset, .unset, .unset, .unset, .unset]) rfl ?_
        show Steps p.tables e below (T1.setTop (mkF m 5 #[.val (.int u0), .val (.int u1), .val (.ref a_UPSTREAM), .unset, .unset, .unset, .unset, .unset, .unset] [])) _
        refine XS.iloadN X1.here hx rfl (hb hby at_5) rfl ?_
        show Steps p.tables e below (T1.setTop (mkF m 6 #[.val (.int u0), .val (.int u1), .val (.ref a_UPSTREAM), .unset, .unset, .unset, .unset, .unset, .unset] [(.int u1)])) _
        refine st2 _ ?_
        show Steps p.tables e below (T2.setTop (mkF m 9 #[.val (.int u0), .val (.int u1), .val (.ref a_UPSTREAM), .unset, .unset, .unset, .unset, .unset, .unset] [(.ref a_UPSTREAM)])) _
        refine XS.astoreN X2.here hx rfl (hb hby at_9) rfl rfl (l' := #[.val (.int u0), .val (.int u1), .val (.ref a_UPSTREAM), .val (.ref a_UPSTREAM), .unset, .unset, .unset, .unset, .unset]) rfl ?_
        show Steps p.tables e below (T2.setTop (mkF m 10 #[.val (.int u0), .val (.int u1), .val (.ref a_UPSTREAM), .val (.ref a_UPSTREAM), .unset, .unset, .unset, .unset, .unset] [])) _
        refine XS.aloadN X2.here hx rfl (hb hby at_10) rfl rfl ?_
        show Steps p.tables e below (T2.setTop (mkF m 11 #[.val (.int u0), .val (.int u1), .val (.ref a_UPSTREAM), .val (.ref a_UPSTREAM), .unset, .unset, .unset, .unset, .unset] [(.ref a_UPSTREAM)])) _
        refine st3.trans ?_
        show Steps p.tables e below (T3.setTop (mkF m 14 #[.val (.int u0), .val (.int u1), .val (.ref a_UPSTREAM), .val (.ref a_UPSTREAM), .unset, .unset, .unset, .unset, .unset] [(.ref s3)])) _
        refine XS.astore X3.here hx rfl (hb hby at_14) rfl rfl (l' := #[.val (.int u0), .val (.int u1), .val (.ref a_UPSTREAM), .val (.ref a_UPSTREAM), .val (.ref s3), .unset, .unset, .unset, .unset]) rfl ?_
        show Steps p.tables e below (T3.setTop (mkF m 16 #[.val (.int u0), .val (.int u1), .val (.ref a_UPSTREAM), .val (.ref a_UPSTREAM), .val (.ref s3), .unset, .unset, .unset, .unset] [])) _
        refine XS.aloadN X3.here hx rfl (hb hby at_16) rfl rfl ?_
        show Steps p.tables e below (T3.setTop (mkF m 17 #[.val (.int u0), .val (.int u1), .val (.ref a_UPSTREAM), .val (.ref a_UPSTREAM), .val (.ref s3), .unset, .unset, .unset, .unset] [(.ref a_UPSTREAM)])) _
        refine st4.trans ?_
        show Steps p.tables e below (T4.setTop (mkF m 20 #[.val (.int u0), .val (.int u1), .val (.ref a_UPSTREAM), .val (.ref a_UPSTREAM), .val (.ref s3), .unset, .unset, .unset, .unset] [(.ref s4)])) _
        refine XS.astore X4.here hx rfl (hb hby at_20) rfl rfl (l' := #[.val (.int u0), .val (.int u1), .val (.ref a_UPSTREAM), .val (.ref a_UPSTREAM), .val (.ref s3), .val (.ref s4), .unset, .unset, .unset]) rfl ?_
        show Steps p.tables e below (T4.setTop (mkF m 22 #[.val (.int u0), .val (.int u1), .val (.ref a_UPSTREAM), .val (.ref a_UPSTREAM), .val (.ref s3), .val (.ref s4), .unset, .unset, .unset] [])) _
        refine XS.aload X4.here hx rfl (hb hby at_22) rfl rfl ?_
        show Steps p.tables e below (T4.setTop (mkF m 24 #[.val (.int u0), .val (.int u1), .val (.ref a_UPSTREAM), .val (.ref a_UPSTREAM), .val (.ref s3), .val (.ref s4), .unset, .unset, .unset] [(.ref s3)])) _
        refine XS.ifnullNo X4.here hx rfl (hb hby at_24) rfl ?_
        show Steps p.tables e below (T4.setTop (mkF m 27 #[.val (.int u0), .val (.int u1), .val (.ref a_UPSTREAM), .val (.ref a_UPSTREAM), .val (.ref s3), .val (.ref s4), .unset, .unset, .unset] [])) _
        refine XS.aload X4.here hx rfl (hb hby at_27) rfl rfl ?_
        show Steps p.tables e below (T4.setTop (mkF m 29 #[.val (.int u0), .val (.int u1), .val (.ref a_UPSTREAM), .val (.ref a_UPSTREAM), .val (.ref s3), .val (.ref s4), .unset, .unset, .unset] [(.ref s4)])) _
        refine XS.ifnonnullYes X4.here hx rfl (pc0 := 29) (pc' := 34) rfl (hb hby at_29) rfl (by decide) (by decide) ?_
        show Steps p.tables e below (T4.setTop (mkF m 34 #[.val (.int u0), .val (.int u1), .val (.ref a_UPSTREAM), .val (.ref a_UPSTREAM), .val (.ref s3), .val (.ref s4), .unset, .unset, .unset] [])) _
        refine XS.aload X4.here hx rfl (hb hby at_34) rfl rfl ?_
        show Steps p.tables e below (T4.setTop (mkF m 36 #[.val (.int u0), .val (.int u1), .val (.ref a_UPSTREAM), .val (.ref a_UPSTREAM), .val (.ref s3), .val (.ref s4), .unset, .unset, .unset] [(.ref s3)])) _
        refine XS.iloadN X4.here hx rfl (hb hby at_36) rfl ?_
        show Steps p.tables e below (T4.setTop (mkF m 37 #[.val (.int u0), .val (.int u1), .val (.ref a_UPSTREAM), .val (.ref a_UPSTREAM), .val (.ref s3), .val (.ref s4), .unset, .unset, .unset] [(.int u0), (.ref s3)])) _
        refine st5.trans ?_
        show Steps p.tables e below (T5.setTop (mkF m 40 #[.val (.int u0), .val (.int u1), .val (.ref a_UPSTREAM), .val (.ref a_UPSTREAM), .val (.ref s3), .val (.ref s4), .unset, .unset, .unset] [(.ref s5), (.ref s3)])) _
        refine st6.trans ?_
        show Steps p.tables e below (T6.setTop (mkF m 43 #[.val (.int u0), .val (.int u1), .val (.ref a_UPSTREAM), .val (.ref a_UPSTREAM), .val (.ref s3), .val (.ref s4), .unset, .unset, .unset] [(.int (1 : Int32))])) _
        refine XS.ifNo X6.here hx rfl (hb hby at_43) rfl ((if0 _ _).trans (feq (by decide)).1) ?_
        show Steps p.tables e below (T6.setTop (mkF m 46 #[.val (.int u0), .val (.int u1), .val (.ref a_UPSTREAM), .val (.ref a_UPSTREAM), .val (.ref s3), .val (.ref s4), .unset, .unset, .unset] [])) _
        refine XS.aload X6.here hx rfl (hb hby at_46) rfl rfl ?_
        show Steps p.tables e below (T6.setTop (mkF m 48 #[.val (.int u0), .val (.int u1), .val (.ref a_UPSTREAM), .val (.ref a_UPSTREAM), .val (.ref s3), .val (.ref s4), .unset, .unset, .unset] [(.ref s4)])) _
        refine XS.iloadN X6.here hx rfl (hb hby at_48) rfl ?_
        show Steps p.tables e below (T6.setTop (mkF m 49 #[.val (.int u0), .val (.int u1), .val (.ref a_UPSTREAM), .val (.ref a_UPSTREAM), .val (.ref s3), .val (.ref s4), .unset, .unset, .unset] [(.int u1), (.ref s4)])) _
        refine st7.trans ?_
        show Steps p.tables e below (T7.setTop (mkF m 52 #[.val (.int u0), .val (.int u1), .val (.ref a_UPSTREAM), .val (.ref a_UPSTREAM), .val (.ref s3), .val (.ref s4), .unset, .unset, .unset] [(.ref s7), (.ref s4)])) _
        refine st8.trans ?_
        show Steps p.tables e below (T8.setTop (mkF m 55 #[.val (.int u0), .val (.int u1), .val (.ref a_UPSTREAM), .val (.ref a_UPSTREAM), .val (.ref s3), .val (.ref s4), .unset, .unset, .unset] [(.int (1 : Int32))])) _
        refine XS.ifNo X8.here hx rfl (hb hby at_55) rfl ((if0 _ _).trans (feq (by decide)).1) ?_
        show Steps p.tables e below (T8.setTop (mkF m 58 #[.val (.int u0), .val (.int u1), .val (.ref a_UPSTREAM), .val (.ref a_UPSTREAM), .val (.ref s3), .val (.ref s4), .unset, .unset, .unset] [])) _
        refine XS.iconst X8.here hx rfl (hb hby at_58) ?_
        show Steps p.tables e below (T8.setTop (mkF m 59 #[.val (.int u0), .val (.int u1), .val (.ref a_UPSTREAM), .val (.ref a_UPSTREAM), .val (.ref s3), .val (.ref s4), .unset, .unset, .unset] [(.int (1 : Int32))])) _
        refine XS.goto X8.here hx rfl (pc0 := 59) (pc' := 63) rfl (hb hby at_59) (by decide) (by decide) ?_
        show Steps p.tables e below (T8.setTop (mkF m 63 #[.val (.int u0), .val (.int u1), .val (.ref a_UPSTREAM), .val (.ref a_UPSTREAM), .val (.ref s3), .val (.ref s4), .unset, .unset, .unset] [(.int (1 : Int32))])) _
        refine XS.istore X8.here hx rfl (hb hby at_63) rfl (l' := #[.val (.int u0), .val (.int u1), .val (.ref a_UPSTREAM), .val (.ref a_UPSTREAM), .val (.ref s3), .val (.ref s4), .val (.int (1 : Int32)), .unset, .unset]) rfl ?_
        show Steps p.tables e below (T8.setTop (mkF m 65 #[.val (.int u0), .val (.int u1), .val (.ref a_UPSTREAM), .val (.ref a_UPSTREAM), .val (.ref s3), .val (.ref s4), .val (.int (1 : Int32)), .unset, .unset] [])) _
        refine XS.aloadN X8.here hx rfl (hb hby at_65) rfl rfl ?_
        show Steps p.tables e below (T8.setTop (mkF m 66 #[.val (.int u0), .val (.int u1), .val (.ref a_UPSTREAM), .val (.ref a_UPSTREAM), .val (.ref s3), .val (.ref s4), .val (.int (1 : Int32)), .unset, .unset] [(.ref a_UPSTREAM)])) _
        refine XS.aloadN X8.here hx rfl (hb hby at_66) rfl rfl ?_
        show Steps p.tables e below (T8.setTop (mkF m 67 #[.val (.int u0), .val (.int u1), .val (.ref a_UPSTREAM), .val (.ref a_UPSTREAM), .val (.ref s3), .val (.ref s4), .val (.int (1 : Int32)), .unset, .unset] [(.ref a_UPSTREAM), (.ref a_UPSTREAM)])) _
        refine Jvm.RoadKit.acmp (g := (mkF m 67 #[.val (.int u0), .val (.int u1), .val (.ref a_UPSTREAM), .val (.ref a_UPSTREAM), .val (.ref s3), .val (.ref s4), .val (.int (1 : Int32)), .unset, .unset] [(.ref a_UPSTREAM), (.ref a_UPSTREAM)])) X8 hx rfl rfl rfl (pc0 := 67) (pc' := 70) (same := true) rfl (hb hby at_67) rfl (decide_eq_true rfl) (by decide) (by decide) ?_
        show Steps p.tables e below (T8.setTop (mkF m 70 #[.val (.int u0), .val (.int u1), .val (.ref a_UPSTREAM), .val (.ref a_UPSTREAM), .val (.ref s3), .val (.ref s4), .val (.int (1 : Int32)), .unset, .unset] [])) _
        refine XS.iconst X8.here hx rfl (hb hby at_70) ?_
        show Steps p.tables e below (T8.setTop (mkF m 71 #[.val (.int u0), .val (.int u1), .val (.ref a_UPSTREAM), .val (.ref a_UPSTREAM), .val (.ref s3), .val (.ref s4), .val (.int (1 : Int32)), .unset, .unset] [(.int (1 : Int32))])) _
        refine XS.goto X8.here hx rfl (pc0 := 71) (pc' := 75) rfl (hb hby at_71) (by decide) (by decide) ?_
        show Steps p.tables e below (T8.setTop (mkF m 75 #[.val (.int u0), .val (.int u1), .val (.ref a_UPSTREAM), .val (.ref a_UPSTREAM), .val (.ref s3), .val (.ref s4), .val (.int (1 : Int32)), .unset, .unset] [(.int (1 : Int32))])) _
        refine XS.aload X8.here hx rfl (hb hby at_75) rfl rfl ?_
        show Steps p.tables e below (T8.setTop (mkF m 77 #[.val (.int u0), .val (.int u1), .val (.ref a_UPSTREAM), .val (.ref a_UPSTREAM), .val (.ref s3), .val (.ref s4), .val (.int (1 : Int32)), .unset, .unset] [(.ref s3), (.int (1 : Int32))])) _
        refine XS.aload X8.here hx rfl (hb hby at_77) rfl rfl ?_
        show Steps p.tables e below (T8.setTop (mkF m 79 #[.val (.int u0), .val (.int u1), .val (.ref a_UPSTREAM), .val (.ref a_UPSTREAM), .val (.ref s3), .val (.ref s4), .val (.int (1 : Int32)), .unset, .unset] [(.ref s4), (.ref s3), (.int (1 : Int32))])) _
        refine st9.trans ?_
        show Steps p.tables e below (T9.setTop (mkF m 82 #[.val (.int u0), .val (.int u1), .val (.ref a_UPSTREAM), .val (.ref a_UPSTREAM), .val (.ref s3), .val (.ref s4), .val (.int (1 : Int32)), .unset, .unset] [(.int (1 : Int32)), (.int (1 : Int32))])) _
        refine XS.icmpNo X9.here hx rfl (hb hby at_82) rfl (teq (by decide)).2 ?_
        show Steps p.tables e below (T9.setTop (mkF m 85 #[.val (.int u0), .val (.int u1), .val (.ref a_UPSTREAM), .val (.ref a_UPSTREAM), .val (.ref s3), .val (.ref s4), .val (.int (1 : Int32)), .unset, .unset] [])) _
        refine XS.iconst X9.here hx rfl (hb hby at_85) ?_
        show Steps p.tables e below (T9.setTop (mkF m 86 #[.val (.int u0), .val (.int u1), .val (.ref a_UPSTREAM), .val (.ref a_UPSTREAM), .val (.ref s3), .val (.ref s4), .val (.int (1 : Int32)), .unset, .unset] [(.int (1 : Int32))])) _
        refine XS.goto X9.here hx rfl (pc0 := 86) (pc' := 90) rfl (hb hby at_86) (by decide) (by decide) ?_
        show Steps p.tables e below (T9.setTop (mkF m 90 #[.val (.int u0), .val (.int u1), .val (.ref a_UPSTREAM), .val (.ref a_UPSTREAM), .val (.ref s3), .val (.ref s4), .val (.int (1 : Int32)), .unset, .unset] [(.int (1 : Int32))])) _
        refine XS.istore X9.here hx rfl (hb hby at_90) rfl (l' := #[.val (.int u0), .val (.int u1), .val (.ref a_UPSTREAM), .val (.ref a_UPSTREAM), .val (.ref s3), .val (.ref s4), .val (.int (1 : Int32)), .val (.int (1 : Int32)), .unset]) rfl ?_
        show Steps p.tables e below (T9.setTop (mkF m 92 #[.val (.int u0), .val (.int u1), .val (.ref a_UPSTREAM), .val (.ref a_UPSTREAM), .val (.ref s3), .val (.ref s4), .val (.int (1 : Int32)), .val (.int (1 : Int32)), .unset] [])) _
        refine XS.aload X9.here hx rfl (hb hby at_92) rfl rfl ?_
        show Steps p.tables e below (T9.setTop (mkF m 94 #[.val (.int u0), .val (.int u1), .val (.ref a_UPSTREAM), .val (.ref a_UPSTREAM), .val (.ref s3), .val (.ref s4), .val (.int (1 : Int32)), .val (.int (1 : Int32)), .unset] [(.ref s3)])) _
        refine XS.aloadN X9.here hx rfl (hb hby at_94) rfl rfl ?_
        show Steps p.tables e below (T9.setTop (mkF m 95 #[.val (.int u0), .val (.int u1), .val (.ref a_UPSTREAM), .val (.ref a_UPSTREAM), .val (.ref s3), .val (.ref s4), .val (.int (1 : Int32)), .val (.int (1 : Int32)), .unset] [(.ref a_UPSTREAM), (.ref s3)])) _
        refine st10.trans ?_
        show Steps p.tables e below (T10.setTop (mkF m 98 #[.val (.int u0), .val (.int u1), .val (.ref a_UPSTREAM), .val (.ref a_UPSTREAM), .val (.ref s3), .val (.ref s4), .val (.int (1 : Int32)), .val (.int (1 : Int32)), .unset] [(.ref s10), (.ref s3)])) _
        refine st11.trans ?_
        show Steps p.tables e below (T11.setTop (mkF m 101 #[.val (.int u0), .val (.int u1), .val (.ref a_UPSTREAM), .val (.ref a_UPSTREAM), .val (.ref s3), .val (.ref s4), .val (.int (1 : Int32)), .val (.int (1 : Int32)), .unset] [(.int (1 : Int32))])) _
        refine XS.istore X11.here hx rfl (hb hby at_101) rfl (l' := #[.val (.int u0), .val (.int u1), .val (.ref a_UPSTREAM), .val (.ref a_UPSTREAM), .val (.ref s3), .val (.ref s4), .val (.int (1 : Int32)), .val (.int (1 : Int32)), .val (.int (1 : Int32))]) rfl ?_
        show Steps p.tables e below (T11.setTop (mkF m 103 #[.val (.int u0), .val (.int u1), .val (.ref a_UPSTREAM), .val (.ref a_UPSTREAM), .val (.ref s3), .val (.ref s4), .val (.int (1 : Int32)), .val (.int (1 : Int32)), .val (.int (1 : Int32))] [])) _
        refine XS.iload X11.here hx rfl (hb hby at_103) rfl ?_
        show Steps p.tables e below (T11.setTop (mkF m 105 #[.val (.int u0), .val (.int u1), .val (.ref a_UPSTREAM), .val (.ref a_UPSTREAM), .val (.ref s3), .val (.ref s4), .val (.int (1 : Int32)), .val (.int (1 : Int32)), .val (.int (1 : Int32))] [(.int (1 : Int32))])) _
        refine XS.ifNo X11.here hx rfl (hb hby at_105) rfl ((if0 _ _).trans (feq (by decide)).1) ?_
        show Steps p.tables e below (T11.setTop (mkF m 108 #[.val (.int u0), .val (.int u1), .val (.ref a_UPSTREAM), .val (.ref a_UPSTREAM), .val (.ref s3), .val (.ref s4), .val (.int (1 : Int32)), .val (.int (1 : Int32)), .val (.int (1 : Int32))] [])) _
        refine XS.iload X11.here hx rfl (hb hby at_108) rfl ?_
        show Steps p.tables e below (T11.setTop (mkF m 110 #[.val (.int u0), .val (.int u1), .val (.ref a_UPSTREAM), .val (.ref a_UPSTREAM), .val (.ref s3), .val (.ref s4), .val (.int (1 : Int32)), .val (.int (1 : Int32)), .val (.int (1 : Int32))] [(.int (1 : Int32))])) _
        refine XS.ifNo X11.here hx rfl (hb hby at_110) rfl ((if0 _ _).trans (feq (by decide)).1) ?_
        show Steps p.tables e below (T11.setTop (mkF m 113 #[.val (.int u0), .val (.int u1), .val (.ref a_UPSTREAM), .val (.ref a_UPSTREAM), .val (.ref s3), .val (.ref s4), .val (.int (1 : Int32)), .val (.int (1 : Int32)), .val (.int (1 : Int32))] [])) _
        refine XS.iload X11.here hx rfl (hb hby at_113) rfl ?_
        show Steps p.tables e below (T11.setTop (mkF m 115 #[.val (.int u0), .val (.int u1), .val (.ref a_UPSTREAM), .val (.ref a_UPSTREAM), .val (.ref s3), .val (.ref s4), .val (.int (1 : Int32)), .val (.int (1 : Int32)), .val (.int (1 : Int32))] [(.int (1 : Int32))])) _
        refine XS.ifNo X11.here hx rfl (hb hby at_115) rfl ((if0 _ _).trans (feq (by decide)).1) ?_
        show Steps p.tables e below (T11.setTop (mkF m 118 #[.val (.int u0), .val (.int u1), .val (.ref a_UPSTREAM), .val (.ref a_UPSTREAM), .val (.ref s3), .val (.ref s4), .val (.int (1 : Int32)), .val (.int (1 : Int32)), .val (.int (1 : Int32))] [])) _
        refine XS.iconst X11.here hx rfl (hb hby at_118) ?_
        show Steps p.tables e below (T11.setTop (mkF m 119 #[.val (.int u0), .val (.int u1), .val (.ref a_UPSTREAM), .val (.ref a_UPSTREAM), .val (.ref s3), .val (.ref s4), .val (.int (1 : Int32)), .val (.int (1 : Int32)), .val (.int (1 : Int32))] [(.int (1 : Int32))])) _
        refine XS.goto X11.here hx rfl (pc0 := 119) (pc' := 123) rfl (hb hby at_119) (by decide) (by decide) ?_
        show Steps p.tables e below (T11.setTop (mkF m 123 #[.val (.int u0), .val (.int u1), .val (.ref a_UPSTREAM), .val (.ref a_UPSTREAM), .val (.ref s3), .val (.ref s4), .val (.int (1 : Int32)), .val (.int (1 : Int32)), .val (.int (1 : Int32))] [(.int (1 : Int32))])) _
        exact retN X11 hx (t := .boolean) Bd.returns (by simp) (hb hby at_123) hr
      · show Q0 Z u0 u1 a_UPSTREAM a_LIST a_ITEM G_COMPACT h0 n0 _ T11.heap _
        rw [e11]
        exact ⟨rfl, N11⟩
      · show CHr Z EL s.vm s.heap T11.vm T11.heap
        rw [e11]
        rw [hh]
        exact C10.trans (CHv.at X11 hZ (hEL hw) C10.1)
    · obtain ⟨_, _, ⟨T12, L12, k12, n12⟩, -, X12, ⟨Lc12, hQ12, l12, y12, z12⟩, st12⟩ := Jvm.LawKit.callS X0 hx (y := (⟨"com/example/backfill/backfill/engine/LaneRequestsPinLaw", "pick", "(I)Lcom/example/backfill/backfill/engine/Lane;"⟩ : MethodName)) hown (mvT hZ (hw _ (List.mem_of_getElem? (i := 0) rfl))) (mvT hZ (hw _ (List.mem_of_getElem? (i := 1) rfl))) (mvT hZ (hw _ (List.mem_of_getElem? (i := 2) rfl))) (mvT hZ (hw _ (List.mem_of_getElem? (i := 3) rfl))) (by decide) (backOf (W := 0) (rm1 l Z a0 hw [] u0 a_UPSTREAM a_LIST a_ITEM h0 n0 Z0 O0 S_UPSTREAM S_LIST S_ITEM) hZ (hw _ (List.mem_of_getElem? (i := 3) rfl)) (hw _ (List.mem_of_getElem? (i := 2) rfl)) (by decide) (by decide)) (g := (mkF m 1 #[.val (.int u0), .val (.int u1), .unset, .unset, .unset, .unset, .unset, .unset, .unset] [(.int u0)])) rfl (by rw [hml]; rfl) (argsL := [(.int u0)]) (rest := []) (lenOf pd_3 rfl) rfl (by show 2 * 0 + _ ≤ _; exact Nat.le_of_eq rfl) (hb hby at_1) (fun _ _ => ⟨rfl, e0, (by decide : 0 + 0 ≤ _), (by decide : 0 + 0 ≤ _)⟩)
      dsimp only [Pt.U, Pt.locs, Pt.cells, Pt.slots] at X12 l12 y12 z12 st12 hQ12
      subst l12 y12 z12
      obtain ⟨hv12, N12q, e12⟩ := hQ12
      rw [hp0.2] at hv12
      subst hv12
      have N12 := Fr.app N0 N12q
      obtain ⟨_, _, ⟨T13, L13, k13, n13⟩, -, X13, ⟨Lc13, hQ13, l13, y13, z13⟩, st13⟩ := Jvm.LawKit.callS X12 hx (y := (⟨"com/example/backfill/backfill/engine/LaneRequestsPinLaw", "pick", "(I)Lcom/example/backfill/backfill/engine/Lane;"⟩ : MethodName)) hown (mvT hZ (hw _ (List.mem_of_getElem? (i := 0) rfl))) (mvT hZ (hw _ (List.mem_of_getElem? (i := 1) rfl))) (mvT hZ (hw _ (List.mem_of_getElem? (i := 2) rfl))) (mvT hZ (hw _ (List.mem_of_getElem? (i := 3) rfl))) (by decide) (backOf (W := 0) (rm1 l Z a0 hw [] u1 a_UPSTREAM a_LIST a_ITEM h0 n0 Z0 O0 S_UPSTREAM S_LIST S_ITEM) hZ (hw _ (List.mem_of_getElem? (i := 3) rfl)) (hw _ (List.mem_of_getElem? (i := 2) rfl)) (by decide) (by decide)) (g := (mkF m 6 #[.val (.int u0), .val (.int u1), .val (.ref a_UPSTREAM), .unset, .unset, .unset, .unset, .unset, .unset] [(.int u1)])) rfl (by rw [hml]; rfl) (argsL := [(.int u1)]) (rest := []) (lenOf pd_3 rfl) rfl (by show 2 * 0 + _ ≤ _; exact Nat.le_of_eq rfl) (hb hby at_6) (fun _ _ => ⟨rfl, e12, (by decide : 0 + 0 ≤ _), (by decide : 0 + 0 ≤ _)⟩)
      dsimp only [Pt.U, Pt.locs, Pt.cells, Pt.slots] at X13 l13 y13 z13 st13 hQ13
      subst l13 y13 z13
      obtain ⟨hv13, N13q, e13⟩ := hQ13
      rw [hp1.2] at hv13
      subst hv13
      have N13 := Fr.app N12 N13q
      obtain ⟨cq14, kq14, q14a, q14b, q14c⟩ := isOf hZ e13 (E_a_UPSTREAM.ext O0.2)
      obtain ⟨_, _, ⟨T14, L14, k14, n14⟩, -, X14, hS14, gr14, ⟨Lc14, hQ14, l14, y14, z14, Cq14⟩, st14⟩ := X13.virtualBackS hx (y := (⟨"com/example/backfill/backfill/engine/Lane", "requests", "()Ljava/lang/String;"⟩ : MethodName)) (z := (⟨"com/example/backfill/backfill/engine/Lane", "requests", "()Ljava/lang/String;"⟩ : MethodName)) hown (mvT hZ (hw _ (List.mem_of_getElem? (i := 11) rfl))) (mvT hZ (hw _ (List.mem_of_getElem? (i := 12) rfl))) (notFace_of_selects (args := #[]) (mvT hZ (hw _ (List.mem_of_getElem? (i := 14) rfl)))) (mvT hZ (hw _ (List.mem_of_getElem? (i := 14) rfl))) (mvT hZ (hw _ (List.mem_of_getElem? (i := 13) rfl))) (by decide) (backOfSH (W := 0) (rm3UPSTREAM l Z a0 hw [] a_UPSTREAM h0 n0 Z0 (E_a_UPSTREAM.ext O0.2) (O_UPSTREAM.ext O0.2)) hZ (hw _ (List.mem_of_getElem? (i := 15) rfl)) (hw _ (List.mem_of_getElem? (i := 9) rfl)) (by decide) (by decide) (hEL hw) C0.1) q14a q14c (g := (mkF m 11 #[.val (.int u0), .val (.int u1), .val (.ref a_UPSTREAM), .val (.ref a_LIST), .unset, .unset, .unset, .unset, .unset] [(.ref a_UPSTREAM)])) rfl (by rw [hml]; rfl) (Steps.refl _) (argsL := []) (rest := []) (lenOf pd_1 rfl) rfl (by show 2 * 0 + _ ≤ _; exact Nat.le_of_eq rfl) (hb hby at_11) (fun _ _ => ⟨rfl, e13, (by decide : 0 + 2 ≤ _), (by decide : 0 + 52 ≤ _)⟩)
      dsimp only [Pt.U, Pt.locs, Pt.cells, Pt.slots] at X14 l14 y14 z14 st14 hQ14 hS14 gr14 Cq14
      subst l14 y14 z14
      obtain ⟨X14, hS14, hZ, hown⟩ := rebS hS0 (Nat.le_trans hk0 (Nat.le_of_eq (congrArg Array.size e13).symm)) X14 hS14 gr14 hZ hown
      have hk14 := Nat.le_refl T14.heap.size
      obtain ⟨s14, d14, kc14, rfl, N14q, K14, A14, F14_coder, F14_value, V14⟩ := hQ14
      have N14 := Fr.app N13 N14q
      have Z14 : n0 ≤ T14.heap.size := Nat.le_trans Z0 K14.1
      have KK14 := (Keep.refl h0 []).trans K14 all0
      have O14 := O0.keep K14 all0
      have C14 := C0.trans Cq14
      obtain ⟨cq15, kq15, q15a, q15b, q15c⟩ := isOf hZ rfl (E_a_LIST.ext O14.2)
      obtain ⟨_, _, ⟨T15, L15, k15, n15⟩, -, X15, hS15, gr15, ⟨Lc15, hQ15, l15, y15, z15, Cq15⟩, st15⟩ := X14.virtualBackS hx (y := (⟨"com/example/backfill/backfill/engine/Lane", "requests", "()Ljava/lang/String;"⟩ : MethodName)) (z := (⟨"com/example/backfill/backfill/engine/Lane", "requests", "()Ljava/lang/String;"⟩ : MethodName)) hown (mvT hZ (hw _ (List.mem_of_getElem? (i := 11) rfl))) (mvT hZ (hw _ (List.mem_of_getElem? (i := 12) rfl))) (notFace_of_selects (args := #[]) (mvT hZ (hw _ (List.mem_of_getElem? (i := 14) rfl)))) (mvT hZ (hw _ (List.mem_of_getElem? (i := 14) rfl))) (mvT hZ (hw _ (List.mem_of_getElem? (i := 13) rfl))) (by decide) (backOfSH (W := 0) (rm3LIST l Z a0 hw [] a_LIST T14.heap n0 Z14 (E_a_LIST.ext O14.2) (O_LIST.ext O14.2)) hZ (hw _ (List.mem_of_getElem? (i := 15) rfl)) (hw _ (List.mem_of_getElem? (i := 9) rfl)) (by decide) (by decide) (hEL hw) C14.1) q15a q15c (g := (mkF m 17 #[.val (.int u0), .val (.int u1), .val (.ref a_UPSTREAM), .val (.ref a_LIST), .val (.ref s14), .unset, .unset, .unset, .unset] [(.ref a_LIST)])) rfl (by rw [hml]; rfl) (Steps.refl _) (argsL := []) (rest := []) (lenOf pd_1 rfl) rfl (by show 2 * 0 + _ ≤ _; exact Nat.le_of_eq rfl) (hb hby at_17) (fun _ _ => ⟨rfl, rfl, (by decide : 2 + 2 ≤ _), (by decide : 52 + 44 ≤ _)⟩)
      dsimp only [Pt.U, Pt.locs, Pt.cells, Pt.slots] at X15 l15 y15 z15 st15 hQ15 hS15 gr15 Cq15
      subst l15 y15 z15
      obtain ⟨X15, hS15, hZ, hown⟩ := rebS hS14 (Nat.le_trans hk14 (Nat.le_of_eq (congrArg Array.size rfl).symm)) X15 hS15 gr15 hZ hown
      have hk15 := Nat.le_refl T15.heap.size
      obtain ⟨s15, d15, kc15, rfl, N15q, K15, A15, F15_coder, F15_value, V15⟩ := hQ15
      have N15 := Fr.app N14 N15q
      have Z15 : n0 ≤ T15.heap.size := Nat.le_trans Z14 K15.1
      have KK15 := KK14.trans K15 all0
      have O15 := O14.keep K15 all0
      have C15 := C14.trans Cq15
      obtain ⟨_, _, ⟨T16, L16, k16, n16⟩, -, X16, hS16, gr16, ⟨Lc16, hQ16, l16, y16, z16, Cq16⟩, st16⟩ := callSS X15 hx (y := (⟨"com/example/backfill/backfill/engine/LaneRequestsPinLaw", "expected", "(I)Ljava/lang/String;"⟩ : MethodName)) hown (mvT hZ (hw _ (List.mem_of_getElem? (i := 33) rfl))) (mvT hZ (hw _ (List.mem_of_getElem? (i := 34) rfl))) (mvT hZ (hw _ (List.mem_of_getElem? (i := 2) rfl))) (mvT hZ (hw _ (List.mem_of_getElem? (i := 35) rfl))) (by decide) (backOfSH (W := 1) (rm5UPSTREAM l Z a0 hw [] u0 T15.heap n0 Z15 hp0.1) hZ (hw _ (List.mem_of_getElem? (i := 35) rfl)) (hw _ (List.mem_of_getElem? (i := 2) rfl)) (by decide) (by decide) (hEL hw) C15.1) (g := (mkF m 37 #[.val (.int u0), .val (.int u1), .val (.ref a_UPSTREAM), .val (.ref a_LIST), .val (.ref s14), .val (.ref s15), .unset, .unset, .unset] [(.int u0), (.ref s14)])) rfl (by rw [hml]; rfl) (argsL := [(.int u0)]) (rest := [(.ref s14)]) (lenOf pd_4 rfl) rfl (by show 2 * 0 + _ ≤ _; exact Nat.le_of_eq rfl) (hb hby at_37) (fun _ _ => ⟨rfl, rfl, (by decide : 4 + 2 ≤ _), (by decide : 96 + 52 ≤ _)⟩)
      dsimp only [Pt.U, Pt.locs, Pt.cells, Pt.slots] at X16 l16 y16 z16 st16 hQ16 hS16 gr16 Cq16
      subst l16 y16 z16
      obtain ⟨X16, hS16, hZ, hown⟩ := rebS hS15 (Nat.le_trans hk15 (Nat.le_of_eq (congrArg Array.size rfl).symm)) X16 hS16 gr16 hZ hown
      have hk16 := Nat.le_refl T16.heap.size
      obtain ⟨s16, d16, kc16, rfl, N16q, K16, A16, F16_coder, F16_value, V16⟩ := hQ16
      have N16 := Fr.app N15 N16q
      have Z16 : n0 ≤ T16.heap.size := Nat.le_trans Z15 K16.1
      have KK16 := KK15.trans K16 all0
      have O16 := O15.keep K16 all0
      have C16 := C15.trans Cq16
      obtain ⟨cq17, kq17, q17a, q17b, q17c⟩ := isOf hZ rfl ((A14.keep K15).keep K16)
      obtain ⟨_, _, ⟨T17, L17, k17, n17⟩, -, X17, ⟨Lc17, hQ17, l17, y17, z17⟩, st17⟩ := X16.virtualBack hx (y := (⟨"java/lang/String", "equals", "(Ljava/lang/Object;)Z"⟩ : MethodName)) (z := (⟨"java/lang/String", "equals", "(Ljava/lang/Object;)Z"⟩ : MethodName)) hown (mvT hZ (hw _ (List.mem_of_getElem? (i := 37) rfl))) (mvT hZ (hw _ (List.mem_of_getElem? (i := 38) rfl))) (notFace_of_selects (args := #[]) (mvT hZ (hw _ (List.mem_of_getElem? (i := 40) rfl)))) (mvT hZ (hw _ (List.mem_of_getElem? (i := 40) rfl))) (mvT hZ (hw _ (List.mem_of_getElem? (i := 39) rfl))) (by decide) (backOf (W := 0) (rm6UU l Z a0 hw [] s14 s16 d14 d16 kc14 kc16 G_COMPACT T16.heap n0 Z16 O16 ((A14.keep K15).keep K16) ((F14_coder.keep K15 nin0).keep K16 nin0) ((F14_value.keep K15 nin0).keep K16 nin0) A16 F16_coder F16_value ((V14.keep K15 nin0).keep K16 nin0) V16 S_COMPACT P_COMPACT) hZ (hw _ (List.mem_of_getElem? (i := 41) rfl)) (hw _ (List.mem_of_getElem? (i := 26) rfl)) (by decide) (by decide)) q17a q17c (g := (mkF m 40 #[.val (.int u0), .val (.int u1), .val (.ref a_UPSTREAM), .val (.ref a_LIST), .val (.ref s14), .val (.ref s15), .unset, .unset, .unset] [(.ref s16), (.ref s14)])) rfl (by rw [hml]; rfl) (Steps.refl _) (argsL := [(.ref s16)]) (rest := []) (lenOf pd_5 rfl) rfl (by show 2 * 0 + _ ≤ _; exact Nat.le_of_eq rfl) (hb hby at_40) (fun _ _ => ⟨rfl, rfl, (by decide : 6 + 0 ≤ _), (by decide : 148 + 0 ≤ _)⟩)
      dsimp only [Pt.U, Pt.locs, Pt.cells, Pt.slots] at X17 l17 y17 z17 st17 hQ17
      subst l17 y17 z17
      obtain ⟨rfl, N17q, e17⟩ := hQ17
      have N17 := Fr.app N16 N17q
      obtain ⟨_, _, ⟨T18, L18, k18, n18⟩, -, X18, hS18, gr18, ⟨Lc18, hQ18, l18, y18, z18, Cq18⟩, st18⟩ := callSS X17 hx (y := (⟨"com/example/backfill/backfill/engine/LaneRequestsPinLaw", "expected", "(I)Ljava/lang/String;"⟩ : MethodName)) hown (mvT hZ (hw _ (List.mem_of_getElem? (i := 33) rfl))) (mvT hZ (hw _ (List.mem_of_getElem? (i := 34) rfl))) (mvT hZ (hw _ (List.mem_of_getElem? (i := 2) rfl))) (mvT hZ (hw _ (List.mem_of_getElem? (i := 35) rfl))) (by decide) (backOfSH (W := 1) (rm5LIST l Z a0 hw [] u1 T16.heap n0 Z16 hp1.1.1 hp1.1.2) hZ (hw _ (List.mem_of_getElem? (i := 35) rfl)) (hw _ (List.mem_of_getElem? (i := 2) rfl)) (by decide) (by decide) (hEL hw) C16.1) (g := (mkF m 49 #[.val (.int u0), .val (.int u1), .val (.ref a_UPSTREAM), .val (.ref a_LIST), .val (.ref s14), .val (.ref s15), .unset, .unset, .unset] [(.int u1), (.ref s15)])) rfl (by rw [hml]; rfl) (argsL := [(.int u1)]) (rest := [(.ref s15)]) (lenOf pd_4 rfl) rfl (by show 2 * 0 + _ ≤ _; exact Nat.le_of_eq rfl) (hb hby at_49) (fun _ _ => ⟨rfl, e17, (by decide : 6 + 2 ≤ _), (by decide : 148 + 44 ≤ _)⟩)
      dsimp only [Pt.U, Pt.locs, Pt.cells, Pt.slots] at X18 l18 y18 z18 st18 hQ18 hS18 gr18 Cq18
      subst l18 y18 z18
      obtain ⟨X18, hS18, hZ, hown⟩ := rebS hS16 (Nat.le_trans hk16 (Nat.le_of_eq (congrArg Array.size e17).symm)) X18 hS18 gr18 hZ hown
      have hk18 := Nat.le_refl T18.heap.size
      obtain ⟨s18, d18, kc18, rfl, N18q, K18, A18, F18_coder, F18_value, V18⟩ := hQ18
      have N18 := Fr.app N17 N18q
      have Z18 : n0 ≤ T18.heap.size := Nat.le_trans Z16 K18.1
      have KK18 := KK16.trans K18 all0
      have O18 := O16.keep K18 all0
      have C18 := C16.trans Cq18
      obtain ⟨cq19, kq19, q19a, q19b, q19c⟩ := isOf hZ rfl ((A15.keep K16).keep K18)
      obtain ⟨_, _, ⟨T19, L19, k19, n19⟩, -, X19, ⟨Lc19, hQ19, l19, y19, z19⟩, st19⟩ := X18.virtualBack hx (y := (⟨"java/lang/String", "equals", "(Ljava/lang/Object;)Z"⟩ : MethodName)) (z := (⟨"java/lang/String", "equals", "(Ljava/lang/Object;)Z"⟩ : MethodName)) hown (mvT hZ (hw _ (List.mem_of_getElem? (i := 37) rfl))) (mvT hZ (hw _ (List.mem_of_getElem? (i := 38) rfl))) (notFace_of_selects (args := #[]) (mvT hZ (hw _ (List.mem_of_getElem? (i := 40) rfl)))) (mvT hZ (hw _ (List.mem_of_getElem? (i := 40) rfl))) (mvT hZ (hw _ (List.mem_of_getElem? (i := 39) rfl))) (by decide) (backOf (W := 0) (rm6LL l Z a0 hw [] s15 s18 d15 d18 kc15 kc18 G_COMPACT T18.heap n0 Z18 O18 ((A15.keep K16).keep K18) ((F15_coder.keep K16 nin0).keep K18 nin0) ((F15_value.keep K16 nin0).keep K18 nin0) A18 F18_coder F18_value ((V15.keep K16 nin0).keep K18 nin0) V18 S_COMPACT P_COMPACT) hZ (hw _ (List.mem_of_getElem? (i := 41) rfl)) (hw _ (List.mem_of_getElem? (i := 26) rfl)) (by decide) (by decide)) q19a q19c (g := (mkF m 52 #[.val (.int u0), .val (.int u1), .val (.ref a_UPSTREAM), .val (.ref a_LIST), .val (.ref s14), .val (.ref s15), .unset, .unset, .unset] [(.ref s18), (.ref s15)])) rfl (by rw [hml]; rfl) (Steps.refl _) (argsL := [(.ref s18)]) (rest := []) (lenOf pd_5 rfl) rfl (by show 2 * 0 + _ ≤ _; exact Nat.le_of_eq rfl) (hb hby at_52) (fun _ _ => ⟨rfl, rfl, (by decide : 8 + 0 ≤ _), (by decide : 192 + 0 ≤ _)⟩)
      dsimp only [Pt.U, Pt.locs, Pt.cells, Pt.slots] at X19 l19 y19 z19 st19 hQ19
      subst l19 y19 z19
      obtain ⟨rfl, N19q, e19⟩ := hQ19
      have N19 := Fr.app N18 N19q
      obtain ⟨cq20, kq20, q20a, q20b, q20c⟩ := isOf hZ e19 (((A14.keep K15).keep K16).keep K18)
      obtain ⟨_, _, ⟨T20, L20, k20, n20⟩, -, X20, ⟨Lc20, hQ20, l20, y20, z20⟩, st20⟩ := X19.virtualBack hx (y := (⟨"java/lang/String", "equals", "(Ljava/lang/Object;)Z"⟩ : MethodName)) (z := (⟨"java/lang/String", "equals", "(Ljava/lang/Object;)Z"⟩ : MethodName)) hown (mvT hZ (hw _ (List.mem_of_getElem? (i := 37) rfl))) (mvT hZ (hw _ (List.mem_of_getElem? (i := 38) rfl))) (notFace_of_selects (args := #[]) (mvT hZ (hw _ (List.mem_of_getElem? (i := 40) rfl)))) (mvT hZ (hw _ (List.mem_of_getElem? (i := 40) rfl))) (mvT hZ (hw _ (List.mem_of_getElem? (i := 39) rfl))) (by decide) (backOf (W := 1) (rm6UL l Z a0 hw [] s14 s15 d14 d15 kc14 kc15 G_COMPACT T18.heap n0 Z18 O18 (((A14.keep K15).keep K16).keep K18) (((F14_coder.keep K15 nin0).keep K16 nin0).keep K18 nin0) (((F14_value.keep K15 nin0).keep K16 nin0).keep K18 nin0) ((A15.keep K16).keep K18) ((F15_coder.keep K16 nin0).keep K18 nin0) ((F15_value.keep K16 nin0).keep K18 nin0) (((V14.keep K15 nin0).keep K16 nin0).keep K18 nin0) ((V15.keep K16 nin0).keep K18 nin0) S_COMPACT P_COMPACT (own_strne (by decide) (((F14_value.keep K15 nin0).keep K16 nin0).keep K18 nin0) ((F15_value.keep K16 nin0).keep K18 nin0) (((V14.keep K15 nin0).keep K16 nin0).keep K18 nin0) ((V15.keep K16 nin0).keep K18 nin0))) hZ (hw _ (List.mem_of_getElem? (i := 41) rfl)) (hw _ (List.mem_of_getElem? (i := 26) rfl)) (by decide) (by decide)) q20a q20c (g := (mkF m 79 #[.val (.int u0), .val (.int u1), .val (.ref a_UPSTREAM), .val (.ref a_LIST), .val (.ref s14), .val (.ref s15), .val (.int (1 : Int32)), .unset, .unset] [(.ref s15), (.ref s14), (.int (0 : Int32))])) rfl (by rw [hml]; rfl) (Steps.refl _) (argsL := [(.ref s15)]) (rest := [(.int (0 : Int32))]) (lenOf pd_5 rfl) rfl (by show 2 * 0 + _ ≤ _; exact Nat.le_of_eq rfl) (hb hby at_79) (fun _ _ => ⟨rfl, e19, (by decide : 8 + 0 ≤ _), (by decide : 192 + 0 ≤ _)⟩)
      dsimp only [Pt.U, Pt.locs, Pt.cells, Pt.slots] at X20 l20 y20 z20 st20 hQ20
      subst l20 y20 z20
      obtain ⟨rfl, N20q, e20⟩ := hQ20
      have N20 := Fr.app N19 N20q
      obtain ⟨cq21, kq21, q21a, q21b, q21c⟩ := isOf hZ e20 (E_a_UPSTREAM.ext O18.2)
      obtain ⟨_, _, ⟨T21, L21, k21, n21⟩, -, X21, hS21, gr21, ⟨Lc21, hQ21, l21, y21, z21, Cq21⟩, st21⟩ := X20.virtualBackS hx (y := (⟨"com/example/backfill/backfill/engine/Lane", "requests", "()Ljava/lang/String;"⟩ : MethodName)) (z := (⟨"com/example/backfill/backfill/engine/Lane", "requests", "()Ljava/lang/String;"⟩ : MethodName)) hown (mvT hZ (hw _ (List.mem_of_getElem? (i := 11) rfl))) (mvT hZ (hw _ (List.mem_of_getElem? (i := 12) rfl))) (notFace_of_selects (args := #[]) (mvT hZ (hw _ (List.mem_of_getElem? (i := 14) rfl)))) (mvT hZ (hw _ (List.mem_of_getElem? (i := 14) rfl))) (mvT hZ (hw _ (List.mem_of_getElem? (i := 13) rfl))) (by decide) (backOfSH (W := 1) (rm3UPSTREAM l Z a0 hw [] a_UPSTREAM T18.heap n0 Z18 (E_a_UPSTREAM.ext O18.2) (O_UPSTREAM.ext O18.2)) hZ (hw _ (List.mem_of_getElem? (i := 15) rfl)) (hw _ (List.mem_of_getElem? (i := 9) rfl)) (by decide) (by decide) (hEL hw) C18.1) q21a q21c (g := (mkF m 95 #[.val (.int u0), .val (.int u1), .val (.ref a_UPSTREAM), .val (.ref a_LIST), .val (.ref s14), .val (.ref s15), .val (.int (1 : Int32)), .val (.int (1 : Int32)), .unset] [(.ref a_UPSTREAM), (.ref s14)])) rfl (by rw [hml]; rfl) (Steps.refl _) (argsL := []) (rest := [(.ref s14)]) (lenOf pd_1 rfl) rfl (by show 2 * 0 + _ ≤ _; exact Nat.le_of_eq rfl) (hb hby at_95) (fun _ _ => ⟨rfl, e20, (by decide : 8 + 2 ≤ _), (by decide : 192 + 52 ≤ _)⟩)
      dsimp only [Pt.U, Pt.locs, Pt.cells, Pt.slots] at X21 l21 y21 z21 st21 hQ21 hS21 gr21 Cq21
      subst l21 y21 z21
      obtain ⟨X21, hS21, hZ, hown⟩ := rebS hS18 (Nat.le_trans hk18 (Nat.le_of_eq (congrArg Array.size e20).symm)) X21 hS21 gr21 hZ hown
      have hk21 := Nat.le_refl T21.heap.size
      obtain ⟨s21, d21, kc21, rfl, N21q, K21, A21, F21_coder, F21_value, V21⟩ := hQ21
      have N21 := Fr.app N20 N21q
      have Z21 : n0 ≤ T21.heap.size := Nat.le_trans Z18 K21.1
      have KK21 := KK18.trans K21 all0
      have O21 := O18.keep K21 all0
      have C21 := C18.trans Cq21
      obtain ⟨cq22, kq22, q22a, q22b, q22c⟩ := isOf hZ rfl ((((A14.keep K15).keep K16).keep K18).keep K21)
      obtain ⟨_, _, ⟨T22, L22, k22, n22⟩, -, X22, ⟨Lc22, hQ22, l22, y22, z22⟩, st22⟩ := X21.virtualBack hx (y := (⟨"java/lang/String", "equals", "(Ljava/lang/Object;)Z"⟩ : MethodName)) (z := (⟨"java/lang/String", "equals", "(Ljava/lang/Object;)Z"⟩ : MethodName)) hown (mvT hZ (hw _ (List.mem_of_getElem? (i := 37) rfl))) (mvT hZ (hw _ (List.mem_of_getElem? (i := 38) rfl))) (notFace_of_selects (args := #[]) (mvT hZ (hw _ (List.mem_of_getElem? (i := 40) rfl)))) (mvT hZ (hw _ (List.mem_of_getElem? (i := 40) rfl))) (mvT hZ (hw _ (List.mem_of_getElem? (i := 39) rfl))) (by decide) (backOf (W := 0) (rm6UU l Z a0 hw [] s14 s21 d14 d21 kc14 kc21 G_COMPACT T21.heap n0 Z21 O21 ((((A14.keep K15).keep K16).keep K18).keep K21) ((((F14_coder.keep K15 nin0).keep K16 nin0).keep K18 nin0).keep K21 nin0) ((((F14_value.keep K15 nin0).keep K16 nin0).keep K18 nin0).keep K21 nin0) A21 F21_coder F21_value ((((V14.keep K15 nin0).keep K16 nin0).keep K18 nin0).keep K21 nin0) V21 S_COMPACT P_COMPACT) hZ (hw _ (List.mem_of_getElem? (i := 41) rfl)) (hw _ (List.mem_of_getElem? (i := 26) rfl)) (by decide) (by decide)) q22a q22c (g := (mkF m 98 #[.val (.int u0), .val (.int u1), .val (.ref a_UPSTREAM), .val (.ref a_LIST), .val (.ref s14), .val (.ref s15), .val (.int (1 : Int32)), .val (.int (1 : Int32)), .unset] [(.ref s21), (.ref s14)])) rfl (by rw [hml]; rfl) (Steps.refl _) (argsL := [(.ref s21)]) (rest := []) (lenOf pd_5 rfl) rfl (by show 2 * 0 + _ ≤ _; exact Nat.le_of_eq rfl) (hb hby at_98) (fun _ _ => ⟨rfl, rfl, (by decide : 10 + 0 ≤ _), (by decide : 244 + 0 ≤ _)⟩)
      dsimp only [Pt.U, Pt.locs, Pt.cells, Pt.slots] at X22 l22 y22 z22 st22 hQ22
      subst l22 y22 z22
      obtain ⟨rfl, N22q, e22⟩ := hQ22
      have N22 := Fr.app N21 N22q
      obtain ⟨fs, hr, hrun, hended, hE⟩ := X22.leaveW hS21 (Nat.le_trans hk21 (Nat.le_of_eq (congrArg Array.size e22).symm)) (v := some (.int (1 : Int32))) (fun h => by rw [Bd.returns] at h; cases h)
      refine ⟨_, _, pre0 _ ?_, hrun, hended, _, _, rfl, ?_, ?_, own_monoW hE (by decide) (by decide)⟩
      · show Steps p.tables e below (s₁.setTop (mkF m 0 #[.val (.int u0), .val (.int u1), .unset, .unset, .unset, .unset, .unset, .unset, .unset] [])) _
        refine XS.iloadN X0.here hx rfl (hb hby at_0) rfl ?_
        show Steps p.tables e below (s₁.setTop (mkF m 1 #[.val (.int u0), .val (.int u1), .unset, .unset, .unset, .unset, .unset, .unset, .unset] [(.int u0)])) _
        refine st12 _ ?_
        show Steps p.tables e below (T12.setTop (mkF m 4 #[.val (.int u0), .val (.int u1), .unset, .unset, .unset, .unset, .unset, .unset, .unset] [(.ref a_UPSTREAM)])) _
        refine XS.astoreN X12.here hx rfl (hb hby at_4) rfl rfl (l' := #[.val (.int u0), .val (.int u1), .val (.ref a_UPSTREAM), .unset, .unset, .unset, .unset, .unset, .unset]) rfl ?_
        show Steps p.tables e below (T12.setTop (mkF m 5 #[.val (.int u0), .val (.int u1), .val (.ref a_UPSTREAM), .unset, .unset, .unset, .unset, .unset, .unset] [])) _
        refine XS.iloadN X12.here hx rfl (hb hby at_5) rfl ?_
        show Steps p.tables e below (T12.setTop (mkF m 6 #[.val (.int u0), .val (.int u1), .val (.ref a_UPSTREAM), .unset, .unset, .unset, .unset, .unset, .unset] [(.int u1)])) _
        refine st13 _ ?_
        show Steps p.tables e below (T13.setTop (mkF m 9 #[.val (.int u0), .val (.int u1), .val (.ref a_UPSTREAM), .unset, .unset, .unset, .unset, .unset, .unset] [(.ref a_LIST)])) _
        refine XS.astoreN X13.here hx rfl (hb hby at_9) rfl rfl (l' := #[.val (.int u0), .val (.int u1), .val (.ref a_UPSTREAM), .val (.ref a_LIST), .unset, .unset, .unset, .unset, .unset]) rfl ?_
        show Steps p.tables e below (T13.setTop (mkF m 10 #[.val (.int u0), .val (.int u1), .val (.ref a_UPSTREAM), .val (.ref a_LIST), .unset, .unset, .unset, .unset, .unset] [])) _
        refine XS.aloadN X13.here hx rfl (hb hby at_10) rfl rfl ?_
        show Steps p.tables e below (T13.setTop (mkF m 11 #[.val (.int u0), .val (.int u1), .val (.ref a_UPSTREAM), .val (.ref a_LIST), .unset, .unset, .unset, .unset, .unset] [(.ref a_UPSTREAM)])) _
        refine st14.trans ?_
        show Steps p.tables e below (T14.setTop (mkF m 14 #[.val (.int u0), .val (.int u1), .val (.ref a_UPSTREAM), .val (.ref a_LIST), .unset, .unset, .unset, .unset, .unset] [(.ref s14)])) _
        refine XS.astore X14.here hx rfl (hb hby at_14) rfl rfl (l' := #[.val (.int u0), .val (.int u1), .val (.ref a_UPSTREAM), .val (.ref a_LIST), .val (.ref s14), .unset, .unset, .unset, .unset]) rfl ?_
        show Steps p.tables e below (T14.setTop (mkF m 16 #[.val (.int u0), .val (.int u1), .val (.ref a_UPSTREAM), .val (.ref a_LIST), .val (.ref s14), .unset, .unset, .unset, .unset] [])) _
        refine XS.aloadN X14.here hx rfl (hb hby at_16) rfl rfl ?_
        show Steps p.tables e below (T14.setTop (mkF m 17 #[.val (.int u0), .val (.int u1), .val (.ref a_UPSTREAM), .val (.ref a_LIST), .val (.ref s14), .unset, .unset, .unset, .unset] [(.ref a_LIST)])) _
        refine st15.trans ?_
        show Steps p.tables e below (T15.setTop (mkF m 20 #[.val (.int u0), .val (.int u1), .val (.ref a_UPSTREAM), .val (.ref a_LIST), .val (.ref s14), .unset, .unset, .unset, .unset] [(.ref s15)])) _
        refine XS.astore X15.here hx rfl (hb hby at_20) rfl rfl (l' := #[.val (.int u0), .val (.int u1), .val (.ref a_UPSTREAM), .val (.ref a_LIST), .val (.ref s14), .val (.ref s15), .unset, .unset, .unset]) rfl ?_
        show Steps p.tables e below (T15.setTop (mkF m 22 #[.val (.int u0), .val (.int u1), .val (.ref a_UPSTREAM), .val (.ref a_LIST), .val (.ref s14), .val (.ref s15), .unset, .unset, .unset] [])) _
        refine XS.aload X15.here hx rfl (hb hby at_22) rfl rfl ?_
        show Steps p.tables e below (T15.setTop (mkF m 24 #[.val (.int u0), .val (.int u1), .val (.ref a_UPSTREAM), .val (.ref a_LIST), .val (.ref s14), .val (.ref s15), .unset, .unset, .unset] [(.ref s14)])) _
        refine XS.ifnullNo X15.here hx rfl (hb hby at_24) rfl ?_
        show Steps p.tables e below (T15.setTop (mkF m 27 #[.val (.int u0), .val (.int u1), .val (.ref a_UPSTREAM), .val (.ref a_LIST), .val (.ref s14), .val (.ref s15), .unset, .unset, .unset] [])) _
        refine XS.aload X15.here hx rfl (hb hby at_27) rfl rfl ?_
        show Steps p.tables e below (T15.setTop (mkF m 29 #[.val (.int u0), .val (.int u1), .val (.ref a_UPSTREAM), .val (.ref a_LIST), .val (.ref s14), .val (.ref s15), .unset, .unset, .unset] [(.ref s15)])) _
        refine XS.ifnonnullYes X15.here hx rfl (pc0 := 29) (pc' := 34) rfl (hb hby at_29) rfl (by decide) (by decide) ?_
        show Steps p.tables e below (T15.setTop (mkF m 34 #[.val (.int u0), .val (.int u1), .val (.ref a_UPSTREAM), .val (.ref a_LIST), .val (.ref s14), .val (.ref s15), .unset, .unset, .unset] [])) _
        refine XS.aload X15.here hx rfl (hb hby at_34) rfl rfl ?_
        show Steps p.tables e below (T15.setTop (mkF m 36 #[.val (.int u0), .val (.int u1), .val (.ref a_UPSTREAM), .val (.ref a_LIST), .val (.ref s14), .val (.ref s15), .unset, .unset, .unset] [(.ref s14)])) _
        refine XS.iloadN X15.here hx rfl (hb hby at_36) rfl ?_
        show Steps p.tables e below (T15.setTop (mkF m 37 #[.val (.int u0), .val (.int u1), .val (.ref a_UPSTREAM), .val (.ref a_LIST), .val (.ref s14), .val (.ref s15), .unset, .unset, .unset] [(.int u0), (.ref s14)])) _
        refine st16.trans ?_
        show Steps p.tables e below (T16.setTop (mkF m 40 #[.val (.int u0), .val (.int u1), .val (.ref a_UPSTREAM), .val (.ref a_LIST), .val (.ref s14), .val (.ref s15), .unset, .unset, .unset] [(.ref s16), (.ref s14)])) _
        refine st17.trans ?_
        show Steps p.tables e below (T17.setTop (mkF m 43 #[.val (.int u0), .val (.int u1), .val (.ref a_UPSTREAM), .val (.ref a_LIST), .val (.ref s14), .val (.ref s15), .unset, .unset, .unset] [(.int (1 : Int32))])) _
        refine XS.ifNo X17.here hx rfl (hb hby at_43) rfl ((if0 _ _).trans (feq (by decide)).1) ?_
        show Steps p.tables e below (T17.setTop (mkF m 46 #[.val (.int u0), .val (.int u1), .val (.ref a_UPSTREAM), .val (.ref a_LIST), .val (.ref s14), .val (.ref s15), .unset, .unset, .unset] [])) _
        refine XS.aload X17.here hx rfl (hb hby at_46) rfl rfl ?_
        show Steps p.tables e below (T17.setTop (mkF m 48 #[.val (.int u0), .val (.int u1), .val (.ref a_UPSTREAM), .val (.ref a_LIST), .val (.ref s14), .val (.ref s15), .unset, .unset, .unset] [(.ref s15)])) _
        refine XS.iloadN X17.here hx rfl (hb hby at_48) rfl ?_
        show Steps p.tables e below (T17.setTop (mkF m 49 #[.val (.int u0), .val (.int u1), .val (.ref a_UPSTREAM), .val (.ref a_LIST), .val (.ref s14), .val (.ref s15), .unset, .unset, .unset] [(.int u1), (.ref s15)])) _
        refine st18.trans ?_
        show Steps p.tables e below (T18.setTop (mkF m 52 #[.val (.int u0), .val (.int u1), .val (.ref a_UPSTREAM), .val (.ref a_LIST), .val (.ref s14), .val (.ref s15), .unset, .unset, .unset] [(.ref s18), (.ref s15)])) _
        refine st19.trans ?_
        show Steps p.tables e below (T19.setTop (mkF m 55 #[.val (.int u0), .val (.int u1), .val (.ref a_UPSTREAM), .val (.ref a_LIST), .val (.ref s14), .val (.ref s15), .unset, .unset, .unset] [(.int (1 : Int32))])) _
        refine XS.ifNo X19.here hx rfl (hb hby at_55) rfl ((if0 _ _).trans (feq (by decide)).1) ?_
        show Steps p.tables e below (T19.setTop (mkF m 58 #[.val (.int u0), .val (.int u1), .val (.ref a_UPSTREAM), .val (.ref a_LIST), .val (.ref s14), .val (.ref s15), .unset, .unset, .unset] [])) _
        refine XS.iconst X19.here hx rfl (hb hby at_58) ?_
        show Steps p.tables e below (T19.setTop (mkF m 59 #[.val (.int u0), .val (.int u1), .val (.ref a_UPSTREAM), .val (.ref a_LIST), .val (.ref s14), .val (.ref s15), .unset, .unset, .unset] [(.int (1 : Int32))])) _
        refine XS.goto X19.here hx rfl (pc0 := 59) (pc' := 63) rfl (hb hby at_59) (by decide) (by decide) ?_
        show Steps p.tables e below (T19.setTop (mkF m 63 #[.val (.int u0), .val (.int u1), .val (.ref a_UPSTREAM), .val (.ref a_LIST), .val (.ref s14), .val (.ref s15), .unset, .unset, .unset] [(.int (1 : Int32))])) _
        refine XS.istore X19.here hx rfl (hb hby at_63) rfl (l' := #[.val (.int u0), .val (.int u1), .val (.ref a_UPSTREAM), .val (.ref a_LIST), .val (.ref s14), .val (.ref s15), .val (.int (1 : Int32)), .unset, .unset]) rfl ?_
        show Steps p.tables e below (T19.setTop (mkF m 65 #[.val (.int u0), .val (.int u1), .val (.ref a_UPSTREAM), .val (.ref a_LIST), .val (.ref s14), .val (.ref s15), .val (.int (1 : Int32)), .unset, .unset] [])) _
        refine XS.aloadN X19.here hx rfl (hb hby at_65) rfl rfl ?_
        show Steps p.tables e below (T19.setTop (mkF m 66 #[.val (.int u0), .val (.int u1), .val (.ref a_UPSTREAM), .val (.ref a_LIST), .val (.ref s14), .val (.ref s15), .val (.int (1 : Int32)), .unset, .unset] [(.ref a_UPSTREAM)])) _
        refine XS.aloadN X19.here hx rfl (hb hby at_66) rfl rfl ?_
        show Steps p.tables e below (T19.setTop (mkF m 67 #[.val (.int u0), .val (.int u1), .val (.ref a_UPSTREAM), .val (.ref a_LIST), .val (.ref s14), .val (.ref s15), .val (.int (1 : Int32)), .unset, .unset] [(.ref a_LIST), (.ref a_UPSTREAM)])) _
        refine Jvm.RoadKit.acmp (g := (mkF m 67 #[.val (.int u0), .val (.int u1), .val (.ref a_UPSTREAM), .val (.ref a_LIST), .val (.ref s14), .val (.ref s15), .val (.int (1 : Int32)), .unset, .unset] [(.ref a_LIST), (.ref a_UPSTREAM)])) X19 hx rfl rfl rfl (pc0 := 67) (pc' := 74) (same := false) rfl (hb hby at_67) rfl (decide_eq_false fun q => ne_UPSTREAM_LIST (Value.ref.inj q)) (by decide) (by decide) ?_
        show Steps p.tables e below (T19.setTop (mkF m 74 #[.val (.int u0), .val (.int u1), .val (.ref a_UPSTREAM), .val (.ref a_LIST), .val (.ref s14), .val (.ref s15), .val (.int (1 : Int32)), .unset, .unset] [])) _
        refine XS.iconst X19.here hx rfl (hb hby at_74) ?_
        show Steps p.tables e below (T19.setTop (mkF m 75 #[.val (.int u0), .val (.int u1), .val (.ref a_UPSTREAM), .val (.ref a_LIST), .val (.ref s14), .val (.ref s15), .val (.int (1 : Int32)), .unset, .unset] [(.int (0 : Int32))])) _
        refine XS.aload X19.here hx rfl (hb hby at_75) rfl rfl ?_
        show Steps p.tables e below (T19.setTop (mkF m 77 #[.val (.int u0), .val (.int u1), .val (.ref a_UPSTREAM), .val (.ref a_LIST), .val (.ref s14), .val (.ref s15), .val (.int (1 : Int32)), .unset, .unset] [(.ref s14), (.int (0 : Int32))])) _
        refine XS.aload X19.here hx rfl (hb hby at_77) rfl rfl ?_
        show Steps p.tables e below (T19.setTop (mkF m 79 #[.val (.int u0), .val (.int u1), .val (.ref a_UPSTREAM), .val (.ref a_LIST), .val (.ref s14), .val (.ref s15), .val (.int (1 : Int32)), .unset, .unset] [(.ref s15), (.ref s14), (.int (0 : Int32))])) _
        refine st20.trans ?_
        show Steps p.tables e below (T20.setTop (mkF m 82 #[.val (.int u0), .val (.int u1), .val (.ref a_UPSTREAM), .val (.ref a_LIST), .val (.ref s14), .val (.ref s15), .val (.int (1 : Int32)), .unset, .unset] [(.int (0 : Int32)), (.int (0 : Int32))])) _
        refine XS.icmpNo X20.here hx rfl (hb hby at_82) rfl (teq (by decide)).2 ?_
        show Steps p.tables e below (T20.setTop (mkF m 85 #[.val (.int u0), .val (.int u1), .val (.ref a_UPSTREAM), .val (.ref a_LIST), .val (.ref s14), .val (.ref s15), .val (.int (1 : Int32)), .unset, .unset] [])) _
        refine XS.iconst X20.here hx rfl (hb hby at_85) ?_
        show Steps p.tables e below (T20.setTop (mkF m 86 #[.val (.int u0), .val (.int u1), .val (.ref a_UPSTREAM), .val (.ref a_LIST), .val (.ref s14), .val (.ref s15), .val (.int (1 : Int32)), .unset, .unset] [(.int (1 : Int32))])) _
        refine XS.goto X20.here hx rfl (pc0 := 86) (pc' := 90) rfl (hb hby at_86) (by decide) (by decide) ?_
        show Steps p.tables e below (T20.setTop (mkF m 90 #[.val (.int u0), .val (.int u1), .val (.ref a_UPSTREAM), .val (.ref a_LIST), .val (.ref s14), .val (.ref s15), .val (.int (1 : Int32)), .unset, .unset] [(.int (1 : Int32))])) _
        refine XS.istore X20.here hx rfl (hb hby at_90) rfl (l' := #[.val (.int u0), .val (.int u1), .val (.ref a_UPSTREAM), .val (.ref a_LIST), .val (.ref s14), .val (.ref s15), .val (.int (1 : Int32)), .val (.int (1 : Int32)), .unset]) rfl ?_
        show Steps p.tables e below (T20.setTop (mkF m 92 #[.val (.int u0), .val (.int u1), .val (.ref a_UPSTREAM), .val (.ref a_LIST), .val (.ref s14), .val (.ref s15), .val (.int (1 : Int32)), .val (.int (1 : Int32)), .unset] [])) _
        refine XS.aload X20.here hx rfl (hb hby at_92) rfl rfl ?_
        show Steps p.tables e below (T20.setTop (mkF m 94 #[.val (.int u0), .val (.int u1), .val (.ref a_UPSTREAM), .val (.ref a_LIST), .val (.ref s14), .val (.ref s15), .val (.int (1 : Int32)), .val (.int (1 : Int32)), .unset] [(.ref s14)])) _
        refine XS.aloadN X20.here hx rfl (hb hby at_94) rfl rfl ?_
        show Steps p.tables e below (T20.setTop (mkF m 95 #[.val (.int u0), .val (.int u1), .val (.ref a_UPSTREAM), .val (.ref a_LIST), .val (.ref s14), .val (.ref s15), .val (.int (1 : Int32)), .val (.int (1 : Int32)), .unset] [(.ref a_UPSTREAM), (.ref s14)])) _
        refine st21.trans ?_
        show Steps p.tables e below (T21.setTop (mkF m 98 #[.val (.int u0), .val (.int u1), .val (.ref a_UPSTREAM), .val (.ref a_LIST), .val (.ref s14), .val (.ref s15), .val (.int (1 : Int32)), .val (.int (1 : Int32)), .unset] [(.ref s21), (.ref s14)])) _
        refine st22.trans ?_
        show Steps p.tables e below (T22.setTop (mkF m 101 #[.val (.int u0), .val (.int u1), .val (.ref a_UPSTREAM), .val (.ref a_LIST), .val (.ref s14), .val (.ref s15), .val (.int (1 : Int32)), .val (.int (1 : Int32)), .unset] [(.int (1 : Int32))])) _
        refine XS.istore X22.here hx rfl (hb hby at_101) rfl (l' := #[.val (.int u0), .val (.int u1), .val (.ref a_UPSTREAM), .val (.ref a_LIST), .val (.ref s14), .val (.ref s15), .val (.int (1 : Int32)), .val (.int (1 : Int32)), .val (.int (1 : Int32))]) rfl ?_
        show Steps p.tables e below (T22.setTop (mkF m 103 #[.val (.int u0), .val (.int u1), .val (.ref a_UPSTREAM), .val (.ref a_LIST), .val (.ref s14), .val (.ref s15), .val (.int (1 : Int32)), .val (.int (1 : Int32)), .val (.int (1 : Int32))] [])) _
        refine XS.iload X22.here hx rfl (hb hby at_103) rfl ?_
        show Steps p.tables e below (T22.setTop (mkF m 105 #[.val (.int u0), .val (.int u1), .val (.ref a_UPSTREAM), .val (.ref a_LIST), .val (.ref s14), .val (.ref s15), .val (.int (1 : Int32)), .val (.int (1 : Int32)), .val (.int (1 : Int32))] [(.int (1 : Int32))])) _
        refine XS.ifNo X22.here hx rfl (hb hby at_105) rfl ((if0 _ _).trans (feq (by decide)).1) ?_
        show Steps p.tables e below (T22.setTop (mkF m 108 #[.val (.int u0), .val (.int u1), .val (.ref a_UPSTREAM), .val (.ref a_LIST), .val (.ref s14), .val (.ref s15), .val (.int (1 : Int32)), .val (.int (1 : Int32)), .val (.int (1 : Int32))] [])) _
        refine XS.iload X22.here hx rfl (hb hby at_108) rfl ?_
        show Steps p.tables e below (T22.setTop (mkF m 110 #[.val (.int u0), .val (.int u1), .val (.ref a_UPSTREAM), .val (.ref a_LIST), .val (.ref s14), .val (.ref s15), .val (.int (1 : Int32)), .val (.int (1 : Int32)), .val (.int (1 : Int32))] [(.int (1 : Int32))])) _
        refine XS.ifNo X22.here hx rfl (hb hby at_110) rfl ((if0 _ _).trans (feq (by decide)).1) ?_
        show Steps p.tables e below (T22.setTop (mkF m 113 #[.val (.int u0), .val (.int u1), .val (.ref a_UPSTREAM), .val (.ref a_LIST), .val (.ref s14), .val (.ref s15), .val (.int (1 : Int32)), .val (.int (1 : Int32)), .val (.int (1 : Int32))] [])) _
        refine XS.iload X22.here hx rfl (hb hby at_113) rfl ?_
        show Steps p.tables e below (T22.setTop (mkF m 115 #[.val (.int u0), .val (.int u1), .val (.ref a_UPSTREAM), .val (.ref a_LIST), .val (.ref s14), .val (.ref s15), .val (.int (1 : Int32)), .val (.int (1 : Int32)), .val (.int (1 : Int32))] [(.int (1 : Int32))])) _
        refine XS.ifNo X22.here hx rfl (hb hby at_115) rfl ((if0 _ _).trans (feq (by decide)).1) ?_
        show Steps p.tables e below (T22.setTop (mkF m 118 #[.val (.int u0), .val (.int u1), .val (.ref a_UPSTREAM), .val (.ref a_LIST), .val (.ref s14), .val (.ref s15), .val (.int (1 : Int32)), .val (.int (1 : Int32)), .val (.int (1 : Int32))] [])) _
        refine XS.iconst X22.here hx rfl (hb hby at_118) ?_
        show Steps p.tables e below (T22.setTop (mkF m 119 #[.val (.int u0), .val (.int u1), .val (.ref a_UPSTREAM), .val (.ref a_LIST), .val (.ref s14), .val (.ref s15), .val (.int (1 : Int32)), .val (.int (1 : Int32)), .val (.int (1 : Int32))] [(.int (1 : Int32))])) _
        refine XS.goto X22.here hx rfl (pc0 := 119) (pc' := 123) rfl (hb hby at_119) (by decide) (by decide) ?_
        show Steps p.tables e below (T22.setTop (mkF m 123 #[.val (.int u0), .val (.int u1), .val (.ref a_UPSTREAM), .val (.ref a_LIST), .val (.ref s14), .val (.ref s15), .val (.int (1 : Int32)), .val (.int (1 : Int32)), .val (.int (1 : Int32))] [(.int (1 : Int32))])) _
        exact retN X22 hx (t := .boolean) Bd.returns (by simp) (hb hby at_123) hr
      · show Q0 Z u0 u1 a_UPSTREAM a_LIST a_ITEM G_COMPACT h0 n0 _ T22.heap _
        rw [e22]
        exact ⟨rfl, N22⟩
      · show CHr Z EL s.vm s.heap T22.vm T22.heap
        rw [e22]
        rw [hh]
        exact C21.trans (CHv.at X22 hZ (hEL hw) C21.1)
    · obtain ⟨_, _, ⟨T23, L23, k23, n23⟩, -, X23, ⟨Lc23, hQ23, l23, y23, z23⟩, st23⟩ := Jvm.LawKit.callS X0 hx (y := (⟨"com/example/backfill/backfill/engine/LaneRequestsPinLaw", "pick", "(I)Lcom/example/backfill/backfill/engine/Lane;"⟩ : MethodName)) hown (mvT hZ (hw _ (List.mem_of_getElem? (i := 0) rfl))) (mvT hZ (hw _ (List.mem_of_getElem? (i := 1) rfl))) (mvT hZ (hw _ (List.mem_of_getElem? (i := 2) rfl))) (mvT hZ (hw _ (List.mem_of_getElem? (i := 3) rfl))) (by decide) (backOf (W := 0) (rm1 l Z a0 hw [] u0 a_UPSTREAM a_LIST a_ITEM h0 n0 Z0 O0 S_UPSTREAM S_LIST S_ITEM) hZ (hw _ (List.mem_of_getElem? (i := 3) rfl)) (hw _ (List.mem_of_getElem? (i := 2) rfl)) (by decide) (by decide)) (g := (mkF m 1 #[.val (.int u0), .val (.int u1), .unset, .unset, .unset, .unset, .unset, .unset, .unset] [(.int u0)])) rfl (by rw [hml]; rfl) (argsL := [(.int u0)]) (rest := []) (lenOf pd_3 rfl) rfl (by show 2 * 0 + _ ≤ _; exact Nat.le_of_eq rfl) (hb hby at_1) (fun _ _ => ⟨rfl, e0, (by decide : 0 + 0 ≤ _), (by decide : 0 + 0 ≤ _)⟩)
      dsimp only [Pt.U, Pt.locs, Pt.cells, Pt.slots] at X23 l23 y23 z23 st23 hQ23
      subst l23 y23 z23
      obtain ⟨hv23, N23q, e23⟩ := hQ23
      rw [hp0.2] at hv23
      subst hv23
      have N23 := Fr.app N0 N23q
      obtain ⟨_, _, ⟨T24, L24, k24, n24⟩, -, X24, ⟨Lc24, hQ24, l24, y24, z24⟩, st24⟩ := Jvm.LawKit.callS X23 hx (y := (⟨"com/example/backfill/backfill/engine/LaneRequestsPinLaw", "pick", "(I)Lcom/example/backfill/backfill/engine/Lane;"⟩ : MethodName)) hown (mvT hZ (hw _ (List.mem_of_getElem? (i := 0) rfl))) (mvT hZ (hw _ (List.mem_of_getElem? (i := 1) rfl))) (mvT hZ (hw _ (List.mem_of_getElem? (i := 2) rfl))) (mvT hZ (hw _ (List.mem_of_getElem? (i := 3) rfl))) (by decide) (backOf (W := 0) (rm1 l Z a0 hw [] u1 a_UPSTREAM a_LIST a_ITEM h0 n0 Z0 O0 S_UPSTREAM S_LIST S_ITEM) hZ (hw _ (List.mem_of_getElem? (i := 3) rfl)) (hw _ (List.mem_of_getElem? (i := 2) rfl)) (by decide) (by decide)) (g := (mkF m 6 #[.val (.int u0), .val (.int u1), .val (.ref a_UPSTREAM), .unset, .unset, .unset, .unset, .unset, .unset] [(.int u1)])) rfl (by rw [hml]; rfl) (argsL := [(.int u1)]) (rest := []) (lenOf pd_3 rfl) rfl (by show 2 * 0 + _ ≤ _; exact Nat.le_of_eq rfl) (hb hby at_6) (fun _ _ => ⟨rfl, e23, (by decide : 0 + 0 ≤ _), (by decide : 0 + 0 ≤ _)⟩)
      dsimp only [Pt.U, Pt.locs, Pt.cells, Pt.slots] at X24 l24 y24 z24 st24 hQ24
      subst l24 y24 z24
      obtain ⟨hv24, N24q, e24⟩ := hQ24
      rw [hp1.2] at hv24
      subst hv24
      have N24 := Fr.app N23 N24q
      obtain ⟨cq25, kq25, q25a, q25b, q25c⟩ := isOf hZ e24 (E_a_UPSTREAM.ext O0.2)
      obtain ⟨_, _, ⟨T25, L25, k25, n25⟩, -, X25, hS25, gr25, ⟨Lc25, hQ25, l25, y25, z25, Cq25⟩, st25⟩ := X24.virtualBackS hx (y := (⟨"com/example/backfill/backfill/engine/Lane", "requests", "()Ljava/lang/String;"⟩ : MethodName)) (z := (⟨"com/example/backfill/backfill/engine/Lane", "requests", "()Ljava/lang/String;"⟩ : MethodName)) hown (mvT hZ (hw _ (List.mem_of_getElem? (i := 11) rfl))) (mvT hZ (hw _ (List.mem_of_getElem? (i := 12) rfl))) (notFace_of_selects (args := #[]) (mvT hZ (hw _ (List.mem_of_getElem? (i := 14) rfl)))) (mvT hZ (hw _ (List.mem_of_getElem? (i := 14) rfl))) (mvT hZ (hw _ (List.mem_of_getElem? (i := 13) rfl))) (by decide) (backOfSH (W := 0) (rm3UPSTREAM l Z a0 hw [] a_UPSTREAM h0 n0 Z0 (E_a_UPSTREAM.ext O0.2) (O_UPSTREAM.ext O0.2)) hZ (hw _ (List.mem_of_getElem? (i := 15) rfl)) (hw _ (List.mem_of_getElem? (i := 9) rfl)) (by decide) (by decide) (hEL hw) C0.1) q25a q25c (g := (mkF m 11 #[.val (.int u0), .val (.int u1), .val (.ref a_UPSTREAM), .val (.ref a_ITEM), .unset, .unset, .unset, .unset, .unset] [(.ref a_UPSTREAM)])) rfl (by rw [hml]; rfl) (Steps.refl _) (argsL := []) (rest := []) (lenOf pd_1 rfl) rfl (by show 2 * 0 + _ ≤ _; exact Nat.le_of_eq rfl) (hb hby at_11) (fun _ _ => ⟨rfl, e24, (by decide : 0 + 2 ≤ _), (by decide : 0 + 52 ≤ _)⟩)
      dsimp only [Pt.U, Pt.locs, Pt.cells, Pt.slots] at X25 l25 y25 z25 st25 hQ25 hS25 gr25 Cq25
      subst l25 y25 z25
      obtain ⟨X25, hS25, hZ, hown⟩ := rebS hS0 (Nat.le_trans hk0 (Nat.le_of_eq (congrArg Array.size e24).symm)) X25 hS25 gr25 hZ hown
      have hk25 := Nat.le_refl T25.heap.size
      obtain ⟨s25, d25, kc25, rfl, N25q, K25, A25, F25_coder, F25_value, V25⟩ := hQ25
      have N25 := Fr.app N24 N25q
      have Z25 : n0 ≤ T25.heap.size := Nat.le_trans Z0 K25.1
      have KK25 := (Keep.refl h0 []).trans K25 all0
      have O25 := O0.keep K25 all0
      have C25 := C0.trans Cq25
      obtain ⟨cq26, kq26, q26a, q26b, q26c⟩ := isOf hZ rfl (E_a_ITEM.ext O25.2)
      obtain ⟨_, _, ⟨T26, L26, k26, n26⟩, -, X26, hS26, gr26, ⟨Lc26, hQ26, l26, y26, z26, Cq26⟩, st26⟩ := X25.virtualBackS hx (y := (⟨"com/example/backfill/backfill/engine/Lane", "requests", "()Ljava/lang/String;"⟩ : MethodName)) (z := (⟨"com/example/backfill/backfill/engine/Lane", "requests", "()Ljava/lang/String;"⟩ : MethodName)) hown (mvT hZ (hw _ (List.mem_of_getElem? (i := 11) rfl))) (mvT hZ (hw _ (List.mem_of_getElem? (i := 12) rfl))) (notFace_of_selects (args := #[]) (mvT hZ (hw _ (List.mem_of_getElem? (i := 14) rfl)))) (mvT hZ (hw _ (List.mem_of_getElem? (i := 14) rfl))) (mvT hZ (hw _ (List.mem_of_getElem? (i := 13) rfl))) (by decide) (backOfSH (W := 0) (rm3ITEM l Z a0 hw [] a_ITEM T25.heap n0 Z25 (E_a_ITEM.ext O25.2) (O_ITEM.ext O25.2)) hZ (hw _ (List.mem_of_getElem? (i := 15) rfl)) (hw _ (List.mem_of_getElem? (i := 9) rfl)) (by decide) (by decide) (hEL hw) C25.1) q26a q26c (g := (mkF m 17 #[.val (.int u0), .val (.int u1), .val (.ref a_UPSTREAM), .val (.ref a_ITEM), .val (.ref s25), .unset, .unset, .unset, .unset] [(.ref a_ITEM)])) rfl (by rw [hml]; rfl) (Steps.refl _) (argsL := []) (rest := []) (lenOf pd_1 rfl) rfl (by show 2 * 0 + _ ≤ _; exact Nat.le_of_eq rfl) (hb hby at_17) (fun _ _ => ⟨rfl, rfl, (by decide : 2 + 2 ≤ _), (by decide : 52 + 24 ≤ _)⟩)
      dsimp only [Pt.U, Pt.locs, Pt.cells, Pt.slots] at X26 l26 y26 z26 st26 hQ26 hS26 gr26 Cq26
      subst l26 y26 z26
      obtain ⟨X26, hS26, hZ, hown⟩ := rebS hS25 (Nat.le_trans hk25 (Nat.le_of_eq (congrArg Array.size rfl).symm)) X26 hS26 gr26 hZ hown
      have hk26 := Nat.le_refl T26.heap.size
      obtain ⟨s26, d26, kc26, rfl, N26q, K26, A26, F26_coder, F26_value, V26⟩ := hQ26
      have N26 := Fr.app N25 N26q
      have Z26 : n0 ≤ T26.heap.size := Nat.le_trans Z25 K26.1
      have KK26 := KK25.trans K26 all0
      have O26 := O25.keep K26 all0
      have C26 := C25.trans Cq26
      obtain ⟨_, _, ⟨T27, L27, k27, n27⟩, -, X27, hS27, gr27, ⟨Lc27, hQ27, l27, y27, z27, Cq27⟩, st27⟩ := callSS X26 hx (y := (⟨"com/example/backfill/backfill/engine/LaneRequestsPinLaw", "expected", "(I)Ljava/lang/String;"⟩ : MethodName)) hown (mvT hZ (hw _ (List.mem_of_getElem? (i := 33) rfl))) (mvT hZ (hw _ (List.mem_of_getElem? (i := 34) rfl))) (mvT hZ (hw _ (List.mem_of_getElem? (i := 2) rfl))) (mvT hZ (hw _ (List.mem_of_getElem? (i := 35) rfl))) (by decide) (backOfSH (W := 1) (rm5UPSTREAM l Z a0 hw [] u0 T26.heap n0 Z26 hp0.1) hZ (hw _ (List.mem_of_getElem? (i := 35) rfl)) (hw _ (List.mem_of_getElem? (i := 2) rfl)) (by decide) (by decide) (hEL hw) C26.1) (g := (mkF m 37 #[.val (.int u0), .val (.int u1), .val (.ref a_UPSTREAM), .val (.ref a_ITEM), .val (.ref s25), .val (.ref s26), .unset, .unset, .unset] [(.int u0), (.ref s25)])) rfl (by rw [hml]; rfl) (argsL := [(.int u0)]) (rest := [(.ref s25)]) (lenOf pd_4 rfl) rfl (by show 2 * 0 + _ ≤ _; exact Nat.le_of_eq rfl) (hb hby at_37) (fun _ _ => ⟨rfl, rfl, (by decide : 4 + 2 ≤ _), (by decide : 76 + 52 ≤ _)⟩)
      dsimp only [Pt.U, Pt.locs, Pt.cells, Pt.slots] at X27 l27 y27 z27 st27 hQ27 hS27 gr27 Cq27
      subst l27 y27 z27
      obtain ⟨X27, hS27, hZ, hown⟩ := rebS hS26 (Nat.le_trans hk26 (Nat.le_of_eq (congrArg Array.size rfl).symm)) X27 hS27 gr27 hZ hown
      have hk27 := Nat.le_refl T27.heap.size
      obtain ⟨s27, d27, kc27, rfl, N27q, K27, A27, F27_coder, F27_value, V27⟩ := hQ27
      have N27 := Fr.app N26 N27q
      have Z27 : n0 ≤ T27.heap.size := Nat.le_trans Z26 K27.1
      have KK27 := KK26.trans K27 all0
      have O27 := O26.keep K27 all0
      have C27 := C26.trans Cq27
      obtain ⟨cq28, kq28, q28a, q28b, q28c⟩ := isOf hZ rfl ((A25.keep K26).keep K27)
      obtain ⟨_, _, ⟨T28, L28, k28, n28⟩, -, X28, ⟨Lc28, hQ28, l28, y28, z28⟩, st28⟩ := X27.virtualBack hx (y := (⟨"java/lang/String", "equals", "(Ljava/lang/Object;)Z"⟩ : MethodName)) (z := (⟨"java/lang/String", "equals", "(Ljava/lang/Object;)Z"⟩ : MethodName)) hown (mvT hZ (hw _ (List.mem_of_getElem? (i := 37) rfl))) (mvT hZ (hw _ (List.mem_of_getElem? (i := 38) rfl))) (notFace_of_selects (args := #[]) (mvT hZ (hw _ (List.mem_of_getElem? (i := 40) rfl)))) (mvT hZ (hw _ (List.mem_of_getElem? (i := 40) rfl))) (mvT hZ (hw _ (List.mem_of_getElem? (i := 39) rfl))) (by decide) (backOf (W := 0) (rm6UU l Z a0 hw [] s25 s27 d25 d27 kc25 kc27 G_COMPACT T27.heap n0 Z27 O27 ((A25.keep K26).keep K27) ((F25_coder.keep K26 nin0).keep K27 nin0) ((F25_value.keep K26 nin0).keep K27 nin0) A27 F27_coder F27_value ((V25.keep K26 nin0).keep K27 nin0) V27 S_COMPACT P_COMPACT) hZ (hw _ (List.mem_of_getElem? (i := 41) rfl)) (hw _ (List.mem_of_getElem? (i := 26) rfl)) (by decide) (by decide)) q28a q28c (g := (mkF m 40 #[.val (.int u0), .val (.int u1), .val (.ref a_UPSTREAM), .val (.ref a_ITEM), .val (.ref s25), .val (.ref s26), .unset, .unset, .unset] [(.ref s27), (.ref s25)])) rfl (by rw [hml]; rfl) (Steps.refl _) (argsL := [(.ref s27)]) (rest := []) (lenOf pd_5 rfl) rfl (by show 2 * 0 + _ ≤ _; exact Nat.le_of_eq rfl) (hb hby at_40) (fun _ _ => ⟨rfl, rfl, (by decide : 6 + 0 ≤ _), (by decide : 128 + 0 ≤ _)⟩)
      dsimp only [Pt.U, Pt.locs, Pt.cells, Pt.slots] at X28 l28 y28 z28 st28 hQ28
      subst l28 y28 z28
      obtain ⟨rfl, N28q, e28⟩ := hQ28
      have N28 := Fr.app N27 N28q
      obtain ⟨_, _, ⟨T29, L29, k29, n29⟩, -, X29, hS29, gr29, ⟨Lc29, hQ29, l29, y29, z29, Cq29⟩, st29⟩ := callSS X28 hx (y := (⟨"com/example/backfill/backfill/engine/LaneRequestsPinLaw", "expected", "(I)Ljava/lang/String;"⟩ : MethodName)) hown (mvT hZ (hw _ (List.mem_of_getElem? (i := 33) rfl))) (mvT hZ (hw _ (List.mem_of_getElem? (i := 34) rfl))) (mvT hZ (hw _ (List.mem_of_getElem? (i := 2) rfl))) (mvT hZ (hw _ (List.mem_of_getElem? (i := 35) rfl))) (by decide) (backOfSH (W := 1) (rm5ITEM l Z a0 hw [] u1 T27.heap n0 Z27 hp1.1.1 hp1.1.2) hZ (hw _ (List.mem_of_getElem? (i := 35) rfl)) (hw _ (List.mem_of_getElem? (i := 2) rfl)) (by decide) (by decide) (hEL hw) C27.1) (g := (mkF m 49 #[.val (.int u0), .val (.int u1), .val (.ref a_UPSTREAM), .val (.ref a_ITEM), .val (.ref s25), .val (.ref s26), .unset, .unset, .unset] [(.int u1), (.ref s26)])) rfl (by rw [hml]; rfl) (argsL := [(.int u1)]) (rest := [(.ref s26)]) (lenOf pd_4 rfl) rfl (by show 2 * 0 + _ ≤ _; exact Nat.le_of_eq rfl) (hb hby at_49) (fun _ _ => ⟨rfl, e28, (by decide : 6 + 2 ≤ _), (by decide : 128 + 24 ≤ _)⟩)
      dsimp only [Pt.U, Pt.locs, Pt.cells, Pt.slots] at X29 l29 y29 z29 st29 hQ29 hS29 gr29 Cq29
      subst l29 y29 z29
      obtain ⟨X29, hS29, hZ, hown⟩ := rebS hS27 (Nat.le_trans hk27 (Nat.le_of_eq (congrArg Array.size e28).symm)) X29 hS29 gr29 hZ hown
      have hk29 := Nat.le_refl T29.heap.size
      obtain ⟨s29, d29, kc29, rfl, N29q, K29, A29, F29_coder, F29_value, V29⟩ := hQ29
      have N29 := Fr.app N28 N29q
      have Z29 : n0 ≤ T29.heap.size := Nat.le_trans Z27 K29.1
      have KK29 := KK27.trans K29 all0
      have O29 := O27.keep K29 all0
      have C29 := C27.trans Cq29
      obtain ⟨cq30, kq30, q30a, q30b, q30c⟩ := isOf hZ rfl ((A26.keep K27).keep K29)
      obtain ⟨_, _, ⟨T30, L30, k30, n30⟩, -, X30, ⟨Lc30, hQ30, l30, y30, z30⟩, st30⟩ := X29.virtualBack hx (y := (⟨"java/lang/String", "equals", "(Ljava/lang/Object;)Z"⟩ : MethodName)) (z := (⟨"java/lang/String", "equals", "(Ljava/lang/Object;)Z"⟩ : MethodName)) hown (mvT hZ (hw _ (List.mem_of_getElem? (i := 37) rfl))) (mvT hZ (hw _ (List.mem_of_getElem? (i := 38) rfl))) (notFace_of_selects (args := #[]) (mvT hZ (hw _ (List.mem_of_getElem? (i := 40) rfl)))) (mvT hZ (hw _ (List.mem_of_getElem? (i := 40) rfl))) (mvT hZ (hw _ (List.mem_of_getElem? (i := 39) rfl))) (by decide) (backOf (W := 0) (rm6II l Z a0 hw [] s26 s29 d26 d29 kc26 kc29 G_COMPACT T29.heap n0 Z29 O29 ((A26.keep K27).keep K29) ((F26_coder.keep K27 nin0).keep K29 nin0) ((F26_value.keep K27 nin0).keep K29 nin0) A29 F29_coder F29_value ((V26.keep K27 nin0).keep K29 nin0) V29 S_COMPACT P_COMPACT) hZ (hw _ (List.mem_of_getElem? (i := 41) rfl)) (hw _ (List.mem_of_getElem? (i := 26) rfl)) (by decide) (by decide)) q30a q30c (g := (mkF m 52 #[.val (.int u0), .val (.int u1), .val (.ref a_UPSTREAM), .val (.ref a_ITEM), .val (.ref s25), .val (.ref s26), .unset, .unset, .unset] [(.ref s29), (.ref s26)])) rfl (by rw [hml]; rfl) (Steps.refl _) (argsL := [(.ref s29)]) (rest := []) (lenOf pd_5 rfl) rfl (by show 2 * 0 + _ ≤ _; exact Nat.le_of_eq rfl) (hb hby at_52) (fun _ _ => ⟨rfl, rfl, (by decide : 8 + 0 ≤ _), (by decide : 152 + 0 ≤ _)⟩)
      dsimp only [Pt.U, Pt.locs, Pt.cells, Pt.slots] at X30 l30 y30 z30 st30 hQ30
      subst l30 y30 z30
      obtain ⟨rfl, N30q, e30⟩ := hQ30
      have N30 := Fr.app N29 N30q
      obtain ⟨cq31, kq31, q31a, q31b, q31c⟩ := isOf hZ e30 (((A25.keep K26).keep K27).keep K29)
      obtain ⟨_, _, ⟨T31, L31, k31, n31⟩, -, X31, ⟨Lc31, hQ31, l31, y31, z31⟩, st31⟩ := X30.virtualBack hx (y := (⟨"java/lang/String", "equals", "(Ljava/lang/Object;)Z"⟩ : MethodName)) (z := (⟨"java/lang/String", "equals", "(Ljava/lang/Object;)Z"⟩ : MethodName)) hown (mvT hZ (hw _ (List.mem_of_getElem? (i := 37) rfl))) (mvT hZ (hw _ (List.mem_of_getElem? (i := 38) rfl))) (notFace_of_selects (args := #[]) (mvT hZ (hw _ (List.mem_of_getElem? (i := 40) rfl)))) (mvT hZ (hw _ (List.mem_of_getElem? (i := 40) rfl))) (mvT hZ (hw _ (List.mem_of_getElem? (i := 39) rfl))) (by decide) (backOf (W := 1) (rm6UI l Z a0 hw [] s25 s26 d25 d26 kc25 kc26 G_COMPACT T29.heap n0 Z29 O29 (((A25.keep K26).keep K27).keep K29) (((F25_coder.keep K26 nin0).keep K27 nin0).keep K29 nin0) (((F25_value.keep K26 nin0).keep K27 nin0).keep K29 nin0) ((A26.keep K27).keep K29) ((F26_coder.keep K27 nin0).keep K29 nin0) ((F26_value.keep K27 nin0).keep K29 nin0) (((V25.keep K26 nin0).keep K27 nin0).keep K29 nin0) ((V26.keep K27 nin0).keep K29 nin0) S_COMPACT P_COMPACT (own_strne (by decide) (((F25_value.keep K26 nin0).keep K27 nin0).keep K29 nin0) ((F26_value.keep K27 nin0).keep K29 nin0) (((V25.keep K26 nin0).keep K27 nin0).keep K29 nin0) ((V26.keep K27 nin0).keep K29 nin0))) hZ (hw _ (List.mem_of_getElem? (i := 41) rfl)) (hw _ (List.mem_of_getElem? (i := 26) rfl)) (by decide) (by decide)) q31a q31c (g := (mkF m 79 #[.val (.int u0), .val (.int u1), .val (.ref a_UPSTREAM), .val (.ref a_ITEM), .val (.ref s25), .val (.ref s26), .val (.int (1 : Int32)), .unset, .unset] [(.ref s26), (.ref s25), (.int (0 : Int32))])) rfl (by rw [hml]; rfl) (Steps.refl _) (argsL := [(.ref s26)]) (rest := [(.int (0 : Int32))]) (lenOf pd_5 rfl) rfl (by show 2 * 0 + _ ≤ _; exact Nat.le_of_eq rfl) (hb hby at_79) (fun _ _ => ⟨rfl, e30, (by decide : 8 + 0 ≤ _), (by decide : 152 + 0 ≤ _)⟩)
      dsimp only [Pt.U, Pt.locs, Pt.cells, Pt.slots] at X31 l31 y31 z31 st31 hQ31
      subst l31 y31 z31
      obtain ⟨rfl, N31q, e31⟩ := hQ31
      have N31 := Fr.app N30 N31q
      obtain ⟨cq32, kq32, q32a, q32b, q32c⟩ := isOf hZ e31 (E_a_UPSTREAM.ext O29.2)
      obtain ⟨_, _, ⟨T32, L32, k32, n32⟩, -, X32, hS32, gr32, ⟨Lc32, hQ32, l32, y32, z32, Cq32⟩, st32⟩ := X31.virtualBackS hx (y := (⟨"com/example/backfill/backfill/engine/Lane", "requests", "()Ljava/lang/String;"⟩ : MethodName)) (z := (⟨"com/example/backfill/backfill/engine/Lane", "requests", "()Ljava/lang/String;"⟩ : MethodName)) hown (mvT hZ (hw _ (List.mem_of_getElem? (i := 11) rfl))) (mvT hZ (hw _ (List.mem_of_getElem? (i := 12) rfl))) (notFace_of_selects (args := #[]) (mvT hZ (hw _ (List.mem_of_getElem? (i := 14) rfl)))) (mvT hZ (hw _ (List.mem_of_getElem? (i := 14) rfl))) (mvT hZ (hw _ (List.mem_of_getElem? (i := 13) rfl))) (by decide) (backOfSH (W := 1) (rm3UPSTREAM l Z a0 hw [] a_UPSTREAM T29.heap n0 Z29 (E_a_UPSTREAM.ext O29.2) (O_UPSTREAM.ext O29.2)) hZ (hw _ (List.mem_of_getElem? (i := 15) rfl)) (hw _ (List.mem_of_getElem? (i := 9) rfl)) (by decide) (by decide) (hEL hw) C29.1) q32a q32c (g := (mkF m 95 #[.val (.int u0), .val (.int u1), .val (.ref a_UPSTREAM), .val (.ref a_ITEM), .val (.ref s25), .val (.ref s26), .val (.int (1 : Int32)), .val (.int (1 : Int32)), .unset] [(.ref a_UPSTREAM), (.ref s25)])) rfl (by rw [hml]; rfl) (Steps.refl _) (argsL := []) (rest := [(.ref s25)]) (lenOf pd_1 rfl) rfl (by show 2 * 0 + _ ≤ _; exact Nat.le_of_eq rfl) (hb hby at_95) (fun _ _ => ⟨rfl, e31, (by decide : 8 + 2 ≤ _), (by decide : 152 + 52 ≤ _)⟩)
      dsimp only [Pt.U, Pt.locs, Pt.cells, Pt.slots] at X32 l32 y32 z32 st32 hQ32 hS32 gr32 Cq32
      subst l32 y32 z32
      obtain ⟨X32, hS32, hZ, hown⟩ := rebS hS29 (Nat.le_trans hk29 (Nat.le_of_eq (congrArg Array.size e31).symm)) X32 hS32 gr32 hZ hown
      have hk32 := Nat.le_refl T32.heap.size
      obtain ⟨s32, d32, kc32, rfl, N32q, K32, A32, F32_coder, F32_value, V32⟩ := hQ32
      have N32 := Fr.app N31 N32q
      have Z32 : n0 ≤ T32.heap.size := Nat.le_trans Z29 K32.1
      have KK32 := KK29.trans K32 all0
      have O32 := O29.keep K32 all0
      have C32 := C29.trans Cq32
      obtain ⟨cq33, kq33, q33a, q33b, q33c⟩ := isOf hZ rfl ((((A25.keep K26).keep K27).keep K29).keep K32)
      obtain ⟨_, _, ⟨T33, L33, k33, n33⟩, -, X33, ⟨Lc33, hQ33, l33, y33, z33⟩, st33⟩ := X32.virtualBack hx (y := (⟨"java/lang/String", "equals", "(Ljava/lang/Object;)Z"⟩ : MethodName)) (z := (⟨"java/lang/String", "equals", "(Ljava/lang/Object;)Z"⟩ : MethodName)) hown (mvT hZ (hw _ (List.mem_of_getElem? (i := 37) rfl))) (mvT hZ (hw _ (List.mem_of_getElem? (i := 38) rfl))) (notFace_of_selects (args := #[]) (mvT hZ (hw _ (List.mem_of_getElem? (i := 40) rfl)))) (mvT hZ (hw _ (List.mem_of_getElem? (i := 40) rfl))) (mvT hZ (hw _ (List.mem_of_getElem? (i := 39) rfl))) (by decide) (backOf (W := 0) (rm6UU l Z a0 hw [] s25 s32 d25 d32 kc25 kc32 G_COMPACT T32.heap n0 Z32 O32 ((((A25.keep K26).keep K27).keep K29).keep K32) ((((F25_coder.keep K26 nin0).keep K27 nin0).keep K29 nin0).keep K32 nin0) ((((F25_value.keep K26 nin0).keep K27 nin0).keep K29 nin0).keep K32 nin0) A32 F32_coder F32_value ((((V25.keep K26 nin0).keep K27 nin0).keep K29 nin0).keep K32 nin0) V32 S_COMPACT P_COMPACT) hZ (hw _ (List.mem_of_getElem? (i := 41) rfl)) (hw _ (List.mem_of_getElem? (i := 26) rfl)) (by decide) (by decide)) q33a q33c (g := (mkF m 98 #[.val (.int u0), .val (.int u1), .val (.ref a_UPSTREAM), .val (.ref a_ITEM), .val (.ref s25), .val (.ref s26), .val (.int (1 : Int32)), .val (.int (1 : Int32)), .unset] [(.ref s32), (.ref s25)])) rfl (by rw [hml]; rfl) (Steps.refl _) (argsL := [(.ref s32)]) (rest := []) (lenOf pd_5 rfl) rfl (by show 2 * 0 + _ ≤ _; exact Nat.le_of_eq rfl) (hb hby at_98) (fun _ _ => ⟨rfl, rfl, (by decide : 10 + 0 ≤ _), (by decide : 204 + 0 ≤ _)⟩)
      dsimp only [Pt.U, Pt.locs, Pt.cells, Pt.slots] at X33 l33 y33 z33 st33 hQ33
      subst l33 y33 z33
      obtain ⟨rfl, N33q, e33⟩ := hQ33
      have N33 := Fr.app N32 N33q
      obtain ⟨fs, hr, hrun, hended, hE⟩ := X33.leaveW hS32 (Nat.le_trans hk32 (Nat.le_of_eq (congrArg Array.size e33).symm)) (v := some (.int (1 : Int32))) (fun h => by rw [Bd.returns] at h; cases h)
      refine ⟨_, _, pre0 _ ?_, hrun, hended, _, _, rfl, ?_, ?_, own_monoW hE (by decide) (by decide)⟩
      · show Steps p.tables e below (s₁.setTop (mkF m 0 #[.val (.int u0), .val (.int u1), .unset, .unset, .unset, .unset, .unset, .unset, .unset] [])) _
        refine XS.iloadN X0.here hx rfl (hb hby at_0) rfl ?_
        show Steps p.tables e below (s₁.setTop (mkF m 1 #[.val (.int u0), .val (.int u1), .unset, .unset, .unset, .unset, .unset, .unset, .unset] [(.int u0)])) _
        refine st23 _ ?_
        show Steps p.tables e below (T23.setTop (mkF m 4 #[.val (.int u0), .val (.int u1), .unset, .unset, .unset, .unset, .unset, .unset, .unset] [(.ref a_UPSTREAM)])) _
        refine XS.astoreN X23.here hx rfl (hb hby at_4) rfl rfl (l' := #[.val (.int u0), .val (.int u1), .val (.ref a_UPSTREAM), .unset, .unset, .unset, .unset, .unset, .unset]) rfl ?_
        show Steps p.tables e below (T23.setTop (mkF m 5 #[.val (.int u0), .val (.int u1), .val (.ref a_UPSTREAM), .unset, .unset, .unset, .unset, .unset, .unset] [])) _
        refine XS.iloadN X23.here hx rfl (hb hby at_5) rfl ?_
        show Steps p.tables e below (T23.setTop (mkF m 6 #[.val (.int u0), .val (.int u1), .val (.ref a_UPSTREAM), .unset, .unset, .unset, .unset, .unset, .unset] [(.int u1)])) _
        refine st24 _ ?_
        show Steps p.tables e below (T24.setTop (mkF m 9 #[.val (.int u0), .val (.int u1), .val (.ref a_UPSTREAM), .unset, .unset, .unset, .unset, .unset, .unset] [(.ref a_ITEM)])) _
        refine XS.astoreN X24.here hx rfl (hb hby at_9) rfl rfl (l' := #[.val (.int u0), .val (.int u1), .val (.ref a_UPSTREAM), .val (.ref a_ITEM), .unset, .unset, .unset, .unset, .unset]) rfl ?_
        show Steps p.tables e below (T24.setTop (mkF m 10 #[.val (.int u0), .val (.int u1), .val (.ref a_UPSTREAM), .val (.ref a_ITEM), .unset, .unset, .unset, .unset, .unset] [])) _
        refine XS.aloadN X24.here hx rfl (hb hby at_10) rfl rfl ?_
        show Steps p.tables e below (T24.setTop (mkF m 11 #[.val (.int u0), .val (.int u1), .val (.ref a_UPSTREAM), .val (.ref a_ITEM), .unset, .unset, .unset, .unset, .unset] [(.ref a_UPSTREAM)])) _
        refine st25.trans ?_
        show Steps p.tables e below (T25.setTop (mkF m 14 #[.val (.int u0), .val (.int u1), .val (.ref a_UPSTREAM), .val (.ref a_ITEM), .unset, .unset, .unset, .unset, .unset] [(.ref s25)])) _
        refine XS.astore X25.here hx rfl (hb hby at_14) rfl rfl (l' := #[.val (.int u0), .val (.int u1), .val (.ref a_UPSTREAM), .val (.ref a_ITEM), .val (.ref s25), .unset, .unset, .unset, .unset]) rfl ?_
        show Steps p.tables e below (T25.setTop (mkF m 16 #[.val (.int u0), .val (.int u1), .val (.ref a_UPSTREAM), .val (.ref a_ITEM), .val (.ref s25), .unset, .unset, .unset, .unset] [])) _
        refine XS.aloadN X25.here hx rfl (hb hby at_16) rfl rfl ?_
        show Steps p.tables e below (T25.setTop (mkF m 17 #[.val (.int u0), .val (.int u1), .val (.ref a_UPSTREAM), .val (.ref a_ITEM), .val (.ref s25), .unset, .unset, .unset, .unset] [(.ref a_ITEM)])) _
        refine st26.trans ?_
        show Steps p.tables e below (T26.setTop (mkF m 20 #[.val (.int u0), .val (.int u1), .val (.ref a_UPSTREAM), .val (.ref a_ITEM), .val (.ref s25), .unset, .unset, .unset, .unset] [(.ref s26)])) _
        refine XS.astore X26.here hx rfl (hb hby at_20) rfl rfl (l' := #[.val (.int u0), .val (.int u1), .val (.ref a_UPSTREAM), .val (.ref a_ITEM), .val (.ref s25), .val (.ref s26), .unset, .unset, .unset]) rfl ?_
        show Steps p.tables e below (T26.setTop (mkF m 22 #[.val (.int u0), .val (.int u1), .val (.ref a_UPSTREAM), .val (.ref a_ITEM), .val (.ref s25), .val (.ref s26), .unset, .unset, .unset] [])) _
        refine XS.aload X26.here hx rfl (hb hby at_22) rfl rfl ?_
        show Steps p.tables e below (T26.setTop (mkF m 24 #[.val (.int u0), .val (.int u1), .val (.ref a_UPSTREAM), .val (.ref a_ITEM), .val (.ref s25), .val (.ref s26), .unset, .unset, .unset] [(.ref s25)])) _
        refine XS.ifnullNo X26.here hx rfl (hb hby at_24) rfl ?_
        show Steps p.tables e below (T26.setTop (mkF m 27 #[.val (.int u0), .val (.int u1), .val (.ref a_UPSTREAM), .val (.ref a_ITEM), .val (.ref s25), .val (.ref s26), .unset, .unset, .unset] [])) _
        refine XS.aload X26.here hx rfl (hb hby at_27) rfl rfl ?_
        show Steps p.tables e below (T26.setTop (mkF m 29 #[.val (.int u0), .val (.int u1), .val (.ref a_UPSTREAM), .val (.ref a_ITEM), .val (.ref s25), .val (.ref s26), .unset, .unset, .unset] [(.ref s26)])) _
        refine XS.ifnonnullYes X26.here hx rfl (pc0 := 29) (pc' := 34) rfl (hb hby at_29) rfl (by decide) (by decide) ?_
        show Steps p.tables e below (T26.setTop (mkF m 34 #[.val (.int u0), .val (.int u1), .val (.ref a_UPSTREAM), .val (.ref a_ITEM), .val (.ref s25), .val (.ref s26), .unset, .unset, .unset] [])) _
        refine XS.aload X26.here hx rfl (hb hby at_34) rfl rfl ?_
        show Steps p.tables e below (T26.setTop (mkF m 36 #[.val (.int u0), .val (.int u1), .val (.ref a_UPSTREAM), .val (.ref a_ITEM), .val (.ref s25), .val (.ref s26), .unset, .unset, .unset] [(.ref s25)])) _
        refine XS.iloadN X26.here hx rfl (hb hby at_36) rfl ?_
        show Steps p.tables e below (T26.setTop (mkF m 37 #[.val (.int u0), .val (.int u1), .val (.ref a_UPSTREAM), .val (.ref a_ITEM), .val (.ref s25), .val (.ref s26), .unset, .unset, .unset] [(.int u0), (.ref s25)])) _
        refine st27.trans ?_
        show Steps p.tables e below (T27.setTop (mkF m 40 #[.val (.int u0), .val (.int u1), .val (.ref a_UPSTREAM), .val (.ref a_ITEM), .val (.ref s25), .val (.ref s26), .unset, .unset, .unset] [(.ref s27), (.ref s25)])) _
        refine st28.trans ?_
        show Steps p.tables e below (T28.setTop (mkF m 43 #[.val (.int u0), .val (.int u1), .val (.ref a_UPSTREAM), .val (.ref a_ITEM), .val (.ref s25), .val (.ref s26), .unset, .unset, .unset] [(.int (1 : Int32))])) _
        refine XS.ifNo X28.here hx rfl (hb hby at_43) rfl ((if0 _ _).trans (feq (by decide)).1) ?_
        show Steps p.tables e below (T28.setTop (mkF m 46 #[.val (.int u0), .val (.int u1), .val (.ref a_UPSTREAM), .val (.ref a_ITEM), .val (.ref s25), .val (.ref s26), .unset, .unset, .unset] [])) _
        refine XS.aload X28.here hx rfl (hb hby at_46) rfl rfl ?_
        show Steps p.tables e below (T28.setTop (mkF m 48 #[.val (.int u0), .val (.int u1), .val (.ref a_UPSTREAM), .val (.ref a_ITEM), .val (.ref s25), .val (.ref s26), .unset, .unset, .unset] [(.ref s26)])) _
        refine XS.iloadN X28.here hx rfl (hb hby at_48) rfl ?_
        show Steps p.tables e below (T28.setTop (mkF m 49 #[.val (.int u0), .val (.int u1), .val (.ref a_UPSTREAM), .val (.ref a_ITEM), .val (.ref s25), .val (.ref s26), .unset, .unset, .unset] [(.int u1), (.ref s26)])) _
        refine st29.trans ?_
        show Steps p.tables e below (T29.setTop (mkF m 52 #[.val (.int u0), .val (.int u1), .val (.ref a_UPSTREAM), .val (.ref a_ITEM), .val (.ref s25), .val (.ref s26), .unset, .unset, .unset] [(.ref s29), (.ref s26)])) _
        refine st30.trans ?_
        show Steps p.tables e below (T30.setTop (mkF m 55 #[.val (.int u0), .val (.int u1), .val (.ref a_UPSTREAM), .val (.ref a_ITEM), .val (.ref s25), .val (.ref s26), .unset, .unset, .unset] [(.int (1 : Int32))])) _
        refine XS.ifNo X30.here hx rfl (hb hby at_55) rfl ((if0 _ _).trans (feq (by decide)).1) ?_
        show Steps p.tables e below (T30.setTop (mkF m 58 #[.val (.int u0), .val (.int u1), .val (.ref a_UPSTREAM), .val (.ref a_ITEM), .val (.ref s25), .val (.ref s26), .unset, .unset, .unset] [])) _
        refine XS.iconst X30.here hx rfl (hb hby at_58) ?_
        show Steps p.tables e below (T30.setTop (mkF m 59 #[.val (.int u0), .val (.int u1), .val (.ref a_UPSTREAM), .val (.ref a_ITEM), .val (.ref s25), .val (.ref s26), .unset, .unset, .unset] [(.int (1 : Int32))])) _
        refine XS.goto X30.here hx rfl (pc0 := 59) (pc' := 63) rfl (hb hby at_59) (by decide) (by decide) ?_
        show Steps p.tables e below (T30.setTop (mkF m 63 #[.val (.int u0), .val (.int u1), .val (.ref a_UPSTREAM), .val (.ref a_ITEM), .val (.ref s25), .val (.ref s26), .unset, .unset, .unset] [(.int (1 : Int32))])) _
        refine XS.istore X30.here hx rfl (hb hby at_63) rfl (l' := #[.val (.int u0), .val (.int u1), .val (.ref a_UPSTREAM), .val (.ref a_ITEM), .val (.ref s25), .val (.ref s26), .val (.int (1 : Int32)), .unset, .unset]) rfl ?_
        show Steps p.tables e below (T30.setTop (mkF m 65 #[.val (.int u0), .val (.int u1), .val (.ref a_UPSTREAM), .val (.ref a_ITEM), .val (.ref s25), .val (.ref s26), .val (.int (1 : Int32)), .unset, .unset] [])) _
        refine XS.aloadN X30.here hx rfl (hb hby at_65) rfl rfl ?_
        show Steps p.tables e below (T30.setTop (mkF m 66 #[.val (.int u0), .val (.int u1), .val (.ref a_UPSTREAM), .val (.ref a_ITEM), .val (.ref s25), .val (.ref s26), .val (.int (1 : Int32)), .unset, .unset] [(.ref a_UPSTREAM)])) _
        refine XS.aloadN X30.here hx rfl (hb hby at_66) rfl rfl ?_
        show Steps p.tables e below (T30.setTop (mkF m 67 #[.val (.int u0), .val (.int u1), .val (.ref a_UPSTREAM), .val (.ref a_ITEM), .val (.ref s25), .val (.ref s26), .val (.int (1 : Int32)), .unset, .unset] [(.ref a_ITEM), (.ref a_UPSTREAM)])) _
        refine Jvm.RoadKit.acmp (g := (mkF m 67 #[.val (.int u0), .val (.int u1), .val (.ref a_UPSTREAM), .val (.ref a_ITEM), .val (.ref s25), .val (.ref s26), .val (.int (1 : Int32)), .unset, .unset] [(.ref a_ITEM), (.ref a_UPSTREAM)])) X30 hx rfl rfl rfl (pc0 := 67) (pc' := 74) (same := false) rfl (hb hby at_67) rfl (decide_eq_false fun q => ne_UPSTREAM_ITEM (Value.ref.inj q)) (by decide) (by decide) ?_
        show Steps p.tables e below (T30.setTop (mkF m 74 #[.val (.int u0), .val (.int u1), .val (.ref a_UPSTREAM), .val (.ref a_ITEM), .val (.ref s25), .val (.ref s26), .val (.int (1 : Int32)), .unset, .unset] [])) _
        refine XS.iconst X30.here hx rfl (hb hby at_74) ?_
        show Steps p.tables e below (T30.setTop (mkF m 75 #[.val (.int u0), .val (.int u1), .val (.ref a_UPSTREAM), .val (.ref a_ITEM), .val (.ref s25), .val (.ref s26), .val (.int (1 : Int32)), .unset, .unset] [(.int (0 : Int32))])) _
        refine XS.aload X30.here hx rfl (hb hby at_75) rfl rfl ?_
        show Steps p.tables e below (T30.setTop (mkF m 77 #[.val (.int u0), .val (.int u1), .val (.ref a_UPSTREAM), .val (.ref a_ITEM), .val (.ref s25), .val (.ref s26), .val (.int (1 : Int32)), .unset, .unset] [(.ref s25), (.int (0 : Int32))])) _
        refine XS.aload X30.here hx rfl (hb hby at_77) rfl rfl ?_
        show Steps p.tables e below (T30.setTop (mkF m 79 #[.val (.int u0), .val (.int u1), .val (.ref a_UPSTREAM), .val (.ref a_ITEM), .val (.ref s25), .val (.ref s26), .val (.int (1 : Int32)), .unset, .unset] [(.ref s26), (.ref s25), (.int (0 : Int32))])) _
        refine st31.trans ?_
        show Steps p.tables e below (T31.setTop (mkF m 82 #[.val (.int u0), .val (.int u1), .val (.ref a_UPSTREAM), .val (.ref a_ITEM), .val (.ref s25), .val (.ref s26), .val (.int (1 : Int32)), .unset, .unset] [(.int (0 : Int32)), (.int (0 : Int32))])) _
        refine XS.icmpNo X31.here hx rfl (hb hby at_82) rfl (teq (by decide)).2 ?_
        show Steps p.tables e below (T31.setTop (mkF m 85 #[.val (.int u0), .val (.int u1), .val (.ref a_UPSTREAM), .val (.ref a_ITEM), .val (.ref s25), .val (.ref s26), .val (.int (1 : Int32)), .unset, .unset] [])) _
        refine XS.iconst X31.here hx rfl (hb hby at_85) ?_
        show Steps p.tables e below (T31.setTop (mkF m 86 #[.val (.int u0), .val (.int u1), .val (.ref a_UPSTREAM), .val (.ref a_ITEM), .val (.ref s25), .val (.ref s26), .val (.int (1 : Int32)), .unset, .unset] [(.int (1 : Int32))])) _
        refine XS.goto X31.here hx rfl (pc0 := 86) (pc' := 90) rfl (hb hby at_86) (by decide) (by decide) ?_
        show Steps p.tables e below (T31.setTop (mkF m 90 #[.val (.int u0), .val (.int u1), .val (.ref a_UPSTREAM), .val (.ref a_ITEM), .val (.ref s25), .val (.ref s26), .val (.int (1 : Int32)), .unset, .unset] [(.int (1 : Int32))])) _
        refine XS.istore X31.here hx rfl (hb hby at_90) rfl (l' := #[.val (.int u0), .val (.int u1), .val (.ref a_UPSTREAM), .val (.ref a_ITEM), .val (.ref s25), .val (.ref s26), .val (.int (1 : Int32)), .val (.int (1 : Int32)), .unset]) rfl ?_
        show Steps p.tables e below (T31.setTop (mkF m 92 #[.val (.int u0), .val (.int u1), .val (.ref a_UPSTREAM), .val (.ref a_ITEM), .val (.ref s25), .val (.ref s26), .val (.int (1 : Int32)), .val (.int (1 : Int32)), .unset] [])) _
        refine XS.aload X31.here hx rfl (hb hby at_92) rfl rfl ?_
        show Steps p.tables e below (T31.setTop (mkF m 94 #[.val (.int u0), .val (.int u1), .val (.ref a_UPSTREAM), .val (.ref a_ITEM), .val (.ref s25), .val (.ref s26), .val (.int (1 : Int32)), .val (.int (1 : Int32)), .unset] [(.ref s25)])) _
        refine XS.aloadN X31.here hx rfl (hb hby at_94) rfl rfl ?_
        show Steps p.tables e below (T31.setTop (mkF m 95 #[.val (.int u0), .val (.int u1), .val (.ref a_UPSTREAM), .val (.ref a_ITEM), .val (.ref s25), .val (.ref s26), .val (.int (1 : Int32)), .val (.int (1 : Int32)), .unset] [(.ref a_UPSTREAM), (.ref s25)])) _
        refine st32.trans ?_
        show Steps p.tables e below (T32.setTop (mkF m 98 #[.val (.int u0), .val (.int u1), .val (.ref a_UPSTREAM), .val (.ref a_ITEM), .val (.ref s25), .val (.ref s26), .val (.int (1 : Int32)), .val (.int (1 : Int32)), .unset] [(.ref s32), (.ref s25)])) _
        refine st33.trans ?_
        show Steps p.tables e below (T33.setTop (mkF m 101 #[.val (.int u0), .val (.int u1), .val (.ref a_UPSTREAM), .val (.ref a_ITEM), .val (.ref s25), .val (.ref s26), .val (.int (1 : Int32)), .val (.int (1 : Int32)), .unset] [(.int (1 : Int32))])) _
        refine XS.istore X33.here hx rfl (hb hby at_101) rfl (l' := #[.val (.int u0), .val (.int u1), .val (.ref a_UPSTREAM), .val (.ref a_ITEM), .val (.ref s25), .val (.ref s26), .val (.int (1 : Int32)), .val (.int (1 : Int32)), .val (.int (1 : Int32))]) rfl ?_
        show Steps p.tables e below (T33.setTop (mkF m 103 #[.val (.int u0), .val (.int u1), .val (.ref a_UPSTREAM), .val (.ref a_ITEM), .val (.ref s25), .val (.ref s26), .val (.int (1 : Int32)), .val (.int (1 : Int32)), .val (.int (1 : Int32))] [])) _
        refine XS.iload X33.here hx rfl (hb hby at_103) rfl ?_
        show Steps p.tables e below (T33.setTop (mkF m 105 #[.val (.int u0), .val (.int u1), .val (.ref a_UPSTREAM), .val (.ref a_ITEM), .val (.ref s25), .val (.ref s26), .val (.int (1 : Int32)), .val (.int (1 : Int32)), .val (.int (1 : Int32))] [(.int (1 : Int32))])) _
        refine XS.ifNo X33.here hx rfl (hb hby at_105) rfl ((if0 _ _).trans (feq (by decide)).1) ?_
        show Steps p.tables e below (T33.setTop (mkF m 108 #[.val (.int u0), .val (.int u1), .val (.ref a_UPSTREAM), .val (.ref a_ITEM), .val (.ref s25), .val (.ref s26), .val (.int (1 : Int32)), .val (.int (1 : Int32)), .val (.int (1 : Int32))] [])) _
        refine XS.iload X33.here hx rfl (hb hby at_108) rfl ?_
        show Steps p.tables e below (T33.setTop (mkF m 110 #[.val (.int u0), .val (.int u1), .val (.ref a_UPSTREAM), .val (.ref a_ITEM), .val (.ref s25), .val (.ref s26), .val (.int (1 : Int32)), .val (.int (1 : Int32)), .val (.int (1 : Int32))] [(.int (1 : Int32))])) _
        refine XS.ifNo X33.here hx rfl (hb hby at_110) rfl ((if0 _ _).trans (feq (by decide)).1) ?_
        show Steps p.tables e below (T33.setTop (mkF m 113 #[.val (.int u0), .val (.int u1), .val (.ref a_UPSTREAM), .val (.ref a_ITEM), .val (.ref s25), .val (.ref s26), .val (.int (1 : Int32)), .val (.int (1 : Int32)), .val (.int (1 : Int32))] [])) _
        refine XS.iload X33.here hx rfl (hb hby at_113) rfl ?_
        show Steps p.tables e below (T33.setTop (mkF m 115 #[.val (.int u0), .val (.int u1), .val (.ref a_UPSTREAM), .val (.ref a_ITEM), .val (.ref s25), .val (.ref s26), .val (.int (1 : Int32)), .val (.int (1 : Int32)), .val (.int (1 : Int32))] [(.int (1 : Int32))])) _
        refine XS.ifNo X33.here hx rfl (hb hby at_115) rfl ((if0 _ _).trans (feq (by decide)).1) ?_
        show Steps p.tables e below (T33.setTop (mkF m 118 #[.val (.int u0), .val (.int u1), .val (.ref a_UPSTREAM), .val (.ref a_ITEM), .val (.ref s25), .val (.ref s26), .val (.int (1 : Int32)), .val (.int (1 : Int32)), .val (.int (1 : Int32))] [])) _
        refine XS.iconst X33.here hx rfl (hb hby at_118) ?_
        show Steps p.tables e below (T33.setTop (mkF m 119 #[.val (.int u0), .val (.int u1), .val (.ref a_UPSTREAM), .val (.ref a_ITEM), .val (.ref s25), .val (.ref s26), .val (.int (1 : Int32)), .val (.int (1 : Int32)), .val (.int (1 : Int32))] [(.int (1 : Int32))])) _
        refine XS.goto X33.here hx rfl (pc0 := 119) (pc' := 123) rfl (hb hby at_119) (by decide) (by decide) ?_
        show Steps p.tables e below (T33.setTop (mkF m 123 #[.val (.int u0), .val (.int u1), .val (.ref a_UPSTREAM), .val (.ref a_ITEM), .val (.ref s25), .val (.ref s26), .val (.int (1 : Int32)), .val (.int (1 : Int32)), .val (.int (1 : Int32))] [(.int (1 : Int32))])) _
        exact retN X33 hx (t := .boolean) Bd.returns (by simp) (hb hby at_123) hr
      · show Q0 Z u0 u1 a_UPSTREAM a_LIST a_ITEM G_COMPACT h0 n0 _ T33.heap _
        rw [e33]
        exact ⟨rfl, N33⟩
      · show CHr Z EL s.vm s.heap T33.vm T33.heap
        rw [e33]
        rw [hh]
        exact C32.trans (CHv.at X33 hZ (hEL hw) C32.1)
  · rcases own_sel u1 a_UPSTREAM a_LIST a_ITEM with hp1 | hp1 | hp1
    · obtain ⟨_, _, ⟨T34, L34, k34, n34⟩, -, X34, ⟨Lc34, hQ34, l34, y34, z34⟩, st34⟩ := Jvm.LawKit.callS X0 hx (y := (⟨"com/example/backfill/backfill/engine/LaneRequestsPinLaw", "pick", "(I)Lcom/example/backfill/backfill/engine/Lane;"⟩ : MethodName)) hown (mvT hZ (hw _ (List.mem_of_getElem? (i := 0) rfl))) (mvT hZ (hw _ (List.mem_of_getElem? (i := 1) rfl))) (mvT hZ (hw _ (List.mem_of_getElem? (i := 2) rfl))) (mvT hZ (hw _ (List.mem_of_getElem? (i := 3) rfl))) (by decide) (backOf (W := 0) (rm1 l Z a0 hw [] u0 a_UPSTREAM a_LIST a_ITEM h0 n0 Z0 O0 S_UPSTREAM S_LIST S_ITEM) hZ (hw _ (List.mem_of_getElem? (i := 3) rfl)) (hw _ (List.mem_of_getElem? (i := 2) rfl)) (by decide) (by decide)) (g := (mkF m 1 #[.val (.int u0), .val (.int u1), .unset, .unset, .unset, .unset, .unset, .unset, .unset] [(.int u0)])) rfl (by rw [hml]; rfl) (argsL := [(.int u0)]) (rest := []) (lenOf pd_3 rfl) rfl (by show 2 * 0 + _ ≤ _; exact Nat.le_of_eq rfl) (hb hby at_1) (fun _ _ => ⟨rfl, e0, (by decide : 0 + 0 ≤ _), (by decide : 0 + 0 ≤ _)⟩)
      dsimp only [Pt.U, Pt.locs, Pt.cells, Pt.slots] at X34 l34 y34 z34 st34 hQ34
      subst l34 y34 z34
      obtain ⟨hv34, N34q, e34⟩ := hQ34
      rw [hp0.2] at hv34
      subst hv34
      have N34 := Fr.app N0 N34q
      obtain ⟨_, _, ⟨T35, L35, k35, n35⟩, -, X35, ⟨Lc35, hQ35, l35, y35, z35⟩, st35⟩ := Jvm.LawKit.callS X34 hx (y := (⟨"com/example/backfill/backfill/engine/LaneRequestsPinLaw", "pick", "(I)Lcom/example/backfill/backfill/engine/Lane;"⟩ : MethodName)) hown (mvT hZ (hw _ (List.mem_of_getElem? (i := 0) rfl))) (mvT hZ (hw _ (List.mem_of_getElem? (i := 1) rfl))) (mvT hZ (hw _ (List.mem_of_getElem? (i := 2) rfl))) (mvT hZ (hw _ (List.mem_of_getElem? (i := 3) rfl))) (by decide) (backOf (W := 0) (rm1 l Z a0 hw [] u1 a_UPSTREAM a_LIST a_ITEM h0 n0 Z0 O0 S_UPSTREAM S_LIST S_ITEM) hZ (hw _ (List.mem_of_getElem? (i := 3) rfl)) (hw _ (List.mem_of_getElem? (i := 2) rfl)) (by decide) (by decide)) (g := (mkF m 6 #[.val (.int u0), .val (.int u1), .val (.ref a_LIST), .unset, .unset, .unset, .unset, .unset, .unset] [(.int u1)])) rfl (by rw [hml]; rfl) (argsL := [(.int u1)]) (rest := []) (lenOf pd_3 rfl) rfl (by show 2 * 0 + _ ≤ _; exact Nat.le_of_eq rfl) (hb hby at_6) (fun _ _ => ⟨rfl, e34, (by decide : 0 + 0 ≤ _), (by decide : 0 + 0 ≤ _)⟩)
      dsimp only [Pt.U, Pt.locs, Pt.cells, Pt.slots] at X35 l35 y35 z35 st35 hQ35
      subst l35 y35 z35
      obtain ⟨hv35, N35q, e35⟩ := hQ35
      rw [hp1.2] at hv35
      subst hv35
      have N35 := Fr.app N34 N35q
      obtain ⟨cq36, kq36, q36a, q36b, q36c⟩ := isOf hZ e35 (E_a_LIST.ext O0.2)
      obtain ⟨_, _, ⟨T36, L36, k36, n36⟩, -, X36, hS36, gr36, ⟨Lc36, hQ36, l36, y36, z36, Cq36⟩, st36⟩ := X35.virtualBackS hx (y := (⟨"com/example/backfill/backfill/engine/Lane", "requests", "()Ljava/lang/String;"⟩ : MethodName)) (z := (⟨"com/example/backfill/backfill/engine/Lane", "requests", "()Ljava/lang/String;"⟩ : MethodName)) hown (mvT hZ (hw _ (List.mem_of_getElem? (i := 11) rfl))) (mvT hZ (hw _ (List.mem_of_getElem? (i := 12) rfl))) (notFace_of_selects (args := #[]) (mvT hZ (hw _ (List.mem_of_getElem? (i := 14) rfl)))) (mvT hZ (hw _ (List.mem_of_getElem? (i := 14) rfl))) (mvT hZ (hw _ (List.mem_of_getElem? (i := 13) rfl))) (by decide) (backOfSH (W := 0) (rm3LIST l Z a0 hw [] a_LIST h0 n0 Z0 (E_a_LIST.ext O0.2) (O_LIST.ext O0.2)) hZ (hw _ (List.mem_of_getElem? (i := 15) rfl)) (hw _ (List.mem_of_getElem? (i := 9) rfl)) (by decide) (by decide) (hEL hw) C0.1) q36a q36c (g := (mkF m 11 #[.val (.int u0), .val (.int u1), .val (.ref a_LIST), .val (.ref a_UPSTREAM), .unset, .unset, .unset, .unset, .unset] [(.ref a_LIST)])) rfl (by rw [hml]; rfl) (Steps.refl _) (argsL := []) (rest := []) (lenOf pd_1 rfl) rfl (by show 2 * 0 + _ ≤ _; exact Nat.le_of_eq rfl) (hb hby at_11) (fun _ _ => ⟨rfl, e35, (by decide : 0 + 2 ≤ _), (by decide : 0 + 44 ≤ _)⟩)
      dsimp only [Pt.U, Pt.locs, Pt.cells, Pt.slots] at X36 l36 y36 z36 st36 hQ36 hS36 gr36 Cq36
      subst l36 y36 z36
      obtain ⟨X36, hS36, hZ, hown⟩ := rebS hS0 (Nat.le_trans hk0 (Nat.le_of_eq (congrArg Array.size e35).symm)) X36 hS36 gr36 hZ hown
      have hk36 := Nat.le_refl T36.heap.size
      obtain ⟨s36, d36, kc36, rfl, N36q, K36, A36, F36_coder, F36_value, V36⟩ := hQ36
      have N36 := Fr.app N35 N36q
      have Z36 : n0 ≤ T36.heap.size := Nat.le_trans Z0 K36.1
      have KK36 := (Keep.refl h0 []).trans K36 all0
      have O36 := O0.keep K36 all0
      have C36 := C0.trans Cq36
      obtain ⟨cq37, kq37, q37a, q37b, q37c⟩ := isOf hZ rfl (E_a_UPSTREAM.ext O36.2)
      obtain ⟨_, _, ⟨T37, L37, k37, n37⟩, -, X37, hS37, gr37, ⟨Lc37, hQ37, l37, y37, z37, Cq37⟩, st37⟩ := X36.virtualBackS hx (y := (⟨"com/example/backfill/backfill/engine/Lane", "requests", "()Ljava/lang/String;"⟩ : MethodName)) (z := (⟨"com/example/backfill/backfill/engine/Lane", "requests", "()Ljava/lang/String;"⟩ : MethodName)) hown (mvT hZ (hw _ (List.mem_of_getElem? (i := 11) rfl))) (mvT hZ (hw _ (List.mem_of_getElem? (i := 12) rfl))) (notFace_of_selects (args := #[]) (mvT hZ (hw _ (List.mem_of_getElem? (i := 14) rfl)))) (mvT hZ (hw _ (List.mem_of_getElem? (i := 14) rfl))) (mvT hZ (hw _ (List.mem_of_getElem? (i := 13) rfl))) (by decide) (backOfSH (W := 0) (rm3UPSTREAM l Z a0 hw [] a_UPSTREAM T36.heap n0 Z36 (E_a_UPSTREAM.ext O36.2) (O_UPSTREAM.ext O36.2)) hZ (hw _ (List.mem_of_getElem? (i := 15) rfl)) (hw _ (List.mem_of_getElem? (i := 9) rfl)) (by decide) (by decide) (hEL hw) C36.1) q37a q37c (g := (mkF m 17 #[.val (.int u0), .val (.int u1), .val (.ref a_LIST), .val (.ref a_UPSTREAM), .val (.ref s36), .unset, .unset, .unset, .unset] [(.ref a_UPSTREAM)])) rfl (by rw [hml]; rfl) (Steps.refl _) (argsL := []) (rest := []) (lenOf pd_1 rfl) rfl (by show 2 * 0 + _ ≤ _; exact Nat.le_of_eq rfl) (hb hby at_17) (fun _ _ => ⟨rfl, rfl, (by decide : 2 + 2 ≤ _), (by decide : 44 + 52 ≤ _)⟩)
      dsimp only [Pt.U, Pt.locs, Pt.cells, Pt.slots] at X37 l37 y37 z37 st37 hQ37 hS37 gr37 Cq37
      subst l37 y37 z37
      obtain ⟨X37, hS37, hZ, hown⟩ := rebS hS36 (Nat.le_trans hk36 (Nat.le_of_eq (congrArg Array.size rfl).symm)) X37 hS37 gr37 hZ hown
      have hk37 := Nat.le_refl T37.heap.size
      obtain ⟨s37, d37, kc37, rfl, N37q, K37, A37, F37_coder, F37_value, V37⟩ := hQ37
      have N37 := Fr.app N36 N37q
      have Z37 : n0 ≤ T37.heap.size := Nat.le_trans Z36 K37.1
      have KK37 := KK36.trans K37 all0
      have O37 := O36.keep K37 all0
      have C37 := C36.trans Cq37
      obtain ⟨_, _, ⟨T38, L38, k38, n38⟩, -, X38, hS38, gr38, ⟨Lc38, hQ38, l38, y38, z38, Cq38⟩, st38⟩ := callSS X37 hx (y := (⟨"com/example/backfill/backfill/engine/LaneRequestsPinLaw", "expected", "(I)Ljava/lang/String;"⟩ : MethodName)) hown (mvT hZ (hw _ (List.mem_of_getElem? (i := 33) rfl))) (mvT hZ (hw _ (List.mem_of_getElem? (i := 34) rfl))) (mvT hZ (hw _ (List.mem_of_getElem? (i := 2) rfl))) (mvT hZ (hw _ (List.mem_of_getElem? (i := 35) rfl))) (by decide) (backOfSH (W := 1) (rm5LIST l Z a0 hw [] u0 T37.heap n0 Z37 hp0.1.1 hp0.1.2) hZ (hw _ (List.mem_of_getElem? (i := 35) rfl)) (hw _ (List.mem_of_getElem? (i := 2) rfl)) (by decide) (by decide) (hEL hw) C37.1) (g := (mkF m 37 #[.val (.int u0), .val (.int u1), .val (.ref a_LIST), .val (.ref a_UPSTREAM), .val (.ref s36), .val (.ref s37), .unset, .unset, .unset] [(.int u0), (.ref s36)])) rfl (by rw [hml]; rfl) (argsL := [(.int u0)]) (rest := [(.ref s36)]) (lenOf pd_4 rfl) rfl (by show 2 * 0 + _ ≤ _; exact Nat.le_of_eq rfl) (hb hby at_37) (fun _ _ => ⟨rfl, rfl, (by decide : 4 + 2 ≤ _), (by decide : 96 + 44 ≤ _)⟩)
      dsimp only [Pt.U, Pt.locs, Pt.cells, Pt.slots] at X38 l38 y38 z38 st38 hQ38 hS38 gr38 Cq38
      subst l38 y38 z38
      obtain ⟨X38, hS38, hZ, hown⟩ := rebS hS37 (Nat.le_trans hk37 (Nat.le_of_eq (congrArg Array.size rfl).symm)) X38 hS38 gr38 hZ hown
      have hk38 := Nat.le_refl T38.heap.size
      obtain ⟨s38, d38, kc38, rfl, N38q, K38, A38, F38_coder, F38_value, V38⟩ := hQ38
      have N38 := Fr.app N37 N38q
      have Z38 : n0 ≤ T38.heap.size := Nat.le_trans Z37 K38.1
      have KK38 := KK37.trans K38 all0
      have O38 := O37.keep K38 all0
      have C38 := C37.trans Cq38
      obtain ⟨cq39, kq39, q39a, q39b, q39c⟩ := isOf hZ rfl ((A36.keep K37).keep K38)
      obtain ⟨_, _, ⟨T39, L39, k39, n39⟩, -, X39, ⟨Lc39, hQ39, l39, y39, z39⟩, st39⟩ := X38.virtualBack hx (y := (⟨"java/lang/String", "equals", "(Ljava/lang/Object;)Z"⟩ : MethodName)) (z := (⟨"java/lang/String", "equals", "(Ljava/lang/Object;)Z"⟩ : MethodName)) hown (mvT hZ (hw _ (List.mem_of_getElem? (i := 37) rfl))) (mvT hZ (hw _ (List.mem_of_getElem? (i := 38) rfl))) (notFace_of_selects (args := #[]) (mvT hZ (hw _ (List.mem_of_getElem? (i := 40) rfl)))) (mvT hZ (hw _ (List.mem_of_getElem? (i := 40) rfl))) (mvT hZ (hw _ (List.mem_of_getElem? (i := 39) rfl))) (by decide) (backOf (W := 0) (rm6LL l Z a0 hw [] s36 s38 d36 d38 kc36 kc38 G_COMPACT T38.heap n0 Z38 O38 ((A36.keep K37).keep K38) ((F36_coder.keep K37 nin0).keep K38 nin0) ((F36_value.keep K37 nin0).keep K38 nin0) A38 F38_coder F38_value ((V36.keep K37 nin0).keep K38 nin0) V38 S_COMPACT P_COMPACT) hZ (hw _ (List.mem_of_getElem? (i := 41) rfl)) (hw _ (List.mem_of_getElem? (i := 26) rfl)) (by decide) (by decide)) q39a q39c (g := (mkF m 40 #[.val (.int u0), .val (.int u1), .val (.ref a_LIST), .val (.ref a_UPSTREAM), .val (.ref s36), .val (.ref s37), .unset, .unset, .unset] [(.ref s38), (.ref s36)])) rfl (by rw [hml]; rfl) (Steps.refl _) (argsL := [(.ref s38)]) (rest := []) (lenOf pd_5 rfl) rfl (by show 2 * 0 + _ ≤ _; exact Nat.le_of_eq rfl) (hb hby at_40) (fun _ _ => ⟨rfl, rfl, (by decide : 6 + 0 ≤ _), (by decide : 140 + 0 ≤ _)⟩)
      dsimp only [Pt.U, Pt.locs, Pt.cells, Pt.slots] at X39 l39 y39 z39 st39 hQ39
      subst l39 y39 z39
      obtain ⟨rfl, N39q, e39⟩ := hQ39
      have N39 := Fr.app N38 N39q
      obtain ⟨_, _, ⟨T40, L40, k40, n40⟩, -, X40, hS40, gr40, ⟨Lc40, hQ40, l40, y40, z40, Cq40⟩, st40⟩ := callSS X39 hx (y := (⟨"com/example/backfill/backfill/engine/LaneRequestsPinLaw", "expected", "(I)Ljava/lang/String;"⟩ : MethodName)) hown (mvT hZ (hw _ (List.mem_of_getElem? (i := 33) rfl))) (mvT hZ (hw _ (List.mem_of_getElem? (i := 34) rfl))) (mvT hZ (hw _ (List.mem_of_getElem? (i := 2) rfl))) (mvT hZ (hw _ (List.mem_of_getElem? (i := 35) rfl))) (by decide) (backOfSH (W := 1) (rm5UPSTREAM l Z a0 hw [] u1 T38.heap n0 Z38 hp1.1) hZ (hw _ (List.mem_of_getElem? (i := 35) rfl)) (hw _ (List.mem_of_getElem? (i := 2) rfl)) (by decide) (by decide) (hEL hw) C38.1) (g := (mkF m 49 #[.val (.int u0), .val (.int u1), .val (.ref a_LIST), .val (.ref a_UPSTREAM), .val (.ref s36), .val (.ref s37), .unset, .unset, .unset] [(.int u1), (.ref s37)])) rfl (by rw [hml]; rfl) (argsL := [(.int u1)]) (rest := [(.ref s37)]) (lenOf pd_4 rfl) rfl (by show 2 * 0 + _ ≤ _; exact Nat.le_of_eq rfl) (hb hby at_49) (fun _ _ => ⟨rfl, e39, (by decide : 6 + 2 ≤ _), (by decide : 140 + 52 ≤ _)⟩)
      dsimp only [Pt.U, Pt.locs, Pt.cells, Pt.slots] at X40 l40 y40 z40 st40 hQ40 hS40 gr40 Cq40
      subst l40 y40 z40
      obtain ⟨X40, hS40, hZ, hown⟩ := rebS hS38 (Nat.le_trans hk38 (Nat.le_of_eq (congrArg Array.size e39).symm)) X40 hS40 gr40 hZ hown
      have hk40 := Nat.le_refl T40.heap.size
      obtain ⟨s40, d40, kc40, rfl, N40q, K40, A40, F40_coder, F40_value, V40⟩ := hQ40
      have N40 := Fr.app N39 N40q
      have Z40 : n0 ≤ T40.heap.size := Nat.le_trans Z38 K40.1
      have KK40 := KK38.trans K40 all0
      have O40 := O38.keep K40 all0
      have C40 := C38.trans Cq40
      obtain ⟨cq41, kq41, q41a, q41b, q41c⟩ := isOf hZ rfl ((A37.keep K38).keep K40)
      obtain ⟨_, _, ⟨T41, L41, k41, n41⟩, -, X41, ⟨Lc41, hQ41, l41, y41, z41⟩, st41⟩ := X40.virtualBack hx (y := (⟨"java/lang/String", "equals", "(Ljava/lang/Object;)Z"⟩ : MethodName)) (z := (⟨"java/lang/String", "equals", "(Ljava/lang/Object;)Z"⟩ : MethodName)) hown (mvT hZ (hw _ (List.mem_of_getElem? (i := 37) rfl))) (mvT hZ (hw _ (List.mem_of_getElem? (i := 38) rfl))) (notFace_of_selects (args := #[]) (mvT hZ (hw _ (List.mem_of_getElem? (i := 40) rfl)))) (mvT hZ (hw _ (List.mem_of_getElem? (i := 40) rfl))) (mvT hZ (hw _ (List.mem_of_getElem? (i := 39) rfl))) (by decide) (backOf (W := 0) (rm6UU l Z a0 hw [] s37 s40 d37 d40 kc37 kc40 G_COMPACT T40.heap n0 Z40 O40 ((A37.keep K38).keep K40) ((F37_coder.keep K38 nin0).keep K40 nin0) ((F37_value.keep K38 nin0).keep K40 nin0) A40 F40_coder F40_value ((V37.keep K38 nin0).keep K40 nin0) V40 S_COMPACT P_COMPACT) hZ (hw _ (List.mem_of_getElem? (i := 41) rfl)) (hw _ (List.mem_of_getElem? (i := 26) rfl)) (by decide) (by decide)) q41a q41c (g := (mkF m 52 #[.val (.int u0), .val (.int u1), .val (.ref a_LIST), .val (.ref a_UPSTREAM), .val (.ref s36), .val (.ref s37), .unset, .unset, .unset] [(.ref s40), (.ref s37)])) rfl (by rw [hml]; rfl) (Steps.refl _) (argsL := [(.ref s40)]) (rest := []) (lenOf pd_5 rfl) rfl (by show 2 * 0 + _ ≤ _; exact Nat.le_of_eq rfl) (hb hby at_52) (fun _ _ => ⟨rfl, rfl, (by decide : 8 + 0 ≤ _), (by decide : 192 + 0 ≤ _)⟩)
      dsimp only [Pt.U, Pt.locs, Pt.cells, Pt.slots] at X41 l41 y41 z41 st41 hQ41
      subst l41 y41 z41
      obtain ⟨rfl, N41q, e41⟩ := hQ41
      have N41 := Fr.app N40 N41q
      obtain ⟨cq42, kq42, q42a, q42b, q42c⟩ := isOf hZ e41 (((A36.keep K37).keep K38).keep K40)
      obtain ⟨_, _, ⟨T42, L42, k42, n42⟩, -, X42, ⟨Lc42, hQ42, l42, y42, z42⟩, st42⟩ := X41.virtualBack hx (y := (⟨"java/lang/String", "equals", "(Ljava/lang/Object;)Z"⟩ : MethodName)) (z := (⟨"java/lang/String", "equals", "(Ljava/lang/Object;)Z"⟩ : MethodName)) hown (mvT hZ (hw _ (List.mem_of_getElem? (i := 37) rfl))) (mvT hZ (hw _ (List.mem_of_getElem? (i := 38) rfl))) (notFace_of_selects (args := #[]) (mvT hZ (hw _ (List.mem_of_getElem? (i := 40) rfl)))) (mvT hZ (hw _ (List.mem_of_getElem? (i := 40) rfl))) (mvT hZ (hw _ (List.mem_of_getElem? (i := 39) rfl))) (by decide) (backOf (W := 1) (rm6LU l Z a0 hw [] s36 s37 d36 d37 kc36 kc37 G_COMPACT T40.heap n0 Z40 O40 (((A36.keep K37).keep K38).keep K40) (((F36_coder.keep K37 nin0).keep K38 nin0).keep K40 nin0) (((F36_value.keep K37 nin0).keep K38 nin0).keep K40 nin0) ((A37.keep K38).keep K40) ((F37_coder.keep K38 nin0).keep K40 nin0) ((F37_value.keep K38 nin0).keep K40 nin0) (((V36.keep K37 nin0).keep K38 nin0).keep K40 nin0) ((V37.keep K38 nin0).keep K40 nin0) S_COMPACT P_COMPACT (own_strne (by decide) (((F36_value.keep K37 nin0).keep K38 nin0).keep K40 nin0) ((F37_value.keep K38 nin0).keep K40 nin0) (((V36.keep K37 nin0).keep K38 nin0).keep K40 nin0) ((V37.keep K38 nin0).keep K40 nin0))) hZ (hw _ (List.mem_of_getElem? (i := 41) rfl)) (hw _ (List.mem_of_getElem? (i := 26) rfl)) (by decide) (by decide)) q42a q42c (g := (mkF m 79 #[.val (.int u0), .val (.int u1), .val (.ref a_LIST), .val (.ref a_UPSTREAM), .val (.ref s36), .val (.ref s37), .val (.int (1 : Int32)), .unset, .unset] [(.ref s37), (.ref s36), (.int (0 : Int32))])) rfl (by rw [hml]; rfl) (Steps.refl _) (argsL := [(.ref s37)]) (rest := [(.int (0 : Int32))]) (lenOf pd_5 rfl) rfl (by show 2 * 0 + _ ≤ _; exact Nat.le_of_eq rfl) (hb hby at_79) (fun _ _ => ⟨rfl, e41, (by decide : 8 + 0 ≤ _), (by decide : 192 + 0 ≤ _)⟩)
      dsimp only [Pt.U, Pt.locs, Pt.cells, Pt.slots] at X42 l42 y42 z42 st42 hQ42
      subst l42 y42 z42
      obtain ⟨rfl, N42q, e42⟩ := hQ42
      have N42 := Fr.app N41 N42q
      obtain ⟨cq43, kq43, q43a, q43b, q43c⟩ := isOf hZ e42 (E_a_LIST.ext O40.2)
      obtain ⟨_, _, ⟨T43, L43, k43, n43⟩, -, X43, hS43, gr43, ⟨Lc43, hQ43, l43, y43, z43, Cq43⟩, st43⟩ := X42.virtualBackS hx (y := (⟨"com/example/backfill/backfill/engine/Lane", "requests", "()Ljava/lang/String;"⟩ : MethodName)) (z := (⟨"com/example/backfill/backfill/engine/Lane", "requests", "()Ljava/lang/String;"⟩ : MethodName)) hown (mvT hZ (hw _ (List.mem_of_getElem? (i := 11) rfl))) (mvT hZ (hw _ (List.mem_of_getElem? (i := 12) rfl))) (notFace_of_selects (args := #[]) (mvT hZ (hw _ (List.mem_of_getElem? (i := 14) rfl)))) (mvT hZ (hw _ (List.mem_of_getElem? (i := 14) rfl))) (mvT hZ (hw _ (List.mem_of_getElem? (i := 13) rfl))) (by decide) (backOfSH (W := 1) (rm3LIST l Z a0 hw [] a_LIST T40.heap n0 Z40 (E_a_LIST.ext O40.2) (O_LIST.ext O40.2)) hZ (hw _ (List.mem_of_getElem? (i := 15) rfl)) (hw _ (List.mem_of_getElem? (i := 9) rfl)) (by decide) (by decide) (hEL hw) C40.1) q43a q43c (g := (mkF m 95 #[.val (.int u0), .val (.int u1), .val (.ref a_LIST), .val (.ref a_UPSTREAM), .val (.ref s36), .val (.ref s37), .val (.int (1 : Int32)), .val (.int (1 : Int32)), .unset] [(.ref a_LIST), (.ref s36)])) rfl (by rw [hml]; rfl) (Steps.refl _) (argsL := []) (rest := [(.ref s36)]) (lenOf pd_1 rfl) rfl (by show 2 * 0 + _ ≤ _; exact Nat.le_of_eq rfl) (hb hby at_95) (fun _ _ => ⟨rfl, e42, (by decide : 8 + 2 ≤ _), (by decide : 192 + 44 ≤ _)⟩)
      dsimp only [Pt.U, Pt.locs, Pt.cells, Pt.slots] at X43 l43 y43 z43 st43 hQ43 hS43 gr43 Cq43
      subst l43 y43 z43
      obtain ⟨X43, hS43, hZ, hown⟩ := rebS hS40 (Nat.le_trans hk40 (Nat.le_of_eq (congrArg Array.size e42).symm)) X43 hS43 gr43 hZ hown
      have hk43 := Nat.le_refl T43.heap.size
      obtain ⟨s43, d43, kc43, rfl, N43q, K43, A43, F43_coder, F43_value, V43⟩ := hQ43
      have N43 := Fr.app N42 N43q
      have Z43 : n0 ≤ T43.heap.size := Nat.le_trans Z40 K43.1
      have KK43 := KK40.trans K43 all0
      have O43 := O40.keep K43 all0
      have C43 := C40.trans Cq43
      obtain ⟨cq44, kq44, q44a, q44b, q44c⟩ := isOf hZ rfl ((((A36.keep K37).keep K38).keep K40).keep K43)
      obtain ⟨_, _, ⟨T44, L44, k44, n44⟩, -, X44, ⟨Lc44, hQ44, l44, y44, z44⟩, st44⟩ := X43.virtualBack hx (y := (⟨"java/lang/String", "equals", "(Ljava/lang/Object;)Z"⟩ : MethodName)) (z := (⟨"java/lang/String", "equals", "(Ljava/lang/Object;)Z"⟩ : MethodName)) hown (mvT hZ (hw _ (List.mem_of_getElem? (i := 37) rfl))) (mvT hZ (hw _ (List.mem_of_getElem? (i := 38) rfl))) (notFace_of_selects (args := #[]) (mvT hZ (hw _ (List.mem_of_getElem? (i := 40) rfl)))) (mvT hZ (hw _ (List.mem_of_getElem? (i := 40) rfl))) (mvT hZ (hw _ (List.mem_of_getElem? (i := 39) rfl))) (by decide) (backOf (W := 0) (rm6LL l Z a0 hw [] s36 s43 d36 d43 kc36 kc43 G_COMPACT T43.heap n0 Z43 O43 ((((A36.keep K37).keep K38).keep K40).keep K43) ((((F36_coder.keep K37 nin0).keep K38 nin0).keep K40 nin0).keep K43 nin0) ((((F36_value.keep K37 nin0).keep K38 nin0).keep K40 nin0).keep K43 nin0) A43 F43_coder F43_value ((((V36.keep K37 nin0).keep K38 nin0).keep K40 nin0).keep K43 nin0) V43 S_COMPACT P_COMPACT) hZ (hw _ (List.mem_of_getElem? (i := 41) rfl)) (hw _ (List.mem_of_getElem? (i := 26) rfl)) (by decide) (by decide)) q44a q44c (g := (mkF m 98 #[.val (.int u0), .val (.int u1), .val (.ref a_LIST), .val (.ref a_UPSTREAM), .val (.ref s36), .val (.ref s37), .val (.int (1 : Int32)), .val (.int (1 : Int32)), .unset] [(.ref s43), (.ref s36)])) rfl (by rw [hml]; rfl) (Steps.refl _) (argsL := [(.ref s43)]) (rest := []) (lenOf pd_5 rfl) rfl (by show 2 * 0 + _ ≤ _; exact Nat.le_of_eq rfl) (hb hby at_98) (fun _ _ => ⟨rfl, rfl, (by decide : 10 + 0 ≤ _), (by decide : 236 + 0 ≤ _)⟩)
      dsimp only [Pt.U, Pt.locs, Pt.cells, Pt.slots] at X44 l44 y44 z44 st44 hQ44
      subst l44 y44 z44
      obtain ⟨rfl, N44q, e44⟩ := hQ44
      have N44 := Fr.app N43 N44q
      obtain ⟨fs, hr, hrun, hended, hE⟩ := X44.leaveW hS43 (Nat.le_trans hk43 (Nat.le_of_eq (congrArg Array.size e44).symm)) (v := some (.int (1 : Int32))) (fun h => by rw [Bd.returns] at h; cases h)
      refine ⟨_, _, pre0 _ ?_, hrun, hended, _, _, rfl, ?_, ?_, own_monoW hE (by decide) (by decide)⟩
      · show Steps p.tables e below (s₁.setTop (mkF m 0 #[.val (.int u0), .val (.int u1), .unset, .unset, .unset, .unset, .unset, .unset, .unset] [])) _
        refine XS.iloadN X0.here hx rfl (hb hby at_0) rfl ?_
        show Steps p.tables e below (s₁.setTop (mkF m 1 #[.val (.int u0), .val (.int u1), .unset, .unset, .unset, .unset, .unset, .unset, .unset] [(.int u0)])) _
        refine st34 _ ?_
        show Steps p.tables e below (T34.setTop (mkF m 4 #[.val (.int u0), .val (.int u1), .unset, .unset, .unset, .unset, .unset, .unset, .unset] [(.ref a_LIST)])) _
        refine XS.astoreN X34.here hx rfl (hb hby at_4) rfl rfl (l' := #[.val (.int u0), .val (.int u1), .val (.ref a_LIST), .unset, .unset, .unset, .unset, .unset, .unset]) rfl ?_
        show Steps p.tables e below (T34.setTop (mkF m 5 #[.val (.int u0), .val (.int u1), .val (.ref a_LIST), .unset, .unset, .unset, .unset, .unset, .unset] [])) _
        refine XS.iloadN X34.here hx rfl (hb hby at_5) rfl ?_
        show Steps p.tables e below (T34.setTop (mkF m 6 #[.val (.int u0), .val (.int u1), .val (.ref a_LIST), .unset, .unset, .unset, .unset, .unset, .unset] [(.int u1)])) _
        refine st35 _ ?_
        show Steps p.tables e below (T35.setTop (mkF m 9 #[.val (.int u0), .val (.int u1), .val (.ref a_LIST), .unset, .unset, .unset, .unset, .unset, .unset] [(.ref a_UPSTREAM)])) _
        refine XS.astoreN X35.here hx rfl (hb hby at_9) rfl rfl (l' := #[.val (.int u0), .val (.int u1), .val (.ref a_LIST), .val (.ref a_UPSTREAM), .unset, .unset, .unset, .unset, .unset]) rfl ?_
        show Steps p.tables e below (T35.setTop (mkF m 10 #[.val (.int u0), .val (.int u1), .val (.ref a_LIST), .val (.ref a_UPSTREAM), .unset, .unset, .unset, .unset, .unset] [])) _
        refine XS.aloadN X35.here hx rfl (hb hby at_10) rfl rfl ?_
        show Steps p.tables e below (T35.setTop (mkF m 11 #[.val (.int u0), .val (.int u1), .val (.ref a_LIST), .val (.ref a_UPSTREAM), .unset, .unset, .unset, .unset, .unset] [(.ref a_LIST)])) _
        refine st36.trans ?_
        show Steps p.tables e below (T36.setTop (mkF m 14 #[.val (.int u0), .val (.int u1), .val (.ref a_LIST), .val (.ref a_UPSTREAM), .unset, .unset, .unset, .unset, .unset] [(.ref s36)])) _
        refine XS.astore X36.here hx rfl (hb hby at_14) rfl rfl (l' := #[.val (.int u0), .val (.int u1), .val (.ref a_LIST), .val (.ref a_UPSTREAM), .val (.ref s36), .unset, .unset, .unset, .unset]) rfl ?_
        show Steps p.tables e below (T36.setTop (mkF m 16 #[.val (.int u0), .val (.int u1), .val (.ref a_LIST), .val (.ref a_UPSTREAM), .val (.ref s36), .unset, .unset, .unset, .unset] [])) _
        refine XS.aloadN X36.here hx rfl (hb hby at_16) rfl rfl ?_
        show Steps p.tables e below (T36.setTop (mkF m 17 #[.val (.int u0), .val (.int u1), .val (.ref a_LIST), .val (.ref a_UPSTREAM), .val (.ref s36), .unset, .unset, .unset, .unset] [(.ref a_UPSTREAM)])) _
        refine st37.trans ?_
        show Steps p.tables e below (T37.setTop (mkF m 20 #[.val (.int u0), .val (.int u1), .val (.ref a_LIST), .val (.ref a_UPSTREAM), .val (.ref s36), .unset, .unset, .unset, .unset] [(.ref s37)])) _
        refine XS.astore X37.here hx rfl (hb hby at_20) rfl rfl (l' := #[.val (.int u0), .val (.int u1), .val (.ref a_LIST), .val (.ref a_UPSTREAM), .val (.ref s36), .val (.ref s37), .unset, .unset, .unset]) rfl ?_
        show Steps p.tables e below (T37.setTop (mkF m 22 #[.val (.int u0), .val (.int u1), .val (.ref a_LIST), .val (.ref a_UPSTREAM), .val (.ref s36), .val (.ref s37), .unset, .unset, .unset] [])) _
        refine XS.aload X37.here hx rfl (hb hby at_22) rfl rfl ?_
        show Steps p.tables e below (T37.setTop (mkF m 24 #[.val (.int u0), .val (.int u1), .val (.ref a_LIST), .val (.ref a_UPSTREAM), .val (.ref s36), .val (.ref s37), .unset, .unset, .unset] [(.ref s36)])) _
        refine XS.ifnullNo X37.here hx rfl (hb hby at_24) rfl ?_
        show Steps p.tables e below (T37.setTop (mkF m 27 #[.val (.int u0), .val (.int u1), .val (.ref a_LIST), .val (.ref a_UPSTREAM), .val (.ref s36), .val (.ref s37), .unset, .unset, .unset] [])) _
        refine XS.aload X37.here hx rfl (hb hby at_27) rfl rfl ?_
        show Steps p.tables e below (T37.setTop (mkF m 29 #[.val (.int u0), .val (.int u1), .val (.ref a_LIST), .val (.ref a_UPSTREAM), .val (.ref s36), .val (.ref s37), .unset, .unset, .unset] [(.ref s37)])) _
        refine XS.ifnonnullYes X37.here hx rfl (pc0 := 29) (pc' := 34) rfl (hb hby at_29) rfl (by decide) (by decide) ?_
        show Steps p.tables e below (T37.setTop (mkF m 34 #[.val (.int u0), .val (.int u1), .val (.ref a_LIST), .val (.ref a_UPSTREAM), .val (.ref s36), .val (.ref s37), .unset, .unset, .unset] [])) _
        refine XS.aload X37.here hx rfl (hb hby at_34) rfl rfl ?_
        show Steps p.tables e below (T37.setTop (mkF m 36 #[.val (.int u0), .val (.int u1), .val (.ref a_LIST), .val (.ref a_UPSTREAM), .val (.ref s36), .val (.ref s37), .unset, .unset, .unset] [(.ref s36)])) _
        refine XS.iloadN X37.here hx rfl (hb hby at_36) rfl ?_
        show Steps p.tables e below (T37.setTop (mkF m 37 #[.val (.int u0), .val (.int u1), .val (.ref a_LIST), .val (.ref a_UPSTREAM), .val (.ref s36), .val (.ref s37), .unset, .unset, .unset] [(.int u0), (.ref s36)])) _
        refine st38.trans ?_
        show Steps p.tables e below (T38.setTop (mkF m 40 #[.val (.int u0), .val (.int u1), .val (.ref a_LIST), .val (.ref a_UPSTREAM), .val (.ref s36), .val (.ref s37), .unset, .unset, .unset] [(.ref s38), (.ref s36)])) _
        refine st39.trans ?_
        show Steps p.tables e below (T39.setTop (mkF m 43 #[.val (.int u0), .val (.int u1), .val (.ref a_LIST), .val (.ref a_UPSTREAM), .val (.ref s36), .val (.ref s37), .unset, .unset, .unset] [(.int (1 : Int32))])) _
        refine XS.ifNo X39.here hx rfl (hb hby at_43) rfl ((if0 _ _).trans (feq (by decide)).1) ?_
        show Steps p.tables e below (T39.setTop (mkF m 46 #[.val (.int u0), .val (.int u1), .val (.ref a_LIST), .val (.ref a_UPSTREAM), .val (.ref s36), .val (.ref s37), .unset, .unset, .unset] [])) _
        refine XS.aload X39.here hx rfl (hb hby at_46) rfl rfl ?_
        show Steps p.tables e below (T39.setTop (mkF m 48 #[.val (.int u0), .val (.int u1), .val (.ref a_LIST), .val (.ref a_UPSTREAM), .val (.ref s36), .val (.ref s37), .unset, .unset, .unset] [(.ref s37)])) _
        refine XS.iloadN X39.here hx rfl (hb hby at_48) rfl ?_
        show Steps p.tables e below (T39.setTop (mkF m 49 #[.val (.int u0), .val (.int u1), .val (.ref a_LIST), .val (.ref a_UPSTREAM), .val (.ref s36), .val (.ref s37), .unset, .unset, .unset] [(.int u1), (.ref s37)])) _
        refine st40.trans ?_
        show Steps p.tables e below (T40.setTop (mkF m 52 #[.val (.int u0), .val (.int u1), .val (.ref a_LIST), .val (.ref a_UPSTREAM), .val (.ref s36), .val (.ref s37), .unset, .unset, .unset] [(.ref s40), (.ref s37)])) _
        refine st41.trans ?_
        show Steps p.tables e below (T41.setTop (mkF m 55 #[.val (.int u0), .val (.int u1), .val (.ref a_LIST), .val (.ref a_UPSTREAM), .val (.ref s36), .val (.ref s37), .unset, .unset, .unset] [(.int (1 : Int32))])) _
        refine XS.ifNo X41.here hx rfl (hb hby at_55) rfl ((if0 _ _).trans (feq (by decide)).1) ?_
        show Steps p.tables e below (T41.setTop (mkF m 58 #[.val (.int u0), .val (.int u1), .val (.ref a_LIST), .val (.ref a_UPSTREAM), .val (.ref s36), .val (.ref s37), .unset, .unset, .unset] [])) _
        refine XS.iconst X41.here hx rfl (hb hby at_58) ?_
        show Steps p.tables e below (T41.setTop (mkF m 59 #[.val (.int u0), .val (.int u1), .val (.ref a_LIST), .val (.ref a_UPSTREAM), .val (.ref s36), .val (.ref s37), .unset, .unset, .unset] [(.int (1 : Int32))])) _
        refine XS.goto X41.here hx rfl (pc0 := 59) (pc' := 63) rfl (hb hby at_59) (by decide) (by decide) ?_
        show Steps p.tables e below (T41.setTop (mkF m 63 #[.val (.int u0), .val (.int u1), .val (.ref a_LIST), .val (.ref a_UPSTREAM), .val (.ref s36), .val (.ref s37), .unset, .unset, .unset] [(.int (1 : Int32))])) _
        refine XS.istore X41.here hx rfl (hb hby at_63) rfl (l' := #[.val (.int u0), .val (.int u1), .val (.ref a_LIST), .val (.ref a_UPSTREAM), .val (.ref s36), .val (.ref s37), .val (.int (1 : Int32)), .unset, .unset]) rfl ?_
        show Steps p.tables e below (T41.setTop (mkF m 65 #[.val (.int u0), .val (.int u1), .val (.ref a_LIST), .val (.ref a_UPSTREAM), .val (.ref s36), .val (.ref s37), .val (.int (1 : Int32)), .unset, .unset] [])) _
        refine XS.aloadN X41.here hx rfl (hb hby at_65) rfl rfl ?_
        show Steps p.tables e below (T41.setTop (mkF m 66 #[.val (.int u0), .val (.int u1), .val (.ref a_LIST), .val (.ref a_UPSTREAM), .val (.ref s36), .val (.ref s37), .val (.int (1 : Int32)), .unset, .unset] [(.ref a_LIST)])) _
        refine XS.aloadN X41.here hx rfl (hb hby at_66) rfl rfl ?_
        show Steps p.tables e below (T41.setTop (mkF m 67 #[.val (.int u0), .val (.int u1), .val (.ref a_LIST), .val (.ref a_UPSTREAM), .val (.ref s36), .val (.ref s37), .val (.int (1 : Int32)), .unset, .unset] [(.ref a_UPSTREAM), (.ref a_LIST)])) _
        refine Jvm.RoadKit.acmp (g := (mkF m 67 #[.val (.int u0), .val (.int u1), .val (.ref a_LIST), .val (.ref a_UPSTREAM), .val (.ref s36), .val (.ref s37), .val (.int (1 : Int32)), .unset, .unset] [(.ref a_UPSTREAM), (.ref a_LIST)])) X41 hx rfl rfl rfl (pc0 := 67) (pc' := 74) (same := false) rfl (hb hby at_67) rfl (decide_eq_false fun q => (Ne.symm ne_UPSTREAM_LIST) (Value.ref.inj q)) (by decide) (by decide) ?_
        show Steps p.tables e below (T41.setTop (mkF m 74 #[.val (.int u0), .val (.int u1), .val (.ref a_LIST), .val (.ref a_UPSTREAM), .val (.ref s36), .val (.ref s37), .val (.int (1 : Int32)), .unset, .unset] [])) _
        refine XS.iconst X41.here hx rfl (hb hby at_74) ?_
        show Steps p.tables e below (T41.setTop (mkF m 75 #[.val (.int u0), .val (.int u1), .val (.ref a_LIST), .val (.ref a_UPSTREAM), .val (.ref s36), .val (.ref s37), .val (.int (1 : Int32)), .unset, .unset] [(.int (0 : Int32))])) _
        refine XS.aload X41.here hx rfl (hb hby at_75) rfl rfl ?_
        show Steps p.tables e below (T41.setTop (mkF m 77 #[.val (.int u0), .val (.int u1), .val (.ref a_LIST), .val (.ref a_UPSTREAM), .val (.ref s36), .val (.ref s37), .val (.int (1 : Int32)), .unset, .unset] [(.ref s36), (.int (0 : Int32))])) _
        refine XS.aload X41.here hx rfl (hb hby at_77) rfl rfl ?_
        show Steps p.tables e below (T41.setTop (mkF m 79 #[.val (.int u0), .val (.int u1), .val (.ref a_LIST), .val (.ref a_UPSTREAM), .val (.ref s36), .val (.ref s37), .val (.int (1 : Int32)), .unset, .unset] [(.ref s37), (.ref s36), (.int (0 : Int32))])) _
        refine st42.trans ?_
        show Steps p.tables e below (T42.setTop (mkF m 82 #[.val (.int u0), .val (.int u1), .val (.ref a_LIST), .val (.ref a_UPSTREAM), .val (.ref s36), .val (.ref s37), .val (.int (1 : Int32)), .unset, .unset] [(.int (0 : Int32)), (.int (0 : Int32))])) _
        refine XS.icmpNo X42.here hx rfl (hb hby at_82) rfl (teq (by decide)).2 ?_
        show Steps p.tables e below (T42.setTop (mkF m 85 #[.val (.int u0), .val (.int u1), .val (.ref a_LIST), .val (.ref a_UPSTREAM), .val (.ref s36), .val (.ref s37), .val (.int (1 : Int32)), .unset, .unset] [])) _
        refine XS.iconst X42.here hx rfl (hb hby at_85) ?_
        show Steps p.tables e below (T42.setTop (mkF m 86 #[.val (.int u0), .val (.int u1), .val (.ref a_LIST), .val (.ref a_UPSTREAM), .val (.ref s36), .val (.ref s37), .val (.int (1 : Int32)), .unset, .unset] [(.int (1 : Int32))])) _
        refine XS.goto X42.here hx rfl (pc0 := 86) (pc' := 90) rfl (hb hby at_86) (by decide) (by decide) ?_
        show Steps p.tables e below (T42.setTop (mkF m 90 #[.val (.int u0), .val (.int u1), .val (.ref a_LIST), .val (.ref a_UPSTREAM), .val (.ref s36), .val (.ref s37), .val (.int (1 : Int32)), .unset, .unset] [(.int (1 : Int32))])) _
        refine XS.istore X42.here hx rfl (hb hby at_90) rfl (l' := #[.val (.int u0), .val (.int u1), .val (.ref a_LIST), .val (.ref a_UPSTREAM), .val (.ref s36), .val (.ref s37), .val (.int (1 : Int32)), .val (.int (1 : Int32)), .unset]) rfl ?_
        show Steps p.tables e below (T42.setTop (mkF m 92 #[.val (.int u0), .val (.int u1), .val (.ref a_LIST), .val (.ref a_UPSTREAM), .val (.ref s36), .val (.ref s37), .val (.int (1 : Int32)), .val (.int (1 : Int32)), .unset] [])) _
        refine XS.aload X42.here hx rfl (hb hby at_92) rfl rfl ?_
        show Steps p.tables e below (T42.setTop (mkF m 94 #[.val (.int u0), .val (.int u1), .val (.ref a_LIST), .val (.ref a_UPSTREAM), .val (.ref s36), .val (.ref s37), .val (.int (1 : Int32)), .val (.int (1 : Int32)), .unset] [(.ref s36)])) _
        refine XS.aloadN X42.here hx rfl (hb hby at_94) rfl rfl ?_
        show Steps p.tables e below (T42.setTop (mkF m 95 #[.val (.int u0), .val (.int u1), .val (.ref a_LIST), .val (.ref a_UPSTREAM), .val (.ref s36), .val (.ref s37), .val (.int (1 : Int32)), .val (.int (1 : Int32)), .unset] [(.ref a_LIST), (.ref s36)])) _
        refine st43.trans ?_
        show Steps p.tables e below (T43.setTop (mkF m 98 #[.val (.int u0), .val (.int u1), .val (.ref a_LIST), .val (.ref a_UPSTREAM), .val (.ref s36), .val (.ref s37), .val (.int (1 : Int32)), .val (.int (1 : Int32)), .unset] [(.ref s43), (.ref s36)])) _
        refine st44.trans ?_
        show Steps p.tables e below (T44.setTop (mkF m 101 #[.val (.int u0), .val (.int u1), .val (.ref a_LIST), .val (.ref a_UPSTREAM), .val (.ref s36), .val (.ref s37), .val (.int (1 : Int32)), .val (.int (1 : Int32)), .unset] [(.int (1 : Int32))])) _
        refine XS.istore X44.here hx rfl (hb hby at_101) rfl (l' := #[.val (.int u0), .val (.int u1), .val (.ref a_LIST), .val (.ref a_UPSTREAM), .val (.ref s36), .val (.ref s37), .val (.int (1 : Int32)), .val (.int (1 : Int32)), .val (.int (1 : Int32))]) rfl ?_
        show Steps p.tables e below (T44.setTop (mkF m 103 #[.val (.int u0), .val (.int u1), .val (.ref a_LIST), .val (.ref a_UPSTREAM), .val (.ref s36), .val (.ref s37), .val (.int (1 : Int32)), .val (.int (1 : Int32)), .val (.int (1 : Int32))] [])) _
        refine XS.iload X44.here hx rfl (hb hby at_103) rfl ?_
        show Steps p.tables e below (T44.setTop (mkF m 105 #[.val (.int u0), .val (.int u1), .val (.ref a_LIST), .val (.ref a_UPSTREAM), .val (.ref s36), .val (.ref s37), .val (.int (1 : Int32)), .val (.int (1 : Int32)), .val (.int (1 : Int32))] [(.int (1 : Int32))])) _
        refine XS.ifNo X44.here hx rfl (hb hby at_105) rfl ((if0 _ _).trans (feq (by decide)).1) ?_
        show Steps p.tables e below (T44.setTop (mkF m 108 #[.val (.int u0), .val (.int u1), .val (.ref a_LIST), .val (.ref a_UPSTREAM), .val (.ref s36), .val (.ref s37), .val (.int (1 : Int32)), .val (.int (1 : Int32)), .val (.int (1 : Int32))] [])) _
        refine XS.iload X44.here hx rfl (hb hby at_108) rfl ?_
        show Steps p.tables e below (T44.setTop (mkF m 110 #[.val (.int u0), .val (.int u1), .val (.ref a_LIST), .val (.ref a_UPSTREAM), .val (.ref s36), .val (.ref s37), .val (.int (1 : Int32)), .val (.int (1 : Int32)), .val (.int (1 : Int32))] [(.int (1 : Int32))])) _
        refine XS.ifNo X44.here hx rfl (hb hby at_110) rfl ((if0 _ _).trans (feq (by decide)).1) ?_
        show Steps p.tables e below (T44.setTop (mkF m 113 #[.val (.int u0), .val (.int u1), .val (.ref a_LIST), .val (.ref a_UPSTREAM), .val (.ref s36), .val (.ref s37), .val (.int (1 : Int32)), .val (.int (1 : Int32)), .val (.int (1 : Int32))] [])) _
        refine XS.iload X44.here hx rfl (hb hby at_113) rfl ?_
        show Steps p.tables e below (T44.setTop (mkF m 115 #[.val (.int u0), .val (.int u1), .val (.ref a_LIST), .val (.ref a_UPSTREAM), .val (.ref s36), .val (.ref s37), .val (.int (1 : Int32)), .val (.int (1 : Int32)), .val (.int (1 : Int32))] [(.int (1 : Int32))])) _
        refine XS.ifNo X44.here hx rfl (hb hby at_115) rfl ((if0 _ _).trans (feq (by decide)).1) ?_
        show Steps p.tables e below (T44.setTop (mkF m 118 #[.val (.int u0), .val (.int u1), .val (.ref a_LIST), .val (.ref a_UPSTREAM), .val (.ref s36), .val (.ref s37), .val (.int (1 : Int32)), .val (.int (1 : Int32)), .val (.int (1 : Int32))] [])) _
        refine XS.iconst X44.here hx rfl (hb hby at_118) ?_
        show Steps p.tables e below (T44.setTop (mkF m 119 #[.val (.int u0), .val (.int u1), .val (.ref a_LIST), .val (.ref a_UPSTREAM), .val (.ref s36), .val (.ref s37), .val (.int (1 : Int32)), .val (.int (1 : Int32)), .val (.int (1 : Int32))] [(.int (1 : Int32))])) _
        refine XS.goto X44.here hx rfl (pc0 := 119) (pc' := 123) rfl (hb hby at_119) (by decide) (by decide) ?_
        show Steps p.tables e below (T44.setTop (mkF m 123 #[.val (.int u0), .val (.int u1), .val (.ref a_LIST), .val (.ref a_UPSTREAM), .val (.ref s36), .val (.ref s37), .val (.int (1 : Int32)), .val (.int (1 : Int32)), .val (.int (1 : Int32))] [(.int (1 : Int32))])) _
        exact retN X44 hx (t := .boolean) Bd.returns (by simp) (hb hby at_123) hr
      · show Q0 Z u0 u1 a_UPSTREAM a_LIST a_ITEM G_COMPACT h0 n0 _ T44.heap _
        rw [e44]
        exact ⟨rfl, N44⟩
      · show CHr Z EL s.vm s.heap T44.vm T44.heap
        rw [e44]
        rw [hh]
        exact C43.trans (CHv.at X44 hZ (hEL hw) C43.1)
    · obtain ⟨_, _, ⟨T45, L45, k45, n45⟩, -, X45, ⟨Lc45, hQ45, l45, y45, z45⟩, st45⟩ := Jvm.LawKit.callS X0 hx (y := (⟨"com/example/backfill/backfill/engine/LaneRequestsPinLaw", "pick", "(I)Lcom/example/backfill/backfill/engine/Lane;"⟩ : MethodName)) hown (mvT hZ (hw _ (List.mem_of_getElem? (i := 0) rfl))) (mvT hZ (hw _ (List.mem_of_getElem? (i := 1) rfl))) (mvT hZ (hw _ (List.mem_of_getElem? (i := 2) rfl))) (mvT hZ (hw _ (List.mem_of_getElem? (i := 3) rfl))) (by decide) (backOf (W := 0) (rm1 l Z a0 hw [] u0 a_UPSTREAM a_LIST a_ITEM h0 n0 Z0 O0 S_UPSTREAM S_LIST S_ITEM) hZ (hw _ (List.mem_of_getElem? (i := 3) rfl)) (hw _ (List.mem_of_getElem? (i := 2) rfl)) (by decide) (by decide)) (g := (mkF m 1 #[.val (.int u0), .val (.int u1), .unset, .unset, .unset, .unset, .unset, .unset, .unset] [(.int u0)])) rfl (by rw [hml]; rfl) (argsL := [(.int u0)]) (rest := []) (lenOf pd_3 rfl) rfl (by show 2 * 0 + _ ≤ _; exact Nat.le_of_eq rfl) (hb hby at_1) (fun _ _ => ⟨rfl, e0, (by decide : 0 + 0 ≤ _), (by decide : 0 + 0 ≤ _)⟩)
      dsimp only [Pt.U, Pt.locs, Pt.cells, Pt.slots] at X45 l45 y45 z45 st45 hQ45
      subst l45 y45 z45
      obtain ⟨hv45, N45q, e45⟩ := hQ45
      rw [hp0.2] at hv45
      subst hv45
      have N45 := Fr.app N0 N45q
      obtain ⟨_, _, ⟨T46, L46, k46, n46⟩, -, X46, ⟨Lc46, hQ46, l46, y46, z46⟩, st46⟩ := Jvm.LawKit.callS X45 hx (y := (⟨"com/example/backfill/backfill/engine/LaneRequestsPinLaw", "pick", "(I)Lcom/example/backfill/backfill/engine/Lane;"⟩ : MethodName)) hown (mvT hZ (hw _ (List.mem_of_getElem? (i := 0) rfl))) (mvT hZ (hw _ (List.mem_of_getElem? (i := 1) rfl))) (mvT hZ (hw _ (List.mem_of_getElem? (i := 2) rfl))) (mvT hZ (hw _ (List.mem_of_getElem? (i := 3) rfl))) (by decide) (backOf (W := 0) (rm1 l Z a0 hw [] u1 a_UPSTREAM a_LIST a_ITEM h0 n0 Z0 O0 S_UPSTREAM S_LIST S_ITEM) hZ (hw _ (List.mem_of_getElem? (i := 3) rfl)) (hw _ (List.mem_of_getElem? (i := 2) rfl)) (by decide) (by decide)) (g := (mkF m 6 #[.val (.int u0), .val (.int u1), .val (.ref a_LIST), .unset, .unset, .unset, .unset, .unset, .unset] [(.int u1)])) rfl (by rw [hml]; rfl) (argsL := [(.int u1)]) (rest := []) (lenOf pd_3 rfl) rfl (by show 2 * 0 + _ ≤ _; exact Nat.le_of_eq rfl) (hb hby at_6) (fun _ _ => ⟨rfl, e45, (by decide : 0 + 0 ≤ _), (by decide : 0 + 0 ≤ _)⟩)
      dsimp only [Pt.U, Pt.locs, Pt.cells, Pt.slots] at X46 l46 y46 z46 st46 hQ46
      subst l46 y46 z46
      obtain ⟨hv46, N46q, e46⟩ := hQ46
      rw [hp1.2] at hv46
      subst hv46
      have N46 := Fr.app N45 N46q
      obtain ⟨cq47, kq47, q47a, q47b, q47c⟩ := isOf hZ e46 (E_a_LIST.ext O0.2)
      obtain ⟨_, _, ⟨T47, L47, k47, n47⟩, -, X47, hS47, gr47, ⟨Lc47, hQ47, l47, y47, z47, Cq47⟩, st47⟩ := X46.virtualBackS hx (y := (⟨"com/example/backfill/backfill/engine/Lane", "requests", "()Ljava/lang/String;"⟩ : MethodName)) (z := (⟨"com/example/backfill/backfill/engine/Lane", "requests", "()Ljava/lang/String;"⟩ : MethodName)) hown (mvT hZ (hw _ (List.mem_of_getElem? (i := 11) rfl))) (mvT hZ (hw _ (List.mem_of_getElem? (i := 12) rfl))) (notFace_of_selects (args := #[]) (mvT hZ (hw _ (List.mem_of_getElem? (i := 14) rfl)))) (mvT hZ (hw _ (List.mem_of_getElem? (i := 14) rfl))) (mvT hZ (hw _ (List.mem_of_getElem? (i := 13) rfl))) (by decide) (backOfSH (W := 0) (rm3LIST l Z a0 hw [] a_LIST h0 n0 Z0 (E_a_LIST.ext O0.2) (O_LIST.ext O0.2)) hZ (hw _ (List.mem_of_getElem? (i := 15) rfl)) (hw _ (List.mem_of_getElem? (i := 9) rfl)) (by decide) (by decide) (hEL hw) C0.1) q47a q47c (g := (mkF m 11 #[.val (.int u0), .val (.int u1), .val (.ref a_LIST), .val (.ref a_LIST), .unset, .unset, .unset, .unset, .unset] [(.ref a_LIST)])) rfl (by rw [hml]; rfl) (Steps.refl _) (argsL := []) (rest := []) (lenOf pd_1 rfl) rfl (by show 2 * 0 + _ ≤ _; exact Nat.le_of_eq rfl) (hb hby at_11) (fun _ _ => ⟨rfl, e46, (by decide : 0 + 2 ≤ _), (by decide : 0 + 44 ≤ _)⟩)
      dsimp only [Pt.U, Pt.locs, Pt.cells, Pt.slots] at X47 l47 y47 z47 st47 hQ47 hS47 gr47 Cq47
      subst l47 y47 z47
      obtain ⟨X47, hS47, hZ, hown⟩ := rebS hS0 (Nat.le_trans hk0 (Nat.le_of_eq (congrArg Array.size e46).symm)) X47 hS47 gr47 hZ hown
      have hk47 := Nat.le_refl T47.heap.size
      obtain ⟨s47, d47, kc47, rfl, N47q, K47, A47, F47_coder, F47_value, V47⟩ := hQ47
      have N47 := Fr.app N46 N47q
      have Z47 : n0 ≤ T47.heap.size := Nat.le_trans Z0 K47.1
      have KK47 := (Keep.refl h0 []).trans K47 all0
      have O47 := O0.keep K47 all0
      have C47 := C0.trans Cq47
      obtain ⟨cq48, kq48, q48a, q48b, q48c⟩ := isOf hZ rfl (E_a_LIST.ext O47.2)
      obtain ⟨_, _, ⟨T48, L48, k48, n48⟩, -, X48, hS48, gr48, ⟨Lc48, hQ48, l48, y48, z48, Cq48⟩, st48⟩ := X47.virtualBackS hx (y := (⟨"com/example/backfill/backfill/engine/Lane", "requests", "()Ljava/lang/String;"⟩ : MethodName)) (z := (⟨"com/example/backfill/backfill/engine/Lane", "requests", "()Ljava/lang/String;"⟩ : MethodName)) hown (mvT hZ (hw _ (List.mem_of_getElem? (i := 11) rfl))) (mvT hZ (hw _ (List.mem_of_getElem? (i := 12) rfl))) (notFace_of_selects (args := #[]) (mvT hZ (hw _ (List.mem_of_getElem? (i := 14) rfl)))) (mvT hZ (hw _ (List.mem_of_getElem? (i := 14) rfl))) (mvT hZ (hw _ (List.mem_of_getElem? (i := 13) rfl))) (by decide) (backOfSH (W := 0) (rm3LIST l Z a0 hw [] a_LIST T47.heap n0 Z47 (E_a_LIST.ext O47.2) (O_LIST.ext O47.2)) hZ (hw _ (List.mem_of_getElem? (i := 15) rfl)) (hw _ (List.mem_of_getElem? (i := 9) rfl)) (by decide) (by decide) (hEL hw) C47.1) q48a q48c (g := (mkF m 17 #[.val (.int u0), .val (.int u1), .val (.ref a_LIST), .val (.ref a_LIST), .val (.ref s47), .unset, .unset, .unset, .unset] [(.ref a_LIST)])) rfl (by rw [hml]; rfl) (Steps.refl _) (argsL := []) (rest := []) (lenOf pd_1 rfl) rfl (by show 2 * 0 + _ ≤ _; exact Nat.le_of_eq rfl) (hb hby at_17) (fun _ _ => ⟨rfl, rfl, (by decide : 2 + 2 ≤ _), (by decide : 44 + 44 ≤ _)⟩)
      dsimp only [Pt.U, Pt.locs, Pt.cells, Pt.slots] at X48 l48 y48 z48 st48 hQ48 hS48 gr48 Cq48
      subst l48 y48 z48
      obtain ⟨X48, hS48, hZ, hown⟩ := rebS hS47 (Nat.le_trans hk47 (Nat.le_of_eq (congrArg Array.size rfl).symm)) X48 hS48 gr48 hZ hown
      have hk48 := Nat.le_refl T48.heap.size
      obtain ⟨s48, d48, kc48, rfl, N48q, K48, A48, F48_coder, F48_value, V48⟩ := hQ48
      have N48 := Fr.app N47 N48q
      have Z48 : n0 ≤ T48.heap.size := Nat.le_trans Z47 K48.1
      have KK48 := KK47.trans K48 all0
      have O48 := O47.keep K48 all0
      have C48 := C47.trans Cq48
      obtain ⟨_, _, ⟨T49, L49, k49, n49⟩, -, X49, hS49, gr49, ⟨Lc49, hQ49, l49, y49, z49, Cq49⟩, st49⟩ := callSS X48 hx (y := (⟨"com/example/backfill/backfill/engine/LaneRequestsPinLaw", "expected", "(I)Ljava/lang/String;"⟩ : MethodName)) hown (mvT hZ (hw _ (List.mem_of_getElem? (i := 33) rfl))) (mvT hZ (hw _ (List.mem_of_getElem? (i := 34) rfl))) (mvT hZ (hw _ (List.mem_of_getElem? (i := 2) rfl))) (mvT hZ (hw _ (List.mem_of_getElem? (i := 35) rfl))) (by decide) (backOfSH (W := 1) (rm5LIST l Z a0 hw [] u0 T48.heap n0 Z48 hp0.1.1 hp0.1.2) hZ (hw _ (List.mem_of_getElem? (i := 35) rfl)) (hw _ (List.mem_of_getElem? (i := 2) rfl)) (by decide) (by decide) (hEL hw) C48.1) (g := (mkF m 37 #[.val (.int u0), .val (.int u1), .val (.ref a_LIST), .val (.ref a_LIST), .val (.ref s47), .val (.ref s48), .unset, .unset, .unset] [(.int u0), (.ref s47)])) rfl (by rw [hml]; rfl) (argsL := [(.int u0)]) (rest := [(.ref s47)]) (lenOf pd_4 rfl) rfl (by show 2 * 0 + _ ≤ _; exact Nat.le_of_eq rfl) (hb hby at_37) (fun _ _ => ⟨rfl, rfl, (by decide : 4 + 2 ≤ _), (by decide : 88 + 44 ≤ _)⟩)
      dsimp only [Pt.U, Pt.locs, Pt.cells, Pt.slots] at X49 l49 y49 z49 st49 hQ49 hS49 gr49 Cq49
      subst l49 y49 z49
      obtain ⟨X49, hS49, hZ, hown⟩ := rebS hS48 (Nat.le_trans hk48 (Nat.le_of_eq (congrArg Array.size rfl).symm)) X49 hS49 gr49 hZ hown
      have hk49 := Nat.le_refl T49.heap.size
      obtain ⟨s49, d49, kc49, rfl, N49q, K49, A49, F49_coder, F49_value, V49⟩ := hQ49
      have N49 := Fr.app N48 N49q
      have Z49 : n0 ≤ T49.heap.size := Nat.le_trans Z48 K49.1
      have KK49 := KK48.trans K49 all0
      have O49 := O48.keep K49 all0
      have C49 := C48.trans Cq49
      obtain ⟨cq50, kq50, q50a, q50b, q50c⟩ := isOf hZ rfl ((A47.keep K48).keep K49)
      obtain ⟨_, _, ⟨T50, L50, k50, n50⟩, -, X50, ⟨Lc50, hQ50, l50, y50, z50⟩, st50⟩ := X49.virtualBack hx (y := (⟨"java/lang/String", "equals", "(Ljava/lang/Object;)Z"⟩ : MethodName)) (z := (⟨"java/lang/String", "equals", "(Ljava/lang/Object;)Z"⟩ : MethodName)) hown (mvT hZ (hw _ (List.mem_of_getElem? (i := 37) rfl))) (mvT hZ (hw _ (List.mem_of_getElem? (i := 38) rfl))) (notFace_of_selects (args := #[]) (mvT hZ (hw _ (List.mem_of_getElem? (i := 40) rfl)))) (mvT hZ (hw _ (List.mem_of_getElem? (i := 40) rfl))) (mvT hZ (hw _ (List.mem_of_getElem? (i := 39) rfl))) (by decide) (backOf (W := 0) (rm6LL l Z a0 hw [] s47 s49 d47 d49 kc47 kc49 G_COMPACT T49.heap n0 Z49 O49 ((A47.keep K48).keep K49) ((F47_coder.keep K48 nin0).keep K49 nin0) ((F47_value.keep K48 nin0).keep K49 nin0) A49 F49_coder F49_value ((V47.keep K48 nin0).keep K49 nin0) V49 S_COMPACT P_COMPACT) hZ (hw _ (List.mem_of_getElem? (i := 41) rfl)) (hw _ (List.mem_of_getElem? (i := 26) rfl)) (by decide) (by decide)) q50a q50c (g := (mkF m 40 #[.val (.int u0), .val (.int u1), .val (.ref a_LIST), .val (.ref a_LIST), .val (.ref s47), .val (.ref s48), .unset, .unset, .unset] [(.ref s49), (.ref s47)])) rfl (by rw [hml]; rfl) (Steps.refl _) (argsL := [(.ref s49)]) (rest := []) (lenOf pd_5 rfl) rfl (by show 2 * 0 + _ ≤ _; exact Nat.le_of_eq rfl) (hb hby at_40) (fun _ _ => ⟨rfl, rfl, (by decide : 6 + 0 ≤ _), (by decide : 132 + 0 ≤ _)⟩)
      dsimp only [Pt.U, Pt.locs, Pt.cells, Pt.slots] at X50 l50 y50 z50 st50 hQ50
      subst l50 y50 z50
      obtain ⟨rfl, N50q, e50⟩ := hQ50
      have N50 := Fr.app N49 N50q
      obtain ⟨_, _, ⟨T51, L51, k51, n51⟩, -, X51, hS51, gr51, ⟨Lc51, hQ51, l51, y51, z51, Cq51⟩, st51⟩ := callSS X50 hx (y := (⟨"com/example/backfill/backfill/engine/LaneRequestsPinLaw", "expected", "(I)Ljava/lang/String;"⟩ : MethodName)) hown (mvT hZ (hw _ (List.mem_of_getElem? (i := 33) rfl))) (mvT hZ (hw _ (List.mem_of_getElem? (i := 34) rfl))) (mvT hZ (hw _ (List.mem_of_getElem? (i := 2) rfl))) (mvT hZ (hw _ (List.mem_of_getElem? (i := 35) rfl))) (by decide) (backOfSH (W := 1) (rm5LIST l Z a0 hw [] u1 T49.heap n0 Z49 hp1.1.1 hp1.1.2) hZ (hw _ (List.mem_of_getElem? (i := 35) rfl)) (hw _ (List.mem_of_getElem? (i := 2) rfl)) (by decide) (by decide) (hEL hw) C49.1) (g := (mkF m 49 #[.val (.int u0), .val (.int u1), .val (.ref a_LIST), .val (.ref a_LIST), .val (.ref s47), .val (.ref s48), .unset, .unset, .unset] [(.int u1), (.ref s48)])) rfl (by rw [hml]; rfl) (argsL := [(.int u1)]) (rest := [(.ref s48)]) (lenOf pd_4 rfl) rfl (by show 2 * 0 + _ ≤ _; exact Nat.le_of_eq rfl) (hb hby at_49) (fun _ _ => ⟨rfl, e50, (by decide : 6 + 2 ≤ _), (by decide : 132 + 44 ≤ _)⟩)
      dsimp only [Pt.U, Pt.locs, Pt.cells, Pt.slots] at X51 l51 y51 z51 st51 hQ51 hS51 gr51 Cq51
      subst l51 y51 z51
      obtain ⟨X51, hS51, hZ, hown⟩ := rebS hS49 (Nat.le_trans hk49 (Nat.le_of_eq (congrArg Array.size e50).symm)) X51 hS51 gr51 hZ hown
      have hk51 := Nat.le_refl T51.heap.size
      obtain ⟨s51, d51, kc51, rfl, N51q, K51, A51, F51_coder, F51_value, V51⟩ := hQ51
      have N51 := Fr.app N50 N51q
      have Z51 : n0 ≤ T51.heap.size := Nat.le_trans Z49 K51.1
      have KK51 := KK49.trans K51 all0
      have O51 := O49.keep K51 all0
      have C51 := C49.trans Cq51
      obtain ⟨cq52, kq52, q52a, q52b, q52c⟩ := isOf hZ rfl ((A48.keep K49).keep K51)
      obtain ⟨_, _, ⟨T52, L52, k52, n52⟩, -, X52, ⟨Lc52, hQ52, l52, y52, z52⟩, st52⟩ := X51.virtualBack hx (y := (⟨"java/lang/String", "equals", "(Ljava/lang/Object;)Z"⟩ : MethodName)) (z := (⟨"java/lang/String", "equals", "(Ljava/lang/Object;)Z"⟩ : MethodName)) hown (mvT hZ (hw _ (List.mem_of_getElem? (i := 37) rfl))) (mvT hZ (hw _ (List.mem_of_getElem? (i := 38) rfl))) (notFace_of_selects (args := #[]) (mvT hZ (hw _ (List.mem_of_getElem? (i := 40) rfl)))) (mvT hZ (hw _ (List.mem_of_getElem? (i := 40) rfl))) (mvT hZ (hw _ (List.mem_of_getElem? (i := 39) rfl))) (by decide) (backOf (W := 0) (rm6LL l Z a0 hw [] s48 s51 d48 d51 kc48 kc51 G_COMPACT T51.heap n0 Z51 O51 ((A48.keep K49).keep K51) ((F48_coder.keep K49 nin0).keep K51 nin0) ((F48_value.keep K49 nin0).keep K51 nin0) A51 F51_coder F51_value ((V48.keep K49 nin0).keep K51 nin0) V51 S_COMPACT P_COMPACT) hZ (hw _ (List.mem_of_getElem? (i := 41) rfl)) (hw _ (List.mem_of_getElem? (i := 26) rfl)) (by decide) (by decide)) q52a q52c (g := (mkF m 52 #[.val (.int u0), .val (.int u1), .val (.ref a_LIST), .val (.ref a_LIST), .val (.ref s47), .val (.ref s48), .unset, .unset, .unset] [(.ref s51), (.ref s48)])) rfl (by rw [hml]; rfl) (Steps.refl _) (argsL := [(.ref s51)]) (rest := []) (lenOf pd_5 rfl) rfl (by show 2 * 0 + _ ≤ _; exact Nat.le_of_eq rfl) (hb hby at_52) (fun _ _ => ⟨rfl, rfl, (by decide : 8 + 0 ≤ _), (by decide : 176 + 0 ≤ _)⟩)
      dsimp only [Pt.U, Pt.locs, Pt.cells, Pt.slots] at X52 l52 y52 z52 st52 hQ52
      subst l52 y52 z52
      obtain ⟨rfl, N52q, e52⟩ := hQ52
      have N52 := Fr.app N51 N52q
      obtain ⟨cq53, kq53, q53a, q53b, q53c⟩ := isOf hZ e52 (((A47.keep K48).keep K49).keep K51)
      obtain ⟨_, _, ⟨T53, L53, k53, n53⟩, -, X53, ⟨Lc53, hQ53, l53, y53, z53⟩, st53⟩ := X52.virtualBack hx (y := (⟨"java/lang/String", "equals", "(Ljava/lang/Object;)Z"⟩ : MethodName)) (z := (⟨"java/lang/String", "equals", "(Ljava/lang/Object;)Z"⟩ : MethodName)) hown (mvT hZ (hw _ (List.mem_of_getElem? (i := 37) rfl))) (mvT hZ (hw _ (List.mem_of_getElem? (i := 38) rfl))) (notFace_of_selects (args := #[]) (mvT hZ (hw _ (List.mem_of_getElem? (i := 40) rfl)))) (mvT hZ (hw _ (List.mem_of_getElem? (i := 40) rfl))) (mvT hZ (hw _ (List.mem_of_getElem? (i := 39) rfl))) (by decide) (backOf (W := 1) (rm6LL l Z a0 hw [] s47 s48 d47 d48 kc47 kc48 G_COMPACT T51.heap n0 Z51 O51 (((A47.keep K48).keep K49).keep K51) (((F47_coder.keep K48 nin0).keep K49 nin0).keep K51 nin0) (((F47_value.keep K48 nin0).keep K49 nin0).keep K51 nin0) ((A48.keep K49).keep K51) ((F48_coder.keep K49 nin0).keep K51 nin0) ((F48_value.keep K49 nin0).keep K51 nin0) (((V47.keep K48 nin0).keep K49 nin0).keep K51 nin0) ((V48.keep K49 nin0).keep K51 nin0) S_COMPACT P_COMPACT) hZ (hw _ (List.mem_of_getElem? (i := 41) rfl)) (hw _ (List.mem_of_getElem? (i := 26) rfl)) (by decide) (by decide)) q53a q53c (g := (mkF m 79 #[.val (.int u0), .val (.int u1), .val (.ref a_LIST), .val (.ref a_LIST), .val (.ref s47), .val (.ref s48), .val (.int (1 : Int32)), .unset, .unset] [(.ref s48), (.ref s47), (.int (1 : Int32))])) rfl (by rw [hml]; rfl) (Steps.refl _) (argsL := [(.ref s48)]) (rest := [(.int (1 : Int32))]) (lenOf pd_5 rfl) rfl (by show 2 * 0 + _ ≤ _; exact Nat.le_of_eq rfl) (hb hby at_79) (fun _ _ => ⟨rfl, e52, (by decide : 8 + 0 ≤ _), (by decide : 176 + 0 ≤ _)⟩)
      dsimp only [Pt.U, Pt.locs, Pt.cells, Pt.slots] at X53 l53 y53 z53 st53 hQ53
      subst l53 y53 z53
      obtain ⟨rfl, N53q, e53⟩ := hQ53
      have N53 := Fr.app N52 N53q
      obtain ⟨cq54, kq54, q54a, q54b, q54c⟩ := isOf hZ e53 (E_a_LIST.ext O51.2)
      obtain ⟨_, _, ⟨T54, L54, k54, n54⟩, -, X54, hS54, gr54, ⟨Lc54, hQ54, l54, y54, z54, Cq54⟩, st54⟩ := X53.virtualBackS hx (y := (⟨"com/example/backfill/backfill/engine/Lane", "requests", "()Ljava/lang/String;"⟩ : MethodName)) (z := (⟨"com/example/backfill/backfill/engine/Lane", "requests", "()Ljava/lang/String;"⟩ : MethodName)) hown (mvT hZ (hw _ (List.mem_of_getElem? (i := 11) rfl))) (mvT hZ (hw _ (List.mem_of_getElem? (i := 12) rfl))) (notFace_of_selects (args := #[]) (mvT hZ (hw _ (List.mem_of_getElem? (i := 14) rfl)))) (mvT hZ (hw _ (List.mem_of_getElem? (i := 14) rfl))) (mvT hZ (hw _ (List.mem_of_getElem? (i := 13) rfl))) (by decide) (backOfSH (W := 1) (rm3LIST l Z a0 hw [] a_LIST T51.heap n0 Z51 (E_a_LIST.ext O51.2) (O_LIST.ext O51.2)) hZ (hw _ (List.mem_of_getElem? (i := 15) rfl)) (hw _ (List.mem_of_getElem? (i := 9) rfl)) (by decide) (by decide) (hEL hw) C51.1) q54a q54c (g := (mkF m 95 #[.val (.int u0), .val (.int u1), .val (.ref a_LIST), .val (.ref a_LIST), .val (.ref s47), .val (.ref s48), .val (.int (1 : Int32)), .val (.int (1 : Int32)), .unset] [(.ref a_LIST), (.ref s47)])) rfl (by rw [hml]; rfl) (Steps.refl _) (argsL := []) (rest := [(.ref s47)]) (lenOf pd_1 rfl) rfl (by show 2 * 0 + _ ≤ _; exact Nat.le_of_eq rfl) (hb hby at_95) (fun _ _ => ⟨rfl, e53, (by decide : 8 + 2 ≤ _), (by decide : 176 + 44 ≤ _)⟩)
      dsimp only [Pt.U, Pt.locs, Pt.cells, Pt.slots] at X54 l54 y54 z54 st54 hQ54 hS54 gr54 Cq54
      subst l54 y54 z54
      obtain ⟨X54, hS54, hZ, hown⟩ := rebS hS51 (Nat.le_trans hk51 (Nat.le_of_eq (congrArg Array.size e53).symm)) X54 hS54 gr54 hZ hown
      have hk54 := Nat.le_refl T54.heap.size
      obtain ⟨s54, d54, kc54, rfl, N54q, K54, A54, F54_coder, F54_value, V54⟩ := hQ54
      have N54 := Fr.app N53 N54q
      have Z54 : n0 ≤ T54.heap.size := Nat.le_trans Z51 K54.1
      have KK54 := KK51.trans K54 all0
      have O54 := O51.keep K54 all0
      have C54 := C51.trans Cq54
      obtain ⟨cq55, kq55, q55a, q55b, q55c⟩ := isOf hZ rfl ((((A47.keep K48).keep K49).keep K51).keep K54)
      obtain ⟨_, _, ⟨T55, L55, k55, n55⟩, -, X55, ⟨Lc55, hQ55, l55, y55, z55⟩, st55⟩ := X54.virtualBack hx (y := (⟨"java/lang/String", "equals", "(Ljava/lang/Object;)Z"⟩ : MethodName)) (z := (⟨"java/lang/String", "equals", "(Ljava/lang/Object;)Z"⟩ : MethodName)) hown (mvT hZ (hw _ (List.mem_of_getElem? (i := 37) rfl))) (mvT hZ (hw _ (List.mem_of_getElem? (i := 38) rfl))) (notFace_of_selects (args := #[]) (mvT hZ (hw _ (List.mem_of_getElem? (i := 40) rfl)))) (mvT hZ (hw _ (List.mem_of_getElem? (i := 40) rfl))) (mvT hZ (hw _ (List.mem_of_getElem? (i := 39) rfl))) (by decide) (backOf (W := 0) (rm6LL l Z a0 hw [] s47 s54 d47 d54 kc47 kc54 G_COMPACT T54.heap n0 Z54 O54 ((((A47.keep K48).keep K49).keep K51).keep K54) ((((F47_coder.keep K48 nin0).keep K49 nin0).keep K51 nin0).keep K54 nin0) ((((F47_value.keep K48 nin0).keep K49 nin0).keep K51 nin0).keep K54 nin0) A54 F54_coder F54_value ((((V47.keep K48 nin0).keep K49 nin0).keep K51 nin0).keep K54 nin0) V54 S_COMPACT P_COMPACT) hZ (hw _ (List.mem_of_getElem? (i := 41) rfl)) (hw _ (List.mem_of_getElem? (i := 26) rfl)) (by decide) (by decide)) q55a q55c (g := (mkF m 98 #[.val (.int u0), .val (.int u1), .val (.ref a_LIST), .val (.ref a_LIST), .val (.ref s47), .val (.ref s48), .val (.int (1 : Int32)), .val (.int (1 : Int32)), .unset] [(.ref s54), (.ref s47)])) rfl (by rw [hml]; rfl) (Steps.refl _) (argsL := [(.ref s54)]) (rest := []) (lenOf pd_5 rfl) rfl (by show 2 * 0 + _ ≤ _; exact Nat.le_of_eq rfl) (hb hby at_98) (fun _ _ => ⟨rfl, rfl, (by decide : 10 + 0 ≤ _), (by decide : 220 + 0 ≤ _)⟩)
      dsimp only [Pt.U, Pt.locs, Pt.cells, Pt.slots] at X55 l55 y55 z55 st55 hQ55
      subst l55 y55 z55
      obtain ⟨rfl, N55q, e55⟩ := hQ55
      have N55 := Fr.app N54 N55q
      obtain ⟨fs, hr, hrun, hended, hE⟩ := X55.leaveW hS54 (Nat.le_trans hk54 (Nat.le_of_eq (congrArg Array.size e55).symm)) (v := some (.int (1 : Int32))) (fun h => by rw [Bd.returns] at h; cases h)
      refine ⟨_, _, pre0 _ ?_, hrun, hended, _, _, rfl, ?_, ?_, own_monoW hE (by decide) (by decide)⟩
      · show Steps p.tables e below (s₁.setTop (mkF m 0 #[.val (.int u0), .val (.int u1), .unset, .unset, .unset, .unset, .unset, .unset, .unset] [])) _
        refine XS.iloadN X0.here hx rfl (hb hby at_0) rfl ?_
        show Steps p.tables e below (s₁.setTop (mkF m 1 #[.val (.int u0), .val (.int u1), .unset, .unset, .unset, .unset, .unset, .unset, .unset] [(.int u0)])) _
        refine st45 _ ?_
        show Steps p.tables e below (T45.setTop (mkF m 4 #[.val (.int u0), .val (.int u1), .unset, .unset, .unset, .unset, .unset, .unset, .unset] [(.ref a_LIST)])) _
        refine XS.astoreN X45.here hx rfl (hb hby at_4) rfl rfl (l' := #[.val (.int u0), .val (.int u1), .val (.ref a_LIST), .unset, .unset, .unset, .unset, .unset, .unset]) rfl ?_
        show Steps p.tables e below (T45.setTop (mkF m 5 #[.val (.int u0), .val (.int u1), .val (.ref a_LIST), .unset, .unset, .unset, .unset, .unset, .unset] [])) _
        refine XS.iloadN X45.here hx rfl (hb hby at_5) rfl ?_
        show Steps p.tables e below (T45.setTop (mkF m 6 #[.val (.int u0), .val (.int u1), .val (.ref a_LIST), .unset, .unset, .unset, .unset, .unset, .unset] [(.int u1)])) _
        refine st46 _ ?_
        show Steps p.tables e below (T46.setTop (mkF m 9 #[.val (.int u0), .val (.int u1), .val (.ref a_LIST), .unset, .unset, .unset, .unset, .unset, .unset] [(.ref a_LIST)])) _
        refine XS.astoreN X46.here hx rfl (hb hby at_9) rfl rfl (l' := #[.val (.int u0), .val (.int u1), .val (.ref a_LIST), .val (.ref a_LIST), .unset, .unset, .unset, .unset, .unset]) rfl ?_
        show Steps p.tables e below (T46.setTop (mkF m 10 #[.val (.int u0), .val (.int u1), .val (.ref a_LIST), .val (.ref a_LIST), .unset, .unset, .unset, .unset, .unset] [])) _
        refine XS.aloadN X46.here hx rfl (hb hby at_10) rfl rfl ?_
        show Steps p.tables e below (T46.setTop (mkF m 11 #[.val (.int u0), .val (.int u1), .val (.ref a_LIST), .val (.ref a_LIST), .unset, .unset, .unset, .unset, .unset] [(.ref a_LIST)])) _
        refine st47.trans ?_
        show Steps p.tables e below (T47.setTop (mkF m 14 #[.val (.int u0), .val (.int u1), .val (.ref a_LIST), .val (.ref a_LIST), .unset, .unset, .unset, .unset, .unset] [(.ref s47)])) _
        refine XS.astore X47.here hx rfl (hb hby at_14) rfl rfl (l' := #[.val (.int u0), .val (.int u1), .val (.ref a_LIST), .val (.ref a_LIST), .val (.ref s47), .unset, .unset, .unset, .unset]) rfl ?_
        show Steps p.tables e below (T47.setTop (mkF m 16 #[.val (.int u0), .val (.int u1), .val (.ref a_LIST), .val (.ref a_LIST), .val (.ref s47), .unset, .unset, .unset, .unset] [])) _
        refine XS.aloadN X47.here hx rfl (hb hby at_16) rfl rfl ?_
        show Steps p.tables e below (T47.setTop (mkF m 17 #[.val (.int u0), .val (.int u1), .val (.ref a_LIST), .val (.ref a_LIST), .val (.ref s47), .unset, .unset, .unset, .unset] [(.ref a_LIST)])) _
        refine st48.trans ?_
        show Steps p.tables e below (T48.setTop (mkF m 20 #[.val (.int u0), .val (.int u1), .val (.ref a_LIST), .val (.ref a_LIST), .val (.ref s47), .unset, .unset, .unset, .unset] [(.ref s48)])) _
        refine XS.astore X48.here hx rfl (hb hby at_20) rfl rfl (l' := #[.val (.int u0), .val (.int u1), .val (.ref a_LIST), .val (.ref a_LIST), .val (.ref s47), .val (.ref s48), .unset, .unset, .unset]) rfl ?_
        show Steps p.tables e below (T48.setTop (mkF m 22 #[.val (.int u0), .val (.int u1), .val (.ref a_LIST), .val (.ref a_LIST), .val (.ref s47), .val (.ref s48), .unset, .unset, .unset] [])) _
        refine XS.aload X48.here hx rfl (hb hby at_22) rfl rfl ?_
        show Steps p.tables e below (T48.setTop (mkF m 24 #[.val (.int u0), .val (.int u1), .val (.ref a_LIST), .val (.ref a_LIST), .val (.ref s47), .val (.ref s48), .unset, .unset, .unset] [(.ref s47)])) _
        refine XS.ifnullNo X48.here hx rfl (hb hby at_24) rfl ?_
        show Steps p.tables e below (T48.setTop (mkF m 27 #[.val (.int u0), .val (.int u1), .val (.ref a_LIST), .val (.ref a_LIST), .val (.ref s47), .val (.ref s48), .unset, .unset, .unset] [])) _
        refine XS.aload X48.here hx rfl (hb hby at_27) rfl rfl ?_
        show Steps p.tables e below (T48.setTop (mkF m 29 #[.val (.int u0), .val (.int u1), .val (.ref a_LIST), .val (.ref a_LIST), .val (.ref s47), .val (.ref s48), .unset, .unset, .unset] [(.ref s48)])) _
        refine XS.ifnonnullYes X48.here hx rfl (pc0 := 29) (pc' := 34) rfl (hb hby at_29) rfl (by decide) (by decide) ?_
        show Steps p.tables e below (T48.setTop (mkF m 34 #[.val (.int u0), .val (.int u1), .val (.ref a_LIST), .val (.ref a_LIST), .val (.ref s47), .val (.ref s48), .unset, .unset, .unset] [])) _
        refine XS.aload X48.here hx rfl (hb hby at_34) rfl rfl ?_
        show Steps p.tables e below (T48.setTop (mkF m 36 #[.val (.int u0), .val (.int u1), .val (.ref a_LIST), .val (.ref a_LIST), .val (.ref s47), .val (.ref s48), .unset, .unset, .unset] [(.ref s47)])) _
        refine XS.iloadN X48.here hx rfl (hb hby at_36) rfl ?_
        show Steps p.tables e below (T48.setTop (mkF m 37 #[.val (.int u0), .val (.int u1), .val (.ref a_LIST), .val (.ref a_LIST), .val (.ref s47), .val (.ref s48), .unset, .unset, .unset] [(.int u0), (.ref s47)])) _
        refine st49.trans ?_
        show Steps p.tables e below (T49.setTop (mkF m 40 #[.val (.int u0), .val (.int u1), .val (.ref a_LIST), .val (.ref a_LIST), .val (.ref s47), .val (.ref s48), .unset, .unset, .unset] [(.ref s49), (.ref s47)])) _
        refine st50.trans ?_
        show Steps p.tables e below (T50.setTop (mkF m 43 #[.val (.int u0), .val (.int u1), .val (.ref a_LIST), .val (.ref a_LIST), .val (.ref s47), .val (.ref s48), .unset, .unset, .unset] [(.int (1 : Int32))])) _
        refine XS.ifNo X50.here hx rfl (hb hby at_43) rfl ((if0 _ _).trans (feq (by decide)).1) ?_
        show Steps p.tables e below (T50.setTop (mkF m 46 #[.val (.int u0), .val (.int u1), .val (.ref a_LIST), .val (.ref a_LIST), .val (.ref s47), .val (.ref s48), .unset, .unset, .unset] [])) _
        refine XS.aload X50.here hx rfl (hb hby at_46) rfl rfl ?_
        show Steps p.tables e below (T50.setTop (mkF m 48 #[.val (.int u0), .val (.int u1), .val (.ref a_LIST), .val (.ref a_LIST), .val (.ref s47), .val (.ref s48), .unset, .unset, .unset] [(.ref s48)])) _
        refine XS.iloadN X50.here hx rfl (hb hby at_48) rfl ?_
        show Steps p.tables e below (T50.setTop (mkF m 49 #[.val (.int u0), .val (.int u1), .val (.ref a_LIST), .val (.ref a_LIST), .val (.ref s47), .val (.ref s48), .unset, .unset, .unset] [(.int u1), (.ref s48)])) _
        refine st51.trans ?_
        show Steps p.tables e below (T51.setTop (mkF m 52 #[.val (.int u0), .val (.int u1), .val (.ref a_LIST), .val (.ref a_LIST), .val (.ref s47), .val (.ref s48), .unset, .unset, .unset] [(.ref s51), (.ref s48)])) _
        refine st52.trans ?_
        show Steps p.tables e below (T52.setTop (mkF m 55 #[.val (.int u0), .val (.int u1), .val (.ref a_LIST), .val (.ref a_LIST), .val (.ref s47), .val (.ref s48), .unset, .unset, .unset] [(.int (1 : Int32))])) _
        refine XS.ifNo X52.here hx rfl (hb hby at_55) rfl ((if0 _ _).trans (feq (by decide)).1) ?_
        show Steps p.tables e below (T52.setTop (mkF m 58 #[.val (.int u0), .val (.int u1), .val (.ref a_LIST), .val (.ref a_LIST), .val (.ref s47), .val (.ref s48), .unset, .unset, .unset] [])) _
        refine XS.iconst X52.here hx rfl (hb hby at_58) ?_
        show Steps p.tables e below (T52.setTop (mkF m 59 #[.val (.int u0), .val (.int u1), .val (.ref a_LIST), .val (.ref a_LIST), .val (.ref s47), .val (.ref s48), .unset, .unset, .unset] [(.int (1 : Int32))])) _
        refine XS.goto X52.here hx rfl (pc0 := 59) (pc' := 63) rfl (hb hby at_59) (by decide) (by decide) ?_
        show Steps p.tables e below (T52.setTop (mkF m 63 #[.val (.int u0), .val (.int u1), .val (.ref a_LIST), .val (.ref a_LIST), .val (.ref s47), .val (.ref s48), .unset, .unset, .unset] [(.int (1 : Int32))])) _
        refine XS.istore X52.here hx rfl (hb hby at_63) rfl (l' := #[.val (.int u0), .val (.int u1), .val (.ref a_LIST), .val (.ref a_LIST), .val (.ref s47), .val (.ref s48), .val (.int (1 : Int32)), .unset, .unset]) rfl ?_
        show Steps p.tables e below (T52.setTop (mkF m 65 #[.val (.int u0), .val (.int u1), .val (.ref a_LIST), .val (.ref a_LIST), .val (.ref s47), .val (.ref s48), .val (.int (1 : Int32)), .unset, .unset] [])) _
        refine XS.aloadN X52.here hx rfl (hb hby at_65) rfl rfl ?_
        show Steps p.tables e below (T52.setTop (mkF m 66 #[.val (.int u0), .val (.int u1), .val (.ref a_LIST), .val (.ref a_LIST), .val (.ref s47), .val (.ref s48), .val (.int (1 : Int32)), .unset, .unset] [(.ref a_LIST)])) _
        refine XS.aloadN X52.here hx rfl (hb hby at_66) rfl rfl ?_
        show Steps p.tables e below (T52.setTop (mkF m 67 #[.val (.int u0), .val (.int u1), .val (.ref a_LIST), .val (.ref a_LIST), .val (.ref s47), .val (.ref s48), .val (.int (1 : Int32)), .unset, .unset] [(.ref a_LIST), (.ref a_LIST)])) _
        refine Jvm.RoadKit.acmp (g := (mkF m 67 #[.val (.int u0), .val (.int u1), .val (.ref a_LIST), .val (.ref a_LIST), .val (.ref s47), .val (.ref s48), .val (.int (1 : Int32)), .unset, .unset] [(.ref a_LIST), (.ref a_LIST)])) X52 hx rfl rfl rfl (pc0 := 67) (pc' := 70) (same := true) rfl (hb hby at_67) rfl (decide_eq_true rfl) (by decide) (by decide) ?_
        show Steps p.tables e below (T52.setTop (mkF m 70 #[.val (.int u0), .val (.int u1), .val (.ref a_LIST), .val (.ref a_LIST), .val (.ref s47), .val (.ref s48), .val (.int (1 : Int32)), .unset, .unset] [])) _
        refine XS.iconst X52.here hx rfl (hb hby at_70) ?_
        show Steps p.tables e below (T52.setTop (mkF m 71 #[.val (.int u0), .val (.int u1), .val (.ref a_LIST), .val (.ref a_LIST), .val (.ref s47), .val (.ref s48), .val (.int (1 : Int32)), .unset, .unset] [(.int (1 : Int32))])) _
        refine XS.goto X52.here hx rfl (pc0 := 71) (pc' := 75) rfl (hb hby at_71) (by decide) (by decide) ?_
        show Steps p.tables e below (T52.setTop (mkF m 75 #[.val (.int u0), .val (.int u1), .val (.ref a_LIST), .val (.ref a_LIST), .val (.ref s47), .val (.ref s48), .val (.int (1 : Int32)), .unset, .unset] [(.int (1 : Int32))])) _
        refine XS.aload X52.here hx rfl (hb hby at_75) rfl rfl ?_
        show Steps p.tables e below (T52.setTop (mkF m 77 #[.val (.int u0), .val (.int u1), .val (.ref a_LIST), .val (.ref a_LIST), .val (.ref s47), .val (.ref s48), .val (.int (1 : Int32)), .unset, .unset] [(.ref s47), (.int (1 : Int32))])) _
        refine XS.aload X52.here hx rfl (hb hby at_77) rfl rfl ?_
        show Steps p.tables e below (T52.setTop (mkF m 79 #[.val (.int u0), .val (.int u1), .val (.ref a_LIST), .val (.ref a_LIST), .val (.ref s47), .val (.ref s48), .val (.int (1 : Int32)), .unset, .unset] [(.ref s48), (.ref s47), (.int (1 : Int32))])) _
        refine st53.trans ?_
        show Steps p.tables e below (T53.setTop (mkF m 82 #[.val (.int u0), .val (.int u1), .val (.ref a_LIST), .val (.ref a_LIST), .val (.ref s47), .val (.ref s48), .val (.int (1 : Int32)), .unset, .unset] [(.int (1 : Int32)), (.int (1 : Int32))])) _
        refine XS.icmpNo X53.here hx rfl (hb hby at_82) rfl (teq (by decide)).2 ?_
        show Steps p.tables e below (T53.setTop (mkF m 85 #[.val (.int u0), .val (.int u1), .val (.ref a_LIST), .val (.ref a_LIST), .val (.ref s47), .val (.ref s48), .val (.int (1 : Int32)), .unset, .unset] [])) _
        refine XS.iconst X53.here hx rfl (hb hby at_85) ?_
        show Steps p.tables e below (T53.setTop (mkF m 86 #[.val (.int u0), .val (.int u1), .val (.ref a_LIST), .val (.ref a_LIST), .val (.ref s47), .val (.ref s48), .val (.int (1 : Int32)), .unset, .unset] [(.int (1 : Int32))])) _
        refine XS.goto X53.here hx rfl (pc0 := 86) (pc' := 90) rfl (hb hby at_86) (by decide) (by decide) ?_
        show Steps p.tables e below (T53.setTop (mkF m 90 #[.val (.int u0), .val (.int u1), .val (.ref a_LIST), .val (.ref a_LIST), .val (.ref s47), .val (.ref s48), .val (.int (1 : Int32)), .unset, .unset] [(.int (1 : Int32))])) _
        refine XS.istore X53.here hx rfl (hb hby at_90) rfl (l' := #[.val (.int u0), .val (.int u1), .val (.ref a_LIST), .val (.ref a_LIST), .val (.ref s47), .val (.ref s48), .val (.int (1 : Int32)), .val (.int (1 : Int32)), .unset]) rfl ?_
        show Steps p.tables e below (T53.setTop (mkF m 92 #[.val (.int u0), .val (.int u1), .val (.ref a_LIST), .val (.ref a_LIST), .val (.ref s47), .val (.ref s48), .val (.int (1 : Int32)), .val (.int (1 : Int32)), .unset] [])) _
        refine XS.aload X53.here hx rfl (hb hby at_92) rfl rfl ?_
        show Steps p.tables e below (T53.setTop (mkF m 94 #[.val (.int u0), .val (.int u1), .val (.ref a_LIST), .val (.ref a_LIST), .val (.ref s47), .val (.ref s48), .val (.int (1 : Int32)), .val (.int (1 : Int32)), .unset] [(.ref s47)])) _
        refine XS.aloadN X53.here hx rfl (hb hby at_94) rfl rfl ?_
        show Steps p.tables e below (T53.setTop (mkF m 95 #[.val (.int u0), .val (.int u1), .val (.ref a_LIST), .val (.ref a_LIST), .val (.ref s47), .val (.ref s48), .val (.int (1 : Int32)), .val (.int (1 : Int32)), .unset] [(.ref a_LIST), (.ref s47)])) _
        refine st54.trans ?_
        show Steps p.tables e below (T54.setTop (mkF m 98 #[.val (.int u0), .val (.int u1), .val (.ref a_LIST), .val (.ref a_LIST), .val (.ref s47), .val (.ref s48), .val (.int (1 : Int32)), .val (.int (1 : Int32)), .unset] [(.ref s54), (.ref s47)])) _
        refine st55.trans ?_
        show Steps p.tables e below (T55.setTop (mkF m 101 #[.val (.int u0), .val (.int u1), .val (.ref a_LIST), .val (.ref a_LIST), .val (.ref s47), .val (.ref s48), .val (.int (1 : Int32)), .val (.int (1 : Int32)), .unset] [(.int (1 : Int32))])) _
        refine XS.istore X55.here hx rfl (hb hby at_101) rfl (l' := #[.val (.int u0), .val (.int u1), .val (.ref a_LIST), .val (.ref a_LIST), .val (.ref s47), .val (.ref s48), .val (.int (1 : Int32)), .val (.int (1 : Int32)), .val (.int (1 : Int32))]) rfl ?_
        show Steps p.tables e below (T55.setTop (mkF m 103 #[.val (.int u0), .val (.int u1), .val (.ref a_LIST), .val (.ref a_LIST), .val (.ref s47), .val (.ref s48), .val (.int (1 : Int32)), .val (.int (1 : Int32)), .val (.int (1 : Int32))] [])) _
        refine XS.iload X55.here hx rfl (hb hby at_103) rfl ?_
        show Steps p.tables e below (T55.setTop (mkF m 105 #[.val (.int u0), .val (.int u1), .val (.ref a_LIST), .val (.ref a_LIST), .val (.ref s47), .val (.ref s48), .val (.int (1 : Int32)), .val (.int (1 : Int32)), .val (.int (1 : Int32))] [(.int (1 : Int32))])) _
        refine XS.ifNo X55.here hx rfl (hb hby at_105) rfl ((if0 _ _).trans (feq (by decide)).1) ?_
        show Steps p.tables e below (T55.setTop (mkF m 108 #[.val (.int u0), .val (.int u1), .val (.ref a_LIST), .val (.ref a_LIST), .val (.ref s47), .val (.ref s48), .val (.int (1 : Int32)), .val (.int (1 : Int32)), .val (.int (1 : Int32))] [])) _
        refine XS.iload X55.here hx rfl (hb hby at_108) rfl ?_
        show Steps p.tables e below (T55.setTop (mkF m 110 #[.val (.int u0), .val (.int u1), .val (.ref a_LIST), .val (.ref a_LIST), .val (.ref s47), .val (.ref s48), .val (.int (1 : Int32)), .val (.int (1 : Int32)), .val (.int (1 : Int32))] [(.int (1 : Int32))])) _
        refine XS.ifNo X55.here hx rfl (hb hby at_110) rfl ((if0 _ _).trans (feq (by decide)).1) ?_
        show Steps p.tables e below (T55.setTop (mkF m 113 #[.val (.int u0), .val (.int u1), .val (.ref a_LIST), .val (.ref a_LIST), .val (.ref s47), .val (.ref s48), .val (.int (1 : Int32)), .val (.int (1 : Int32)), .val (.int (1 : Int32))] [])) _
        refine XS.iload X55.here hx rfl (hb hby at_113) rfl ?_
        show Steps p.tables e below (T55.setTop (mkF m 115 #[.val (.int u0), .val (.int u1), .val (.ref a_LIST), .val (.ref a_LIST), .val (.ref s47), .val (.ref s48), .val (.int (1 : Int32)), .val (.int (1 : Int32)), .val (.int (1 : Int32))] [(.int (1 : Int32))])) _
        refine XS.ifNo X55.here hx rfl (hb hby at_115) rfl ((if0 _ _).trans (feq (by decide)).1) ?_
        show Steps p.tables e below (T55.setTop (mkF m 118 #[.val (.int u0), .val (.int u1), .val (.ref a_LIST), .val (.ref a_LIST), .val (.ref s47), .val (.ref s48), .val (.int (1 : Int32)), .val (.int (1 : Int32)), .val (.int (1 : Int32))] [])) _
        refine XS.iconst X55.here hx rfl (hb hby at_118) ?_
        show Steps p.tables e below (T55.setTop (mkF m 119 #[.val (.int u0), .val (.int u1), .val (.ref a_LIST), .val (.ref a_LIST), .val (.ref s47), .val (.ref s48), .val (.int (1 : Int32)), .val (.int (1 : Int32)), .val (.int (1 : Int32))] [(.int (1 : Int32))])) _
        refine XS.goto X55.here hx rfl (pc0 := 119) (pc' := 123) rfl (hb hby at_119) (by decide) (by decide) ?_
        show Steps p.tables e below (T55.setTop (mkF m 123 #[.val (.int u0), .val (.int u1), .val (.ref a_LIST), .val (.ref a_LIST), .val (.ref s47), .val (.ref s48), .val (.int (1 : Int32)), .val (.int (1 : Int32)), .val (.int (1 : Int32))] [(.int (1 : Int32))])) _
        exact retN X55 hx (t := .boolean) Bd.returns (by simp) (hb hby at_123) hr
      · show Q0 Z u0 u1 a_UPSTREAM a_LIST a_ITEM G_COMPACT h0 n0 _ T55.heap _
        rw [e55]
        exact ⟨rfl, N55⟩
      · show CHr Z EL s.vm s.heap T55.vm T55.heap
        rw [e55]
        rw [hh]
        exact C54.trans (CHv.at X55 hZ (hEL hw) C54.1)
    · obtain ⟨_, _, ⟨T56, L56, k56, n56⟩, -, X56, ⟨Lc56, hQ56, l56, y56, z56⟩, st56⟩ := Jvm.LawKit.callS X0 hx (y := (⟨"com/example/backfill/backfill/engine/LaneRequestsPinLaw", "pick", "(I)Lcom/example/backfill/backfill/engine/Lane;"⟩ : MethodName)) hown (mvT hZ (hw _ (List.mem_of_getElem? (i := 0) rfl))) (mvT hZ (hw _ (List.mem_of_getElem? (i := 1) rfl))) (mvT hZ (hw _ (List.mem_of_getElem? (i := 2) rfl))) (mvT hZ (hw _ (List.mem_of_getElem? (i := 3) rfl))) (by decide) (backOf (W := 0) (rm1 l Z a0 hw [] u0 a_UPSTREAM a_LIST a_ITEM h0 n0 Z0 O0 S_UPSTREAM S_LIST S_ITEM) hZ (hw _ (List.mem_of_getElem? (i := 3) rfl)) (hw _ (List.mem_of_getElem? (i := 2) rfl)) (by decide) (by decide)) (g := (mkF m 1 #[.val (.int u0), .val (.int u1), .unset, .unset, .unset, .unset, .unset, .unset, .unset] [(.int u0)])) rfl (by rw [hml]; rfl) (argsL := [(.int u0)]) (rest := []) (lenOf pd_3 rfl) rfl (by show 2 * 0 + _ ≤ _; exact Nat.le_of_eq rfl) (hb hby at_1) (fun _ _ => ⟨rfl, e0, (by decide : 0 + 0 ≤ _), (by decide : 0 + 0 ≤ _)⟩)
      dsimp only [Pt.U, Pt.locs, Pt.cells, Pt.slots] at X56 l56 y56 z56 st56 hQ56
      subst l56 y56 z56
      obtain ⟨hv56, N56q, e56⟩ := hQ56
      rw [hp0.2] at hv56
      subst hv56
      have N56 := Fr.app N0 N56q
      obtain ⟨_, _, ⟨T57, L57, k57, n57⟩, -, X57, ⟨Lc57, hQ57, l57, y57, z57⟩, st57⟩ := Jvm.LawKit.callS X56 hx (y := (⟨"com/example/backfill/backfill/engine/LaneRequestsPinLaw", "pick", "(I)Lcom/example/backfill/backfill/engine/Lane;"⟩ : MethodName)) hown (mvT hZ (hw _ (List.mem_of_getElem? (i := 0) rfl))) (mvT hZ (hw _ (List.mem_of_getElem? (i := 1) rfl))) (mvT hZ (hw _ (List.mem_of_getElem? (i := 2) rfl))) (mvT hZ (hw _ (List.mem_of_getElem? (i := 3) rfl))) (by decide) (backOf (W := 0) (rm1 l Z a0 hw [] u1 a_UPSTREAM a_LIST a_ITEM h0 n0 Z0 O0 S_UPSTREAM S_LIST S_ITEM) hZ (hw _ (List.mem_of_getElem? (i := 3) rfl)) (hw _ (List.mem_of_getElem? (i := 2) rfl)) (by decide) (by decide)) (g := (mkF m 6 #[.val (.int u0), .val (.int u1), .val (.ref a_LIST), .unset, .unset, .unset, .unset, .unset, .unset] [(.int u1)])) rfl (by rw [hml]; rfl) (argsL := [(.int u1)]) (rest := []) (lenOf pd_3 rfl) rfl (by show 2 * 0 + _ ≤ _; exact Nat.le_of_eq rfl) (hb hby at_6) (fun _ _ => ⟨rfl, e56, (by decide : 0 + 0 ≤ _), (by decide : 0 + 0 ≤ _)⟩)
      dsimp only [Pt.U, Pt.locs, Pt.cells, Pt.slots] at X57 l57 y57 z57 st57 hQ57
      subst l57 y57 z57
      obtain ⟨hv57, N57q, e57⟩ := hQ57
      rw [hp1.2] at hv57
      subst hv57
      have N57 := Fr.app N56 N57q
      obtain ⟨cq58, kq58, q58a, q58b, q58c⟩ := isOf hZ e57 (E_a_LIST.ext O0.2)
      obtain ⟨_, _, ⟨T58, L58, k58, n58⟩, -, X58, hS58, gr58, ⟨Lc58, hQ58, l58, y58, z58, Cq58⟩, st58⟩ := X57.virtualBackS hx (y := (⟨"com/example/backfill/backfill/engine/Lane", "requests", "()Ljava/lang/String;"⟩ : MethodName)) (z := (⟨"com/example/backfill/backfill/engine/Lane", "requests", "()Ljava/lang/String;"⟩ : MethodName)) hown (mvT hZ (hw _ (List.mem_of_getElem? (i := 11) rfl))) (mvT hZ (hw _ (List.mem_of_getElem? (i := 12) rfl))) (notFace_of_selects (args := #[]) (mvT hZ (hw _ (List.mem_of_getElem? (i := 14) rfl)))) (mvT hZ (hw _ (List.mem_of_getElem? (i := 14) rfl))) (mvT hZ (hw _ (List.mem_of_getElem? (i := 13) rfl))) (by decide) (backOfSH (W := 0) (rm3LIST l Z a0 hw [] a_LIST h0 n0 Z0 (E_a_LIST.ext O0.2) (O_LIST.ext O0.2)) hZ (hw _ (List.mem_of_getElem? (i := 15) rfl)) (hw _ (List.mem_of_getElem? (i := 9) rfl)) (by decide) (by decide) (hEL hw) C0.1) q58a q58c (g := (mkF m 11 #[.val (.int u0), .val (.int u1), .val (.ref a_LIST), .val (.ref a_ITEM), .unset, .unset, .unset, .unset, .unset] [(.ref a_LIST)])) rfl (by rw [hml]; rfl) (Steps.refl _) (argsL := []) (rest := []) (lenOf pd_1 rfl) rfl (by show 2 * 0 + _ ≤ _; exact Nat.le_of_eq rfl) (hb hby at_11) (fun _ _ => ⟨rfl, e57, (by decide : 0 + 2 ≤ _), (by decide : 0 + 44 ≤ _)⟩)
      dsimp only [Pt.U, Pt.locs, Pt.cells, Pt.slots] at X58 l58 y58 z58 st58 hQ58 hS58 gr58 Cq58
      subst l58 y58 z58
      obtain ⟨X58, hS58, hZ, hown⟩ := rebS hS0 (Nat.le_trans hk0 (Nat.le_of_eq (congrArg Array.size e57).symm)) X58 hS58 gr58 hZ hown
      have hk58 := Nat.le_refl T58.heap.size
      obtain ⟨s58, d58, kc58, rfl, N58q, K58, A58, F58_coder, F58_value, V58⟩ := hQ58
      have N58 := Fr.app N57 N58q
      have Z58 : n0 ≤ T58.heap.size := Nat.le_trans Z0 K58.1
      have KK58 := (Keep.refl h0 []).trans K58 all0
      have O58 := O0.keep K58 all0
      have C58 := C0.trans Cq58
      obtain ⟨cq59, kq59, q59a, q59b, q59c⟩ := isOf hZ rfl (E_a_ITEM.ext O58.2)
      obtain ⟨_, _, ⟨T59, L59, k59, n59⟩, -, X59, hS59, gr59, ⟨Lc59, hQ59, l59, y59, z59, Cq59⟩, st59⟩ := X58.virtualBackS hx (y := (⟨"com/example/backfill/backfill/engine/Lane", "requests", "()Ljava/lang/String;"⟩ : MethodName)) (z := (⟨"com/example/backfill/backfill/engine/Lane", "requests", "()Ljava/lang/String;"⟩ : MethodName)) hown (mvT hZ (hw _ (List.mem_of_getElem? (i := 11) rfl))) (mvT hZ (hw _ (List.mem_of_getElem? (i := 12) rfl))) (notFace_of_selects (args := #[]) (mvT hZ (hw _ (List.mem_of_getElem? (i := 14) rfl)))) (mvT hZ (hw _ (List.mem_of_getElem? (i := 14) rfl))) (mvT hZ (hw _ (List.mem_of_getElem? (i := 13) rfl))) (by decide) (backOfSH (W := 0) (rm3ITEM l Z a0 hw [] a_ITEM T58.heap n0 Z58 (E_a_ITEM.ext O58.2) (O_ITEM.ext O58.2)) hZ (hw _ (List.mem_of_getElem? (i := 15) rfl)) (hw _ (List.mem_of_getElem? (i := 9) rfl)) (by decide) (by decide) (hEL hw) C58.1) q59a q59c (g := (mkF m 17 #[.val (.int u0), .val (.int u1), .val (.ref a_LIST), .val (.ref a_ITEM), .val (.ref s58), .unset, .unset, .unset, .unset] [(.ref a_ITEM)])) rfl (by rw [hml]; rfl) (Steps.refl _) (argsL := []) (rest := []) (lenOf pd_1 rfl) rfl (by show 2 * 0 + _ ≤ _; exact Nat.le_of_eq rfl) (hb hby at_17) (fun _ _ => ⟨rfl, rfl, (by decide : 2 + 2 ≤ _), (by decide : 44 + 24 ≤ _)⟩)
      dsimp only [Pt.U, Pt.locs, Pt.cells, Pt.slots] at X59 l59 y59 z59 st59 hQ59 hS59 gr59 Cq59
      subst l59 y59 z59
      obtain ⟨X59, hS59, hZ, hown⟩ := rebS hS58 (Nat.le_trans hk58 (Nat.le_of_eq (congrArg Array.size rfl).symm)) X59 hS59 gr59 hZ hown
      have hk59 := Nat.le_refl T59.heap.size
      obtain ⟨s59, d59, kc59, rfl, N59q, K59, A59, F59_coder, F59_value, V59⟩ := hQ59
      have N59 := Fr.app N58 N59q
      have Z59 : n0 ≤ T59.heap.size := Nat.le_trans Z58 K59.1
      have KK59 := KK58.trans K59 all0
      have O59 := O58.keep K59 all0
      have C59 := C58.trans Cq59
      obtain ⟨_, _, ⟨T60, L60, k60, n60⟩, -, X60, hS60, gr60, ⟨Lc60, hQ60, l60, y60, z60, Cq60⟩, st60⟩ := callSS X59 hx (y := (⟨"com/example/backfill/backfill/engine/LaneRequestsPinLaw", "expected", "(I)Ljava/lang/String;"⟩ : MethodName)) hown (mvT hZ (hw _ (List.mem_of_getElem? (i := 33) rfl))) (mvT hZ (hw _ (List.mem_of_getElem? (i := 34) rfl))) (mvT hZ (hw _ (List.mem_of_getElem? (i := 2) rfl))) (mvT hZ (hw _ (List.mem_of_getElem? (i := 35) rfl))) (by decide) (backOfSH (W := 1) (rm5LIST l Z a0 hw [] u0 T59.heap n0 Z59 hp0.1.1 hp0.1.2) hZ (hw _ (List.mem_of_getElem? (i := 35) rfl)) (hw _ (List.mem_of_getElem? (i := 2) rfl)) (by decide) (by decide) (hEL hw) C59.1) (g := (mkF m 37 #[.val (.int u0), .val (.int u1), .val (.ref a_LIST), .val (.ref a_ITEM), .val (.ref s58), .val (.ref s59), .unset, .unset, .unset] [(.int u0), (.ref s58)])) rfl (by rw [hml]; rfl) (argsL := [(.int u0)]) (rest := [(.ref s58)]) (lenOf pd_4 rfl) rfl (by show 2 * 0 + _ ≤ _; exact Nat.le_of_eq rfl) (hb hby at_37) (fun _ _ => ⟨rfl, rfl, (by decide : 4 + 2 ≤ _), (by decide : 68 + 44 ≤ _)⟩)
      dsimp only [Pt.U, Pt.locs, Pt.cells, Pt.slots] at X60 l60 y60 z60 st60 hQ60 hS60 gr60 Cq60
      subst l60 y60 z60
      obtain ⟨X60, hS60, hZ, hown⟩ := rebS hS59 (Nat.le_trans hk59 (Nat.le_of_eq (congrArg Array.size rfl).symm)) X60 hS60 gr60 hZ hown
      have hk60 := Nat.le_refl T60.heap.size
      obtain ⟨s60, d60, kc60, rfl, N60q, K60, A60, F60_coder, F60_value, V60⟩ := hQ60
      have N60 := Fr.app N59 N60q
      have Z60 : n0 ≤ T60.heap.size := Nat.le_trans Z59 K60.1
      have KK60 := KK59.trans K60 all0
      have O60 := O59.keep K60 all0
      have C60 := C59.trans Cq60
      obtain ⟨cq61, kq61, q61a, q61b, q61c⟩ := isOf hZ rfl ((A58.keep K59).keep K60)
      obtain ⟨_, _, ⟨T61, L61, k61, n61⟩, -, X61, ⟨Lc61, hQ61, l61, y61, z61⟩, st61⟩ := X60.virtualBack hx (y := (⟨"java/lang/String", "equals", "(Ljava/lang/Object;)Z"⟩ : MethodName)) (z := (⟨"java/lang/String", "equals", "(Ljava/lang/Object;)Z"⟩ : MethodName)) hown (mvT hZ (hw _ (List.mem_of_getElem? (i := 37) rfl))) (mvT hZ (hw _ (List.mem_of_getElem? (i := 38) rfl))) (notFace_of_selects (args := #[]) (mvT hZ (hw _ (List.mem_of_getElem? (i := 40) rfl)))) (mvT hZ (hw _ (List.mem_of_getElem? (i := 40) rfl))) (mvT hZ (hw _ (List.mem_of_getElem? (i := 39) rfl))) (by decide) (backOf (W := 0) (rm6LL l Z a0 hw [] s58 s60 d58 d60 kc58 kc60 G_COMPACT T60.heap n0 Z60 O60 ((A58.keep K59).keep K60) ((F58_coder.keep K59 nin0).keep K60 nin0) ((F58_value.keep K59 nin0).keep K60 nin0) A60 F60_coder F60_value ((V58.keep K59 nin0).keep K60 nin0) V60 S_COMPACT P_COMPACT) hZ (hw _ (List.mem_of_getElem? (i := 41) rfl)) (hw _ (List.mem_of_getElem? (i := 26) rfl)) (by decide) (by decide)) q61a q61c (g := (mkF m 40 #[.val (.int u0), .val (.int u1), .val (.ref a_LIST), .val (.ref a_ITEM), .val (.ref s58), .val (.ref s59), .unset, .unset, .unset] [(.ref s60), (.ref s58)])) rfl (by rw [hml]; rfl) (Steps.refl _) (argsL := [(.ref s60)]) (rest := []) (lenOf pd_5 rfl) rfl (by show 2 * 0 + _ ≤ _; exact Nat.le_of_eq rfl) (hb hby at_40) (fun _ _ => ⟨rfl, rfl, (by decide : 6 + 0 ≤ _), (by decide : 112 + 0 ≤ _)⟩)
      dsimp only [Pt.U, Pt.locs, Pt.cells, Pt.slots] at X61 l61 y61 z61 st61 hQ61
      subst l61 y61 z61
      obtain ⟨rfl, N61q, e61⟩ := hQ61
      have N61 := Fr.app N60 N61q
      obtain ⟨_, _, ⟨T62, L62, k62, n62⟩, -, X62, hS62, gr62, ⟨Lc62, hQ62, l62, y62, z62, Cq62⟩, st62⟩ := callSS X61 hx (y := (⟨"com/example/backfill/backfill/engine/LaneRequestsPinLaw", "expected", "(I)Ljava/lang/String;"⟩ : MethodName)) hown (mvT hZ (hw _ (List.mem_of_getElem? (i := 33) rfl))) (mvT hZ (hw _ (List.mem_of_getElem? (i := 34) rfl))) (mvT hZ (hw _ (List.mem_of_getElem? (i := 2) rfl))) (mvT hZ (hw _ (List.mem_of_getElem? (i := 35) rfl))) (by decide) (backOfSH (W := 1) (rm5ITEM l Z a0 hw [] u1 T60.heap n0 Z60 hp1.1.1 hp1.1.2) hZ (hw _ (List.mem_of_getElem? (i := 35) rfl)) (hw _ (List.mem_of_getElem? (i := 2) rfl)) (by decide) (by decide) (hEL hw) C60.1) (g := (mkF m 49 #[.val (.int u0), .val (.int u1), .val (.ref a_LIST), .val (.ref a_ITEM), .val (.ref s58), .val (.ref s59), .unset, .unset, .unset] [(.int u1), (.ref s59)])) rfl (by rw [hml]; rfl) (argsL := [(.int u1)]) (rest := [(.ref s59)]) (lenOf pd_4 rfl) rfl (by show 2 * 0 + _ ≤ _; exact Nat.le_of_eq rfl) (hb hby at_49) (fun _ _ => ⟨rfl, e61, (by decide : 6 + 2 ≤ _), (by decide : 112 + 24 ≤ _)⟩)
      dsimp only [Pt.U, Pt.locs, Pt.cells, Pt.slots] at X62 l62 y62 z62 st62 hQ62 hS62 gr62 Cq62
      subst l62 y62 z62
      obtain ⟨X62, hS62, hZ, hown⟩ := rebS hS60 (Nat.le_trans hk60 (Nat.le_of_eq (congrArg Array.size e61).symm)) X62 hS62 gr62 hZ hown
      have hk62 := Nat.le_refl T62.heap.size
      obtain ⟨s62, d62, kc62, rfl, N62q, K62, A62, F62_coder, F62_value, V62⟩ := hQ62
      have N62 := Fr.app N61 N62q
      have Z62 : n0 ≤ T62.heap.size := Nat.le_trans Z60 K62.1
      have KK62 := KK60.trans K62 all0
      have O62 := O60.keep K62 all0
      have C62 := C60.trans Cq62
      obtain ⟨cq63, kq63, q63a, q63b, q63c⟩ := isOf hZ rfl ((A59.keep K60).keep K62)
      obtain ⟨_, _, ⟨T63, L63, k63, n63⟩, -, X63, ⟨Lc63, hQ63, l63, y63, z63⟩, st63⟩ := X62.virtualBack hx (y := (⟨"java/lang/String", "equals", "(Ljava/lang/Object;)Z"⟩ : MethodName)) (z := (⟨"java/lang/String", "equals", "(Ljava/lang/Object;)Z"⟩ : MethodName)) hown (mvT hZ (hw _ (List.mem_of_getElem? (i := 37) rfl))) (mvT hZ (hw _ (List.mem_of_getElem? (i := 38) rfl))) (notFace_of_selects (args := #[]) (mvT hZ (hw _ (List.mem_of_getElem? (i := 40) rfl)))) (mvT hZ (hw _ (List.mem_of_getElem? (i := 40) rfl))) (mvT hZ (hw _ (List.mem_of_getElem? (i := 39) rfl))) (by decide) (backOf (W := 0) (rm6II l Z a0 hw [] s59 s62 d59 d62 kc59 kc62 G_COMPACT T62.heap n0 Z62 O62 ((A59.keep K60).keep K62) ((F59_coder.keep K60 nin0).keep K62 nin0) ((F59_value.keep K60 nin0).keep K62 nin0) A62 F62_coder F62_value ((V59.keep K60 nin0).keep K62 nin0) V62 S_COMPACT P_COMPACT) hZ (hw _ (List.mem_of_getElem? (i := 41) rfl)) (hw _ (List.mem_of_getElem? (i := 26) rfl)) (by decide) (by decide)) q63a q63c (g := (mkF m 52 #[.val (.int u0), .val (.int u1), .val (.ref a_LIST), .val (.ref a_ITEM), .val (.ref s58), .val (.ref s59), .unset, .unset, .unset] [(.ref s62), (.ref s59)])) rfl (by rw [hml]; rfl) (Steps.refl _) (argsL := [(.ref s62)]) (rest := []) (lenOf pd_5 rfl) rfl (by show 2 * 0 + _ ≤ _; exact Nat.le_of_eq rfl) (hb hby at_52) (fun _ _ => ⟨rfl, rfl, (by decide : 8 + 0 ≤ _), (by decide : 136 + 0 ≤ _)⟩)
      dsimp only [Pt.U, Pt.locs, Pt.cells, Pt.slots] at X63 l63 y63 z63 st63 hQ63
      subst l63 y63 z63
      obtain ⟨rfl, N63q, e63⟩ := hQ63
      have N63 := Fr.app N62 N63q
      obtain ⟨cq64, kq64, q64a, q64b, q64c⟩ := isOf hZ e63 (((A58.keep K59).keep K60).keep K62)
      obtain ⟨_, _, ⟨T64, L64, k64, n64⟩, -, X64, ⟨Lc64, hQ64, l64, y64, z64⟩, st64⟩ := X63.virtualBack hx (y := (⟨"java/lang/String", "equals", "(Ljava/lang/Object;)Z"⟩ : MethodName)) (z := (⟨"java/lang/String", "equals", "(Ljava/lang/Object;)Z"⟩ : MethodName)) hown (mvT hZ (hw _ (List.mem_of_getElem? (i := 37) rfl))) (mvT hZ (hw _ (List.mem_of_getElem? (i := 38) rfl))) (notFace_of_selects (args := #[]) (mvT hZ (hw _ (List.mem_of_getElem? (i := 40) rfl)))) (mvT hZ (hw _ (List.mem_of_getElem? (i := 40) rfl))) (mvT hZ (hw _ (List.mem_of_getElem? (i := 39) rfl))) (by decide) (backOf (W := 1) (rm6LI l Z a0 hw [] s58 s59 d58 d59 kc58 kc59 G_COMPACT T62.heap n0 Z62 O62 (((A58.keep K59).keep K60).keep K62) (((F58_coder.keep K59 nin0).keep K60 nin0).keep K62 nin0) (((F58_value.keep K59 nin0).keep K60 nin0).keep K62 nin0) ((A59.keep K60).keep K62) ((F59_coder.keep K60 nin0).keep K62 nin0) ((F59_value.keep K60 nin0).keep K62 nin0) (((V58.keep K59 nin0).keep K60 nin0).keep K62 nin0) ((V59.keep K60 nin0).keep K62 nin0) S_COMPACT P_COMPACT (own_strne (by decide) (((F58_value.keep K59 nin0).keep K60 nin0).keep K62 nin0) ((F59_value.keep K60 nin0).keep K62 nin0) (((V58.keep K59 nin0).keep K60 nin0).keep K62 nin0) ((V59.keep K60 nin0).keep K62 nin0))) hZ (hw _ (List.mem_of_getElem? (i := 41) rfl)) (hw _ (List.mem_of_getElem? (i := 26) rfl)) (by decide) (by decide)) q64a q64c (g := (mkF m 79 #[.val (.int u0), .val (.int u1), .val (.ref a_LIST), .val (.ref a_ITEM), .val (.ref s58), .val (.ref s59), .val (.int (1 : Int32)), .unset, .unset] [(.ref s59), (.ref s58), (.int (0 : Int32))])) rfl (by rw [hml]; rfl) (Steps.refl _) (argsL := [(.ref s59)]) (rest := [(.int (0 : Int32))]) (lenOf pd_5 rfl) rfl (by show 2 * 0 + _ ≤ _; exact Nat.le_of_eq rfl) (hb hby at_79) (fun _ _ => ⟨rfl, e63, (by decide : 8 + 0 ≤ _), (by decide : 136 + 0 ≤ _)⟩)
      dsimp only [Pt.U, Pt.locs, Pt.cells, Pt.slots] at X64 l64 y64 z64 st64 hQ64
      subst l64 y64 z64
      obtain ⟨rfl, N64q, e64⟩ := hQ64
      have N64 := Fr.app N63 N64q
      obtain ⟨cq65, kq65, q65a, q65b, q65c⟩ := isOf hZ e64 (E_a_LIST.ext O62.2)
      obtain ⟨_, _, ⟨T65, L65, k65, n65⟩, -, X65, hS65, gr65, ⟨Lc65, hQ65, l65, y65, z65, Cq65⟩, st65⟩ := X64.virtualBackS hx (y := (⟨"com/example/backfill/backfill/engine/Lane", "requests", "()Ljava/lang/String;"⟩ : MethodName)) (z := (⟨"com/example/backfill/backfill/engine/Lane", "requests", "()Ljava/lang/String;"⟩ : MethodName)) hown (mvT hZ (hw _ (List.mem_of_getElem? (i := 11) rfl))) (mvT hZ (hw _ (List.mem_of_getElem? (i := 12) rfl))) (notFace_of_selects (args := #[]) (mvT hZ (hw _ (List.mem_of_getElem? (i := 14) rfl)))) (mvT hZ (hw _ (List.mem_of_getElem? (i := 14) rfl))) (mvT hZ (hw _ (List.mem_of_getElem? (i := 13) rfl))) (by decide) (backOfSH (W := 1) (rm3LIST l Z a0 hw [] a_LIST T62.heap n0 Z62 (E_a_LIST.ext O62.2) (O_LIST.ext O62.2)) hZ (hw _ (List.mem_of_getElem? (i := 15) rfl)) (hw _ (List.mem_of_getElem? (i := 9) rfl)) (by decide) (by decide) (hEL hw) C62.1) q65a q65c (g := (mkF m 95 #[.val (.int u0), .val (.int u1), .val (.ref a_LIST), .val (.ref a_ITEM), .val (.ref s58), .val (.ref s59), .val (.int (1 : Int32)), .val (.int (1 : Int32)), .unset] [(.ref a_LIST), (.ref s58)])) rfl (by rw [hml]; rfl) (Steps.refl _) (argsL := []) (rest := [(.ref s58)]) (lenOf pd_1 rfl) rfl (by show 2 * 0 + _ ≤ _; exact Nat.le_of_eq rfl) (hb hby at_95) (fun _ _ => ⟨rfl, e64, (by decide : 8 + 2 ≤ _), (by decide : 136 + 44 ≤ _)⟩)
      dsimp only [Pt.U, Pt.locs, Pt.cells, Pt.slots] at X65 l65 y65 z65 st65 hQ65 hS65 gr65 Cq65
      subst l65 y65 z65
      obtain ⟨X65, hS65, hZ, hown⟩ := rebS hS62 (Nat.le_trans hk62 (Nat.le_of_eq (congrArg Array.size e64).symm)) X65 hS65 gr65 hZ hown
      have hk65 := Nat.le_refl T65.heap.size
      obtain ⟨s65, d65, kc65, rfl, N65q, K65, A65, F65_coder, F65_value, V65⟩ := hQ65
      have N65 := Fr.app N64 N65q
      have Z65 : n0 ≤ T65.heap.size := Nat.le_trans Z62 K65.1
      have KK65 := KK62.trans K65 all0
      have O65 := O62.keep K65 all0
      have C65 := C62.trans Cq65
      obtain ⟨cq66, kq66, q66a, q66b, q66c⟩ := isOf hZ rfl ((((A58.keep K59).keep K60).keep K62).keep K65)
      obtain ⟨_, _, ⟨T66, L66, k66, n66⟩, -, X66, ⟨Lc66, hQ66, l66, y66, z66⟩, st66⟩ := X65.virtualBack hx (y := (⟨"java/lang/String", "equals", "(Ljava/lang/Object;)Z"⟩ : MethodName)) (z := (⟨"java/lang/String", "equals", "(Ljava/lang/Object;)Z"⟩ : MethodName)) hown (mvT hZ (hw _ (List.mem_of_getElem? (i := 37) rfl))) (mvT hZ (hw _ (List.mem_of_getElem? (i := 38) rfl))) (notFace_of_selects (args := #[]) (mvT hZ (hw _ (List.mem_of_getElem? (i := 40) rfl)))) (mvT hZ (hw _ (List.mem_of_getElem? (i := 40) rfl))) (mvT hZ (hw _ (List.mem_of_getElem? (i := 39) rfl))) (by decide) (backOf (W := 0) (rm6LL l Z a0 hw [] s58 s65 d58 d65 kc58 kc65 G_COMPACT T65.heap n0 Z65 O65 ((((A58.keep K59).keep K60).keep K62).keep K65) ((((F58_coder.keep K59 nin0).keep K60 nin0).keep K62 nin0).keep K65 nin0) ((((F58_value.keep K59 nin0).keep K60 nin0).keep K62 nin0).keep K65 nin0) A65 F65_coder F65_value ((((V58.keep K59 nin0).keep K60 nin0).keep K62 nin0).keep K65 nin0) V65 S_COMPACT P_COMPACT) hZ (hw _ (List.mem_of_getElem? (i := 41) rfl)) (hw _ (List.mem_of_getElem? (i := 26) rfl)) (by decide) (by decide)) q66a q66c (g := (mkF m 98 #[.val (.int u0), .val (.int u1), .val (.ref a_LIST), .val (.ref a_ITEM), .val (.ref s58), .val (.ref s59), .val (.int (1 : Int32)), .val (.int (1 : Int32)), .unset] [(.ref s65), (.ref s58)])) rfl (by rw [hml]; rfl) (Steps.refl _) (argsL := [(.ref s65)]) (rest := []) (lenOf pd_5 rfl) rfl (by show 2 * 0 + _ ≤ _; exact Nat.le_of_eq rfl) (hb hby at_98) (fun _ _ => ⟨rfl, rfl, (by decide : 10 + 0 ≤ _), (by decide : 180 + 0 ≤ _)⟩)
      dsimp only [Pt.U, Pt.locs, Pt.cells, Pt.slots] at X66 l66 y66 z66 st66 hQ66
      subst l66 y66 z66
      obtain ⟨rfl, N66q, e66⟩ := hQ66
      have N66 := Fr.app N65 N66q
      obtain ⟨fs, hr, hrun, hended, hE⟩ := X66.leaveW hS65 (Nat.le_trans hk65 (Nat.le_of_eq (congrArg Array.size e66).symm)) (v := some (.int (1 : Int32))) (fun h => by rw [Bd.returns] at h; cases h)
      refine ⟨_, _, pre0 _ ?_, hrun, hended, _, _, rfl, ?_, ?_, own_monoW hE (by decide) (by decide)⟩
      · show Steps p.tables e below (s₁.setTop (mkF m 0 #[.val (.int u0), .val (.int u1), .unset, .unset, .unset, .unset, .unset, .unset, .unset] [])) _
        refine XS.iloadN X0.here hx rfl (hb hby at_0) rfl ?_
        show Steps p.tables e below (s₁.setTop (mkF m 1 #[.val (.int u0), .val (.int u1), .unset, .unset, .unset, .unset, .unset, .unset, .unset] [(.int u0)])) _
        refine st56 _ ?_
        show Steps p.tables e below (T56.setTop (mkF m 4 #[.val (.int u0), .val (.int u1), .unset, .unset, .unset, .unset, .unset, .unset, .unset] [(.ref a_LIST)])) _
        refine XS.astoreN X56.here hx rfl (hb hby at_4) rfl rfl (l' := #[.val (.int u0), .val (.int u1), .val (.ref a_LIST), .unset, .unset, .unset, .unset, .unset, .unset]) rfl ?_
        show Steps p.tables e below (T56.setTop (mkF m 5 #[.val (.int u0), .val (.int u1), .val (.ref a_LIST), .unset, .unset, .unset, .unset, .unset, .unset] [])) _
        refine XS.iloadN X56.here hx rfl (hb hby at_5) rfl ?_
        show Steps p.tables e below (T56.setTop (mkF m 6 #[.val (.int u0), .val (.int u1), .val (.ref a_LIST), .unset, .unset, .unset, .unset, .unset, .unset] [(.int u1)])) _
        refine st57 _ ?_
        show Steps p.tables e below (T57.setTop (mkF m 9 #[.val (.int u0), .val (.int u1), .val (.ref a_LIST), .unset, .unset, .unset, .unset, .unset, .unset] [(.ref a_ITEM)])) _
        refine XS.astoreN X57.here hx rfl (hb hby at_9) rfl rfl (l' := #[.val (.int u0), .val (.int u1), .val (.ref a_LIST), .val (.ref a_ITEM), .unset, .unset, .unset, .unset, .unset]) rfl ?_
        show Steps p.tables e below (T57.setTop (mkF m 10 #[.val (.int u0), .val (.int u1), .val (.ref a_LIST), .val (.ref a_ITEM), .unset, .unset, .unset, .unset, .unset] [])) _
        refine XS.aloadN X57.here hx rfl (hb hby at_10) rfl rfl ?_
        show Steps p.tables e below (T57.setTop (mkF m 11 #[.val (.int u0), .val (.int u1), .val (.ref a_LIST), .val (.ref a_ITEM), .unset, .unset, .unset, .unset, .unset] [(.ref a_LIST)])) _
        refine st58.trans ?_
        show Steps p.tables e below (T58.setTop (mkF m 14 #[.val (.int u0), .val (.int u1), .val (.ref a_LIST), .val (.ref a_ITEM), .unset, .unset, .unset, .unset, .unset] [(.ref s58)])) _
        refine XS.astore X58.here hx rfl (hb hby at_14) rfl rfl (l' := #[.val (.int u0), .val (.int u1), .val (.ref a_LIST), .val (.ref a_ITEM), .val (.ref s58), .unset, .unset, .unset, .unset]) rfl ?_
        show Steps p.tables e below (T58.setTop (mkF m 16 #[.val (.int u0), .val (.int u1), .val (.ref a_LIST), .val (.ref a_ITEM), .val (.ref s58), .unset, .unset, .unset, .unset] [])) _
        refine XS.aloadN X58.here hx rfl (hb hby at_16) rfl rfl ?_
        show Steps p.tables e below (T58.setTop (mkF m 17 #[.val (.int u0), .val (.int u1), .val (.ref a_LIST), .val (.ref a_ITEM), .val (.ref s58), .unset, .unset, .unset, .unset] [(.ref a_ITEM)])) _
        refine st59.trans ?_
        show Steps p.tables e below (T59.setTop (mkF m 20 #[.val (.int u0), .val (.int u1), .val (.ref a_LIST), .val (.ref a_ITEM), .val (.ref s58), .unset, .unset, .unset, .unset] [(.ref s59)])) _
        refine XS.astore X59.here hx rfl (hb hby at_20) rfl rfl (l' := #[.val (.int u0), .val (.int u1), .val (.ref a_LIST), .val (.ref a_ITEM), .val (.ref s58), .val (.ref s59), .unset, .unset, .unset]) rfl ?_
        show Steps p.tables e below (T59.setTop (mkF m 22 #[.val (.int u0), .val (.int u1), .val (.ref a_LIST), .val (.ref a_ITEM), .val (.ref s58), .val (.ref s59), .unset, .unset, .unset] [])) _
        refine XS.aload X59.here hx rfl (hb hby at_22) rfl rfl ?_
        show Steps p.tables e below (T59.setTop (mkF m 24 #[.val (.int u0), .val (.int u1), .val (.ref a_LIST), .val (.ref a_ITEM), .val (.ref s58), .val (.ref s59), .unset, .unset, .unset] [(.ref s58)])) _
        refine XS.ifnullNo X59.here hx rfl (hb hby at_24) rfl ?_
        show Steps p.tables e below (T59.setTop (mkF m 27 #[.val (.int u0), .val (.int u1), .val (.ref a_LIST), .val (.ref a_ITEM), .val (.ref s58), .val (.ref s59), .unset, .unset, .unset] [])) _
        refine XS.aload X59.here hx rfl (hb hby at_27) rfl rfl ?_
        show Steps p.tables e below (T59.setTop (mkF m 29 #[.val (.int u0), .val (.int u1), .val (.ref a_LIST), .val (.ref a_ITEM), .val (.ref s58), .val (.ref s59), .unset, .unset, .unset] [(.ref s59)])) _
        refine XS.ifnonnullYes X59.here hx rfl (pc0 := 29) (pc' := 34) rfl (hb hby at_29) rfl (by decide) (by decide) ?_
        show Steps p.tables e below (T59.setTop (mkF m 34 #[.val (.int u0), .val (.int u1), .val (.ref a_LIST), .val (.ref a_ITEM), .val (.ref s58), .val (.ref s59), .unset, .unset, .unset] [])) _
        refine XS.aload X59.here hx rfl (hb hby at_34) rfl rfl ?_
        show Steps p.tables e below (T59.setTop (mkF m 36 #[.val (.int u0), .val (.int u1), .val (.ref a_LIST), .val (.ref a_ITEM), .val (.ref s58), .val (.ref s59), .unset, .unset, .unset] [(.ref s58)])) _
        refine XS.iloadN X59.here hx rfl (hb hby at_36) rfl ?_
        show Steps p.tables e below (T59.setTop (mkF m 37 #[.val (.int u0), .val (.int u1), .val (.ref a_LIST), .val (.ref a_ITEM), .val (.ref s58), .val (.ref s59), .unset, .unset, .unset] [(.int u0), (.ref s58)])) _
        refine st60.trans ?_
        show Steps p.tables e below (T60.setTop (mkF m 40 #[.val (.int u0), .val (.int u1), .val (.ref a_LIST), .val (.ref a_ITEM), .val (.ref s58), .val (.ref s59), .unset, .unset, .unset] [(.ref s60), (.ref s58)])) _
        refine st61.trans ?_
        show Steps p.tables e below (T61.setTop (mkF m 43 #[.val (.int u0), .val (.int u1), .val (.ref a_LIST), .val (.ref a_ITEM), .val (.ref s58), .val (.ref s59), .unset, .unset, .unset] [(.int (1 : Int32))])) _
        refine XS.ifNo X61.here hx rfl (hb hby at_43) rfl ((if0 _ _).trans (feq (by decide)).1) ?_
        show Steps p.tables e below (T61.setTop (mkF m 46 #[.val (.int u0), .val (.int u1), .val (.ref a_LIST), .val (.ref a_ITEM), .val (.ref s58), .val (.ref s59), .unset, .unset, .unset] [])) _
        refine XS.aload X61.here hx rfl (hb hby at_46) rfl rfl ?_
        show Steps p.tables e below (T61.setTop (mkF m 48 #[.val (.int u0), .val (.int u1), .val (.ref a_LIST), .val (.ref a_ITEM), .val (.ref s58), .val (.ref s59), .unset, .unset, .unset] [(.ref s59)])) _
        refine XS.iloadN X61.here hx rfl (hb hby at_48) rfl ?_
        show Steps p.tables e below (T61.setTop (mkF m 49 #[.val (.int u0), .val (.int u1), .val (.ref a_LIST), .val (.ref a_ITEM), .val (.ref s58), .val (.ref s59), .unset, .unset, .unset] [(.int u1), (.ref s59)])) _
        refine st62.trans ?_
        show Steps p.tables e below (T62.setTop (mkF m 52 #[.val (.int u0), .val (.int u1), .val (.ref a_LIST), .val (.ref a_ITEM), .val (.ref s58), .val (.ref s59), .unset, .unset, .unset] [(.ref s62), (.ref s59)])) _
        refine st63.trans ?_
        show Steps p.tables e below (T63.setTop (mkF m 55 #[.val (.int u0), .val (.int u1), .val (.ref a_LIST), .val (.ref a_ITEM), .val (.ref s58), .val (.ref s59), .unset, .unset, .unset] [(.int (1 : Int32))])) _
        refine XS.ifNo X63.here hx rfl (hb hby at_55) rfl ((if0 _ _).trans (feq (by decide)).1) ?_
        show Steps p.tables e below (T63.setTop (mkF m 58 #[.val (.int u0), .val (.int u1), .val (.ref a_LIST), .val (.ref a_ITEM), .val (.ref s58), .val (.ref s59), .unset, .unset, .unset] [])) _
        refine XS.iconst X63.here hx rfl (hb hby at_58) ?_
        show Steps p.tables e below (T63.setTop (mkF m 59 #[.val (.int u0), .val (.int u1), .val (.ref a_LIST), .val (.ref a_ITEM), .val (.ref s58), .val (.ref s59), .unset, .unset, .unset] [(.int (1 : Int32))])) _
        refine XS.goto X63.here hx rfl (pc0 := 59) (pc' := 63) rfl (hb hby at_59) (by decide) (by decide) ?_
        show Steps p.tables e below (T63.setTop (mkF m 63 #[.val (.int u0), .val (.int u1), .val (.ref a_LIST), .val (.ref a_ITEM), .val (.ref s58), .val (.ref s59), .unset, .unset, .unset] [(.int (1 : Int32))])) _
        refine XS.istore X63.here hx rfl (hb hby at_63) rfl (l' := #[.val (.int u0), .val (.int u1), .val (.ref a_LIST), .val (.ref a_ITEM), .val (.ref s58), .val (.ref s59), .val (.int (1 : Int32)), .unset, .unset]) rfl ?_
        show Steps p.tables e below (T63.setTop (mkF m 65 #[.val (.int u0), .val (.int u1), .val (.ref a_LIST), .val (.ref a_ITEM), .val (.ref s58), .val (.ref s59), .val (.int (1 : Int32)), .unset, .unset] [])) _
        refine XS.aloadN X63.here hx rfl (hb hby at_65) rfl rfl ?_
        show Steps p.tables e below (T63.setTop (mkF m 66 #[.val (.int u0), .val (.int u1), .val (.ref a_LIST), .val (.ref a_ITEM), .val (.ref s58), .val (.ref s59), .val (.int (1 : Int32)), .unset, .unset] [(.ref a_LIST)])) _
        refine XS.aloadN X63.here hx rfl (hb hby at_66) rfl rfl ?_
        show Steps p.tables e below (T63.setTop (mkF m 67 #[.val (.int u0), .val (.int u1), .val (.ref a_LIST), .val (.ref a_ITEM), .val (.ref s58), .val (.ref s59), .val (.int (1 : Int32)), .unset, .unset] [(.ref a_ITEM), (.ref a_LIST)])) _
        refine Jvm.RoadKit.acmp (g := (mkF m 67 #[.val (.int u0), .val (.int u1), .val (.ref a_LIST), .val (.ref a_ITEM), .val (.ref s58), .val (.ref s59), .val (.int (1 : Int32)), .unset, .unset] [(.ref a_ITEM), (.ref a_LIST)])) X63 hx rfl rfl rfl (pc0 := 67) (pc' := 74) (same := false) rfl (hb hby at_67) rfl (decide_eq_false fun q => ne_LIST_ITEM (Value.ref.inj q)) (by decide) (by decide) ?_
        show Steps p.tables e below (T63.setTop (mkF m 74 #[.val (.int u0), .val (.int u1), .val (.ref a_LIST), .val (.ref a_ITEM), .val (.ref s58), .val (.ref s59), .val (.int (1 : Int32)), .unset, .unset] [])) _
        refine XS.iconst X63.here hx rfl (hb hby at_74) ?_
        show Steps p.tables e below (T63.setTop (mkF m 75 #[.val (.int u0), .val (.int u1), .val (.ref a_LIST), .val (.ref a_ITEM), .val (.ref s58), .val (.ref s59), .val (.int (1 : Int32)), .unset, .unset] [(.int (0 : Int32))])) _
        refine XS.aload X63.here hx rfl (hb hby at_75) rfl rfl ?_
        show Steps p.tables e below (T63.setTop (mkF m 77 #[.val (.int u0), .val (.int u1), .val (.ref a_LIST), .val (.ref a_ITEM), .val (.ref s58), .val (.ref s59), .val (.int (1 : Int32)), .unset, .unset] [(.ref s58), (.int (0 : Int32))])) _
        refine XS.aload X63.here hx rfl (hb hby at_77) rfl rfl ?_
        show Steps p.tables e below (T63.setTop (mkF m 79 #[.val (.int u0), .val (.int u1), .val (.ref a_LIST), .val (.ref a_ITEM), .val (.ref s58), .val (.ref s59), .val (.int (1 : Int32)), .unset, .unset] [(.ref s59), (.ref s58), (.int (0 : Int32))])) _
        refine st64.trans ?_
        show Steps p.tables e below (T64.setTop (mkF m 82 #[.val (.int u0), .val (.int u1), .val (.ref a_LIST), .val (.ref a_ITEM), .val (.ref s58), .val (.ref s59), .val (.int (1 : Int32)), .unset, .unset] [(.int (0 : Int32)), (.int (0 : Int32))])) _
        refine XS.icmpNo X64.here hx rfl (hb hby at_82) rfl (teq (by decide)).2 ?_
        show Steps p.tables e below (T64.setTop (mkF m 85 #[.val (.int u0), .val (.int u1), .val (.ref a_LIST), .val (.ref a_ITEM), .val (.ref s58), .val (.ref s59), .val (.int (1 : Int32)), .unset, .unset] [])) _
        refine XS.iconst X64.here hx rfl (hb hby at_85) ?_
        show Steps p.tables e below (T64.setTop (mkF m 86 #[.val (.int u0), .val (.int u1), .val (.ref a_LIST), .val (.ref a_ITEM), .val (.ref s58), .val (.ref s59), .val (.int (1 : Int32)), .unset, .unset] [(.int (1 : Int32))])) _
        refine XS.goto X64.here hx rfl (pc0 := 86) (pc' := 90) rfl (hb hby at_86) (by decide) (by decide) ?_
        show Steps p.tables e below (T64.setTop (mkF m 90 #[.val (.int u0), .val (.int u1), .val (.ref a_LIST), .val (.ref a_ITEM), .val (.ref s58), .val (.ref s59), .val (.int (1 : Int32)), .unset, .unset] [(.int (1 : Int32))])) _
        refine XS.istore X64.here hx rfl (hb hby at_90) rfl (l' := #[.val (.int u0), .val (.int u1), .val (.ref a_LIST), .val (.ref a_ITEM), .val (.ref s58), .val (.ref s59), .val (.int (1 : Int32)), .val (.int (1 : Int32)), .unset]) rfl ?_
        show Steps p.tables e below (T64.setTop (mkF m 92 #[.val (.int u0), .val (.int u1), .val (.ref a_LIST), .val (.ref a_ITEM), .val (.ref s58), .val (.ref s59), .val (.int (1 : Int32)), .val (.int (1 : Int32)), .unset] [])) _
        refine XS.aload X64.here hx rfl (hb hby at_92) rfl rfl ?_
        show Steps p.tables e below (T64.setTop (mkF m 94 #[.val (.int u0), .val (.int u1), .val (.ref a_LIST), .val (.ref a_ITEM), .val (.ref s58), .val (.ref s59), .val (.int (1 : Int32)), .val (.int (1 : Int32)), .unset] [(.ref s58)])) _
        refine XS.aloadN X64.here hx rfl (hb hby at_94) rfl rfl ?_
        show Steps p.tables e below (T64.setTop (mkF m 95 #[.val (.int u0), .val (.int u1), .val (.ref a_LIST), .val (.ref a_ITEM), .val (.ref s58), .val (.ref s59), .val (.int (1 : Int32)), .val (.int (1 : Int32)), .unset] [(.ref a_LIST), (.ref s58)])) _
        refine st65.trans ?_
        show Steps p.tables e below (T65.setTop (mkF m 98 #[.val (.int u0), .val (.int u1), .val (.ref a_LIST), .val (.ref a_ITEM), .val (.ref s58), .val (.ref s59), .val (.int (1 : Int32)), .val (.int (1 : Int32)), .unset] [(.ref s65), (.ref s58)])) _
        refine st66.trans ?_
        show Steps p.tables e below (T66.setTop (mkF m 101 #[.val (.int u0), .val (.int u1), .val (.ref a_LIST), .val (.ref a_ITEM), .val (.ref s58), .val (.ref s59), .val (.int (1 : Int32)), .val (.int (1 : Int32)), .unset] [(.int (1 : Int32))])) _
        refine XS.istore X66.here hx rfl (hb hby at_101) rfl (l' := #[.val (.int u0), .val (.int u1), .val (.ref a_LIST), .val (.ref a_ITEM), .val (.ref s58), .val (.ref s59), .val (.int (1 : Int32)), .val (.int (1 : Int32)), .val (.int (1 : Int32))]) rfl ?_
        show Steps p.tables e below (T66.setTop (mkF m 103 #[.val (.int u0), .val (.int u1), .val (.ref a_LIST), .val (.ref a_ITEM), .val (.ref s58), .val (.ref s59), .val (.int (1 : Int32)), .val (.int (1 : Int32)), .val (.int (1 : Int32))] [])) _
        refine XS.iload X66.here hx rfl (hb hby at_103) rfl ?_
        show Steps p.tables e below (T66.setTop (mkF m 105 #[.val (.int u0), .val (.int u1), .val (.ref a_LIST), .val (.ref a_ITEM), .val (.ref s58), .val (.ref s59), .val (.int (1 : Int32)), .val (.int (1 : Int32)), .val (.int (1 : Int32))] [(.int (1 : Int32))])) _
        refine XS.ifNo X66.here hx rfl (hb hby at_105) rfl ((if0 _ _).trans (feq (by decide)).1) ?_
        show Steps p.tables e below (T66.setTop (mkF m 108 #[.val (.int u0), .val (.int u1), .val (.ref a_LIST), .val (.ref a_ITEM), .val (.ref s58), .val (.ref s59), .val (.int (1 : Int32)), .val (.int (1 : Int32)), .val (.int (1 : Int32))] [])) _
        refine XS.iload X66.here hx rfl (hb hby at_108) rfl ?_
        show Steps p.tables e below (T66.setTop (mkF m 110 #[.val (.int u0), .val (.int u1), .val (.ref a_LIST), .val (.ref a_ITEM), .val (.ref s58), .val (.ref s59), .val (.int (1 : Int32)), .val (.int (1 : Int32)), .val (.int (1 : Int32))] [(.int (1 : Int32))])) _
        refine XS.ifNo X66.here hx rfl (hb hby at_110) rfl ((if0 _ _).trans (feq (by decide)).1) ?_
        show Steps p.tables e below (T66.setTop (mkF m 113 #[.val (.int u0), .val (.int u1), .val (.ref a_LIST), .val (.ref a_ITEM), .val (.ref s58), .val (.ref s59), .val (.int (1 : Int32)), .val (.int (1 : Int32)), .val (.int (1 : Int32))] [])) _
        refine XS.iload X66.here hx rfl (hb hby at_113) rfl ?_
        show Steps p.tables e below (T66.setTop (mkF m 115 #[.val (.int u0), .val (.int u1), .val (.ref a_LIST), .val (.ref a_ITEM), .val (.ref s58), .val (.ref s59), .val (.int (1 : Int32)), .val (.int (1 : Int32)), .val (.int (1 : Int32))] [(.int (1 : Int32))])) _
        refine XS.ifNo X66.here hx rfl (hb hby at_115) rfl ((if0 _ _).trans (feq (by decide)).1) ?_
        show Steps p.tables e below (T66.setTop (mkF m 118 #[.val (.int u0), .val (.int u1), .val (.ref a_LIST), .val (.ref a_ITEM), .val (.ref s58), .val (.ref s59), .val (.int (1 : Int32)), .val (.int (1 : Int32)), .val (.int (1 : Int32))] [])) _
        refine XS.iconst X66.here hx rfl (hb hby at_118) ?_
        show Steps p.tables e below (T66.setTop (mkF m 119 #[.val (.int u0), .val (.int u1), .val (.ref a_LIST), .val (.ref a_ITEM), .val (.ref s58), .val (.ref s59), .val (.int (1 : Int32)), .val (.int (1 : Int32)), .val (.int (1 : Int32))] [(.int (1 : Int32))])) _
        refine XS.goto X66.here hx rfl (pc0 := 119) (pc' := 123) rfl (hb hby at_119) (by decide) (by decide) ?_
        show Steps p.tables e below (T66.setTop (mkF m 123 #[.val (.int u0), .val (.int u1), .val (.ref a_LIST), .val (.ref a_ITEM), .val (.ref s58), .val (.ref s59), .val (.int (1 : Int32)), .val (.int (1 : Int32)), .val (.int (1 : Int32))] [(.int (1 : Int32))])) _
        exact retN X66 hx (t := .boolean) Bd.returns (by simp) (hb hby at_123) hr
      · show Q0 Z u0 u1 a_UPSTREAM a_LIST a_ITEM G_COMPACT h0 n0 _ T66.heap _
        rw [e66]
        exact ⟨rfl, N66⟩
      · show CHr Z EL s.vm s.heap T66.vm T66.heap
        rw [e66]
        rw [hh]
        exact C65.trans (CHv.at X66 hZ (hEL hw) C65.1)
  · rcases own_sel u1 a_UPSTREAM a_LIST a_ITEM with hp1 | hp1 | hp1
    · obtain ⟨_, _, ⟨T67, L67, k67, n67⟩, -, X67, ⟨Lc67, hQ67, l67, y67, z67⟩, st67⟩ := Jvm.LawKit.callS X0 hx (y := (⟨"com/example/backfill/backfill/engine/LaneRequestsPinLaw", "pick", "(I)Lcom/example/backfill/backfill/engine/Lane;"⟩ : MethodName)) hown (mvT hZ (hw _ (List.mem_of_getElem? (i := 0) rfl))) (mvT hZ (hw _ (List.mem_of_getElem? (i := 1) rfl))) (mvT hZ (hw _ (List.mem_of_getElem? (i := 2) rfl))) (mvT hZ (hw _ (List.mem_of_getElem? (i := 3) rfl))) (by decide) (backOf (W := 0) (rm1 l Z a0 hw [] u0 a_UPSTREAM a_LIST a_ITEM h0 n0 Z0 O0 S_UPSTREAM S_LIST S_ITEM) hZ (hw _ (List.mem_of_getElem? (i := 3) rfl)) (hw _ (List.mem_of_getElem? (i := 2) rfl)) (by decide) (by decide)) (g := (mkF m 1 #[.val (.int u0), .val (.int u1), .unset, .unset, .unset, .unset, .unset, .unset, .unset] [(.int u0)])) rfl (by rw [hml]; rfl) (argsL := [(.int u0)]) (rest := []) (lenOf pd_3 rfl) rfl (by show 2 * 0 + _ ≤ _; exact Nat.le_of_eq rfl) (hb hby at_1) (fun _ _ => ⟨rfl, e0, (by decide : 0 + 0 ≤ _), (by decide : 0 + 0 ≤ _)⟩)
      dsimp only [Pt.U, Pt.locs, Pt.cells, Pt.slots] at X67 l67 y67 z67 st67 hQ67
      subst l67 y67 z67
      obtain ⟨hv67, N67q, e67⟩ := hQ67
      rw [hp0.2] at hv67
      subst hv67
      have N67 := Fr.app N0 N67q
      obtain ⟨_, _, ⟨T68, L68, k68, n68⟩, -, X68, ⟨Lc68, hQ68, l68, y68, z68⟩, st68⟩ := Jvm.LawKit.callS X67 hx (y := (⟨"com/example/backfill/backfill/engine/LaneRequestsPinLaw", "pick", "(I)Lcom/example/backfill/backfill/engine/Lane;"⟩ : MethodName)) hown (mvT hZ (hw _ (List.mem_of_getElem? (i := 0) rfl))) (mvT hZ (hw _ (List.mem_of_getElem? (i := 1) rfl))) (mvT hZ (hw _ (List.mem_of_getElem? (i := 2) rfl))) (mvT hZ (hw _ (List.mem_of_getElem? (i := 3) rfl))) (by decide) (backOf (W := 0) (rm1 l Z a0 hw [] u1 a_UPSTREAM a_LIST a_ITEM h0 n0 Z0 O0 S_UPSTREAM S_LIST S_ITEM) hZ (hw _ (List.mem_of_getElem? (i := 3) rfl)) (hw _ (List.mem_of_getElem? (i := 2) rfl)) (by decide) (by decide)) (g := (mkF m 6 #[.val (.int u0), .val (.int u1), .val (.ref a_ITEM), .unset, .unset, .unset, .unset, .unset, .unset] [(.int u1)])) rfl (by rw [hml]; rfl) (argsL := [(.int u1)]) (rest := []) (lenOf pd_3 rfl) rfl (by show 2 * 0 + _ ≤ _; exact Nat.le_of_eq rfl) (hb hby at_6) (fun _ _ => ⟨rfl, e67, (by decide : 0 + 0 ≤ _), (by decide : 0 + 0 ≤ _)⟩)
      dsimp only [Pt.U, Pt.locs, Pt.cells, Pt.slots] at X68 l68 y68 z68 st68 hQ68
      subst l68 y68 z68
      obtain ⟨hv68, N68q, e68⟩ := hQ68
      rw [hp1.2] at hv68
      subst hv68
      have N68 := Fr.app N67 N68q
      obtain ⟨cq69, kq69, q69a, q69b, q69c⟩ := isOf hZ e68 (E_a_ITEM.ext O0.2)
      obtain ⟨_, _, ⟨T69, L69, k69, n69⟩, -, X69, hS69, gr69, ⟨Lc69, hQ69, l69, y69, z69, Cq69⟩, st69⟩ := X68.virtualBackS hx (y := (⟨"com/example/backfill/backfill/engine/Lane", "requests", "()Ljava/lang/String;"⟩ : MethodName)) (z := (⟨"com/example/backfill/backfill/engine/Lane", "requests", "()Ljava/lang/String;"⟩ : MethodName)) hown (mvT hZ (hw _ (List.mem_of_getElem? (i := 11) rfl))) (mvT hZ (hw _ (List.mem_of_getElem? (i := 12) rfl))) (notFace_of_selects (args := #[]) (mvT hZ (hw _ (List.mem_of_getElem? (i := 14) rfl)))) (mvT hZ (hw _ (List.mem_of_getElem? (i := 14) rfl))) (mvT hZ (hw _ (List.mem_of_getElem? (i := 13) rfl))) (by decide) (backOfSH (W := 0) (rm3ITEM l Z a0 hw [] a_ITEM h0 n0 Z0 (E_a_ITEM.ext O0.2) (O_ITEM.ext O0.2)) hZ (hw _ (List.mem_of_getElem? (i := 15) rfl)) (hw _ (List.mem_of_getElem? (i := 9) rfl)) (by decide) (by decide) (hEL hw) C0.1) q69a q69c (g := (mkF m 11 #[.val (.int u0), .val (.int u1), .val (.ref a_ITEM), .val (.ref a_UPSTREAM), .unset, .unset, .unset, .unset, .unset] [(.ref a_ITEM)])) rfl (by rw [hml]; rfl) (Steps.refl _) (argsL := []) (rest := []) (lenOf pd_1 rfl) rfl (by show 2 * 0 + _ ≤ _; exact Nat.le_of_eq rfl) (hb hby at_11) (fun _ _ => ⟨rfl, e68, (by decide : 0 + 2 ≤ _), (by decide : 0 + 24 ≤ _)⟩)
      dsimp only [Pt.U, Pt.locs, Pt.cells, Pt.slots] at X69 l69 y69 z69 st69 hQ69 hS69 gr69 Cq69
      subst l69 y69 z69
      obtain ⟨X69, hS69, hZ, hown⟩ := rebS hS0 (Nat.le_trans hk0 (Nat.le_of_eq (congrArg Array.size e68).symm)) X69 hS69 gr69 hZ hown
      have hk69 := Nat.le_refl T69.heap.size
      obtain ⟨s69, d69, kc69, rfl, N69q, K69, A69, F69_coder, F69_value, V69⟩ := hQ69
      have N69 := Fr.app N68 N69q
      have Z69 : n0 ≤ T69.heap.size := Nat.le_trans Z0 K69.1
      have KK69 := (Keep.refl h0 []).trans K69 all0
      have O69 := O0.keep K69 all0
      have C69 := C0.trans Cq69
      obtain ⟨cq70, kq70, q70a, q70b, q70c⟩ := isOf hZ rfl (E_a_UPSTREAM.ext O69.2)
      obtain ⟨_, _, ⟨T70, L70, k70, n70⟩, -, X70, hS70, gr70, ⟨Lc70, hQ70, l70, y70, z70, Cq70⟩, st70⟩ := X69.virtualBackS hx (y := (⟨"com/example/backfill/backfill/engine/Lane", "requests", "()Ljava/lang/String;"⟩ : MethodName)) (z := (⟨"com/example/backfill/backfill/engine/Lane", "requests", "()Ljava/lang/String;"⟩ : MethodName)) hown (mvT hZ (hw _ (List.mem_of_getElem? (i := 11) rfl))) (mvT hZ (hw _ (List.mem_of_getElem? (i := 12) rfl))) (notFace_of_selects (args := #[]) (mvT hZ (hw _ (List.mem_of_getElem? (i := 14) rfl)))) (mvT hZ (hw _ (List.mem_of_getElem? (i := 14) rfl))) (mvT hZ (hw _ (List.mem_of_getElem? (i := 13) rfl))) (by decide) (backOfSH (W := 0) (rm3UPSTREAM l Z a0 hw [] a_UPSTREAM T69.heap n0 Z69 (E_a_UPSTREAM.ext O69.2) (O_UPSTREAM.ext O69.2)) hZ (hw _ (List.mem_of_getElem? (i := 15) rfl)) (hw _ (List.mem_of_getElem? (i := 9) rfl)) (by decide) (by decide) (hEL hw) C69.1) q70a q70c (g := (mkF m 17 #[.val (.int u0), .val (.int u1), .val (.ref a_ITEM), .val (.ref a_UPSTREAM), .val (.ref s69), .unset, .unset, .unset, .unset] [(.ref a_UPSTREAM)])) rfl (by rw [hml]; rfl) (Steps.refl _) (argsL := []) (rest := []) (lenOf pd_1 rfl) rfl (by show 2 * 0 + _ ≤ _; exact Nat.le_of_eq rfl) (hb hby at_17) (fun _ _ => ⟨rfl, rfl, (by decide : 2 + 2 ≤ _), (by decide : 24 + 52 ≤ _)⟩)
      dsimp only [Pt.U, Pt.locs, Pt.cells, Pt.slots] at X70 l70 y70 z70 st70 hQ70 hS70 gr70 Cq70
      subst l70 y70 z70
      obtain ⟨X70, hS70, hZ, hown⟩ := rebS hS69 (Nat.le_trans hk69 (Nat.le_of_eq (congrArg Array.size rfl).symm)) X70 hS70 gr70 hZ hown
      have hk70 := Nat.le_refl T70.heap.size
      obtain ⟨s70, d70, kc70, rfl, N70q, K70, A70, F70_coder, F70_value, V70⟩ := hQ70
      have N70 := Fr.app N69 N70q
      have Z70 : n0 ≤ T70.heap.size := Nat.le_trans Z69 K70.1
      have KK70 := KK69.trans K70 all0
      have O70 := O69.keep K70 all0
      have C70 := C69.trans Cq70
      obtain ⟨_, _, ⟨T71, L71, k71, n71⟩, -, X71, hS71, gr71, ⟨Lc71, hQ71, l71, y71, z71, Cq71⟩, st71⟩ := callSS X70 hx (y := (⟨"com/example/backfill/backfill/engine/LaneRequestsPinLaw", "expected", "(I)Ljava/lang/String;"⟩ : MethodName)) hown (mvT hZ (hw _ (List.mem_of_getElem? (i := 33) rfl))) (mvT hZ (hw _ (List.mem_of_getElem? (i := 34) rfl))) (mvT hZ (hw _ (List.mem_of_getElem? (i := 2) rfl))) (mvT hZ (hw _ (List.mem_of_getElem? (i := 35) rfl))) (by decide) (backOfSH (W := 1) (rm5ITEM l Z a0 hw [] u0 T70.heap n0 Z70 hp0.1.1 hp0.1.2) hZ (hw _ (List.mem_of_getElem? (i := 35) rfl)) (hw _ (List.mem_of_getElem? (i := 2) rfl)) (by decide) (by decide) (hEL hw) C70.1) (g := (mkF m 37 #[.val (.int u0), .val (.int u1), .val (.ref a_ITEM), .val (.ref a_UPSTREAM), .val (.ref s69), .val (.ref s70), .unset, .unset, .unset] [(.int u0), (.ref s69)])) rfl (by rw [hml]; rfl) (argsL := [(.int u0)]) (rest := [(.ref s69)]) (lenOf pd_4 rfl) rfl (by show 2 * 0 + _ ≤ _; exact Nat.le_of_eq rfl) (hb hby at_37) (fun _ _ => ⟨rfl, rfl, (by decide : 4 + 2 ≤ _), (by decide : 76 + 24 ≤ _)⟩)
      dsimp only [Pt.U, Pt.locs, Pt.cells, Pt.slots] at X71 l71 y71 z71 st71 hQ71 hS71 gr71 Cq71
      subst l71 y71 z71
      obtain ⟨X71, hS71, hZ, hown⟩ := rebS hS70 (Nat.le_trans hk70 (Nat.le_of_eq (congrArg Array.size rfl).symm)) X71 hS71 gr71 hZ hown
      have hk71 := Nat.le_refl T71.heap.size
      obtain ⟨s71, d71, kc71, rfl, N71q, K71, A71, F71_coder, F71_value, V71⟩ := hQ71
      have N71 := Fr.app N70 N71q
      have Z71 : n0 ≤ T71.heap.size := Nat.le_trans Z70 K71.1
      have KK71 := KK70.trans K71 all0
      have O71 := O70.keep K71 all0
      have C71 := C70.trans Cq71
      obtain ⟨cq72, kq72, q72a, q72b, q72c⟩ := isOf hZ rfl ((A69.keep K70).keep K71)
      obtain ⟨_, _, ⟨T72, L72, k72, n72⟩, -, X72, ⟨Lc72, hQ72, l72, y72, z72⟩, st72⟩ := X71.virtualBack hx (y := (⟨"java/lang/String", "equals", "(Ljava/lang/Object;)Z"⟩ : MethodName)) (z := (⟨"java/lang/String", "equals", "(Ljava/lang/Object;)Z"⟩ : MethodName)) hown (mvT hZ (hw _ (List.mem_of_getElem? (i := 37) rfl))) (mvT hZ (hw _ (List.mem_of_getElem? (i := 38) rfl))) (notFace_of_selects (args := #[]) (mvT hZ (hw _ (List.mem_of_getElem? (i := 40) rfl)))) (mvT hZ (hw _ (List.mem_of_getElem? (i := 40) rfl))) (mvT hZ (hw _ (List.mem_of_getElem? (i := 39) rfl))) (by decide) (backOf (W := 0) (rm6II l Z a0 hw [] s69 s71 d69 d71 kc69 kc71 G_COMPACT T71.heap n0 Z71 O71 ((A69.keep K70).keep K71) ((F69_coder.keep K70 nin0).keep K71 nin0) ((F69_value.keep K70 nin0).keep K71 nin0) A71 F71_coder F71_value ((V69.keep K70 nin0).keep K71 nin0) V71 S_COMPACT P_COMPACT) hZ (hw _ (List.mem_of_getElem? (i := 41) rfl)) (hw _ (List.mem_of_getElem? (i := 26) rfl)) (by decide) (by decide)) q72a q72c (g := (mkF m 40 #[.val (.int u0), .val (.int u1), .val (.ref a_ITEM), .val (.ref a_UPSTREAM), .val (.ref s69), .val (.ref s70), .unset, .unset, .unset] [(.ref s71), (.ref s69)])) rfl (by rw [hml]; rfl) (Steps.refl _) (argsL := [(.ref s71)]) (rest := []) (lenOf pd_5 rfl) rfl (by show 2 * 0 + _ ≤ _; exact Nat.le_of_eq rfl) (hb hby at_40) (fun _ _ => ⟨rfl, rfl, (by decide : 6 + 0 ≤ _), (by decide : 100 + 0 ≤ _)⟩)
      dsimp only [Pt.U, Pt.locs, Pt.cells, Pt.slots] at X72 l72 y72 z72 st72 hQ72
      subst l72 y72 z72
      obtain ⟨rfl, N72q, e72⟩ := hQ72
      have N72 := Fr.app N71 N72q
      obtain ⟨_, _, ⟨T73, L73, k73, n73⟩, -, X73, hS73, gr73, ⟨Lc73, hQ73, l73, y73, z73, Cq73⟩, st73⟩ := callSS X72 hx (y := (⟨"com/example/backfill/backfill/engine/LaneRequestsPinLaw", "expected", "(I)Ljava/lang/String;"⟩ : MethodName)) hown (mvT hZ (hw _ (List.mem_of_getElem? (i := 33) rfl))) (mvT hZ (hw _ (List.mem_of_getElem? (i := 34) rfl))) (mvT hZ (hw _ (List.mem_of_getElem? (i := 2) rfl))) (mvT hZ (hw _ (List.mem_of_getElem? (i := 35) rfl))) (by decide) (backOfSH (W := 1) (rm5UPSTREAM l Z a0 hw [] u1 T71.heap n0 Z71 hp1.1) hZ (hw _ (List.mem_of_getElem? (i := 35) rfl)) (hw _ (List.mem_of_getElem? (i := 2) rfl)) (by decide) (by decide) (hEL hw) C71.1) (g := (mkF m 49 #[.val (.int u0), .val (.int u1), .val (.ref a_ITEM), .val (.ref a_UPSTREAM), .val (.ref s69), .val (.ref s70), .unset, .unset, .unset] [(.int u1), (.ref s70)])) rfl (by rw [hml]; rfl) (argsL := [(.int u1)]) (rest := [(.ref s70)]) (lenOf pd_4 rfl) rfl (by show 2 * 0 + _ ≤ _; exact Nat.le_of_eq rfl) (hb hby at_49) (fun _ _ => ⟨rfl, e72, (by decide : 6 + 2 ≤ _), (by decide : 100 + 52 ≤ _)⟩)
      dsimp only [Pt.U, Pt.locs, Pt.cells, Pt.slots] at X73 l73 y73 z73 st73 hQ73 hS73 gr73 Cq73
      subst l73 y73 z73
      obtain ⟨X73, hS73, hZ, hown⟩ := rebS hS71 (Nat.le_trans hk71 (Nat.le_of_eq (congrArg Array.size e72).symm)) X73 hS73 gr73 hZ hown
      have hk73 := Nat.le_refl T73.heap.size
      obtain ⟨s73, d73, kc73, rfl, N73q, K73, A73, F73_coder, F73_value, V73⟩ := hQ73
      have N73 := Fr.app N72 N73q
      have Z73 : n0 ≤ T73.heap.size := Nat.le_trans Z71 K73.1
      have KK73 := KK71.trans K73 all0
      have O73 := O71.keep K73 all0
      have C73 := C71.trans Cq73
      obtain ⟨cq74, kq74, q74a, q74b, q74c⟩ := isOf hZ rfl ((A70.keep K71).keep K73)
      obtain ⟨_, _, ⟨T74, L74, k74, n74⟩, -, X74, ⟨Lc74, hQ74, l74, y74, z74⟩, st74⟩ := X73.virtualBack hx (y := (⟨"java/lang/String", "equals", "(Ljava/lang/Object;)Z"⟩ : MethodName)) (z := (⟨"java/lang/String", "equals", "(Ljava/lang/Object;)Z"⟩ : MethodName)) hown (mvT hZ (hw _ (List.mem_of_getElem? (i := 37) rfl))) (mvT hZ (hw _ (List.mem_of_getElem? (i := 38) rfl))) (notFace_of_selects (args := #[]) (mvT hZ (hw _ (List.mem_of_getElem? (i := 40) rfl)))) (mvT hZ (hw _ (List.mem_of_getElem? (i := 40) rfl))) (mvT hZ (hw _ (List.mem_of_getElem? (i := 39) rfl))) (by decide) (backOf (W := 0) (rm6UU l Z a0 hw [] s70 s73 d70 d73 kc70 kc73 G_COMPACT T73.heap n0 Z73 O73 ((A70.keep K71).keep K73) ((F70_coder.keep K71 nin0).keep K73 nin0) ((F70_value.keep K71 nin0).keep K73 nin0) A73 F73_coder F73_value ((V70.keep K71 nin0).keep K73 nin0) V73 S_COMPACT P_COMPACT) hZ (hw _ (List.mem_of_getElem? (i := 41) rfl)) (hw _ (List.mem_of_getElem? (i := 26) rfl)) (by decide) (by decide)) q74a q74c (g := (mkF m 52 #[.val (.int u0), .val (.int u1), .val (.ref a_ITEM), .val (.ref a_UPSTREAM), .val (.ref s69), .val (.ref s70), .unset, .unset, .unset] [(.ref s73), (.ref s70)])) rfl (by rw [hml]; rfl) (Steps.refl _) (argsL := [(.ref s73)]) (rest := []) (lenOf pd_5 rfl) rfl (by show 2 * 0 + _ ≤ _; exact Nat.le_of_eq rfl) (hb hby at_52) (fun _ _ => ⟨rfl, rfl, (by decide : 8 + 0 ≤ _), (by decide : 152 + 0 ≤ _)⟩)
      dsimp only [Pt.U, Pt.locs, Pt.cells, Pt.slots] at X74 l74 y74 z74 st74 hQ74
      subst l74 y74 z74
      obtain ⟨rfl, N74q, e74⟩ := hQ74
      have N74 := Fr.app N73 N74q
      obtain ⟨cq75, kq75, q75a, q75b, q75c⟩ := isOf hZ e74 (((A69.keep K70).keep K71).keep K73)
      obtain ⟨_, _, ⟨T75, L75, k75, n75⟩, -, X75, ⟨Lc75, hQ75, l75, y75, z75⟩, st75⟩ := X74.virtualBack hx (y := (⟨"java/lang/String", "equals", "(Ljava/lang/Object;)Z"⟩ : MethodName)) (z := (⟨"java/lang/String", "equals", "(Ljava/lang/Object;)Z"⟩ : MethodName)) hown (mvT hZ (hw _ (List.mem_of_getElem? (i := 37) rfl))) (mvT hZ (hw _ (List.mem_of_getElem? (i := 38) rfl))) (notFace_of_selects (args := #[]) (mvT hZ (hw _ (List.mem_of_getElem? (i := 40) rfl)))) (mvT hZ (hw _ (List.mem_of_getElem? (i := 40) rfl))) (mvT hZ (hw _ (List.mem_of_getElem? (i := 39) rfl))) (by decide) (backOf (W := 1) (rm6IU l Z a0 hw [] s69 s70 d69 d70 kc69 kc70 G_COMPACT T73.heap n0 Z73 O73 (((A69.keep K70).keep K71).keep K73) (((F69_coder.keep K70 nin0).keep K71 nin0).keep K73 nin0) (((F69_value.keep K70 nin0).keep K71 nin0).keep K73 nin0) ((A70.keep K71).keep K73) ((F70_coder.keep K71 nin0).keep K73 nin0) ((F70_value.keep K71 nin0).keep K73 nin0) (((V69.keep K70 nin0).keep K71 nin0).keep K73 nin0) ((V70.keep K71 nin0).keep K73 nin0) S_COMPACT P_COMPACT (own_strne (by decide) (((F69_value.keep K70 nin0).keep K71 nin0).keep K73 nin0) ((F70_value.keep K71 nin0).keep K73 nin0) (((V69.keep K70 nin0).keep K71 nin0).keep K73 nin0) ((V70.keep K71 nin0).keep K73 nin0))) hZ (hw _ (List.mem_of_getElem? (i := 41) rfl)) (hw _ (List.mem_of_getElem? (i := 26) rfl)) (by decide) (by decide)) q75a q75c (g := (mkF m 79 #[.val (.int u0), .val (.int u1), .val (.ref a_ITEM), .val (.ref a_UPSTREAM), .val (.ref s69), .val (.ref s70), .val (.int (1 : Int32)), .unset, .unset] [(.ref s70), (.ref s69), (.int (0 : Int32))])) rfl (by rw [hml]; rfl) (Steps.refl _) (argsL := [(.ref s70)]) (rest := [(.int (0 : Int32))]) (lenOf pd_5 rfl) rfl (by show 2 * 0 + _ ≤ _; exact Nat.le_of_eq rfl) (hb hby at_79) (fun _ _ => ⟨rfl, e74, (by decide : 8 + 0 ≤ _), (by decide : 152 + 0 ≤ _)⟩)
      dsimp only [Pt.U, Pt.locs, Pt.cells, Pt.slots] at X75 l75 y75 z75 st75 hQ75
      subst l75 y75 z75
      obtain ⟨rfl, N75q, e75⟩ := hQ75
      have N75 := Fr.app N74 N75q
      obtain ⟨cq76, kq76, q76a, q76b, q76c⟩ := isOf hZ e75 (E_a_ITEM.ext O73.2)
      obtain ⟨_, _, ⟨T76, L76, k76, n76⟩, -, X76, hS76, gr76, ⟨Lc76, hQ76, l76, y76, z76, Cq76⟩, st76⟩ := X75.virtualBackS hx (y := (⟨"com/example/backfill/backfill/engine/Lane", "requests", "()Ljava/lang/String;"⟩ : MethodName)) (z := (⟨"com/example/backfill/backfill/engine/Lane", "requests", "()Ljava/lang/String;"⟩ : MethodName)) hown (mvT hZ (hw _ (List.mem_of_getElem? (i := 11) rfl))) (mvT hZ (hw _ (List.mem_of_getElem? (i := 12) rfl))) (notFace_of_selects (args := #[]) (mvT hZ (hw _ (List.mem_of_getElem? (i := 14) rfl)))) (mvT hZ (hw _ (List.mem_of_getElem? (i := 14) rfl))) (mvT hZ (hw _ (List.mem_of_getElem? (i := 13) rfl))) (by decide) (backOfSH (W := 1) (rm3ITEM l Z a0 hw [] a_ITEM T73.heap n0 Z73 (E_a_ITEM.ext O73.2) (O_ITEM.ext O73.2)) hZ (hw _ (List.mem_of_getElem? (i := 15) rfl)) (hw _ (List.mem_of_getElem? (i := 9) rfl)) (by decide) (by decide) (hEL hw) C73.1) q76a q76c (g := (mkF m 95 #[.val (.int u0), .val (.int u1), .val (.ref a_ITEM), .val (.ref a_UPSTREAM), .val (.ref s69), .val (.ref s70), .val (.int (1 : Int32)), .val (.int (1 : Int32)), .unset] [(.ref a_ITEM), (.ref s69)])) rfl (by rw [hml]; rfl) (Steps.refl _) (argsL := []) (rest := [(.ref s69)]) (lenOf pd_1 rfl) rfl (by show 2 * 0 + _ ≤ _; exact Nat.le_of_eq rfl) (hb hby at_95) (fun _ _ => ⟨rfl, e75, (by decide : 8 + 2 ≤ _), (by decide : 152 + 24 ≤ _)⟩)
      dsimp only [Pt.U, Pt.locs, Pt.cells, Pt.slots] at X76 l76 y76 z76 st76 hQ76 hS76 gr76 Cq76
      subst l76 y76 z76
      obtain ⟨X76, hS76, hZ, hown⟩ := rebS hS73 (Nat.le_trans hk73 (Nat.le_of_eq (congrArg Array.size e75).symm)) X76 hS76 gr76 hZ hown
      have hk76 := Nat.le_refl T76.heap.size
      obtain ⟨s76, d76, kc76, rfl, N76q, K76, A76, F76_coder, F76_value, V76⟩ := hQ76
      have N76 := Fr.app N75 N76q
      have Z76 : n0 ≤ T76.heap.size := Nat.le_trans Z73 K76.1
      have KK76 := KK73.trans K76 all0
      have O76 := O73.keep K76 all0
      have C76 := C73.trans Cq76
      obtain ⟨cq77, kq77, q77a, q77b, q77c⟩ := isOf hZ rfl ((((A69.keep K70).keep K71).keep K73).keep K76)
      obtain ⟨_, _, ⟨T77, L77, k77, n77⟩, -, X77, ⟨Lc77, hQ77, l77, y77, z77⟩, st77⟩ := X76.virtualBack hx (y := (⟨"java/lang/String", "equals", "(Ljava/lang/Object;)Z"⟩ : MethodName)) (z := (⟨"java/lang/String", "equals", "(Ljava/lang/Object;)Z"⟩ : MethodName)) hown (mvT hZ (hw _ (List.mem_of_getElem? (i := 37) rfl))) (mvT hZ (hw _ (List.mem_of_getElem? (i := 38) rfl))) (notFace_of_selects (args := #[]) (mvT hZ (hw _ (List.mem_of_getElem? (i := 40) rfl)))) (mvT hZ (hw _ (List.mem_of_getElem? (i := 40) rfl))) (mvT hZ (hw _ (List.mem_of_getElem? (i := 39) rfl))) (by decide) (backOf (W := 0) (rm6II l Z a0 hw [] s69 s76 d69 d76 kc69 kc76 G_COMPACT T76.heap n0 Z76 O76 ((((A69.keep K70).keep K71).keep K73).keep K76) ((((F69_coder.keep K70 nin0).keep K71 nin0).keep K73 nin0).keep K76 nin0) ((((F69_value.keep K70 nin0).keep K71 nin0).keep K73 nin0).keep K76 nin0) A76 F76_coder F76_value ((((V69.keep K70 nin0).keep K71 nin0).keep K73 nin0).keep K76 nin0) V76 S_COMPACT P_COMPACT) hZ (hw _ (List.mem_of_getElem? (i := 41) rfl)) (hw _ (List.mem_of_getElem? (i := 26) rfl)) (by decide) (by decide)) q77a q77c (g := (mkF m 98 #[.val (.int u0), .val (.int u1), .val (.ref a_ITEM), .val (.ref a_UPSTREAM), .val (.ref s69), .val (.ref s70), .val (.int (1 : Int32)), .val (.int (1 : Int32)), .unset] [(.ref s76), (.ref s69)])) rfl (by rw [hml]; rfl) (Steps.refl _) (argsL := [(.ref s76)]) (rest := []) (lenOf pd_5 rfl) rfl (by show 2 * 0 + _ ≤ _; exact Nat.le_of_eq rfl) (hb hby at_98) (fun _ _ => ⟨rfl, rfl, (by decide : 10 + 0 ≤ _), (by decide : 176 + 0 ≤ _)⟩)
      dsimp only [Pt.U, Pt.locs, Pt.cells, Pt.slots] at X77 l77 y77 z77 st77 hQ77
      subst l77 y77 z77
      obtain ⟨rfl, N77q, e77⟩ := hQ77
      have N77 := Fr.app N76 N77q
      obtain ⟨fs, hr, hrun, hended, hE⟩ := X77.leaveW hS76 (Nat.le_trans hk76 (Nat.le_of_eq (congrArg Array.size e77).symm)) (v := some (.int (1 : Int32))) (fun h => by rw [Bd.returns] at h; cases h)
      refine ⟨_, _, pre0 _ ?_, hrun, hended, _, _, rfl, ?_, ?_, own_monoW hE (by decide) (by decide)⟩
      · show Steps p.tables e below (s₁.setTop (mkF m 0 #[.val (.int u0), .val (.int u1), .unset, .unset, .unset, .unset, .unset, .unset, .unset] [])) _
        refine XS.iloadN X0.here hx rfl (hb hby at_0) rfl ?_
        show Steps p.tables e below (s₁.setTop (mkF m 1 #[.val (.int u0), .val (.int u1), .unset, .unset, .unset, .unset, .unset, .unset, .unset] [(.int u0)])) _
        refine st67 _ ?_
        show Steps p.tables e below (T67.setTop (mkF m 4 #[.val (.int u0), .val (.int u1), .unset, .unset, .unset, .unset, .unset, .unset, .unset] [(.ref a_ITEM)])) _
        refine XS.astoreN X67.here hx rfl (hb hby at_4) rfl rfl (l' := #[.val (.int u0), .val (.int u1), .val (.ref a_ITEM), .unset, .unset, .unset, .unset, .unset, .unset]) rfl ?_
        show Steps p.tables e below (T67.setTop (mkF m 5 #[.val (.int u0), .val (.int u1), .val (.ref a_ITEM), .unset, .unset, .unset, .unset, .unset, .unset] [])) _
        refine XS.iloadN X67.here hx rfl (hb hby at_5) rfl ?_
        show Steps p.tables e below (T67.setTop (mkF m 6 #[.val (.int u0), .val (.int u1), .val (.ref a_ITEM), .unset, .unset, .unset, .unset, .unset, .unset] [(.int u1)])) _
        refine st68 _ ?_
        show Steps p.tables e below (T68.setTop (mkF m 9 #[.val (.int u0), .val (.int u1), .val (.ref a_ITEM), .unset, .unset, .unset, .unset, .unset, .unset] [(.ref a_UPSTREAM)])) _
        refine XS.astoreN X68.here hx rfl (hb hby at_9) rfl rfl (l' := #[.val (.int u0), .val (.int u1), .val (.ref a_ITEM), .val (.ref a_UPSTREAM), .unset, .unset, .unset, .unset, .unset]) rfl ?_
        show Steps p.tables e below (T68.setTop (mkF m 10 #[.val (.int u0), .val (.int u1), .val (.ref a_ITEM), .val (.ref a_UPSTREAM), .unset, .unset, .unset, .unset, .unset] [])) _
        refine XS.aloadN X68.here hx rfl (hb hby at_10) rfl rfl ?_
        show Steps p.tables e below (T68.setTop (mkF m 11 #[.val (.int u0), .val (.int u1), .val (.ref a_ITEM), .val (.ref a_UPSTREAM), .unset, .unset, .unset, .unset, .unset] [(.ref a_ITEM)])) _
        refine st69.trans ?_
        show Steps p.tables e below (T69.setTop (mkF m 14 #[.val (.int u0), .val (.int u1), .val (.ref a_ITEM), .val (.ref a_UPSTREAM), .unset, .unset, .unset, .unset, .unset] [(.ref s69)])) _
        refine XS.astore X69.here hx rfl (hb hby at_14) rfl rfl (l' := #[.val (.int u0), .val (.int u1), .val (.ref a_ITEM), .val (.ref a_UPSTREAM), .val (.ref s69), .unset, .unset, .unset, .unset]) rfl ?_
        show Steps p.tables e below (T69.setTop (mkF m 16 #[.val (.int u0), .val (.int u1), .val (.ref a_ITEM), .val (.ref a_UPSTREAM), .val (.ref s69), .unset, .unset, .unset, .unset] [])) _
        refine XS.aloadN X69.here hx rfl (hb hby at_16) rfl rfl ?_
        show Steps p.tables e below (T69.setTop (mkF m 17 #[.val (.int u0), .val (.int u1), .val (.ref a_ITEM), .val (.ref a_UPSTREAM), .val (.ref s69), .unset, .unset, .unset, .unset] [(.ref a_UPSTREAM)])) _
        refine st70.trans ?_
        show Steps p.tables e below (T70.setTop (mkF m 20 #[.val (.int u0), .val (.int u1), .val (.ref a_ITEM), .val (.ref a_UPSTREAM), .val (.ref s69), .unset, .unset, .unset, .unset] [(.ref s70)])) _
        refine XS.astore X70.here hx rfl (hb hby at_20) rfl rfl (l' := #[.val (.int u0), .val (.int u1), .val (.ref a_ITEM), .val (.ref a_UPSTREAM), .val (.ref s69), .val (.ref s70), .unset, .unset, .unset]) rfl ?_
        show Steps p.tables e below (T70.setTop (mkF m 22 #[.val (.int u0), .val (.int u1), .val (.ref a_ITEM), .val (.ref a_UPSTREAM), .val (.ref s69), .val (.ref s70), .unset, .unset, .unset] [])) _
        refine XS.aload X70.here hx rfl (hb hby at_22) rfl rfl ?_
        show Steps p.tables e below (T70.setTop (mkF m 24 #[.val (.int u0), .val (.int u1), .val (.ref a_ITEM), .val (.ref a_UPSTREAM), .val (.ref s69), .val (.ref s70), .unset, .unset, .unset] [(.ref s69)])) _
        refine XS.ifnullNo X70.here hx rfl (hb hby at_24) rfl ?_
        show Steps p.tables e below (T70.setTop (mkF m 27 #[.val (.int u0), .val (.int u1), .val (.ref a_ITEM), .val (.ref a_UPSTREAM), .val (.ref s69), .val (.ref s70), .unset, .unset, .unset] [])) _
        refine XS.aload X70.here hx rfl (hb hby at_27) rfl rfl ?_
        show Steps p.tables e below (T70.setTop (mkF m 29 #[.val (.int u0), .val (.int u1), .val (.ref a_ITEM), .val (.ref a_UPSTREAM), .val (.ref s69), .val (.ref s70), .unset, .unset, .unset] [(.ref s70)])) _
        refine XS.ifnonnullYes X70.here hx rfl (pc0 := 29) (pc' := 34) rfl (hb hby at_29) rfl (by decide) (by decide) ?_
        show Steps p.tables e below (T70.setTop (mkF m 34 #[.val (.int u0), .val (.int u1), .val (.ref a_ITEM), .val (.ref a_UPSTREAM), .val (.ref s69), .val (.ref s70), .unset, .unset, .unset] [])) _
        refine XS.aload X70.here hx rfl (hb hby at_34) rfl rfl ?_
        show Steps p.tables e below (T70.setTop (mkF m 36 #[.val (.int u0), .val (.int u1), .val (.ref a_ITEM), .val (.ref a_UPSTREAM), .val (.ref s69), .val (.ref s70), .unset, .unset, .unset] [(.ref s69)])) _
        refine XS.iloadN X70.here hx rfl (hb hby at_36) rfl ?_
        show Steps p.tables e below (T70.setTop (mkF m 37 #[.val (.int u0), .val (.int u1), .val (.ref a_ITEM), .val (.ref a_UPSTREAM), .val (.ref s69), .val (.ref s70), .unset, .unset, .unset] [(.int u0), (.ref s69)])) _
        refine st71.trans ?_
        show Steps p.tables e below (T71.setTop (mkF m 40 #[.val (.int u0), .val (.int u1), .val (.ref a_ITEM), .val (.ref a_UPSTREAM), .val (.ref s69), .val (.ref s70), .unset, .unset, .unset] [(.ref s71), (.ref s69)])) _
        refine st72.trans ?_
        show Steps p.tables e below (T72.setTop (mkF m 43 #[.val (.int u0), .val (.int u1), .val (.ref a_ITEM), .val (.ref a_UPSTREAM), .val (.ref s69), .val (.ref s70), .unset, .unset, .unset] [(.int (1 : Int32))])) _
        refine XS.ifNo X72.here hx rfl (hb hby at_43) rfl ((if0 _ _).trans (feq (by decide)).1) ?_
        show Steps p.tables e below (T72.setTop (mkF m 46 #[.val (.int u0), .val (.int u1), .val (.ref a_ITEM), .val (.ref a_UPSTREAM), .val (.ref s69), .val (.ref s70), .unset, .unset, .unset] [])) _
        refine XS.aload X72.here hx rfl (hb hby at_46) rfl rfl ?_
        show Steps p.tables e below (T72.setTop (mkF m 48 #[.val (.int u0), .val (.int u1), .val (.ref a_ITEM), .val (.ref a_UPSTREAM), .val (.ref s69), .val (.ref s70), .unset, .unset, .unset] [(.ref s70)])) _
        refine XS.iloadN X72.here hx rfl (hb hby at_48) rfl ?_
        show Steps p.tables e below (T72.setTop (mkF m 49 #[.val (.int u0), .val (.int u1), .val (.ref a_ITEM), .val (.ref a_UPSTREAM), .val (.ref s69), .val (.ref s70), .unset, .unset, .unset] [(.int u1), (.ref s70)])) _
        refine st73.trans ?_
        show Steps p.tables e below (T73.setTop (mkF m 52 #[.val (.int u0), .val (.int u1), .val (.ref a_ITEM), .val (.ref a_UPSTREAM), .val (.ref s69), .val (.ref s70), .unset, .unset, .unset] [(.ref s73), (.ref s70)])) _
        refine st74.trans ?_
        show Steps p.tables e below (T74.setTop (mkF m 55 #[.val (.int u0), .val (.int u1), .val (.ref a_ITEM), .val (.ref a_UPSTREAM), .val (.ref s69), .val (.ref s70), .unset, .unset, .unset] [(.int (1 : Int32))])) _
        refine XS.ifNo X74.here hx rfl (hb hby at_55) rfl ((if0 _ _).trans (feq (by decide)).1) ?_
        show Steps p.tables e below (T74.setTop (mkF m 58 #[.val (.int u0), .val (.int u1), .val (.ref a_ITEM), .val (.ref a_UPSTREAM), .val (.ref s69), .val (.ref s70), .unset, .unset, .unset] [])) _
        refine XS.iconst X74.here hx rfl (hb hby at_58) ?_
        show Steps p.tables e below (T74.setTop (mkF m 59 #[.val (.int u0), .val (.int u1), .val (.ref a_ITEM), .val (.ref a_UPSTREAM), .val (.ref s69), .val (.ref s70), .unset, .unset, .unset] [(.int (1 : Int32))])) _
        refine XS.goto X74.here hx rfl (pc0 := 59) (pc' := 63) rfl (hb hby at_59) (by decide) (by decide) ?_
        show Steps p.tables e below (T74.setTop (mkF m 63 #[.val (.int u0), .val (.int u1), .val (.ref a_ITEM), .val (.ref a_UPSTREAM), .val (.ref s69), .val (.ref s70), .unset, .unset, .unset] [(.int (1 : Int32))])) _
        refine XS.istore X74.here hx rfl (hb hby at_63) rfl (l' := #[.val (.int u0), .val (.int u1), .val (.ref a_ITEM), .val (.ref a_UPSTREAM), .val (.ref s69), .val (.ref s70), .val (.int (1 : Int32)), .unset, .unset]) rfl ?_
        show Steps p.tables e below (T74.setTop (mkF m 65 #[.val (.int u0), .val (.int u1), .val (.ref a_ITEM), .val (.ref a_UPSTREAM), .val (.ref s69), .val (.ref s70), .val (.int (1 : Int32)), .unset, .unset] [])) _
        refine XS.aloadN X74.here hx rfl (hb hby at_65) rfl rfl ?_
        show Steps p.tables e below (T74.setTop (mkF m 66 #[.val (.int u0), .val (.int u1), .val (.ref a_ITEM), .val (.ref a_UPSTREAM), .val (.ref s69), .val (.ref s70), .val (.int (1 : Int32)), .unset, .unset] [(.ref a_ITEM)])) _
        refine XS.aloadN X74.here hx rfl (hb hby at_66) rfl rfl ?_
        show Steps p.tables e below (T74.setTop (mkF m 67 #[.val (.int u0), .val (.int u1), .val (.ref a_ITEM), .val (.ref a_UPSTREAM), .val (.ref s69), .val (.ref s70), .val (.int (1 : Int32)), .unset, .unset] [(.ref a_UPSTREAM), (.ref a_ITEM)])) _
        refine Jvm.RoadKit.acmp (g := (mkF m 67 #[.val (.int u0), .val (.int u1), .val (.ref a_ITEM), .val (.ref a_UPSTREAM), .val (.ref s69), .val (.ref s70), .val (.int (1 : Int32)), .unset, .unset] [(.ref a_UPSTREAM), (.ref a_ITEM)])) X74 hx rfl rfl rfl (pc0 := 67) (pc' := 74) (same := false) rfl (hb hby at_67) rfl (decide_eq_false fun q => (Ne.symm ne_UPSTREAM_ITEM) (Value.ref.inj q)) (by decide) (by decide) ?_
        show Steps p.tables e below (T74.setTop (mkF m 74 #[.val (.int u0), .val (.int u1), .val (.ref a_ITEM), .val (.ref a_UPSTREAM), .val (.ref s69), .val (.ref s70), .val (.int (1 : Int32)), .unset, .unset] [])) _
        refine XS.iconst X74.here hx rfl (hb hby at_74) ?_
        show Steps p.tables e below (T74.setTop (mkF m 75 #[.val (.int u0), .val (.int u1), .val (.ref a_ITEM), .val (.ref a_UPSTREAM), .val (.ref s69), .val (.ref s70), .val (.int (1 : Int32)), .unset, .unset] [(.int (0 : Int32))])) _
        refine XS.aload X74.here hx rfl (hb hby at_75) rfl rfl ?_
        show Steps p.tables e below (T74.setTop (mkF m 77 #[.val (.int u0), .val (.int u1), .val (.ref a_ITEM), .val (.ref a_UPSTREAM), .val (.ref s69), .val (.ref s70), .val (.int (1 : Int32)), .unset, .unset] [(.ref s69), (.int (0 : Int32))])) _
        refine XS.aload X74.here hx rfl (hb hby at_77) rfl rfl ?_
        show Steps p.tables e below (T74.setTop (mkF m 79 #[.val (.int u0), .val (.int u1), .val (.ref a_ITEM), .val (.ref a_UPSTREAM), .val (.ref s69), .val (.ref s70), .val (.int (1 : Int32)), .unset, .unset] [(.ref s70), (.ref s69), (.int (0 : Int32))])) _
        refine st75.trans ?_
        show Steps p.tables e below (T75.setTop (mkF m 82 #[.val (.int u0), .val (.int u1), .val (.ref a_ITEM), .val (.ref a_UPSTREAM), .val (.ref s69), .val (.ref s70), .val (.int (1 : Int32)), .unset, .unset] [(.int (0 : Int32)), (.int (0 : Int32))])) _
        refine XS.icmpNo X75.here hx rfl (hb hby at_82) rfl (teq (by decide)).2 ?_
        show Steps p.tables e below (T75.setTop (mkF m 85 #[.val (.int u0), .val (.int u1), .val (.ref a_ITEM), .val (.ref a_UPSTREAM), .val (.ref s69), .val (.ref s70), .val (.int (1 : Int32)), .unset, .unset] [])) _
        refine XS.iconst X75.here hx rfl (hb hby at_85) ?_
        show Steps p.tables e below (T75.setTop (mkF m 86 #[.val (.int u0), .val (.int u1), .val (.ref a_ITEM), .val (.ref a_UPSTREAM), .val (.ref s69), .val (.ref s70), .val (.int (1 : Int32)), .unset, .unset] [(.int (1 : Int32))])) _
        refine XS.goto X75.here hx rfl (pc0 := 86) (pc' := 90) rfl (hb hby at_86) (by decide) (by decide) ?_
        show Steps p.tables e below (T75.setTop (mkF m 90 #[.val (.int u0), .val (.int u1), .val (.ref a_ITEM), .val (.ref a_UPSTREAM), .val (.ref s69), .val (.ref s70), .val (.int (1 : Int32)), .unset, .unset] [(.int (1 : Int32))])) _
        refine XS.istore X75.here hx rfl (hb hby at_90) rfl (l' := #[.val (.int u0), .val (.int u1), .val (.ref a_ITEM), .val (.ref a_UPSTREAM), .val (.ref s69), .val (.ref s70), .val (.int (1 : Int32)), .val (.int (1 : Int32)), .unset]) rfl ?_
        show Steps p.tables e below (T75.setTop (mkF m 92 #[.val (.int u0), .val (.int u1), .val (.ref a_ITEM), .val (.ref a_UPSTREAM), .val (.ref s69), .val (.ref s70), .val (.int (1 : Int32)), .val (.int (1 : Int32)), .unset] [])) _
        refine XS.aload X75.here hx rfl (hb hby at_92) rfl rfl ?_
        show Steps p.tables e below (T75.setTop (mkF m 94 #[.val (.int u0), .val (.int u1), .val (.ref a_ITEM), .val (.ref a_UPSTREAM), .val (.ref s69), .val (.ref s70), .val (.int (1 : Int32)), .val (.int (1 : Int32)), .unset] [(.ref s69)])) _
        refine XS.aloadN X75.here hx rfl (hb hby at_94) rfl rfl ?_
        show Steps p.tables e below (T75.setTop (mkF m 95 #[.val (.int u0), .val (.int u1), .val (.ref a_ITEM), .val (.ref a_UPSTREAM), .val (.ref s69), .val (.ref s70), .val (.int (1 : Int32)), .val (.int (1 : Int32)), .unset] [(.ref a_ITEM), (.ref s69)])) _
        refine st76.trans ?_
        show Steps p.tables e below (T76.setTop (mkF m 98 #[.val (.int u0), .val (.int u1), .val (.ref a_ITEM), .val (.ref a_UPSTREAM), .val (.ref s69), .val (.ref s70), .val (.int (1 : Int32)), .val (.int (1 : Int32)), .unset] [(.ref s76), (.ref s69)])) _
        refine st77.trans ?_
        show Steps p.tables e below (T77.setTop (mkF m 101 #[.val (.int u0), .val (.int u1), .val (.ref a_ITEM), .val (.ref a_UPSTREAM), .val (.ref s69), .val (.ref s70), .val (.int (1 : Int32)), .val (.int (1 : Int32)), .unset] [(.int (1 : Int32))])) _
        refine XS.istore X77.here hx rfl (hb hby at_101) rfl (l' := #[.val (.int u0), .val (.int u1), .val (.ref a_ITEM), .val (.ref a_UPSTREAM), .val (.ref s69), .val (.ref s70), .val (.int (1 : Int32)), .val (.int (1 : Int32)), .val (.int (1 : Int32))]) rfl ?_
        show Steps p.tables e below (T77.setTop (mkF m 103 #[.val (.int u0), .val (.int u1), .val (.ref a_ITEM), .val (.ref a_UPSTREAM), .val (.ref s69), .val (.ref s70), .val (.int (1 : Int32)), .val (.int (1 : Int32)), .val (.int (1 : Int32))] [])) _
        refine XS.iload X77.here hx rfl (hb hby at_103) rfl ?_
        show Steps p.tables e below (T77.setTop (mkF m 105 #[.val (.int u0), .val (.int u1), .val (.ref a_ITEM), .val (.ref a_UPSTREAM), .val (.ref s69), .val (.ref s70), .val (.int (1 : Int32)), .val (.int (1 : Int32)), .val (.int (1 : Int32))] [(.int (1 : Int32))])) _
        refine XS.ifNo X77.here hx rfl (hb hby at_105) rfl ((if0 _ _).trans (feq (by decide)).1) ?_
        show Steps p.tables e below (T77.setTop (mkF m 108 #[.val (.int u0), .val (.int u1), .val (.ref a_ITEM), .val (.ref a_UPSTREAM), .val (.ref s69), .val (.ref s70), .val (.int (1 : Int32)), .val (.int (1 : Int32)), .val (.int (1 : Int32))] [])) _
        refine XS.iload X77.here hx rfl (hb hby at_108) rfl ?_
        show Steps p.tables e below (T77.setTop (mkF m 110 #[.val (.int u0), .val (.int u1), .val (.ref a_ITEM), .val (.ref a_UPSTREAM), .val (.ref s69), .val (.ref s70), .val (.int (1 : Int32)), .val (.int (1 : Int32)), .val (.int (1 : Int32))] [(.int (1 : Int32))])) _
        refine XS.ifNo X77.here hx rfl (hb hby at_110) rfl ((if0 _ _).trans (feq (by decide)).1) ?_
        show Steps p.tables e below (T77.setTop (mkF m 113 #[.val (.int u0), .val (.int u1), .val (.ref a_ITEM), .val (.ref a_UPSTREAM), .val (.ref s69), .val (.ref s70), .val (.int (1 : Int32)), .val (.int (1 : Int32)), .val (.int (1 : Int32))] [])) _
        refine XS.iload X77.here hx rfl (hb hby at_113) rfl ?_
        show Steps p.tables e below (T77.setTop (mkF m 115 #[.val (.int u0), .val (.int u1), .val (.ref a_ITEM), .val (.ref a_UPSTREAM), .val (.ref s69), .val (.ref s70), .val (.int (1 : Int32)), .val (.int (1 : Int32)), .val (.int (1 : Int32))] [(.int (1 : Int32))])) _
        refine XS.ifNo X77.here hx rfl (hb hby at_115) rfl ((if0 _ _).trans (feq (by decide)).1) ?_
        show Steps p.tables e below (T77.setTop (mkF m 118 #[.val (.int u0), .val (.int u1), .val (.ref a_ITEM), .val (.ref a_UPSTREAM), .val (.ref s69), .val (.ref s70), .val (.int (1 : Int32)), .val (.int (1 : Int32)), .val (.int (1 : Int32))] [])) _
        refine XS.iconst X77.here hx rfl (hb hby at_118) ?_
        show Steps p.tables e below (T77.setTop (mkF m 119 #[.val (.int u0), .val (.int u1), .val (.ref a_ITEM), .val (.ref a_UPSTREAM), .val (.ref s69), .val (.ref s70), .val (.int (1 : Int32)), .val (.int (1 : Int32)), .val (.int (1 : Int32))] [(.int (1 : Int32))])) _
        refine XS.goto X77.here hx rfl (pc0 := 119) (pc' := 123) rfl (hb hby at_119) (by decide) (by decide) ?_
        show Steps p.tables e below (T77.setTop (mkF m 123 #[.val (.int u0), .val (.int u1), .val (.ref a_ITEM), .val (.ref a_UPSTREAM), .val (.ref s69), .val (.ref s70), .val (.int (1 : Int32)), .val (.int (1 : Int32)), .val (.int (1 : Int32))] [(.int (1 : Int32))])) _
        exact retN X77 hx (t := .boolean) Bd.returns (by simp) (hb hby at_123) hr
      · show Q0 Z u0 u1 a_UPSTREAM a_LIST a_ITEM G_COMPACT h0 n0 _ T77.heap _
        rw [e77]
        exact ⟨rfl, N77⟩
      · show CHr Z EL s.vm s.heap T77.vm T77.heap
        rw [e77]
        rw [hh]
        exact C76.trans (CHv.at X77 hZ (hEL hw) C76.1)
    · obtain ⟨_, _, ⟨T78, L78, k78, n78⟩, -, X78, ⟨Lc78, hQ78, l78, y78, z78⟩, st78⟩ := Jvm.LawKit.callS X0 hx (y := (⟨"com/example/backfill/backfill/engine/LaneRequestsPinLaw", "pick", "(I)Lcom/example/backfill/backfill/engine/Lane;"⟩ : MethodName)) hown (mvT hZ (hw _ (List.mem_of_getElem? (i := 0) rfl))) (mvT hZ (hw _ (List.mem_of_getElem? (i := 1) rfl))) (mvT hZ (hw _ (List.mem_of_getElem? (i := 2) rfl))) (mvT hZ (hw _ (List.mem_of_getElem? (i := 3) rfl))) (by decide) (backOf (W := 0) (rm1 l Z a0 hw [] u0 a_UPSTREAM a_LIST a_ITEM h0 n0 Z0 O0 S_UPSTREAM S_LIST S_ITEM) hZ (hw _ (List.mem_of_getElem? (i := 3) rfl)) (hw _ (List.mem_of_getElem? (i := 2) rfl)) (by decide) (by decide)) (g := (mkF m 1 #[.val (.int u0), .val (.int u1), .unset, .unset, .unset, .unset, .unset, .unset, .unset] [(.int u0)])) rfl (by rw [hml]; rfl) (argsL := [(.int u0)]) (rest := []) (lenOf pd_3 rfl) rfl (by show 2 * 0 + _ ≤ _; exact Nat.le_of_eq rfl) (hb hby at_1) (fun _ _ => ⟨rfl, e0, (by decide : 0 + 0 ≤ _), (by decide : 0 + 0 ≤ _)⟩)
      dsimp only [Pt.U, Pt.locs, Pt.cells, Pt.slots] at X78 l78 y78 z78 st78 hQ78
      subst l78 y78 z78
      obtain ⟨hv78, N78q, e78⟩ := hQ78
      rw [hp0.2] at hv78
      subst hv78
      have N78 := Fr.app N0 N78q
      obtain ⟨_, _, ⟨T79, L79, k79, n79⟩, -, X79, ⟨Lc79, hQ79, l79, y79, z79⟩, st79⟩ := Jvm.LawKit.callS X78 hx (y := (⟨"com/example/backfill/backfill/engine/LaneRequestsPinLaw", "pick", "(I)Lcom/example/backfill/backfill/engine/Lane;"⟩ : MethodName)) hown (mvT hZ (hw _ (List.mem_of_getElem? (i := 0) rfl))) (mvT hZ (hw _ (List.mem_of_getElem? (i := 1) rfl))) (mvT hZ (hw _ (List.mem_of_getElem? (i := 2) rfl))) (mvT hZ (hw _ (List.mem_of_getElem? (i := 3) rfl))) (by decide) (backOf (W := 0) (rm1 l Z a0 hw [] u1 a_UPSTREAM a_LIST a_ITEM h0 n0 Z0 O0 S_UPSTREAM S_LIST S_ITEM) hZ (hw _ (List.mem_of_getElem? (i := 3) rfl)) (hw _ (List.mem_of_getElem? (i := 2) rfl)) (by decide) (by decide)) (g := (mkF m 6 #[.val (.int u0), .val (.int u1), .val (.ref a_ITEM), .unset, .unset, .unset, .unset, .unset, .unset] [(.int u1)])) rfl (by rw [hml]; rfl) (argsL := [(.int u1)]) (rest := []) (lenOf pd_3 rfl) rfl (by show 2 * 0 + _ ≤ _; exact Nat.le_of_eq rfl) (hb hby at_6) (fun _ _ => ⟨rfl, e78, (by decide : 0 + 0 ≤ _), (by decide : 0 + 0 ≤ _)⟩)
      dsimp only [Pt.U, Pt.locs, Pt.cells, Pt.slots] at X79 l79 y79 z79 st79 hQ79
      subst l79 y79 z79
      obtain ⟨hv79, N79q, e79⟩ := hQ79
      rw [hp1.2] at hv79
      subst hv79
      have N79 := Fr.app N78 N79q
      obtain ⟨cq80, kq80, q80a, q80b, q80c⟩ := isOf hZ e79 (E_a_ITEM.ext O0.2)
      obtain ⟨_, _, ⟨T80, L80, k80, n80⟩, -, X80, hS80, gr80, ⟨Lc80, hQ80, l80, y80, z80, Cq80⟩, st80⟩ := X79.virtualBackS hx (y := (⟨"com/example/backfill/backfill/engine/Lane", "requests", "()Ljava/lang/String;"⟩ : MethodName)) (z := (⟨"com/example/backfill/backfill/engine/Lane", "requests", "()Ljava/lang/String;"⟩ : MethodName)) hown (mvT hZ (hw _ (List.mem_of_getElem? (i := 11) rfl))) (mvT hZ (hw _ (List.mem_of_getElem? (i := 12) rfl))) (notFace_of_selects (args := #[]) (mvT hZ (hw _ (List.mem_of_getElem? (i := 14) rfl)))) (mvT hZ (hw _ (List.mem_of_getElem? (i := 14) rfl))) (mvT hZ (hw _ (List.mem_of_getElem? (i := 13) rfl))) (by decide) (backOfSH (W := 0) (rm3ITEM l Z a0 hw [] a_ITEM h0 n0 Z0 (E_a_ITEM.ext O0.2) (O_ITEM.ext O0.2)) hZ (hw _ (List.mem_of_getElem? (i := 15) rfl)) (hw _ (List.mem_of_getElem? (i := 9) rfl)) (by decide) (by decide) (hEL hw) C0.1) q80a q80c (g := (mkF m 11 #[.val (.int u0), .val (.int u1), .val (.ref a_ITEM), .val (.ref a_LIST), .unset, .unset, .unset, .unset, .unset] [(.ref a_ITEM)])) rfl (by rw [hml]; rfl) (Steps.refl _) (argsL := []) (rest := []) (lenOf pd_1 rfl) rfl (by show 2 * 0 + _ ≤ _; exact Nat.le_of_eq rfl) (hb hby at_11) (fun _ _ => ⟨rfl, e79, (by decide : 0 + 2 ≤ _), (by decide : 0 + 24 ≤ _)⟩)
      dsimp only [Pt.U, Pt.locs, Pt.cells, Pt.slots] at X80 l80 y80 z80 st80 hQ80 hS80 gr80 Cq80
      subst l80 y80 z80
      obtain ⟨X80, hS80, hZ, hown⟩ := rebS hS0 (Nat.le_trans hk0 (Nat.le_of_eq (congrArg Array.size e79).symm)) X80 hS80 gr80 hZ hown
      have hk80 := Nat.le_refl T80.heap.size
      obtain ⟨s80, d80, kc80, rfl, N80q, K80, A80, F80_coder, F80_value, V80⟩ := hQ80
      have N80 := Fr.app N79 N80q
      have Z80 : n0 ≤ T80.heap.size := Nat.le_trans Z0 K80.1
      have KK80 := (Keep.refl h0 []).trans K80 all0
      have O80 := O0.keep K80 all0
      have C80 := C0.trans Cq80
      obtain ⟨cq81, kq81, q81a, q81b, q81c⟩ := isOf hZ rfl (E_a_LIST.ext O80.2)
      obtain ⟨_, _, ⟨T81, L81, k81, n81⟩, -, X81, hS81, gr81, ⟨Lc81, hQ81, l81, y81, z81, Cq81⟩, st81⟩ := X80.virtualBackS hx (y := (⟨"com/example/backfill/backfill/engine/Lane", "requests", "()Ljava/lang/String;"⟩ : MethodName)) (z := (⟨"com/example/backfill/backfill/engine/Lane", "requests", "()Ljava/lang/String;"⟩ : MethodName)) hown (mvT hZ (hw _ (List.mem_of_getElem? (i := 11) rfl))) (mvT hZ (hw _ (List.mem_of_getElem? (i := 12) rfl))) (notFace_of_selects (args := #[]) (mvT hZ (hw _ (List.mem_of_getElem? (i := 14) rfl)))) (mvT hZ (hw _ (List.mem_of_getElem? (i := 14) rfl))) (mvT hZ (hw _ (List.mem_of_getElem? (i := 13) rfl))) (by decide) (backOfSH (W := 0) (rm3LIST l Z a0 hw [] a_LIST T80.heap n0 Z80 (E_a_LIST.ext O80.2) (O_LIST.ext O80.2)) hZ (hw _ (List.mem_of_getElem? (i := 15) rfl)) (hw _ (List.mem_of_getElem? (i := 9) rfl)) (by decide) (by decide) (hEL hw) C80.1) q81a q81c (g := (mkF m 17 #[.val (.int u0), .val (.int u1), .val (.ref a_ITEM), .val (.ref a_LIST), .val (.ref s80), .unset, .unset, .unset, .unset] [(.ref a_LIST)])) rfl (by rw [hml]; rfl) (Steps.refl _) (argsL := []) (rest := []) (lenOf pd_1 rfl) rfl (by show 2 * 0 + _ ≤ _; exact Nat.le_of_eq rfl) (hb hby at_17) (fun _ _ => ⟨rfl, rfl, (by decide : 2 + 2 ≤ _), (by decide : 24 + 44 ≤ _)⟩)
      dsimp only [Pt.U, Pt.locs, Pt.cells, Pt.slots] at X81 l81 y81 z81 st81 hQ81 hS81 gr81 Cq81
      subst l81 y81 z81
      obtain ⟨X81, hS81, hZ, hown⟩ := rebS hS80 (Nat.le_trans hk80 (Nat.le_of_eq (congrArg Array.size rfl).symm)) X81 hS81 gr81 hZ hown
      have hk81 := Nat.le_refl T81.heap.size
      obtain ⟨s81, d81, kc81, rfl, N81q, K81, A81, F81_coder, F81_value, V81⟩ := hQ81
      have N81 := Fr.app N80 N81q
      have Z81 : n0 ≤ T81.heap.size := Nat.le_trans Z80 K81.1
      have KK81 := KK80.trans K81 all0
      have O81 := O80.keep K81 all0
      have C81 := C80.trans Cq81
      obtain ⟨_, _, ⟨T82, L82, k82, n82⟩, -, X82, hS82, gr82, ⟨Lc82, hQ82, l82, y82, z82, Cq82⟩, st82⟩ := callSS X81 hx (y := (⟨"com/example/backfill/backfill/engine/LaneRequestsPinLaw", "expected", "(I)Ljava/lang/String;"⟩ : MethodName)) hown (mvT hZ (hw _ (List.mem_of_getElem? (i := 33) rfl))) (mvT hZ (hw _ (List.mem_of_getElem? (i := 34) rfl))) (mvT hZ (hw _ (List.mem_of_getElem? (i := 2) rfl))) (mvT hZ (hw _ (List.mem_of_getElem? (i := 35) rfl))) (by decide) (backOfSH (W := 1) (rm5ITEM l Z a0 hw [] u0 T81.heap n0 Z81 hp0.1.1 hp0.1.2) hZ (hw _ (List.mem_of_getElem? (i := 35) rfl)) (hw _ (List.mem_of_getElem? (i := 2) rfl)) (by decide) (by decide) (hEL hw) C81.1) (g := (mkF m 37 #[.val (.int u0), .val (.int u1), .val (.ref a_ITEM), .val (.ref a_LIST), .val (.ref s80), .val (.ref s81), .unset, .unset, .unset] [(.int u0), (.ref s80)])) rfl (by rw [hml]; rfl) (argsL := [(.int u0)]) (rest := [(.ref s80)]) (lenOf pd_4 rfl) rfl (by show 2 * 0 + _ ≤ _; exact Nat.le_of_eq rfl) (hb hby at_37) (fun _ _ => ⟨rfl, rfl, (by decide : 4 + 2 ≤ _), (by decide : 68 + 24 ≤ _)⟩)
      dsimp only [Pt.U, Pt.locs, Pt.cells, Pt.slots] at X82 l82 y82 z82 st82 hQ82 hS82 gr82 Cq82
      subst l82 y82 z82
      obtain ⟨X82, hS82, hZ, hown⟩ := rebS hS81 (Nat.le_trans hk81 (Nat.le_of_eq (congrArg Array.size rfl).symm)) X82 hS82 gr82 hZ hown
      have hk82 := Nat.le_refl T82.heap.size
      obtain ⟨s82, d82, kc82, rfl, N82q, K82, A82, F82_coder, F82_value, V82⟩ := hQ82
      have N82 := Fr.app N81 N82q
      have Z82 : n0 ≤ T82.heap.size := Nat.le_trans Z81 K82.1
      have KK82 := KK81.trans K82 all0
      have O82 := O81.keep K82 all0
      have C82 := C81.trans Cq82
      obtain ⟨cq83, kq83, q83a, q83b, q83c⟩ := isOf hZ rfl ((A80.keep K81).keep K82)
      obtain ⟨_, _, ⟨T83, L83, k83, n83⟩, -, X83, ⟨Lc83, hQ83, l83, y83, z83⟩, st83⟩ := X82.virtualBack hx (y := (⟨"java/lang/String", "equals", "(Ljava/lang/Object;)Z"⟩ : MethodName)) (z := (⟨"java/lang/String", "equals", "(Ljava/lang/Object;)Z"⟩ : MethodName)) hown (mvT hZ (hw _ (List.mem_of_getElem? (i := 37) rfl))) (mvT hZ (hw _ (List.mem_of_getElem? (i := 38) rfl))) (notFace_of_selects (args := #[]) (mvT hZ (hw _ (List.mem_of_getElem? (i := 40) rfl)))) (mvT hZ (hw _ (List.mem_of_getElem? (i := 40) rfl))) (mvT hZ (hw _ (List.mem_of_getElem? (i := 39) rfl))) (by decide) (backOf (W := 0) (rm6II l Z a0 hw [] s80 s82 d80 d82 kc80 kc82 G_COMPACT T82.heap n0 Z82 O82 ((A80.keep K81).keep K82) ((F80_coder.keep K81 nin0).keep K82 nin0) ((F80_value.keep K81 nin0).keep K82 nin0) A82 F82_coder F82_value ((V80.keep K81 nin0).keep K82 nin0) V82 S_COMPACT P_COMPACT) hZ (hw _ (List.mem_of_getElem? (i := 41) rfl)) (hw _ (List.mem_of_getElem? (i := 26) rfl)) (by decide) (by decide)) q83a q83c (g := (mkF m 40 #[.val (.int u0), .val (.int u1), .val (.ref a_ITEM), .val (.ref a_LIST), .val (.ref s80), .val (.ref s81), .unset, .unset, .unset] [(.ref s82), (.ref s80)])) rfl (by rw [hml]; rfl) (Steps.refl _) (argsL := [(.ref s82)]) (rest := []) (lenOf pd_5 rfl) rfl (by show 2 * 0 + _ ≤ _; exact Nat.le_of_eq rfl) (hb hby at_40) (fun _ _ => ⟨rfl, rfl, (by decide : 6 + 0 ≤ _), (by decide : 92 + 0 ≤ _)⟩)
      dsimp only [Pt.U, Pt.locs, Pt.cells, Pt.slots] at X83 l83 y83 z83 st83 hQ83
      subst l83 y83 z83
      obtain ⟨rfl, N83q, e83⟩ := hQ83
      have N83 := Fr.app N82 N83q
      obtain ⟨_, _, ⟨T84, L84, k84, n84⟩, -, X84, hS84, gr84, ⟨Lc84, hQ84, l84, y84, z84, Cq84⟩, st84⟩ := callSS X83 hx (y := (⟨"com/example/backfill/backfill/engine/LaneRequestsPinLaw", "expected", "(I)Ljava/lang/String;"⟩ : MethodName)) hown (mvT hZ (hw _ (List.mem_of_getElem? (i := 33) rfl))) (mvT hZ (hw _ (List.mem_of_getElem? (i := 34) rfl))) (mvT hZ (hw _ (List.mem_of_getElem? (i := 2) rfl))) (mvT hZ (hw _ (List.mem_of_getElem? (i := 35) rfl))) (by decide) (backOfSH (W := 1) (rm5LIST l Z a0 hw [] u1 T82.heap n0 Z82 hp1.1.1 hp1.1.2) hZ (hw _ (List.mem_of_getElem? (i := 35) rfl)) (hw _ (List.mem_of_getElem? (i := 2) rfl)) (by decide) (by decide) (hEL hw) C82.1) (g := (mkF m 49 #[.val (.int u0), .val (.int u1), .val (.ref a_ITEM), .val (.ref a_LIST), .val (.ref s80), .val (.ref s81), .unset, .unset, .unset] [(.int u1), (.ref s81)])) rfl (by rw [hml]; rfl) (argsL := [(.int u1)]) (rest := [(.ref s81)]) (lenOf pd_4 rfl) rfl (by show 2 * 0 + _ ≤ _; exact Nat.le_of_eq rfl) (hb hby at_49) (fun _ _ => ⟨rfl, e83, (by decide : 6 + 2 ≤ _), (by decide : 92 + 44 ≤ _)⟩)
      dsimp only [Pt.U, Pt.locs, Pt.cells, Pt.slots] at X84 l84 y84 z84 st84 hQ84 hS84 gr84 Cq84
      subst l84 y84 z84
      obtain ⟨X84, hS84, hZ, hown⟩ := rebS hS82 (Nat.le_trans hk82 (Nat.le_of_eq (congrArg Array.size e83).symm)) X84 hS84 gr84 hZ hown
      have hk84 := Nat.le_refl T84.heap.size
      obtain ⟨s84, d84, kc84, rfl, N84q, K84, A84, F84_coder, F84_value, V84⟩ := hQ84
      have N84 := Fr.app N83 N84q
      have Z84 : n0 ≤ T84.heap.size := Nat.le_trans Z82 K84.1
      have KK84 := KK82.trans K84 all0
      have O84 := O82.keep K84 all0
      have C84 := C82.trans Cq84
      obtain ⟨cq85, kq85, q85a, q85b, q85c⟩ := isOf hZ rfl ((A81.keep K82).keep K84)
      obtain ⟨_, _, ⟨T85, L85, k85, n85⟩, -, X85, ⟨Lc85, hQ85, l85, y85, z85⟩, st85⟩ := X84.virtualBack hx (y := (⟨"java/lang/String", "equals", "(Ljava/lang/Object;)Z"⟩ : MethodName)) (z := (⟨"java/lang/String", "equals", "(Ljava/lang/Object;)Z"⟩ : MethodName)) hown (mvT hZ (hw _ (List.mem_of_getElem? (i := 37) rfl))) (mvT hZ (hw _ (List.mem_of_getElem? (i := 38) rfl))) (notFace_of_selects (args := #[]) (mvT hZ (hw _ (List.mem_of_getElem? (i := 40) rfl)))) (mvT hZ (hw _ (List.mem_of_getElem? (i := 40) rfl))) (mvT hZ (hw _ (List.mem_of_getElem? (i := 39) rfl))) (by decide) (backOf (W := 0) (rm6LL l Z a0 hw [] s81 s84 d81 d84 kc81 kc84 G_COMPACT T84.heap n0 Z84 O84 ((A81.keep K82).keep K84) ((F81_coder.keep K82 nin0).keep K84 nin0) ((F81_value.keep K82 nin0).keep K84 nin0) A84 F84_coder F84_value ((V81.keep K82 nin0).keep K84 nin0) V84 S_COMPACT P_COMPACT) hZ (hw _ (List.mem_of_getElem? (i := 41) rfl)) (hw _ (List.mem_of_getElem? (i := 26) rfl)) (by decide) (by decide)) q85a q85c (g := (mkF m 52 #[.val (.int u0), .val (.int u1), .val (.ref a_ITEM), .val (.ref a_LIST), .val (.ref s80), .val (.ref s81), .unset, .unset, .unset] [(.ref s84), (.ref s81)])) rfl (by rw [hml]; rfl) (Steps.refl _) (argsL := [(.ref s84)]) (rest := []) (lenOf pd_5 rfl) rfl (by show 2 * 0 + _ ≤ _; exact Nat.le_of_eq rfl) (hb hby at_52) (fun _ _ => ⟨rfl, rfl, (by decide : 8 + 0 ≤ _), (by decide : 136 + 0 ≤ _)⟩)
      dsimp only [Pt.U, Pt.locs, Pt.cells, Pt.slots] at X85 l85 y85 z85 st85 hQ85
      subst l85 y85 z85
      obtain ⟨rfl, N85q, e85⟩ := hQ85
      have N85 := Fr.app N84 N85q
      obtain ⟨cq86, kq86, q86a, q86b, q86c⟩ := isOf hZ e85 (((A80.keep K81).keep K82).keep K84)
      obtain ⟨_, _, ⟨T86, L86, k86, n86⟩, -, X86, ⟨Lc86, hQ86, l86, y86, z86⟩, st86⟩ := X85.virtualBack hx (y := (⟨"java/lang/String", "equals", "(Ljava/lang/Object;)Z"⟩ : MethodName)) (z := (⟨"java/lang/String", "equals", "(Ljava/lang/Object;)Z"⟩ : MethodName)) hown (mvT hZ (hw _ (List.mem_of_getElem? (i := 37) rfl))) (mvT hZ (hw _ (List.mem_of_getElem? (i := 38) rfl))) (notFace_of_selects (args := #[]) (mvT hZ (hw _ (List.mem_of_getElem? (i := 40) rfl)))) (mvT hZ (hw _ (List.mem_of_getElem? (i := 40) rfl))) (mvT hZ (hw _ (List.mem_of_getElem? (i := 39) rfl))) (by decide) (backOf (W := 1) (rm6IL l Z a0 hw [] s80 s81 d80 d81 kc80 kc81 G_COMPACT T84.heap n0 Z84 O84 (((A80.keep K81).keep K82).keep K84) (((F80_coder.keep K81 nin0).keep K82 nin0).keep K84 nin0) (((F80_value.keep K81 nin0).keep K82 nin0).keep K84 nin0) ((A81.keep K82).keep K84) ((F81_coder.keep K82 nin0).keep K84 nin0) ((F81_value.keep K82 nin0).keep K84 nin0) (((V80.keep K81 nin0).keep K82 nin0).keep K84 nin0) ((V81.keep K82 nin0).keep K84 nin0) S_COMPACT P_COMPACT (own_strne (by decide) (((F80_value.keep K81 nin0).keep K82 nin0).keep K84 nin0) ((F81_value.keep K82 nin0).keep K84 nin0) (((V80.keep K81 nin0).keep K82 nin0).keep K84 nin0) ((V81.keep K82 nin0).keep K84 nin0))) hZ (hw _ (List.mem_of_getElem? (i := 41) rfl)) (hw _ (List.mem_of_getElem? (i := 26) rfl)) (by decide) (by decide)) q86a q86c (g := (mkF m 79 #[.val (.int u0), .val (.int u1), .val (.ref a_ITEM), .val (.ref a_LIST), .val (.ref s80), .val (.ref s81), .val (.int (1 : Int32)), .unset, .unset] [(.ref s81), (.ref s80), (.int (0 : Int32))])) rfl (by rw [hml]; rfl) (Steps.refl _) (argsL := [(.ref s81)]) (rest := [(.int (0 : Int32))]) (lenOf pd_5 rfl) rfl (by show 2 * 0 + _ ≤ _; exact Nat.le_of_eq rfl) (hb hby at_79) (fun _ _ => ⟨rfl, e85, (by decide : 8 + 0 ≤ _), (by decide : 136 + 0 ≤ _)⟩)
      dsimp only [Pt.U, Pt.locs, Pt.cells, Pt.slots] at X86 l86 y86 z86 st86 hQ86
      subst l86 y86 z86
      obtain ⟨rfl, N86q, e86⟩ := hQ86
      have N86 := Fr.app N85 N86q
      obtain ⟨cq87, kq87, q87a, q87b, q87c⟩ := isOf hZ e86 (E_a_ITEM.ext O84.2)
      obtain ⟨_, _, ⟨T87, L87, k87, n87⟩, -, X87, hS87, gr87, ⟨Lc87, hQ87, l87, y87, z87, Cq87⟩, st87⟩ := X86.virtualBackS hx (y := (⟨"com/example/backfill/backfill/engine/Lane", "requests", "()Ljava/lang/String;"⟩ : MethodName)) (z := (⟨"com/example/backfill/backfill/engine/Lane", "requests", "()Ljava/lang/String;"⟩ : MethodName)) hown (mvT hZ (hw _ (List.mem_of_getElem? (i := 11) rfl))) (mvT hZ (hw _ (List.mem_of_getElem? (i := 12) rfl))) (notFace_of_selects (args := #[]) (mvT hZ (hw _ (List.mem_of_getElem? (i := 14) rfl)))) (mvT hZ (hw _ (List.mem_of_getElem? (i := 14) rfl))) (mvT hZ (hw _ (List.mem_of_getElem? (i := 13) rfl))) (by decide) (backOfSH (W := 1) (rm3ITEM l Z a0 hw [] a_ITEM T84.heap n0 Z84 (E_a_ITEM.ext O84.2) (O_ITEM.ext O84.2)) hZ (hw _ (List.mem_of_getElem? (i := 15) rfl)) (hw _ (List.mem_of_getElem? (i := 9) rfl)) (by decide) (by decide) (hEL hw) C84.1) q87a q87c (g := (mkF m 95 #[.val (.int u0), .val (.int u1), .val (.ref a_ITEM), .val (.ref a_LIST), .val (.ref s80), .val (.ref s81), .val (.int (1 : Int32)), .val (.int (1 : Int32)), .unset] [(.ref a_ITEM), (.ref s80)])) rfl (by rw [hml]; rfl) (Steps.refl _) (argsL := []) (rest := [(.ref s80)]) (lenOf pd_1 rfl) rfl (by show 2 * 0 + _ ≤ _; exact Nat.le_of_eq rfl) (hb hby at_95) (fun _ _ => ⟨rfl, e86, (by decide : 8 + 2 ≤ _), (by decide : 136 + 24 ≤ _)⟩)
      dsimp only [Pt.U, Pt.locs, Pt.cells, Pt.slots] at X87 l87 y87 z87 st87 hQ87 hS87 gr87 Cq87
      subst l87 y87 z87
      obtain ⟨X87, hS87, hZ, hown⟩ := rebS hS84 (Nat.le_trans hk84 (Nat.le_of_eq (congrArg Array.size e86).symm)) X87 hS87 gr87 hZ hown
      have hk87 := Nat.le_refl T87.heap.size
      obtain ⟨s87, d87, kc87, rfl, N87q, K87, A87, F87_coder, F87_value, V87⟩ := hQ87
      have N87 := Fr.app N86 N87q
      have Z87 : n0 ≤ T87.heap.size := Nat.le_trans Z84 K87.1
      have KK87 := KK84.trans K87 all0
      have O87 := O84.keep K87 all0
      have C87 := C84.trans Cq87
      obtain ⟨cq88, kq88, q88a, q88b, q88c⟩ := isOf hZ rfl ((((A80.keep K81).keep K82).keep K84).keep K87)
      obtain ⟨_, _, ⟨T88, L88, k88, n88⟩, -, X88, ⟨Lc88, hQ88, l88, y88, z88⟩, st88⟩ := X87.virtualBack hx (y := (⟨"java/lang/String", "equals", "(Ljava/lang/Object;)Z"⟩ : MethodName)) (z := (⟨"java/lang/String", "equals", "(Ljava/lang/Object;)Z"⟩ : MethodName)) hown (mvT hZ (hw _ (List.mem_of_getElem? (i := 37) rfl))) (mvT hZ (hw _ (List.mem_of_getElem? (i := 38) rfl))) (notFace_of_selects (args := #[]) (mvT hZ (hw _ (List.mem_of_getElem? (i := 40) rfl)))) (mvT hZ (hw _ (List.mem_of_getElem? (i := 40) rfl))) (mvT hZ (hw _ (List.mem_of_getElem? (i := 39) rfl))) (by decide) (backOf (W := 0) (rm6II l Z a0 hw [] s80 s87 d80 d87 kc80 kc87 G_COMPACT T87.heap n0 Z87 O87 ((((A80.keep K81).keep K82).keep K84).keep K87) ((((F80_coder.keep K81 nin0).keep K82 nin0).keep K84 nin0).keep K87 nin0) ((((F80_value.keep K81 nin0).keep K82 nin0).keep K84 nin0).keep K87 nin0) A87 F87_coder F87_value ((((V80.keep K81 nin0).keep K82 nin0).keep K84 nin0).keep K87 nin0) V87 S_COMPACT P_COMPACT) hZ (hw _ (List.mem_of_getElem? (i := 41) rfl)) (hw _ (List.mem_of_getElem? (i := 26) rfl)) (by decide) (by decide)) q88a q88c (g := (mkF m 98 #[.val (.int u0), .val (.int u1), .val (.ref a_ITEM), .val (.ref a_LIST), .val (.ref s80), .val (.ref s81), .val (.int (1 : Int32)), .val (.int (1 : Int32)), .unset] [(.ref s87), (.ref s80)])) rfl (by rw [hml]; rfl) (Steps.refl _) (argsL := [(.ref s87)]) (rest := []) (lenOf pd_5 rfl) rfl (by show 2 * 0 + _ ≤ _; exact Nat.le_of_eq rfl) (hb hby at_98) (fun _ _ => ⟨rfl, rfl, (by decide : 10 + 0 ≤ _), (by decide : 160 + 0 ≤ _)⟩)
      dsimp only [Pt.U, Pt.locs, Pt.cells, Pt.slots] at X88 l88 y88 z88 st88 hQ88
      subst l88 y88 z88
      obtain ⟨rfl, N88q, e88⟩ := hQ88
      have N88 := Fr.app N87 N88q
      obtain ⟨fs, hr, hrun, hended, hE⟩ := X88.leaveW hS87 (Nat.le_trans hk87 (Nat.le_of_eq (congrArg Array.size e88).symm)) (v := some (.int (1 : Int32))) (fun h => by rw [Bd.returns] at h; cases h)
      refine ⟨_, _, pre0 _ ?_, hrun, hended, _, _, rfl, ?_, ?_, own_monoW hE (by decide) (by decide)⟩
      · show Steps p.tables e below (s₁.setTop (mkF m 0 #[.val (.int u0), .val (.int u1), .unset, .unset, .unset, .unset, .unset, .unset, .unset] [])) _
        refine XS.iloadN X0.here hx rfl (hb hby at_0) rfl ?_
        show Steps p.tables e below (s₁.setTop (mkF m 1 #[.val (.int u0), .val (.int u1), .unset, .unset, .unset, .unset, .unset, .unset, .unset] [(.int u0)])) _
        refine st78 _ ?_
        show Steps p.tables e below (T78.setTop (mkF m 4 #[.val (.int u0), .val (.int u1), .unset, .unset, .unset, .unset, .unset, .unset, .unset] [(.ref a_ITEM)])) _
        refine XS.astoreN X78.here hx rfl (hb hby at_4) rfl rfl (l' := #[.val (.int u0), .val (.int u1), .val (.ref a_ITEM), .unset, .unset, .unset, .unset, .unset, .unset]) rfl ?_
        show Steps p.tables e below (T78.setTop (mkF m 5 #[.val (.int u0), .val (.int u1), .val (.ref a_ITEM), .unset, .unset, .unset, .unset, .unset, .unset] [])) _
        refine XS.iloadN X78.here hx rfl (hb hby at_5) rfl ?_
        show Steps p.tables e below (T78.setTop (mkF m 6 #[.val (.int u0), .val (.int u1), .val (.ref a_ITEM), .unset, .unset, .unset, .unset, .unset, .unset] [(.int u1)])) _
        refine st79 _ ?_
        show Steps p.tables e below (T79.setTop (mkF m 9 #[.val (.int u0), .val (.int u1), .val (.ref a_ITEM), .unset, .unset, .unset, .unset, .unset, .unset] [(.ref a_LIST)])) _
        refine XS.astoreN X79.here hx rfl (hb hby at_9) rfl rfl (l' := #[.val (.int u0), .val (.int u1), .val (.ref a_ITEM), .val (.ref a_LIST), .unset, .unset, .unset, .unset, .unset]) rfl ?_
        show Steps p.tables e below (T79.setTop (mkF m 10 #[.val (.int u0), .val (.int u1), .val (.ref a_ITEM), .val (.ref a_LIST), .unset, .unset, .unset, .unset, .unset] [])) _
        refine XS.aloadN X79.here hx rfl (hb hby at_10) rfl rfl ?_
        show Steps p.tables e below (T79.setTop (mkF m 11 #[.val (.int u0), .val (.int u1), .val (.ref a_ITEM), .val (.ref a_LIST), .unset, .unset, .unset, .unset, .unset] [(.ref a_ITEM)])) _
        refine st80.trans ?_
        show Steps p.tables e below (T80.setTop (mkF m 14 #[.val (.int u0), .val (.int u1), .val (.ref a_ITEM), .val (.ref a_LIST), .unset, .unset, .unset, .unset, .unset] [(.ref s80)])) _
        refine XS.astore X80.here hx rfl (hb hby at_14) rfl rfl (l' := #[.val (.int u0), .val (.int u1), .val (.ref a_ITEM), .val (.ref a_LIST), .val (.ref s80), .unset, .unset, .unset, .unset]) rfl ?_
        show Steps p.tables e below (T80.setTop (mkF m 16 #[.val (.int u0), .val (.int u1), .val (.ref a_ITEM), .val (.ref a_LIST), .val (.ref s80), .unset, .unset, .unset, .unset] [])) _
        refine XS.aloadN X80.here hx rfl (hb hby at_16) rfl rfl ?_
        show Steps p.tables e below (T80.setTop (mkF m 17 #[.val (.int u0), .val (.int u1), .val (.ref a_ITEM), .val (.ref a_LIST), .val (.ref s80), .unset, .unset, .unset, .unset] [(.ref a_LIST)])) _
        refine st81.trans ?_
        show Steps p.tables e below (T81.setTop (mkF m 20 #[.val (.int u0), .val (.int u1), .val (.ref a_ITEM), .val (.ref a_LIST), .val (.ref s80), .unset, .unset, .unset, .unset] [(.ref s81)])) _
        refine XS.astore X81.here hx rfl (hb hby at_20) rfl rfl (l' := #[.val (.int u0), .val (.int u1), .val (.ref a_ITEM), .val (.ref a_LIST), .val (.ref s80), .val (.ref s81), .unset, .unset, .unset]) rfl ?_
        show Steps p.tables e below (T81.setTop (mkF m 22 #[.val (.int u0), .val (.int u1), .val (.ref a_ITEM), .val (.ref a_LIST), .val (.ref s80), .val (.ref s81), .unset, .unset, .unset] [])) _
        refine XS.aload X81.here hx rfl (hb hby at_22) rfl rfl ?_
        show Steps p.tables e below (T81.setTop (mkF m 24 #[.val (.int u0), .val (.int u1), .val (.ref a_ITEM), .val (.ref a_LIST), .val (.ref s80), .val (.ref s81), .unset, .unset, .unset] [(.ref s80)])) _
        refine XS.ifnullNo X81.here hx rfl (hb hby at_24) rfl ?_
        show Steps p.tables e below (T81.setTop (mkF m 27 #[.val (.int u0), .val (.int u1), .val (.ref a_ITEM), .val (.ref a_LIST), .val (.ref s80), .val (.ref s81), .unset, .unset, .unset] [])) _
        refine XS.aload X81.here hx rfl (hb hby at_27) rfl rfl ?_
        show Steps p.tables e below (T81.setTop (mkF m 29 #[.val (.int u0), .val (.int u1), .val (.ref a_ITEM), .val (.ref a_LIST), .val (.ref s80), .val (.ref s81), .unset, .unset, .unset] [(.ref s81)])) _
        refine XS.ifnonnullYes X81.here hx rfl (pc0 := 29) (pc' := 34) rfl (hb hby at_29) rfl (by decide) (by decide) ?_
        show Steps p.tables e below (T81.setTop (mkF m 34 #[.val (.int u0), .val (.int u1), .val (.ref a_ITEM), .val (.ref a_LIST), .val (.ref s80), .val (.ref s81), .unset, .unset, .unset] [])) _
        refine XS.aload X81.here hx rfl (hb hby at_34) rfl rfl ?_
        show Steps p.tables e below (T81.setTop (mkF m 36 #[.val (.int u0), .val (.int u1), .val (.ref a_ITEM), .val (.ref a_LIST), .val (.ref s80), .val (.ref s81), .unset, .unset, .unset] [(.ref s80)])) _
        refine XS.iloadN X81.here hx rfl (hb hby at_36) rfl ?_
        show Steps p.tables e below (T81.setTop (mkF m 37 #[.val (.int u0), .val (.int u1), .val (.ref a_ITEM), .val (.ref a_LIST), .val (.ref s80), .val (.ref s81), .unset, .unset, .unset] [(.int u0), (.ref s80)])) _
        refine st82.trans ?_
        show Steps p.tables e below (T82.setTop (mkF m 40 #[.val (.int u0), .val (.int u1), .val (.ref a_ITEM), .val (.ref a_LIST), .val (.ref s80), .val (.ref s81), .unset, .unset, .unset] [(.ref s82), (.ref s80)])) _
        refine st83.trans ?_
        show Steps p.tables e below (T83.setTop (mkF m 43 #[.val (.int u0), .val (.int u1), .val (.ref a_ITEM), .val (.ref a_LIST), .val (.ref s80), .val (.ref s81), .unset, .unset, .unset] [(.int (1 : Int32))])) _
        refine XS.ifNo X83.here hx rfl (hb hby at_43) rfl ((if0 _ _).trans (feq (by decide)).1) ?_
        show Steps p.tables e below (T83.setTop (mkF m 46 #[.val (.int u0), .val (.int u1), .val (.ref a_ITEM), .val (.ref a_LIST), .val (.ref s80), .val (.ref s81), .unset, .unset, .unset] [])) _
        refine XS.aload X83.here hx rfl (hb hby at_46) rfl rfl ?_
        show Steps p.tables e below (T83.setTop (mkF m 48 #[.val (.int u0), .val (.int u1), .val (.ref a_ITEM), .val (.ref a_LIST), .val (.ref s80), .val (.ref s81), .unset, .unset, .unset] [(.ref s81)])) _
        refine XS.iloadN X83.here hx rfl (hb hby at_48) rfl ?_
        show Steps p.tables e below (T83.setTop (mkF m 49 #[.val (.int u0), .val (.int u1), .val (.ref a_ITEM), .val (.ref a_LIST), .val (.ref s80), .val (.ref s81), .unset, .unset, .unset] [(.int u1), (.ref s81)])) _
        refine st84.trans ?_
        show Steps p.tables e below (T84.setTop (mkF m 52 #[.val (.int u0), .val (.int u1), .val (.ref a_ITEM), .val (.ref a_LIST), .val (.ref s80), .val (.ref s81), .unset, .unset, .unset] [(.ref s84), (.ref s81)])) _
        refine st85.trans ?_
        show Steps p.tables e below (T85.setTop (mkF m 55 #[.val (.int u0), .val (.int u1), .val (.ref a_ITEM), .val (.ref a_LIST), .val (.ref s80), .val (.ref s81), .unset, .unset, .unset] [(.int (1 : Int32))])) _
        refine XS.ifNo X85.here hx rfl (hb hby at_55) rfl ((if0 _ _).trans (feq (by decide)).1) ?_
        show Steps p.tables e below (T85.setTop (mkF m 58 #[.val (.int u0), .val (.int u1), .val (.ref a_ITEM), .val (.ref a_LIST), .val (.ref s80), .val (.ref s81), .unset, .unset, .unset] [])) _
        refine XS.iconst X85.here hx rfl (hb hby at_58) ?_
        show Steps p.tables e below (T85.setTop (mkF m 59 #[.val (.int u0), .val (.int u1), .val (.ref a_ITEM), .val (.ref a_LIST), .val (.ref s80), .val (.ref s81), .unset, .unset, .unset] [(.int (1 : Int32))])) _
        refine XS.goto X85.here hx rfl (pc0 := 59) (pc' := 63) rfl (hb hby at_59) (by decide) (by decide) ?_
        show Steps p.tables e below (T85.setTop (mkF m 63 #[.val (.int u0), .val (.int u1), .val (.ref a_ITEM), .val (.ref a_LIST), .val (.ref s80), .val (.ref s81), .unset, .unset, .unset] [(.int (1 : Int32))])) _
        refine XS.istore X85.here hx rfl (hb hby at_63) rfl (l' := #[.val (.int u0), .val (.int u1), .val (.ref a_ITEM), .val (.ref a_LIST), .val (.ref s80), .val (.ref s81), .val (.int (1 : Int32)), .unset, .unset]) rfl ?_
        show Steps p.tables e below (T85.setTop (mkF m 65 #[.val (.int u0), .val (.int u1), .val (.ref a_ITEM), .val (.ref a_LIST), .val (.ref s80), .val (.ref s81), .val (.int (1 : Int32)), .unset, .unset] [])) _
        refine XS.aloadN X85.here hx rfl (hb hby at_65) rfl rfl ?_
        show Steps p.tables e below (T85.setTop (mkF m 66 #[.val (.int u0), .val (.int u1), .val (.ref a_ITEM), .val (.ref a_LIST), .val (.ref s80), .val (.ref s81), .val (.int (1 : Int32)), .unset, .unset] [(.ref a_ITEM)])) _
        refine XS.aloadN X85.here hx rfl (hb hby at_66) rfl rfl ?_
        show Steps p.tables e below (T85.setTop (mkF m 67 #[.val (.int u0), .val (.int u1), .val (.ref a_ITEM), .val (.ref a_LIST), .val (.ref s80), .val (.ref s81), .val (.int (1 : Int32)), .unset, .unset] [(.ref a_LIST), (.ref a_ITEM)])) _
        refine Jvm.RoadKit.acmp (g := (mkF m 67 #[.val (.int u0), .val (.int u1), .val (.ref a_ITEM), .val (.ref a_LIST), .val (.ref s80), .val (.ref s81), .val (.int (1 : Int32)), .unset, .unset] [(.ref a_LIST), (.ref a_ITEM)])) X85 hx rfl rfl rfl (pc0 := 67) (pc' := 74) (same := false) rfl (hb hby at_67) rfl (decide_eq_false fun q => (Ne.symm ne_LIST_ITEM) (Value.ref.inj q)) (by decide) (by decide) ?_
        show Steps p.tables e below (T85.setTop (mkF m 74 #[.val (.int u0), .val (.int u1), .val (.ref a_ITEM), .val (.ref a_LIST), .val (.ref s80), .val (.ref s81), .val (.int (1 : Int32)), .unset, .unset] [])) _
        refine XS.iconst X85.here hx rfl (hb hby at_74) ?_
        show Steps p.tables e below (T85.setTop (mkF m 75 #[.val (.int u0), .val (.int u1), .val (.ref a_ITEM), .val (.ref a_LIST), .val (.ref s80), .val (.ref s81), .val (.int (1 : Int32)), .unset, .unset] [(.int (0 : Int32))])) _
        refine XS.aload X85.here hx rfl (hb hby at_75) rfl rfl ?_
        show Steps p.tables e below (T85.setTop (mkF m 77 #[.val (.int u0), .val (.int u1), .val (.ref a_ITEM), .val (.ref a_LIST), .val (.ref s80), .val (.ref s81), .val (.int (1 : Int32)), .unset, .unset] [(.ref s80), (.int (0 : Int32))])) _
        refine XS.aload X85.here hx rfl (hb hby at_77) rfl rfl ?_
        show Steps p.tables e below (T85.setTop (mkF m 79 #[.val (.int u0), .val (.int u1), .val (.ref a_ITEM), .val (.ref a_LIST), .val (.ref s80), .val (.ref s81), .val (.int (1 : Int32)), .unset, .unset] [(.ref s81), (.ref s80), (.int (0 : Int32))])) _
        refine st86.trans ?_
        show Steps p.tables e below (T86.setTop (mkF m 82 #[.val (.int u0), .val (.int u1), .val (.ref a_ITEM), .val (.ref a_LIST), .val (.ref s80), .val (.ref s81), .val (.int (1 : Int32)), .unset, .unset] [(.int (0 : Int32)), (.int (0 : Int32))])) _
        refine XS.icmpNo X86.here hx rfl (hb hby at_82) rfl (teq (by decide)).2 ?_
        show Steps p.tables e below (T86.setTop (mkF m 85 #[.val (.int u0), .val (.int u1), .val (.ref a_ITEM), .val (.ref a_LIST), .val (.ref s80), .val (.ref s81), .val (.int (1 : Int32)), .unset, .unset] [])) _
        refine XS.iconst X86.here hx rfl (hb hby at_85) ?_
        show Steps p.tables e below (T86.setTop (mkF m 86 #[.val (.int u0), .val (.int u1), .val (.ref a_ITEM), .val (.ref a_LIST), .val (.ref s80), .val (.ref s81), .val (.int (1 : Int32)), .unset, .unset] [(.int (1 : Int32))])) _
        refine XS.goto X86.here hx rfl (pc0 := 86) (pc' := 90) rfl (hb hby at_86) (by decide) (by decide) ?_
        show Steps p.tables e below (T86.setTop (mkF m 90 #[.val (.int u0), .val (.int u1), .val (.ref a_ITEM), .val (.ref a_LIST), .val (.ref s80), .val (.ref s81), .val (.int (1 : Int32)), .unset, .unset] [(.int (1 : Int32))])) _
        refine XS.istore X86.here hx rfl (hb hby at_90) rfl (l' := #[.val (.int u0), .val (.int u1), .val (.ref a_ITEM), .val (.ref a_LIST), .val (.ref s80), .val (.ref s81), .val (.int (1 : Int32)), .val (.int (1 : Int32)), .unset]) rfl ?_
        show Steps p.tables e below (T86.setTop (mkF m 92 #[.val (.int u0), .val (.int u1), .val (.ref a_ITEM), .val (.ref a_LIST), .val (.ref s80), .val (.ref s81), .val (.int (1 : Int32)), .val (.int (1 : Int32)), .unset] [])) _
        refine XS.aload X86.here hx rfl (hb hby at_92) rfl rfl ?_
        show Steps p.tables e below (T86.setTop (mkF m 94 #[.val (.int u0), .val (.int u1), .val (.ref a_ITEM), .val (.ref a_LIST), .val (.ref s80), .val (.ref s81), .val (.int (1 : Int32)), .val (.int (1 : Int32)), .unset] [(.ref s80)])) _
        refine XS.aloadN X86.here hx rfl (hb hby at_94) rfl rfl ?_
        show Steps p.tables e below (T86.setTop (mkF m 95 #[.val (.int u0), .val (.int u1), .val (.ref a_ITEM), .val (.ref a_LIST), .val (.ref s80), .val (.ref s81), .val (.int (1 : Int32)), .val (.int (1 : Int32)), .unset] [(.ref a_ITEM), (.ref s80)])) _
        refine st87.trans ?_
        show Steps p.tables e below (T87.setTop (mkF m 98 #[.val (.int u0), .val (.int u1), .val (.ref a_ITEM), .val (.ref a_LIST), .val (.ref s80), .val (.ref s81), .val (.int (1 : Int32)), .val (.int (1 : Int32)), .unset] [(.ref s87), (.ref s80)])) _
        refine st88.trans ?_
        show Steps p.tables e below (T88.setTop (mkF m 101 #[.val (.int u0), .val (.int u1), .val (.ref a_ITEM), .val (.ref a_LIST), .val (.ref s80), .val (.ref s81), .val (.int (1 : Int32)), .val (.int (1 : Int32)), .unset] [(.int (1 : Int32))])) _
        refine XS.istore X88.here hx rfl (hb hby at_101) rfl (l' := #[.val (.int u0), .val (.int u1), .val (.ref a_ITEM), .val (.ref a_LIST), .val (.ref s80), .val (.ref s81), .val (.int (1 : Int32)), .val (.int (1 : Int32)), .val (.int (1 : Int32))]) rfl ?_
        show Steps p.tables e below (T88.setTop (mkF m 103 #[.val (.int u0), .val (.int u1), .val (.ref a_ITEM), .val (.ref a_LIST), .val (.ref s80), .val (.ref s81), .val (.int (1 : Int32)), .val (.int (1 : Int32)), .val (.int (1 : Int32))] [])) _
        refine XS.iload X88.here hx rfl (hb hby at_103) rfl ?_
        show Steps p.tables e below (T88.setTop (mkF m 105 #[.val (.int u0), .val (.int u1), .val (.ref a_ITEM), .val (.ref a_LIST), .val (.ref s80), .val (.ref s81), .val (.int (1 : Int32)), .val (.int (1 : Int32)), .val (.int (1 : Int32))] [(.int (1 : Int32))])) _
        refine XS.ifNo X88.here hx rfl (hb hby at_105) rfl ((if0 _ _).trans (feq (by decide)).1) ?_
        show Steps p.tables e below (T88.setTop (mkF m 108 #[.val (.int u0), .val (.int u1), .val (.ref a_ITEM), .val (.ref a_LIST), .val (.ref s80), .val (.ref s81), .val (.int (1 : Int32)), .val (.int (1 : Int32)), .val (.int (1 : Int32))] [])) _
        refine XS.iload X88.here hx rfl (hb hby at_108) rfl ?_
        show Steps p.tables e below (T88.setTop (mkF m 110 #[.val (.int u0), .val (.int u1), .val (.ref a_ITEM), .val (.ref a_LIST), .val (.ref s80), .val (.ref s81), .val (.int (1 : Int32)), .val (.int (1 : Int32)), .val (.int (1 : Int32))] [(.int (1 : Int32))])) _
        refine XS.ifNo X88.here hx rfl (hb hby at_110) rfl ((if0 _ _).trans (feq (by decide)).1) ?_
        show Steps p.tables e below (T88.setTop (mkF m 113 #[.val (.int u0), .val (.int u1), .val (.ref a_ITEM), .val (.ref a_LIST), .val (.ref s80), .val (.ref s81), .val (.int (1 : Int32)), .val (.int (1 : Int32)), .val (.int (1 : Int32))] [])) _
        refine XS.iload X88.here hx rfl (hb hby at_113) rfl ?_
        show Steps p.tables e below (T88.setTop (mkF m 115 #[.val (.int u0), .val (.int u1), .val (.ref a_ITEM), .val (.ref a_LIST), .val (.ref s80), .val (.ref s81), .val (.int (1 : Int32)), .val (.int (1 : Int32)), .val (.int (1 : Int32))] [(.int (1 : Int32))])) _
        refine XS.ifNo X88.here hx rfl (hb hby at_115) rfl ((if0 _ _).trans (feq (by decide)).1) ?_
        show Steps p.tables e below (T88.setTop (mkF m 118 #[.val (.int u0), .val (.int u1), .val (.ref a_ITEM), .val (.ref a_LIST), .val (.ref s80), .val (.ref s81), .val (.int (1 : Int32)), .val (.int (1 : Int32)), .val (.int (1 : Int32))] [])) _
        refine XS.iconst X88.here hx rfl (hb hby at_118) ?_
        show Steps p.tables e below (T88.setTop (mkF m 119 #[.val (.int u0), .val (.int u1), .val (.ref a_ITEM), .val (.ref a_LIST), .val (.ref s80), .val (.ref s81), .val (.int (1 : Int32)), .val (.int (1 : Int32)), .val (.int (1 : Int32))] [(.int (1 : Int32))])) _
        refine XS.goto X88.here hx rfl (pc0 := 119) (pc' := 123) rfl (hb hby at_119) (by decide) (by decide) ?_
        show Steps p.tables e below (T88.setTop (mkF m 123 #[.val (.int u0), .val (.int u1), .val (.ref a_ITEM), .val (.ref a_LIST), .val (.ref s80), .val (.ref s81), .val (.int (1 : Int32)), .val (.int (1 : Int32)), .val (.int (1 : Int32))] [(.int (1 : Int32))])) _
        exact retN X88 hx (t := .boolean) Bd.returns (by simp) (hb hby at_123) hr
      · show Q0 Z u0 u1 a_UPSTREAM a_LIST a_ITEM G_COMPACT h0 n0 _ T88.heap _
        rw [e88]
        exact ⟨rfl, N88⟩
      · show CHr Z EL s.vm s.heap T88.vm T88.heap
        rw [e88]
        rw [hh]
        exact C87.trans (CHv.at X88 hZ (hEL hw) C87.1)
    · obtain ⟨_, _, ⟨T89, L89, k89, n89⟩, -, X89, ⟨Lc89, hQ89, l89, y89, z89⟩, st89⟩ := Jvm.LawKit.callS X0 hx (y := (⟨"com/example/backfill/backfill/engine/LaneRequestsPinLaw", "pick", "(I)Lcom/example/backfill/backfill/engine/Lane;"⟩ : MethodName)) hown (mvT hZ (hw _ (List.mem_of_getElem? (i := 0) rfl))) (mvT hZ (hw _ (List.mem_of_getElem? (i := 1) rfl))) (mvT hZ (hw _ (List.mem_of_getElem? (i := 2) rfl))) (mvT hZ (hw _ (List.mem_of_getElem? (i := 3) rfl))) (by decide) (backOf (W := 0) (rm1 l Z a0 hw [] u0 a_UPSTREAM a_LIST a_ITEM h0 n0 Z0 O0 S_UPSTREAM S_LIST S_ITEM) hZ (hw _ (List.mem_of_getElem? (i := 3) rfl)) (hw _ (List.mem_of_getElem? (i := 2) rfl)) (by decide) (by decide)) (g := (mkF m 1 #[.val (.int u0), .val (.int u1), .unset, .unset, .unset, .unset, .unset, .unset, .unset] [(.int u0)])) rfl (by rw [hml]; rfl) (argsL := [(.int u0)]) (rest := []) (lenOf pd_3 rfl) rfl (by show 2 * 0 + _ ≤ _; exact Nat.le_of_eq rfl) (hb hby at_1) (fun _ _ => ⟨rfl, e0, (by decide : 0 + 0 ≤ _), (by decide : 0 + 0 ≤ _)⟩)
      dsimp only [Pt.U, Pt.locs, Pt.cells, Pt.slots] at X89 l89 y89 z89 st89 hQ89
      subst l89 y89 z89
      obtain ⟨hv89, N89q, e89⟩ := hQ89
      rw [hp0.2] at hv89
      subst hv89
      have N89 := Fr.app N0 N89q
      obtain ⟨_, _, ⟨T90, L90, k90, n90⟩, -, X90, ⟨Lc90, hQ90, l90, y90, z90⟩, st90⟩ := Jvm.LawKit.callS X89 hx (y := (⟨"com/example/backfill/backfill/engine/LaneRequestsPinLaw", "pick", "(I)Lcom/example/backfill/backfill/engine/Lane;"⟩ : MethodName)) hown (mvT hZ (hw _ (List.mem_of_getElem? (i := 0) rfl))) (mvT hZ (hw _ (List.mem_of_getElem? (i := 1) rfl))) (mvT hZ (hw _ (List.mem_of_getElem? (i := 2) rfl))) (mvT hZ (hw _ (List.mem_of_getElem? (i := 3) rfl))) (by decide) (backOf (W := 0) (rm1 l Z a0 hw [] u1 a_UPSTREAM a_LIST a_ITEM h0 n0 Z0 O0 S_UPSTREAM S_LIST S_ITEM) hZ (hw _ (List.mem_of_getElem? (i := 3) rfl)) (hw _ (List.mem_of_getElem? (i := 2) rfl)) (by decide) (by decide)) (g := (mkF m 6 #[.val (.int u0), .val (.int u1), .val (.ref a_ITEM), .unset, .unset, .unset, .unset, .unset, .unset] [(.int u1)])) rfl (by rw [hml]; rfl) (argsL := [(.int u1)]) (rest := []) (lenOf pd_3 rfl) rfl (by show 2 * 0 + _ ≤ _; exact Nat.le_of_eq rfl) (hb hby at_6) (fun _ _ => ⟨rfl, e89, (by decide : 0 + 0 ≤ _), (by decide : 0 + 0 ≤ _)⟩)
      dsimp only [Pt.U, Pt.locs, Pt.cells, Pt.slots] at X90 l90 y90 z90 st90 hQ90
      subst l90 y90 z90
      obtain ⟨hv90, N90q, e90⟩ := hQ90
      rw [hp1.2] at hv90
      subst hv90
      have N90 := Fr.app N89 N90q
      obtain ⟨cq91, kq91, q91a, q91b, q91c⟩ := isOf hZ e90 (E_a_ITEM.ext O0.2)
      obtain ⟨_, _, ⟨T91, L91, k91, n91⟩, -, X91, hS91, gr91, ⟨Lc91, hQ91, l91, y91, z91, Cq91⟩, st91⟩ := X90.virtualBackS hx (y := (⟨"com/example/backfill/backfill/engine/Lane", "requests", "()Ljava/lang/String;"⟩ : MethodName)) (z := (⟨"com/example/backfill/backfill/engine/Lane", "requests", "()Ljava/lang/String;"⟩ : MethodName)) hown (mvT hZ (hw _ (List.mem_of_getElem? (i := 11) rfl))) (mvT hZ (hw _ (List.mem_of_getElem? (i := 12) rfl))) (notFace_of_selects (args := #[]) (mvT hZ (hw _ (List.mem_of_getElem? (i := 14) rfl)))) (mvT hZ (hw _ (List.mem_of_getElem? (i := 14) rfl))) (mvT hZ (hw _ (List.mem_of_getElem? (i := 13) rfl))) (by decide) (backOfSH (W := 0) (rm3ITEM l Z a0 hw [] a_ITEM h0 n0 Z0 (E_a_ITEM.ext O0.2) (O_ITEM.ext O0.2)) hZ (hw _ (List.mem_of_getElem? (i := 15) rfl)) (hw _ (List.mem_of_getElem? (i := 9) rfl)) (by decide) (by decide) (hEL hw) C0.1) q91a q91c (g := (mkF m 11 #[.val (.int u0), .val (.int u1), .val (.ref a_ITEM), .val (.ref a_ITEM), .unset, .unset, .unset, .unset, .unset] [(.ref a_ITEM)])) rfl (by rw [hml]; rfl) (Steps.refl _) (argsL := []) (rest := []) (lenOf pd_1 rfl) rfl (by show 2 * 0 + _ ≤ _; exact Nat.le_of_eq rfl) (hb hby at_11) (fun _ _ => ⟨rfl, e90, (by decide : 0 + 2 ≤ _), (by decide : 0 + 24 ≤ _)⟩)
      dsimp only [Pt.U, Pt.locs, Pt.cells, Pt.slots] at X91 l91 y91 z91 st91 hQ91 hS91 gr91 Cq91
      subst l91 y91 z91
      obtain ⟨X91, hS91, hZ, hown⟩ := rebS hS0 (Nat.le_trans hk0 (Nat.le_of_eq (congrArg Array.size e90).symm)) X91 hS91 gr91 hZ hown
      have hk91 := Nat.le_refl T91.heap.size
      obtain ⟨s91, d91, kc91, rfl, N91q, K91, A91, F91_coder, F91_value, V91⟩ := hQ91
      have N91 := Fr.app N90 N91q
      have Z91 : n0 ≤ T91.heap.size := Nat.le_trans Z0 K91.1
      have KK91 := (Keep.refl h0 []).trans K91 all0
      have O91 := O0.keep K91 all0
      have C91 := C0.trans Cq91
      obtain ⟨cq92, kq92, q92a, q92b, q92c⟩ := isOf hZ rfl (E_a_ITEM.ext O91.2)
      obtain ⟨_, _, ⟨T92, L92, k92, n92⟩, -, X92, hS92, gr92, ⟨Lc92, hQ92, l92, y92, z92, Cq92⟩, st92⟩ := X91.virtualBackS hx (y := (⟨"com/example/backfill/backfill/engine/Lane", "requests", "()Ljava/lang/String;"⟩ : MethodName)) (z := (⟨"com/example/backfill/backfill/engine/Lane", "requests", "()Ljava/lang/String;"⟩ : MethodName)) hown (mvT hZ (hw _ (List.mem_of_getElem? (i := 11) rfl))) (mvT hZ (hw _ (List.mem_of_getElem? (i := 12) rfl))) (notFace_of_selects (args := #[]) (mvT hZ (hw _ (List.mem_of_getElem? (i := 14) rfl)))) (mvT hZ (hw _ (List.mem_of_getElem? (i := 14) rfl))) (mvT hZ (hw _ (List.mem_of_getElem? (i := 13) rfl))) (by decide) (backOfSH (W := 0) (rm3ITEM l Z a0 hw [] a_ITEM T91.heap n0 Z91 (E_a_ITEM.ext O91.2) (O_ITEM.ext O91.2)) hZ (hw _ (List.mem_of_getElem? (i := 15) rfl)) (hw _ (List.mem_of_getElem? (i := 9) rfl)) (by decide) (by decide) (hEL hw) C91.1) q92a q92c (g := (mkF m 17 #[.val (.int u0), .val (.int u1), .val (.ref a_ITEM), .val (.ref a_ITEM), .val (.ref s91), .unset, .unset, .unset, .unset] [(.ref a_ITEM)])) rfl (by rw [hml]; rfl) (Steps.refl _) (argsL := []) (rest := []) (lenOf pd_1 rfl) rfl (by show 2 * 0 + _ ≤ _; exact Nat.le_of_eq rfl) (hb hby at_17) (fun _ _ => ⟨rfl, rfl, (by decide : 2 + 2 ≤ _), (by decide : 24 + 24 ≤ _)⟩)
      dsimp only [Pt.U, Pt.locs, Pt.cells, Pt.slots] at X92 l92 y92 z92 st92 hQ92 hS92 gr92 Cq92
      subst l92 y92 z92
      obtain ⟨X92, hS92, hZ, hown⟩ := rebS hS91 (Nat.le_trans hk91 (Nat.le_of_eq (congrArg Array.size rfl).symm)) X92 hS92 gr92 hZ hown
      have hk92 := Nat.le_refl T92.heap.size
      obtain ⟨s92, d92, kc92, rfl, N92q, K92, A92, F92_coder, F92_value, V92⟩ := hQ92
      have N92 := Fr.app N91 N92q
      have Z92 : n0 ≤ T92.heap.size := Nat.le_trans Z91 K92.1
      have KK92 := KK91.trans K92 all0
      have O92 := O91.keep K92 all0
      have C92 := C91.trans Cq92
      obtain ⟨_, _, ⟨T93, L93, k93, n93⟩, -, X93, hS93, gr93, ⟨Lc93, hQ93, l93, y93, z93, Cq93⟩, st93⟩ := callSS X92 hx (y := (⟨"com/example/backfill/backfill/engine/LaneRequestsPinLaw", "expected", "(I)Ljava/lang/String;"⟩ : MethodName)) hown (mvT hZ (hw _ (List.mem_of_getElem? (i := 33) rfl))) (mvT hZ (hw _ (List.mem_of_getElem? (i := 34) rfl))) (mvT hZ (hw _ (List.mem_of_getElem? (i := 2) rfl))) (mvT hZ (hw _ (List.mem_of_getElem? (i := 35) rfl))) (by decide) (backOfSH (W := 1) (rm5ITEM l Z a0 hw [] u0 T92.heap n0 Z92 hp0.1.1 hp0.1.2) hZ (hw _ (List.mem_of_getElem? (i := 35) rfl)) (hw _ (List.mem_of_getElem? (i := 2) rfl)) (by decide) (by decide) (hEL hw) C92.1) (g := (mkF m 37 #[.val (.int u0), .val (.int u1), .val (.ref a_ITEM), .val (.ref a_ITEM), .val (.ref s91), .val (.ref s92), .unset, .unset, .unset] [(.int u0), (.ref s91)])) rfl (by rw [hml]; rfl) (argsL := [(.int u0)]) (rest := [(.ref s91)]) (lenOf pd_4 rfl) rfl (by show 2 * 0 + _ ≤ _; exact Nat.le_of_eq rfl) (hb hby at_37) (fun _ _ => ⟨rfl, rfl, (by decide : 4 + 2 ≤ _), (by decide : 48 + 24 ≤ _)⟩)
      dsimp only [Pt.U, Pt.locs, Pt.cells, Pt.slots] at X93 l93 y93 z93 st93 hQ93 hS93 gr93 Cq93
      subst l93 y93 z93
      obtain ⟨X93, hS93, hZ, hown⟩ := rebS hS92 (Nat.le_trans hk92 (Nat.le_of_eq (congrArg Array.size rfl).symm)) X93 hS93 gr93 hZ hown
      have hk93 := Nat.le_refl T93.heap.size
      obtain ⟨s93, d93, kc93, rfl, N93q, K93, A93, F93_coder, F93_value, V93⟩ := hQ93
      have N93 := Fr.app N92 N93q
      have Z93 : n0 ≤ T93.heap.size := Nat.le_trans Z92 K93.1
      have KK93 := KK92.trans K93 all0
      have O93 := O92.keep K93 all0
      have C93 := C92.trans Cq93
      obtain ⟨cq94, kq94, q94a, q94b, q94c⟩ := isOf hZ rfl ((A91.keep K92).keep K93)
      obtain ⟨_, _, ⟨T94, L94, k94, n94⟩, -, X94, ⟨Lc94, hQ94, l94, y94, z94⟩, st94⟩ := X93.virtualBack hx (y := (⟨"java/lang/String", "equals", "(Ljava/lang/Object;)Z"⟩ : MethodName)) (z := (⟨"java/lang/String", "equals", "(Ljava/lang/Object;)Z"⟩ : MethodName)) hown (mvT hZ (hw _ (List.mem_of_getElem? (i := 37) rfl))) (mvT hZ (hw _ (List.mem_of_getElem? (i := 38) rfl))) (notFace_of_selects (args := #[]) (mvT hZ (hw _ (List.mem_of_getElem? (i := 40) rfl)))) (mvT hZ (hw _ (List.mem_of_getElem? (i := 40) rfl))) (mvT hZ (hw _ (List.mem_of_getElem? (i := 39) rfl))) (by decide) (backOf (W := 0) (rm6II l Z a0 hw [] s91 s93 d91 d93 kc91 kc93 G_COMPACT T93.heap n0 Z93 O93 ((A91.keep K92).keep K93) ((F91_coder.keep K92 nin0).keep K93 nin0) ((F91_value.keep K92 nin0).keep K93 nin0) A93 F93_coder F93_value ((V91.keep K92 nin0).keep K93 nin0) V93 S_COMPACT P_COMPACT) hZ (hw _ (List.mem_of_getElem? (i := 41) rfl)) (hw _ (List.mem_of_getElem? (i := 26) rfl)) (by decide) (by decide)) q94a q94c (g := (mkF m 40 #[.val (.int u0), .val (.int u1), .val (.ref a_ITEM), .val (.ref a_ITEM), .val (.ref s91), .val (.ref s92), .unset, .unset, .unset] [(.ref s93), (.ref s91)])) rfl (by rw [hml]; rfl) (Steps.refl _) (argsL := [(.ref s93)]) (rest := []) (lenOf pd_5 rfl) rfl (by show 2 * 0 + _ ≤ _; exact Nat.le_of_eq rfl) (hb hby at_40) (fun _ _ => ⟨rfl, rfl, (by decide : 6 + 0 ≤ _), (by decide : 72 + 0 ≤ _)⟩)
      dsimp only [Pt.U, Pt.locs, Pt.cells, Pt.slots] at X94 l94 y94 z94 st94 hQ94
      subst l94 y94 z94
      obtain ⟨rfl, N94q, e94⟩ := hQ94
      have N94 := Fr.app N93 N94q
      obtain ⟨_, _, ⟨T95, L95, k95, n95⟩, -, X95, hS95, gr95, ⟨Lc95, hQ95, l95, y95, z95, Cq95⟩, st95⟩ := callSS X94 hx (y := (⟨"com/example/backfill/backfill/engine/LaneRequestsPinLaw", "expected", "(I)Ljava/lang/String;"⟩ : MethodName)) hown (mvT hZ (hw _ (List.mem_of_getElem? (i := 33) rfl))) (mvT hZ (hw _ (List.mem_of_getElem? (i := 34) rfl))) (mvT hZ (hw _ (List.mem_of_getElem? (i := 2) rfl))) (mvT hZ (hw _ (List.mem_of_getElem? (i := 35) rfl))) (by decide) (backOfSH (W := 1) (rm5ITEM l Z a0 hw [] u1 T93.heap n0 Z93 hp1.1.1 hp1.1.2) hZ (hw _ (List.mem_of_getElem? (i := 35) rfl)) (hw _ (List.mem_of_getElem? (i := 2) rfl)) (by decide) (by decide) (hEL hw) C93.1) (g := (mkF m 49 #[.val (.int u0), .val (.int u1), .val (.ref a_ITEM), .val (.ref a_ITEM), .val (.ref s91), .val (.ref s92), .unset, .unset, .unset] [(.int u1), (.ref s92)])) rfl (by rw [hml]; rfl) (argsL := [(.int u1)]) (rest := [(.ref s92)]) (lenOf pd_4 rfl) rfl (by show 2 * 0 + _ ≤ _; exact Nat.le_of_eq rfl) (hb hby at_49) (fun _ _ => ⟨rfl, e94, (by decide : 6 + 2 ≤ _), (by decide : 72 + 24 ≤ _)⟩)
      dsimp only [Pt.U, Pt.locs, Pt.cells, Pt.slots] at X95 l95 y95 z95 st95 hQ95 hS95 gr95 Cq95
      subst l95 y95 z95
      obtain ⟨X95, hS95, hZ, hown⟩ := rebS hS93 (Nat.le_trans hk93 (Nat.le_of_eq (congrArg Array.size e94).symm)) X95 hS95 gr95 hZ hown
      have hk95 := Nat.le_refl T95.heap.size
      obtain ⟨s95, d95, kc95, rfl, N95q, K95, A95, F95_coder, F95_value, V95⟩ := hQ95
      have N95 := Fr.app N94 N95q
      have Z95 : n0 ≤ T95.heap.size := Nat.le_trans Z93 K95.1
      have KK95 := KK93.trans K95 all0
      have O95 := O93.keep K95 all0
      have C95 := C93.trans Cq95
      obtain ⟨cq96, kq96, q96a, q96b, q96c⟩ := isOf hZ rfl ((A92.keep K93).keep K95)
      obtain ⟨_, _, ⟨T96, L96, k96, n96⟩, -, X96, ⟨Lc96, hQ96, l96, y96, z96⟩, st96⟩ := X95.virtualBack hx (y := (⟨"java/lang/String", "equals", "(Ljava/lang/Object;)Z"⟩ : MethodName)) (z := (⟨"java/lang/String", "equals", "(Ljava/lang/Object;)Z"⟩ : MethodName)) hown (mvT hZ (hw _ (List.mem_of_getElem? (i := 37) rfl))) (mvT hZ (hw _ (List.mem_of_getElem? (i := 38) rfl))) (notFace_of_selects (args := #[]) (mvT hZ (hw _ (List.mem_of_getElem? (i := 40) rfl)))) (mvT hZ (hw _ (List.mem_of_getElem? (i := 40) rfl))) (mvT hZ (hw _ (List.mem_of_getElem? (i := 39) rfl))) (by decide) (backOf (W := 0) (rm6II l Z a0 hw [] s92 s95 d92 d95 kc92 kc95 G_COMPACT T95.heap n0 Z95 O95 ((A92.keep K93).keep K95) ((F92_coder.keep K93 nin0).keep K95 nin0) ((F92_value.keep K93 nin0).keep K95 nin0) A95 F95_coder F95_value ((V92.keep K93 nin0).keep K95 nin0) V95 S_COMPACT P_COMPACT) hZ (hw _ (List.mem_of_getElem? (i := 41) rfl)) (hw _ (List.mem_of_getElem? (i := 26) rfl)) (by decide) (by decide)) q96a q96c (g := (mkF m 52 #[.val (.int u0), .val (.int u1), .val (.ref a_ITEM), .val (.ref a_ITEM), .val (.ref s91), .val (.ref s92), .unset, .unset, .unset] [(.ref s95), (.ref s92)])) rfl (by rw [hml]; rfl) (Steps.refl _) (argsL := [(.ref s95)]) (rest := []) (lenOf pd_5 rfl) rfl (by show 2 * 0 + _ ≤ _; exact Nat.le_of_eq rfl) (hb hby at_52) (fun _ _ => ⟨rfl, rfl, (by decide : 8 + 0 ≤ _), (by decide : 96 + 0 ≤ _)⟩)
      dsimp only [Pt.U, Pt.locs, Pt.cells, Pt.slots] at X96 l96 y96 z96 st96 hQ96
      subst l96 y96 z96
      obtain ⟨rfl, N96q, e96⟩ := hQ96
      have N96 := Fr.app N95 N96q
      obtain ⟨cq97, kq97, q97a, q97b, q97c⟩ := isOf hZ e96 (((A91.keep K92).keep K93).keep K95)
      obtain ⟨_, _, ⟨T97, L97, k97, n97⟩, -, X97, ⟨Lc97, hQ97, l97, y97, z97⟩, st97⟩ := X96.virtualBack hx (y := (⟨"java/lang/String", "equals", "(Ljava/lang/Object;)Z"⟩ : MethodName)) (z := (⟨"java/lang/String", "equals", "(Ljava/lang/Object;)Z"⟩ : MethodName)) hown (mvT hZ (hw _ (List.mem_of_getElem? (i := 37) rfl))) (mvT hZ (hw _ (List.mem_of_getElem? (i := 38) rfl))) (notFace_of_selects (args := #[]) (mvT hZ (hw _ (List.mem_of_getElem? (i := 40) rfl)))) (mvT hZ (hw _ (List.mem_of_getElem? (i := 40) rfl))) (mvT hZ (hw _ (List.mem_of_getElem? (i := 39) rfl))) (by decide) (backOf (W := 1) (rm6II l Z a0 hw [] s91 s92 d91 d92 kc91 kc92 G_COMPACT T95.heap n0 Z95 O95 (((A91.keep K92).keep K93).keep K95) (((F91_coder.keep K92 nin0).keep K93 nin0).keep K95 nin0) (((F91_value.keep K92 nin0).keep K93 nin0).keep K95 nin0) ((A92.keep K93).keep K95) ((F92_coder.keep K93 nin0).keep K95 nin0) ((F92_value.keep K93 nin0).keep K95 nin0) (((V91.keep K92 nin0).keep K93 nin0).keep K95 nin0) ((V92.keep K93 nin0).keep K95 nin0) S_COMPACT P_COMPACT) hZ (hw _ (List.mem_of_getElem? (i := 41) rfl)) (hw _ (List.mem_of_getElem? (i := 26) rfl)) (by decide) (by decide)) q97a q97c (g := (mkF m 79 #[.val (.int u0), .val (.int u1), .val (.ref a_ITEM), .val (.ref a_ITEM), .val (.ref s91), .val (.ref s92), .val (.int (1 : Int32)), .unset, .unset] [(.ref s92), (.ref s91), (.int (1 : Int32))])) rfl (by rw [hml]; rfl) (Steps.refl _) (argsL := [(.ref s92)]) (rest := [(.int (1 : Int32))]) (lenOf pd_5 rfl) rfl (by show 2 * 0 + _ ≤ _; exact Nat.le_of_eq rfl) (hb hby at_79) (fun _ _ => ⟨rfl, e96, (by decide : 8 + 0 ≤ _), (by decide : 96 + 0 ≤ _)⟩)
      dsimp only [Pt.U, Pt.locs, Pt.cells, Pt.slots] at X97 l97 y97 z97 st97 hQ97
      subst l97 y97 z97
      obtain ⟨rfl, N97q, e97⟩ := hQ97
      have N97 := Fr.app N96 N97q
      obtain ⟨cq98, kq98, q98a, q98b, q98c⟩ := isOf hZ e97 (E_a_ITEM.ext O95.2)
      obtain ⟨_, _, ⟨T98, L98, k98, n98⟩, -, X98, hS98, gr98, ⟨Lc98, hQ98, l98, y98, z98, Cq98⟩, st98⟩ := X97.virtualBackS hx (y := (⟨"com/example/backfill/backfill/engine/Lane", "requests", "()Ljava/lang/String;"⟩ : MethodName)) (z := (⟨"com/example/backfill/backfill/engine/Lane", "requests", "()Ljava/lang/String;"⟩ : MethodName)) hown (mvT hZ (hw _ (List.mem_of_getElem? (i := 11) rfl))) (mvT hZ (hw _ (List.mem_of_getElem? (i := 12) rfl))) (notFace_of_selects (args := #[]) (mvT hZ (hw _ (List.mem_of_getElem? (i := 14) rfl)))) (mvT hZ (hw _ (List.mem_of_getElem? (i := 14) rfl))) (mvT hZ (hw _ (List.mem_of_getElem? (i := 13) rfl))) (by decide) (backOfSH (W := 1) (rm3ITEM l Z a0 hw [] a_ITEM T95.heap n0 Z95 (E_a_ITEM.ext O95.2) (O_ITEM.ext O95.2)) hZ (hw _ (List.mem_of_getElem? (i := 15) rfl)) (hw _ (List.mem_of_getElem? (i := 9) rfl)) (by decide) (by decide) (hEL hw) C95.1) q98a q98c (g := (mkF m 95 #[.val (.int u0), .val (.int u1), .val (.ref a_ITEM), .val (.ref a_ITEM), .val (.ref s91), .val (.ref s92), .val (.int (1 : Int32)), .val (.int (1 : Int32)), .unset] [(.ref a_ITEM), (.ref s91)])) rfl (by rw [hml]; rfl) (Steps.refl _) (argsL := []) (rest := [(.ref s91)]) (lenOf pd_1 rfl) rfl (by show 2 * 0 + _ ≤ _; exact Nat.le_of_eq rfl) (hb hby at_95) (fun _ _ => ⟨rfl, e97, (by decide : 8 + 2 ≤ _), (by decide : 96 + 24 ≤ _)⟩)
      dsimp only [Pt.U, Pt.locs, Pt.cells, Pt.slots] at X98 l98 y98 z98 st98 hQ98 hS98 gr98 Cq98
      subst l98 y98 z98
      obtain ⟨X98, hS98, hZ, hown⟩ := rebS hS95 (Nat.le_trans hk95 (Nat.le_of_eq (congrArg Array.size e97).symm)) X98 hS98 gr98 hZ hown
      have hk98 := Nat.le_refl T98.heap.size
      obtain ⟨s98, d98, kc98, rfl, N98q, K98, A98, F98_coder, F98_value, V98⟩ := hQ98
      have N98 := Fr.app N97 N98q
      have Z98 : n0 ≤ T98.heap.size := Nat.le_trans Z95 K98.1
      have KK98 := KK95.trans K98 all0
      have O98 := O95.keep K98 all0
      have C98 := C95.trans Cq98
      obtain ⟨cq99, kq99, q99a, q99b, q99c⟩ := isOf hZ rfl ((((A91.keep K92).keep K93).keep K95).keep K98)
      obtain ⟨_, _, ⟨T99, L99, k99, n99⟩, -, X99, ⟨Lc99, hQ99, l99, y99, z99⟩, st99⟩ := X98.virtualBack hx (y := (⟨"java/lang/String", "equals", "(Ljava/lang/Object;)Z"⟩ : MethodName)) (z := (⟨"java/lang/String", "equals", "(Ljava/lang/Object;)Z"⟩ : MethodName)) hown (mvT hZ (hw _ (List.mem_of_getElem? (i := 37) rfl))) (mvT hZ (hw _ (List.mem_of_getElem? (i := 38) rfl))) (notFace_of_selects (args := #[]) (mvT hZ (hw _ (List.mem_of_getElem? (i := 40) rfl)))) (mvT hZ (hw _ (List.mem_of_getElem? (i := 40) rfl))) (mvT hZ (hw _ (List.mem_of_getElem? (i := 39) rfl))) (by decide) (backOf (W := 0) (rm6II l Z a0 hw [] s91 s98 d91 d98 kc91 kc98 G_COMPACT T98.heap n0 Z98 O98 ((((A91.keep K92).keep K93).keep K95).keep K98) ((((F91_coder.keep K92 nin0).keep K93 nin0).keep K95 nin0).keep K98 nin0) ((((F91_value.keep K92 nin0).keep K93 nin0).keep K95 nin0).keep K98 nin0) A98 F98_coder F98_value ((((V91.keep K92 nin0).keep K93 nin0).keep K95 nin0).keep K98 nin0) V98 S_COMPACT P_COMPACT) hZ (hw _ (List.mem_of_getElem? (i := 41) rfl)) (hw _ (List.mem_of_getElem? (i := 26) rfl)) (by decide) (by decide)) q99a q99c (g := (mkF m 98 #[.val (.int u0), .val (.int u1), .val (.ref a_ITEM), .val (.ref a_ITEM), .val (.ref s91), .val (.ref s92), .val (.int (1 : Int32)), .val (.int (1 : Int32)), .unset] [(.ref s98), (.ref s91)])) rfl (by rw [hml]; rfl) (Steps.refl _) (argsL := [(.ref s98)]) (rest := []) (lenOf pd_5 rfl) rfl (by show 2 * 0 + _ ≤ _; exact Nat.le_of_eq rfl) (hb hby at_98) (fun _ _ => ⟨rfl, rfl, (by decide : 10 + 0 ≤ _), (by decide : 120 + 0 ≤ _)⟩)
      dsimp only [Pt.U, Pt.locs, Pt.cells, Pt.slots] at X99 l99 y99 z99 st99 hQ99
      subst l99 y99 z99
      obtain ⟨rfl, N99q, e99⟩ := hQ99
      have N99 := Fr.app N98 N99q
      obtain ⟨fs, hr, hrun, hended, hE⟩ := X99.leaveW hS98 (Nat.le_trans hk98 (Nat.le_of_eq (congrArg Array.size e99).symm)) (v := some (.int (1 : Int32))) (fun h => by rw [Bd.returns] at h; cases h)
      refine ⟨_, _, pre0 _ ?_, hrun, hended, _, _, rfl, ?_, ?_, own_monoW hE (by decide) (by decide)⟩
      · show Steps p.tables e below (s₁.setTop (mkF m 0 #[.val (.int u0), .val (.int u1), .unset, .unset, .unset, .unset, .unset, .unset, .unset] [])) _
        refine XS.iloadN X0.here hx rfl (hb hby at_0) rfl ?_
        show Steps p.tables e below (s₁.setTop (mkF m 1 #[.val (.int u0), .val (.int u1), .unset, .unset, .unset, .unset, .unset, .unset, .unset] [(.int u0)])) _
        refine st89 _ ?_
        show Steps p.tables e below (T89.setTop (mkF m 4 #[.val (.int u0), .val (.int u1), .unset, .unset, .unset, .unset, .unset, .unset, .unset] [(.ref a_ITEM)])) _
        refine XS.astoreN X89.here hx rfl (hb hby at_4) rfl rfl (l' := #[.val (.int u0), .val (.int u1), .val (.ref a_ITEM), .unset, .unset, .unset, .unset, .unset, .unset]) rfl ?_
        show Steps p.tables e below (T89.setTop (mkF m 5 #[.val (.int u0), .val (.int u1), .val (.ref a_ITEM), .unset, .unset, .unset, .unset, .unset, .unset] [])) _
        refine XS.iloadN X89.here hx rfl (hb hby at_5) rfl ?_
        show Steps p.tables e below (T89.setTop (mkF m 6 #[.val (.int u0), .val (.int u1), .val (.ref a_ITEM), .unset, .unset, .unset, .unset, .unset, .unset] [(.int u1)])) _
        refine st90 _ ?_
        show Steps p.tables e below (T90.setTop (mkF m 9 #[.val (.int u0), .val (.int u1), .val (.ref a_ITEM), .unset, .unset, .unset, .unset, .unset, .unset] [(.ref a_ITEM)])) _
        refine XS.astoreN X90.here hx rfl (hb hby at_9) rfl rfl (l' := #[.val (.int u0), .val (.int u1), .val (.ref a_ITEM), .val (.ref a_ITEM), .unset, .unset, .unset, .unset, .unset]) rfl ?_
        show Steps p.tables e below (T90.setTop (mkF m 10 #[.val (.int u0), .val (.int u1), .val (.ref a_ITEM), .val (.ref a_ITEM), .unset, .unset, .unset, .unset, .unset] [])) _
        refine XS.aloadN X90.here hx rfl (hb hby at_10) rfl rfl ?_
        show Steps p.tables e below (T90.setTop (mkF m 11 #[.val (.int u0), .val (.int u1), .val (.ref a_ITEM), .val (.ref a_ITEM), .unset, .unset, .unset, .unset, .unset] [(.ref a_ITEM)])) _
        refine st91.trans ?_
        show Steps p.tables e below (T91.setTop (mkF m 14 #[.val (.int u0), .val (.int u1), .val (.ref a_ITEM), .val (.ref a_ITEM), .unset, .unset, .unset, .unset, .unset] [(.ref s91)])) _
        refine XS.astore X91.here hx rfl (hb hby at_14) rfl rfl (l' := #[.val (.int u0), .val (.int u1), .val (.ref a_ITEM), .val (.ref a_ITEM), .val (.ref s91), .unset, .unset, .unset, .unset]) rfl ?_
        show Steps p.tables e below (T91.setTop (mkF m 16 #[.val (.int u0), .val (.int u1), .val (.ref a_ITEM), .val (.ref a_ITEM), .val (.ref s91), .unset, .unset, .unset, .unset] [])) _
        refine XS.aloadN X91.here hx rfl (hb hby at_16) rfl rfl ?_
        show Steps p.tables e below (T91.setTop (mkF m 17 #[.val (.int u0), .val (.int u1), .val (.ref a_ITEM), .val (.ref a_ITEM), .val (.ref s91), .unset, .unset, .unset, .unset] [(.ref a_ITEM)])) _
        refine st92.trans ?_
        show Steps p.tables e below (T92.setTop (mkF m 20 #[.val (.int u0), .val (.int u1), .val (.ref a_ITEM), .val (.ref a_ITEM), .val (.ref s91), .unset, .unset, .unset, .unset] [(.ref s92)])) _
        refine XS.astore X92.here hx rfl (hb hby at_20) rfl rfl (l' := #[.val (.int u0), .val (.int u1), .val (.ref a_ITEM), .val (.ref a_ITEM), .val (.ref s91), .val (.ref s92), .unset, .unset, .unset]) rfl ?_
        show Steps p.tables e below (T92.setTop (mkF m 22 #[.val (.int u0), .val (.int u1), .val (.ref a_ITEM), .val (.ref a_ITEM), .val (.ref s91), .val (.ref s92), .unset, .unset, .unset] [])) _
        refine XS.aload X92.here hx rfl (hb hby at_22) rfl rfl ?_
        show Steps p.tables e below (T92.setTop (mkF m 24 #[.val (.int u0), .val (.int u1), .val (.ref a_ITEM), .val (.ref a_ITEM), .val (.ref s91), .val (.ref s92), .unset, .unset, .unset] [(.ref s91)])) _
        refine XS.ifnullNo X92.here hx rfl (hb hby at_24) rfl ?_
        show Steps p.tables e below (T92.setTop (mkF m 27 #[.val (.int u0), .val (.int u1), .val (.ref a_ITEM), .val (.ref a_ITEM), .val (.ref s91), .val (.ref s92), .unset, .unset, .unset] [])) _
        refine XS.aload X92.here hx rfl (hb hby at_27) rfl rfl ?_
        show Steps p.tables e below (T92.setTop (mkF m 29 #[.val (.int u0), .val (.int u1), .val (.ref a_ITEM), .val (.ref a_ITEM), .val (.ref s91), .val (.ref s92), .unset, .unset, .unset] [(.ref s92)])) _
        refine XS.ifnonnullYes X92.here hx rfl (pc0 := 29) (pc' := 34) rfl (hb hby at_29) rfl (by decide) (by decide) ?_
        show Steps p.tables e below (T92.setTop (mkF m 34 #[.val (.int u0), .val (.int u1), .val (.ref a_ITEM), .val (.ref a_ITEM), .val (.ref s91), .val (.ref s92), .unset, .unset, .unset] [])) _
        refine XS.aload X92.here hx rfl (hb hby at_34) rfl rfl ?_
        show Steps p.tables e below (T92.setTop (mkF m 36 #[.val (.int u0), .val (.int u1), .val (.ref a_ITEM), .val (.ref a_ITEM), .val (.ref s91), .val (.ref s92), .unset, .unset, .unset] [(.ref s91)])) _
        refine XS.iloadN X92.here hx rfl (hb hby at_36) rfl ?_
        show Steps p.tables e below (T92.setTop (mkF m 37 #[.val (.int u0), .val (.int u1), .val (.ref a_ITEM), .val (.ref a_ITEM), .val (.ref s91), .val (.ref s92), .unset, .unset, .unset] [(.int u0), (.ref s91)])) _
        refine st93.trans ?_
        show Steps p.tables e below (T93.setTop (mkF m 40 #[.val (.int u0), .val (.int u1), .val (.ref a_ITEM), .val (.ref a_ITEM), .val (.ref s91), .val (.ref s92), .unset, .unset, .unset] [(.ref s93), (.ref s91)])) _
        refine st94.trans ?_
        show Steps p.tables e below (T94.setTop (mkF m 43 #[.val (.int u0), .val (.int u1), .val (.ref a_ITEM), .val (.ref a_ITEM), .val (.ref s91), .val (.ref s92), .unset, .unset, .unset] [(.int (1 : Int32))])) _
        refine XS.ifNo X94.here hx rfl (hb hby at_43) rfl ((if0 _ _).trans (feq (by decide)).1) ?_
        show Steps p.tables e below (T94.setTop (mkF m 46 #[.val (.int u0), .val (.int u1), .val (.ref a_ITEM), .val (.ref a_ITEM), .val (.ref s91), .val (.ref s92), .unset, .unset, .unset] [])) _
        refine XS.aload X94.here hx rfl (hb hby at_46) rfl rfl ?_
        show Steps p.tables e below (T94.setTop (mkF m 48 #[.val (.int u0), .val (.int u1), .val (.ref a_ITEM), .val (.ref a_ITEM), .val (.ref s91), .val (.ref s92), .unset, .unset, .unset] [(.ref s92)])) _
        refine XS.iloadN X94.here hx rfl (hb hby at_48) rfl ?_
        show Steps p.tables e below (T94.setTop (mkF m 49 #[.val (.int u0), .val (.int u1), .val (.ref a_ITEM), .val (.ref a_ITEM), .val (.ref s91), .val (.ref s92), .unset, .unset, .unset] [(.int u1), (.ref s92)])) _
        refine st95.trans ?_
        show Steps p.tables e below (T95.setTop (mkF m 52 #[.val (.int u0), .val (.int u1), .val (.ref a_ITEM), .val (.ref a_ITEM), .val (.ref s91), .val (.ref s92), .unset, .unset, .unset] [(.ref s95), (.ref s92)])) _
        refine st96.trans ?_
        show Steps p.tables e below (T96.setTop (mkF m 55 #[.val (.int u0), .val (.int u1), .val (.ref a_ITEM), .val (.ref a_ITEM), .val (.ref s91), .val (.ref s92), .unset, .unset, .unset] [(.int (1 : Int32))])) _
        refine XS.ifNo X96.here hx rfl (hb hby at_55) rfl ((if0 _ _).trans (feq (by decide)).1) ?_
        show Steps p.tables e below (T96.setTop (mkF m 58 #[.val (.int u0), .val (.int u1), .val (.ref a_ITEM), .val (.ref a_ITEM), .val (.ref s91), .val (.ref s92), .unset, .unset, .unset] [])) _
        refine XS.iconst X96.here hx rfl (hb hby at_58) ?_
        show Steps p.tables e below (T96.setTop (mkF m 59 #[.val (.int u0), .val (.int u1), .val (.ref a_ITEM), .val (.ref a_ITEM), .val (.ref s91), .val (.ref s92), .unset, .unset, .unset] [(.int (1 : Int32))])) _
        refine XS.goto X96.here hx rfl (pc0 := 59) (pc' := 63) rfl (hb hby at_59) (by decide) (by decide) ?_
        show Steps p.tables e below (T96.setTop (mkF m 63 #[.val (.int u0), .val (.int u1), .val (.ref a_ITEM), .val (.ref a_ITEM), .val (.ref s91), .val (.ref s92), .unset, .unset, .unset] [(.int (1 : Int32))])) _
        refine XS.istore X96.here hx rfl (hb hby at_63) rfl (l' := #[.val (.int u0), .val (.int u1), .val (.ref a_ITEM), .val (.ref a_ITEM), .val (.ref s91), .val (.ref s92), .val (.int (1 : Int32)), .unset, .unset]) rfl ?_
        show Steps p.tables e below (T96.setTop (mkF m 65 #[.val (.int u0), .val (.int u1), .val (.ref a_ITEM), .val (.ref a_ITEM), .val (.ref s91), .val (.ref s92), .val (.int (1 : Int32)), .unset, .unset] [])) _
        refine XS.aloadN X96.here hx rfl (hb hby at_65) rfl rfl ?_
        show Steps p.tables e below (T96.setTop (mkF m 66 #[.val (.int u0), .val (.int u1), .val (.ref a_ITEM), .val (.ref a_ITEM), .val (.ref s91), .val (.ref s92), .val (.int (1 : Int32)), .unset, .unset] [(.ref a_ITEM)])) _
        refine XS.aloadN X96.here hx rfl (hb hby at_66) rfl rfl ?_
        show Steps p.tables e below (T96.setTop (mkF m 67 #[.val (.int u0), .val (.int u1), .val (.ref a_ITEM), .val (.ref a_ITEM), .val (.ref s91), .val (.ref s92), .val (.int (1 : Int32)), .unset, .unset] [(.ref a_ITEM), (.ref a_ITEM)])) _
        refine Jvm.RoadKit.acmp (g := (mkF m 67 #[.val (.int u0), .val (.int u1), .val (.ref a_ITEM), .val (.ref a_ITEM), .val (.ref s91), .val (.ref s92), .val (.int (1 : Int32)), .unset, .unset] [(.ref a_ITEM), (.ref a_ITEM)])) X96 hx rfl rfl rfl (pc0 := 67) (pc' := 70) (same := true) rfl (hb hby at_67) rfl (decide_eq_true rfl) (by decide) (by decide) ?_
        show Steps p.tables e below (T96.setTop (mkF m 70 #[.val (.int u0), .val (.int u1), .val (.ref a_ITEM), .val (.ref a_ITEM), .val (.ref s91), .val (.ref s92), .val (.int (1 : Int32)), .unset, .unset] [])) _
        refine XS.iconst X96.here hx rfl (hb hby at_70) ?_
        show Steps p.tables e below (T96.setTop (mkF m 71 #[.val (.int u0), .val (.int u1), .val (.ref a_ITEM), .val (.ref a_ITEM), .val (.ref s91), .val (.ref s92), .val (.int (1 : Int32)), .unset, .unset] [(.int (1 : Int32))])) _
        refine XS.goto X96.here hx rfl (pc0 := 71) (pc' := 75) rfl (hb hby at_71) (by decide) (by decide) ?_
        show Steps p.tables e below (T96.setTop (mkF m 75 #[.val (.int u0), .val (.int u1), .val (.ref a_ITEM), .val (.ref a_ITEM), .val (.ref s91), .val (.ref s92), .val (.int (1 : Int32)), .unset, .unset] [(.int (1 : Int32))])) _
        refine XS.aload X96.here hx rfl (hb hby at_75) rfl rfl ?_
        show Steps p.tables e below (T96.setTop (mkF m 77 #[.val (.int u0), .val (.int u1), .val (.ref a_ITEM), .val (.ref a_ITEM), .val (.ref s91), .val (.ref s92), .val (.int (1 : Int32)), .unset, .unset] [(.ref s91), (.int (1 : Int32))])) _
        refine XS.aload X96.here hx rfl (hb hby at_77) rfl rfl ?_
        show Steps p.tables e below (T96.setTop (mkF m 79 #[.val (.int u0), .val (.int u1), .val (.ref a_ITEM), .val (.ref a_ITEM), .val (.ref s91), .val (.ref s92), .val (.int (1 : Int32)), .unset, .unset] [(.ref s92), (.ref s91), (.int (1 : Int32))])) _
        refine st97.trans ?_
        show Steps p.tables e below (T97.setTop (mkF m 82 #[.val (.int u0), .val (.int u1), .val (.ref a_ITEM), .val (.ref a_ITEM), .val (.ref s91), .val (.ref s92), .val (.int (1 : Int32)), .unset, .unset] [(.int (1 : Int32)), (.int (1 : Int32))])) _
        refine XS.icmpNo X97.here hx rfl (hb hby at_82) rfl (teq (by decide)).2 ?_
        show Steps p.tables e below (T97.setTop (mkF m 85 #[.val (.int u0), .val (.int u1), .val (.ref a_ITEM), .val (.ref a_ITEM), .val (.ref s91), .val (.ref s92), .val (.int (1 : Int32)), .unset, .unset] [])) _
        refine XS.iconst X97.here hx rfl (hb hby at_85) ?_
        show Steps p.tables e below (T97.setTop (mkF m 86 #[.val (.int u0), .val (.int u1), .val (.ref a_ITEM), .val (.ref a_ITEM), .val (.ref s91), .val (.ref s92), .val (.int (1 : Int32)), .unset, .unset] [(.int (1 : Int32))])) _
        refine XS.goto X97.here hx rfl (pc0 := 86) (pc' := 90) rfl (hb hby at_86) (by decide) (by decide) ?_
        show Steps p.tables e below (T97.setTop (mkF m 90 #[.val (.int u0), .val (.int u1), .val (.ref a_ITEM), .val (.ref a_ITEM), .val (.ref s91), .val (.ref s92), .val (.int (1 : Int32)), .unset, .unset] [(.int (1 : Int32))])) _
        refine XS.istore X97.here hx rfl (hb hby at_90) rfl (l' := #[.val (.int u0), .val (.int u1), .val (.ref a_ITEM), .val (.ref a_ITEM), .val (.ref s91), .val (.ref s92), .val (.int (1 : Int32)), .val (.int (1 : Int32)), .unset]) rfl ?_
        show Steps p.tables e below (T97.setTop (mkF m 92 #[.val (.int u0), .val (.int u1), .val (.ref a_ITEM), .val (.ref a_ITEM), .val (.ref s91), .val (.ref s92), .val (.int (1 : Int32)), .val (.int (1 : Int32)), .unset] [])) _
        refine XS.aload X97.here hx rfl (hb hby at_92) rfl rfl ?_
        show Steps p.tables e below (T97.setTop (mkF m 94 #[.val (.int u0), .val (.int u1), .val (.ref a_ITEM), .val (.ref a_ITEM), .val (.ref s91), .val (.ref s92), .val (.int (1 : Int32)), .val (.int (1 : Int32)), .unset] [(.ref s91)])) _
        refine XS.aloadN X97.here hx rfl (hb hby at_94) rfl rfl ?_
        show Steps p.tables e below (T97.setTop (mkF m 95 #[.val (.int u0), .val (.int u1), .val (.ref a_ITEM), .val (.ref a_ITEM), .val (.ref s91), .val (.ref s92), .val (.int (1 : Int32)), .val (.int (1 : Int32)), .unset] [(.ref a_ITEM), (.ref s91)])) _
        refine st98.trans ?_
        show Steps p.tables e below (T98.setTop (mkF m 98 #[.val (.int u0), .val (.int u1), .val (.ref a_ITEM), .val (.ref a_ITEM), .val (.ref s91), .val (.ref s92), .val (.int (1 : Int32)), .val (.int (1 : Int32)), .unset] [(.ref s98), (.ref s91)])) _
        refine st99.trans ?_
        show Steps p.tables e below (T99.setTop (mkF m 101 #[.val (.int u0), .val (.int u1), .val (.ref a_ITEM), .val (.ref a_ITEM), .val (.ref s91), .val (.ref s92), .val (.int (1 : Int32)), .val (.int (1 : Int32)), .unset] [(.int (1 : Int32))])) _
        refine XS.istore X99.here hx rfl (hb hby at_101) rfl (l' := #[.val (.int u0), .val (.int u1), .val (.ref a_ITEM), .val (.ref a_ITEM), .val (.ref s91), .val (.ref s92), .val (.int (1 : Int32)), .val (.int (1 : Int32)), .val (.int (1 : Int32))]) rfl ?_
        show Steps p.tables e below (T99.setTop (mkF m 103 #[.val (.int u0), .val (.int u1), .val (.ref a_ITEM), .val (.ref a_ITEM), .val (.ref s91), .val (.ref s92), .val (.int (1 : Int32)), .val (.int (1 : Int32)), .val (.int (1 : Int32))] [])) _
        refine XS.iload X99.here hx rfl (hb hby at_103) rfl ?_
        show Steps p.tables e below (T99.setTop (mkF m 105 #[.val (.int u0), .val (.int u1), .val (.ref a_ITEM), .val (.ref a_ITEM), .val (.ref s91), .val (.ref s92), .val (.int (1 : Int32)), .val (.int (1 : Int32)), .val (.int (1 : Int32))] [(.int (1 : Int32))])) _
        refine XS.ifNo X99.here hx rfl (hb hby at_105) rfl ((if0 _ _).trans (feq (by decide)).1) ?_
        show Steps p.tables e below (T99.setTop (mkF m 108 #[.val (.int u0), .val (.int u1), .val (.ref a_ITEM), .val (.ref a_ITEM), .val (.ref s91), .val (.ref s92), .val (.int (1 : Int32)), .val (.int (1 : Int32)), .val (.int (1 : Int32))] [])) _
        refine XS.iload X99.here hx rfl (hb hby at_108) rfl ?_
        show Steps p.tables e below (T99.setTop (mkF m 110 #[.val (.int u0), .val (.int u1), .val (.ref a_ITEM), .val (.ref a_ITEM), .val (.ref s91), .val (.ref s92), .val (.int (1 : Int32)), .val (.int (1 : Int32)), .val (.int (1 : Int32))] [(.int (1 : Int32))])) _
        refine XS.ifNo X99.here hx rfl (hb hby at_110) rfl ((if0 _ _).trans (feq (by decide)).1) ?_
        show Steps p.tables e below (T99.setTop (mkF m 113 #[.val (.int u0), .val (.int u1), .val (.ref a_ITEM), .val (.ref a_ITEM), .val (.ref s91), .val (.ref s92), .val (.int (1 : Int32)), .val (.int (1 : Int32)), .val (.int (1 : Int32))] [])) _
        refine XS.iload X99.here hx rfl (hb hby at_113) rfl ?_
        show Steps p.tables e below (T99.setTop (mkF m 115 #[.val (.int u0), .val (.int u1), .val (.ref a_ITEM), .val (.ref a_ITEM), .val (.ref s91), .val (.ref s92), .val (.int (1 : Int32)), .val (.int (1 : Int32)), .val (.int (1 : Int32))] [(.int (1 : Int32))])) _
        refine XS.ifNo X99.here hx rfl (hb hby at_115) rfl ((if0 _ _).trans (feq (by decide)).1) ?_
        show Steps p.tables e below (T99.setTop (mkF m 118 #[.val (.int u0), .val (.int u1), .val (.ref a_ITEM), .val (.ref a_ITEM), .val (.ref s91), .val (.ref s92), .val (.int (1 : Int32)), .val (.int (1 : Int32)), .val (.int (1 : Int32))] [])) _
        refine XS.iconst X99.here hx rfl (hb hby at_118) ?_
        show Steps p.tables e below (T99.setTop (mkF m 119 #[.val (.int u0), .val (.int u1), .val (.ref a_ITEM), .val (.ref a_ITEM), .val (.ref s91), .val (.ref s92), .val (.int (1 : Int32)), .val (.int (1 : Int32)), .val (.int (1 : Int32))] [(.int (1 : Int32))])) _
        refine XS.goto X99.here hx rfl (pc0 := 119) (pc' := 123) rfl (hb hby at_119) (by decide) (by decide) ?_
        show Steps p.tables e below (T99.setTop (mkF m 123 #[.val (.int u0), .val (.int u1), .val (.ref a_ITEM), .val (.ref a_ITEM), .val (.ref s91), .val (.ref s92), .val (.int (1 : Int32)), .val (.int (1 : Int32)), .val (.int (1 : Int32))] [(.int (1 : Int32))])) _
        exact retN X99 hx (t := .boolean) Bd.returns (by simp) (hb hby at_123) hr
      · show Q0 Z u0 u1 a_UPSTREAM a_LIST a_ITEM G_COMPACT h0 n0 _ T99.heap _
        rw [e99]
        exact ⟨rfl, N99⟩
      · show CHr Z EL s.vm s.heap T99.vm T99.heap
        rw [e99]
        rw [hh]
        exact C98.trans (CHv.at X99 hZ (hEL hw) C98.1)
set_option maxRecDepth 65536 in
set_option maxHeartbeats 40000000 in
theorem comes_1 {Post : Tables → Env → Array Value → State → Outcome → State → Prop} (hpost : ∀ tb e args s v u, (limb_1_1.after args s (.returned v) u = true ∧ limb_1_2.after args s (.returned v) u = true ∧ True) → ReturnedEndW s (.returned v) u (Jvm.fieldLocs frame_1_writes args s ++ Jvm.arrayLocs frame_1_arrays args s ++ Jvm.staticLocs frame_1_statics s) 16 6208 → Post tb e args s (.returned v) u) :
    ArmFor flags0 classFile x code maxLocals ret World_1 tables_1 room_1 Calls_1 rest_1 Pre_1 Post := by
  intro l hfl _ _ p e ha hc hk s m args below hf hA hF happ hP
  obtain ⟨hcalls, hrest, hpre⟩ := hP
  obtain ⟨-, -, -, hnamed, -, -, -, hat⟩ := (Spec.applies_iff hf).mp happ
  obtain ⟨hg, hn⟩ := and_e (Cond.before_iff.mp (show (Jvm.Cond.and given_1 narrow_1).before args s = true from hpre))
  obtain ⟨g1, g2⟩ := and_e hg
  obtain ⟨g3, g4⟩ := and_e g2
  obtain ⟨g5, g6⟩ := and_e hn
  obtain ⟨g7, g8⟩ := and_e g6
  obtain ⟨g9, g10⟩ := and_e g8
  obtain ⟨g11, g12⟩ := and_e g10
  obtain ⟨g13, g14⟩ := and_e g12
  obtain ⟨w0, w1, rfl⟩ : ∃ w0 w1 : Value, args = #[w0, w1] := by
    have hs : args.size = 2 := by simpa [Cond.value, given_1] using g1
    obtain ⟨L⟩ := args
    match L, hs with
    | [w0, w1], _ => exact ⟨w0, w1, rfl⟩
  have hw := fun d (hd : d ∈ tables_1) => atoms_spec (ws := Jvm.Cond.code x code maxLocals ret :: tables_1) hat d (List.mem_cons_of_mem _ hd)
  have hfit : Fit s := fun {y c} hc i hi => by
    obtain ⟨ha, rfl⟩ := Array.getElem?_eq_some_iff.mp hc
    have q := List.all_eq_true.mp ((Array.all_eq_true_iff_forall_mem.mp hF) _ (Array.getElem_mem ha)) i (List.mem_range.mpr hi)
    simpa [Array.getElem?_eq_getElem hi] using q
  obtain ⟨hsets, hown0⟩ := atoms_of _ (rest_1_c_eq ▸ (show rest_1_c.before _ s = true from hrest))
  have hr0 := Cond.before_iff.mp hown0
  obtain ⟨i0, ei0⟩ := is_v g3
  obtain rfl : w0 = (.int i0) := Option.some.inj ei0
  obtain ⟨i1, ei1⟩ := is_v g4
  obtain rfl : w1 = (.int i1) := Option.some.inj ei1
  obtain ⟨a_UPSTREAM, ev_UPSTREAM⟩ := exa_v g5
  have E_UPSTREAM : Exa s s.heap a_UPSTREAM "com/example/backfill/backfill/engine/Lane" := Exa.start ev_UPSTREAM g5
  have S_UPSTREAM : Sta s s.heap "com/example/backfill/backfill/engine/Lane" "UPSTREAM" "Lcom/example/backfill/backfill/engine/Lane;" (.ref a_UPSTREAM) := Sta.start ev_UPSTREAM (Or.inr ⟨(hw _ (List.mem_of_getElem? (i := 9) rfl)), (hw _ (List.mem_of_getElem? (i := 10) rfl))⟩)
  obtain ⟨a_ITEM, ev_ITEM⟩ := exa_v g9
  have E_ITEM : Exa s s.heap a_ITEM "com/example/backfill/backfill/engine/Lane" := Exa.start ev_ITEM g9
  have S_ITEM : Sta s s.heap "com/example/backfill/backfill/engine/Lane" "ITEM" "Lcom/example/backfill/backfill/engine/Lane;" (.ref a_ITEM) := Sta.start ev_ITEM (Or.inr ⟨(hw _ (List.mem_of_getElem? (i := 9) rfl)), (hw _ (List.mem_of_getElem? (i := 43) rfl))⟩)
  obtain ⟨a_LIST, ev_LIST⟩ := exa_v g11
  have E_LIST : Exa s s.heap a_LIST "com/example/backfill/backfill/engine/Lane" := Exa.start ev_LIST g11
  have S_LIST : Sta s s.heap "com/example/backfill/backfill/engine/Lane" "LIST" "Lcom/example/backfill/backfill/engine/Lane;" (.ref a_LIST) := Sta.start ev_LIST (Or.inr ⟨(hw _ (List.mem_of_getElem? (i := 9) rfl)), (hw _ (List.mem_of_getElem? (i := 45) rfl))⟩)
  have O_UPSTREAM : Fld s s.heap a_UPSTREAM "java/lang/Enum" "ordinal" "I" (.int (0 : Int32)) := own_fld_int g7 ev_UPSTREAM
  have O_ITEM : Fld s s.heap a_ITEM "java/lang/Enum" "ordinal" "I" (.int (2 : Int32)) := own_fld_int g13 ev_ITEM
  have O_LIST : Fld s s.heap a_LIST "java/lang/Enum" "ordinal" "I" (.int (1 : Int32)) := own_fld_int g14 ev_LIST
  have xC := Cond.before_iff.mp (hsets _ (List.mem_of_getElem? (i := 1) rfl))
  obtain ⟨gC, ev_C⟩ := is_v xC
  have S_COMPACT : Sta s s.heap "java/lang/String" "COMPACT_STRINGS" "Z" (.int gC) := Sta.start ev_C (Or.inl (hsets _ (List.mem_of_getElem? (i := 0) rfl)))
  have P_COMPACT : ¬ gC = 0 := by
    have xN := not_v (Cond.before_iff.mp (hsets _ (List.mem_of_getElem? (i := 2) rfl)))
    intro h0
    subst h0
    have e1 := eq_i (b := .int 0) ev_C (Term.int_eval (0 : Int32)) rfl
    rw [xN] at e1
    cases e1
  have hCH : CHv s EL s.vm s.heap := CHv.start (hEL hw) hcalls.1 (hsets _ (List.mem_of_getElem? (i := 2) rfl)) (hw _ (List.mem_of_getElem? (i := 28) rfl)) (hw _ (List.mem_of_getElem? (i := 27) rfl))
  obtain ⟨n, o, h1, h2, h3, _, L, rfl, ⟨rfl, N⟩, -, hq⟩ := rm0 l s _ hw tables_1 i0 i1 a_UPSTREAM a_LIST a_ITEM gC s.heap s.heap.size (Nat.le_refl _) (Old.start s) S_UPSTREAM S_LIST S_ITEM E_UPSTREAM E_LIST E_ITEM O_UPSTREAM O_LIST O_ITEM (Fld.ne O_UPSTREAM O_LIST (by simp)) (Fld.ne O_UPSTREAM O_ITEM (by simp)) (Fld.ne O_LIST O_ITEM (by simp)) S_COMPACT P_COMPACT p e ha hc hk s m _ below hf ((Spec.applies_iff_loose hf).mp happ).1 ⟨rfl, State.Warmed39.refl s, rfl, hCH⟩ trivial
  refine ⟨n, _, h1, h2, h3, hpost _ _ _ _ _ _ ⟨Cond.after_iff.mpr rfl, Cond.after_iff.mpr (eq_i res_at (Term.int_eval (1)) rfl), trivial⟩ ⟨hq.1, hq.2.1, hq.2.2.1, (hq.2.2.2.sift fun y hy => Or.inr (N y hy)).mono (by decide) (by decide)⟩⟩
theorem main_1_1 : Claimed_1_1 := comes_1 fun _ _ _ _ _ _ h hF => ⟨h.1, hF⟩
theorem main_1_2 : Claimed_1_2 := comes_1 fun _ _ _ _ _ _ h hF => ⟨h.2.1, hF⟩
end Jvm.Pilot.@@N@@
namespace Jvm.Pilot.@@N@@
open Jvm Jvm.ClassFile Sem Op Lib Jvm.Free Jvm.Stand Jvm.Pilot.@@N@@.Jvm.D
/-! MADE BY PROGRAM (witnessworld.py) out of the Statement's table words and the real class files: 18 classes; the members and pool entries that the words name. The judged class is class 1, her method 4. -/
namespace start1
open Jvm.ClassFile
def u (s : String) : CpInfo := .utf8 (stringToUtf16 s)
/-- a pool by its gaps: so many unusable entries, then the entry; so many at the end -/
def gap : Nat → List CpInfo → List CpInfo
  | 0, r => r
  | n + 1, r => .unusable :: gap n r
def poolList (es : List (Nat × CpInfo)) (last : Nat) : List CpInfo := es.foldr (fun e r => gap e.1 (e.2 :: r)) (gap last [])
def pool (es : List (Nat × CpInfo)) (last : Nat) : Array CpInfo := ⟨poolList es last⟩
def fileOf (pool : Array CpInfo) (this : Nat) (attrs : Array Attribute := #[]) (ms : Array MethodInfo := #[]) (fl : Nat := 33) (sup : Nat := 0) (ifs : Array Nat := #[]) (fds : Array FieldInfo := #[]) : ClassFile where
  minorVersion := 0
  majorVersion := 65
  constantPool := pool
  accessFlags := fl
  thisClass := this
  superClass := sup
  interfaces := ifs
  fields := fds
  methods := ms
  attributes := attrs
def plain (name : String) (sup : Option ClassId) : Class where
  name := name
  kind := .ordinary
  loader := none
  accessFlags := 33
  super := sup
  interfaces := #[]
  cf := none
  fields := #[]
  methods := #[]
  instanceTypes := #[]
  staticTypes := #[]
  resolved := #[]
  callSites := []
  init := .initialized
  statics := none
  mirror := none

def pool0 : Array CpInfo := pool [(5, u "<init>"), (0, u "()V"), (1, .class_ 10), (1, u "java/lang/Object")] 113

def k0m0 : Method := { name := "<init>", desc := "()V", sig := { parameters := [], returnType := none }, accessFlags := 1, code := none }
/-- java/lang/Object -/
def k0 : Class := { plain "java/lang/Object" none with
  accessFlags := 33
  interfaces := #[]
  cf := some (fileOf pool0 8 #[] #[{ accessFlags := 1, nameIndex := 5, descriptorIndex := 6, attributes := #[] }] 33 0 #[] #[])
  fields := #[]
  methods := #[k0m0]
  instanceTypes := #[]
  staticTypes := #[]
  resolved := Array.replicate 124 none
  statics := none }

def pool1 : Array CpInfo := pool [(2, .class_ 4), (1, u "java/lang/Object"), (0, u "<init>"), (0, u "()V"), (0, .integer 2147483647), (0, .methodref 9 10), (0, .class_ 11), (0, .nameAndType 12 13), (0, u "com/example/backfill/backfill/engine/LaneRequestsPinLaw"), (0, u "sel"), (0, u "(I)I"), (0, .fieldref 15 16), (0, .class_ 17), (0, .nameAndType 18 19), (0, u "com/example/backfill/backfill/engine/Lane"), (0, u "UPSTREAM"), (0, u "Lcom/example/backfill/backfill/engine/Lane;"), (0, .fieldref 15 21), (0, .nameAndType 22 19), (0, u "LIST"), (0, .fieldref 15 24), (0, .nameAndType 25 19), (0, u "ITEM"), (0, .string 27), (0, u "all requests"), (0, .string 29), (0, u "list pages"), (0, .string 31), (0, u "items"), (0, .methodref 9 33), (0, .nameAndType 34 35), (0, u "pick"), (0, u "(I)Lcom/example/backfill/backfill/engine/Lane;"), (0, .methodref 15 37), (0, .nameAndType 38 39), (0, u "requests"), (0, u "()Ljava/lang/String;"), (0, .methodref 9 41), (0, .nameAndType 42 43), (0, u "expected"), (0, u "(I)Ljava/lang/String;"), (0, .methodref 45 46), (0, .class_ 47), (0, .nameAndType 48 49), (0, u "java/lang/String"), (0, u "equals"), (0, u "(Ljava/lang/Object;)Z"), (3, u "law"), (0, u "(II)Z")] 2

def k1m0 : Method := { name := "<init>", desc := "()V", sig := { parameters := [], returnType := none }, accessFlags := 1, code := none }
def k1c1 : Code := { maxStack := 2, maxLocals := 1, code := method_2_code, exceptionTable := #[], attributes := #[] }
def k1m1 : Method := { name := "sel", desc := "(I)I", sig := { parameters := [.int], returnType := some .int }, accessFlags := 10, code := some k1c1 }
def k1c2 : Code := { maxStack := 2, maxLocals := 2, code := method_3_code, exceptionTable := #[], attributes := #[] }
def k1m2 : Method := { name := "pick", desc := "(I)Lcom/example/backfill/backfill/engine/Lane;", sig := { parameters := [.int], returnType := some (.object "com/example/backfill/backfill/engine/Lane") }, accessFlags := 10, code := some k1c2 }
def k1c3 : Code := { maxStack := 2, maxLocals := 2, code := method_4_code, exceptionTable := #[], attributes := #[] }
def k1m3 : Method := { name := "expected", desc := "(I)Ljava/lang/String;", sig := { parameters := [.int], returnType := some (.object "java/lang/String") }, accessFlags := 10, code := some k1c3 }
def k1c4 : Code := { maxStack := 3, maxLocals := 9, code := code, exceptionTable := #[], attributes := #[] }
def k1m4 : Method := { name := "law", desc := "(II)Z", sig := { parameters := [.int, .int], returnType := some .boolean }, accessFlags := 9, code := some k1c4 }
/-- com/example/backfill/backfill/engine/LaneRequestsPinLaw -/
def k1 : Class := { plain "com/example/backfill/backfill/engine/LaneRequestsPinLaw" (some 0) with
  accessFlags := 49
  interfaces := #[]
  cf := some (fileOf pool1 9 #[] #[{ accessFlags := 1, nameIndex := 5, descriptorIndex := 6, attributes := #[] }, { accessFlags := 10, nameIndex := 12, descriptorIndex := 13, attributes := #[] }, { accessFlags := 10, nameIndex := 34, descriptorIndex := 35, attributes := #[] }, { accessFlags := 10, nameIndex := 42, descriptorIndex := 43, attributes := #[] }, { accessFlags := 9, nameIndex := 53, descriptorIndex := 54, attributes := #[] }] 49 2 #[] #[])
  fields := #[]
  methods := #[k1m0, k1m1, k1m2, k1m3, k1m4]
  instanceTypes := #[]
  staticTypes := #[]
  resolved := Array.replicate 57 none
  statics := none }

def pool2 : Array CpInfo := pool [(1, .class_ 2), (0, u "java/lang/constant/Constable"), (0, .class_ 4), (0, u "java/lang/Object")] 6

/-- java/lang/constant/Constable -/
def k2 : Class := { plain "java/lang/constant/Constable" (some 0) with
  accessFlags := 1537
  interfaces := #[]
  cf := some (fileOf pool2 1 #[] #[] 1537 3 #[] #[])
  fields := #[]
  methods := #[]
  instanceTypes := #[]
  staticTypes := #[]
  resolved := Array.replicate 11 none
  statics := none }

def pool3 : Array CpInfo := pool [(1, .class_ 2), (0, u "java/lang/Comparable"), (0, .class_ 4), (0, u "java/lang/Object")] 7

/-- java/lang/Comparable -/
def k3 : Class := { plain "java/lang/Comparable" (some 0) with
  accessFlags := 1537
  interfaces := #[]
  cf := some (fileOf pool3 1 #[] #[] 1537 3 #[] #[])
  fields := #[]
  methods := #[]
  instanceTypes := #[]
  staticTypes := #[]
  resolved := Array.replicate 12 none
  statics := none }

def pool4 : Array CpInfo := pool [(1, .class_ 2), (0, u "java/io/Serializable"), (0, .class_ 4), (0, u "java/lang/Object")] 2

/-- java/io/Serializable -/
def k4 : Class := { plain "java/io/Serializable" (some 0) with
  accessFlags := 1537
  interfaces := #[]
  cf := some (fileOf pool4 1 #[] #[] 1537 3 #[] #[])
  fields := #[]
  methods := #[]
  instanceTypes := #[]
  staticTypes := #[]
  resolved := Array.replicate 7 none
  statics := none }

def pool5 : Array CpInfo := pool [(2, .class_ 4), (1, u "java/lang/Enum"), (0, u "name"), (0, u "Ljava/lang/String;"), (0, .fieldref 2 8), (0, .nameAndType 9 10), (0, u "ordinal"), (0, u "I"), (1, .class_ 14), (1, u "java/lang/Object"), (4, u "hash"), (86, .class_ 108), (1, u "java/lang/Enum$EnumDesc"), (2, .class_ 112), (0, u "java/lang/constant/Constable"), (0, .class_ 114), (0, u "java/lang/Comparable"), (0, .class_ 116), (0, u "java/io/Serializable"), (9, u "()I")] 77

def k5c0 : Code := { maxStack := 1, maxLocals := 1, code := jdk_37_method_2_code, exceptionTable := #[], attributes := #[] }
def k5m0 : Method := { name := "ordinal", desc := "()I", sig := { parameters := [], returnType := some .int }, accessFlags := 17, code := some k5c0 }
/-- java/lang/Enum -/
def k5 : Class := { plain "java/lang/Enum" (some 0) with
  accessFlags := 1057
  interfaces := #[2, 3, 4]
  cf := some (fileOf pool5 2 #[.nestMembers #[106]] #[{ accessFlags := 17, nameIndex := 9, descriptorIndex := 126, attributes := #[] }] 1057 12 #[111, 113, 115] #[{ accessFlags := 18, nameIndex := 5, descriptorIndex := 6, attributes := #[] }, { accessFlags := 18, nameIndex := 9, descriptorIndex := 10, attributes := #[] }, { accessFlags := 2, nameIndex := 19, descriptorIndex := 10, attributes := #[] }])
  fields := #[{ name := "name", type := (.object "java/lang/String"), accessFlags := 18, slot := 0, constantValue := 0 }, { name := "ordinal", type := .int, accessFlags := 18, slot := 1, constantValue := 0 }, { name := "hash", type := .int, accessFlags := 2, slot := 2, constantValue := 0 }]
  methods := #[k5m0]
  instanceTypes := #[(.object "java/lang/String"), .int, .int]
  staticTypes := #[]
  resolved := Array.replicate 204 none
  statics := none }

def pool6 : Array CpInfo := pool [(1, .class_ 2), (0, u "com/example/backfill/backfill/engine/Lane"), (2, u "UPSTREAM"), (0, u "Lcom/example/backfill/backfill/engine/Lane;"), (2, u "LIST"), (2, u "ITEM"), (2, u "$VALUES"), (0, u "[Lcom/example/backfill/backfill/engine/Lane;"), (6, .class_ 25), (1, u "java/lang/Enum"), (9, u "()Ljava/lang/String;"), (18, .methodref 1 55), (0, .nameAndType 56 57), (0, u "ordinal"), (0, u "()I"), (5, .string 64), (0, u "all requests"), (0, .string 66), (0, u "list pages"), (0, .string 68), (0, u "items"), (11, u "ENDPOINTS"), (0, u "Ljava/util/List;"), (23, u "requests")] 11

def k6c0 : Code := { maxStack := 4, maxLocals := 1, code := prog_19_method_6_code, exceptionTable := #[], attributes := #[] }
def k6m0 : Method := { name := "requests", desc := "()Ljava/lang/String;", sig := { parameters := [], returnType := some (.object "java/lang/String") }, accessFlags := 1, code := some k6c0 }
/-- com/example/backfill/backfill/engine/Lane -/
def k6 : Class := { plain "com/example/backfill/backfill/engine/Lane" (some 5) with
  accessFlags := 16433
  interfaces := #[]
  cf := some (fileOf pool6 1 #[] #[{ accessFlags := 1, nameIndex := 105, descriptorIndex := 35, attributes := #[] }] 16433 23 #[] #[{ accessFlags := 16409, nameIndex := 5, descriptorIndex := 6, attributes := #[] }, { accessFlags := 16409, nameIndex := 9, descriptorIndex := 6, attributes := #[] }, { accessFlags := 16409, nameIndex := 12, descriptorIndex := 6, attributes := #[] }, { accessFlags := 24, nameIndex := 80, descriptorIndex := 81, attributes := #[] }, { accessFlags := 4122, nameIndex := 15, descriptorIndex := 16, attributes := #[] }])
  fields := #[{ name := "UPSTREAM", type := (.object "com/example/backfill/backfill/engine/Lane"), accessFlags := 16409, slot := 0, constantValue := 0 }, { name := "LIST", type := (.object "com/example/backfill/backfill/engine/Lane"), accessFlags := 16409, slot := 1, constantValue := 0 }, { name := "ITEM", type := (.object "com/example/backfill/backfill/engine/Lane"), accessFlags := 16409, slot := 2, constantValue := 0 }, { name := "ENDPOINTS", type := (.object "java/util/List"), accessFlags := 24, slot := 3, constantValue := 0 }, { name := "$VALUES", type := (.array (.object "com/example/backfill/backfill/engine/Lane")), accessFlags := 4122, slot := 4, constantValue := 0 }]
  methods := #[k6m0]
  instanceTypes := #[(.object "java/lang/String"), .int, .int]
  staticTypes := #[(.object "com/example/backfill/backfill/engine/Lane"), (.object "com/example/backfill/backfill/engine/Lane"), (.object "com/example/backfill/backfill/engine/Lane"), (.object "java/util/List"), (.array (.object "com/example/backfill/backfill/engine/Lane"))]
  resolved := Array.replicate 117 none
  statics := some 0 }

def pool7 : Array CpInfo := pool [(2, .class_ 4), (1, u "java/lang/CharSequence"), (42, .class_ 48), (0, u "java/lang/CharSequence$1CodePointIterator"), (10, .class_ 60), (0, u "java/lang/CharSequence$1CharIterator"), (5, .class_ 67), (0, u "java/lang/Object")] 63

/-- java/lang/CharSequence -/
def k7 : Class := { plain "java/lang/CharSequence" (some 0) with
  accessFlags := 1537
  interfaces := #[]
  cf := some (fileOf pool7 2 #[.nestMembers #[47, 59]] #[] 1537 66 #[] #[])
  fields := #[]
  methods := #[]
  instanceTypes := #[]
  staticTypes := #[]
  resolved := Array.replicate 131 none
  statics := none }

def pool8 : Array CpInfo := pool [(1, .class_ 2), (0, u "java/lang/constant/ConstantDesc"), (0, .class_ 4), (0, u "java/lang/Object")] 32

/-- java/lang/constant/ConstantDesc -/
def k8 : Class := { plain "java/lang/constant/ConstantDesc" (some 0) with
  accessFlags := 1537
  interfaces := #[]
  cf := some (fileOf pool8 1 #[] #[] 1537 3 #[] #[])
  fields := #[]
  methods := #[]
  instanceTypes := #[]
  staticTypes := #[]
  resolved := Array.replicate 37 none
  statics := none }

def pool9 : Array CpInfo := pool [(2, .class_ 4), (1, u "java/lang/Object"), (0, u "<init>"), (0, u "()V"), (2, .fieldref 10 11), (0, .class_ 12), (0, .nameAndType 13 14), (0, u "java/lang/String"), (0, u "value"), (0, u "[B"), (0, .fieldref 10 16), (0, .nameAndType 17 18), (0, u "coder"), (0, u "B"), (2, u "hash"), (0, u "I"), (2, u "hashIsZero"), (0, u "Z"), (11, .fieldref 10 39), (0, .nameAndType 40 26), (0, u "COMPACT_STRINGS"), (66, .class_ 109), (1, u "java/lang/StringLatin1"), (431, .methodref 107 542), (0, .nameAndType 543 544), (0, u "equals"), (0, u "([B[B)Z"), (28, u "(Ljava/lang/Object;)Z"), (1, .class_ 576), (0, u "java/lang/CharSequence"), (22, u "CASE_INSENSITIVE_ORDER"), (0, u "Ljava/util/Comparator;"), (500, u "serialPersistentFields"), (0, u "[Ljava/io/ObjectStreamField;"), (0, .class_ 1104), (0, u "java/lang/String$CaseInsensitiveComparator"), (1, .class_ 1107), (0, u "java/io/Serializable"), (0, .class_ 1109), (0, u "java/lang/Comparable"), (0, .class_ 1111), (0, u "java/lang/constant/Constable"), (0, .class_ 1113), (0, u "java/lang/constant/ConstantDesc"), (2, u "serialVersionUID"), (0, u "J"), (3, u "REPL"), (0, u "C"), (2, u "LATIN1"), (1, u "UTF16")] 323

def k9m0 : Method := { name := "<init>", desc := "()V", sig := { parameters := [], returnType := none }, accessFlags := 1, code := none }
def k9c1 : Code := { maxStack := 2, maxLocals := 3, code := jdk_42_method_66_code, exceptionTable := #[], attributes := #[] }
def k9m1 : Method := { name := "equals", desc := "(Ljava/lang/Object;)Z", sig := { parameters := [(.object "java/lang/Object")], returnType := some .boolean }, accessFlags := 1, code := some k9c1 }
/-- java/lang/String -/
def k9 : Class := { plain "java/lang/String" (some 0) with
  accessFlags := 49
  interfaces := #[4, 3, 7, 2, 8]
  cf := some (fileOf pool9 10 #[.nestMembers #[1103]] #[{ accessFlags := 1, nameIndex := 5, descriptorIndex := 6, attributes := #[] }, { accessFlags := 1, nameIndex := 543, descriptorIndex := 573, attributes := #[] }] 49 2 #[1106, 1108, 575, 1110, 1112] #[{ accessFlags := 18, nameIndex := 13, descriptorIndex := 14, attributes := #[] }, { accessFlags := 18, nameIndex := 17, descriptorIndex := 18, attributes := #[] }, { accessFlags := 2, nameIndex := 21, descriptorIndex := 22, attributes := #[] }, { accessFlags := 2, nameIndex := 25, descriptorIndex := 26, attributes := #[] }, { accessFlags := 26, nameIndex := 1116, descriptorIndex := 1117, attributes := #[] }, { accessFlags := 24, nameIndex := 40, descriptorIndex := 26, attributes := #[] }, { accessFlags := 26, nameIndex := 1101, descriptorIndex := 1102, attributes := #[] }, { accessFlags := 26, nameIndex := 1121, descriptorIndex := 1122, attributes := #[] }, { accessFlags := 25, nameIndex := 599, descriptorIndex := 600, attributes := #[] }, { accessFlags := 24, nameIndex := 1125, descriptorIndex := 18, attributes := #[] }, { accessFlags := 24, nameIndex := 1127, descriptorIndex := 18, attributes := #[] }])
  fields := #[{ name := "value", type := (.array .byte), accessFlags := 18, slot := 0, constantValue := 0 }, { name := "coder", type := .byte, accessFlags := 18, slot := 1, constantValue := 0 }, { name := "hash", type := .int, accessFlags := 2, slot := 2, constantValue := 0 }, { name := "hashIsZero", type := .boolean, accessFlags := 2, slot := 3, constantValue := 0 }, { name := "serialVersionUID", type := .long, accessFlags := 26, slot := 0, constantValue := 0 }, { name := "COMPACT_STRINGS", type := .boolean, accessFlags := 24, slot := 1, constantValue := 0 }, { name := "serialPersistentFields", type := (.array (.object "java/io/ObjectStreamField")), accessFlags := 26, slot := 2, constantValue := 0 }, { name := "REPL", type := .char, accessFlags := 26, slot := 3, constantValue := 0 }, { name := "CASE_INSENSITIVE_ORDER", type := (.object "java/util/Comparator"), accessFlags := 25, slot := 4, constantValue := 0 }, { name := "LATIN1", type := .byte, accessFlags := 24, slot := 5, constantValue := 0 }, { name := "UTF16", type := .byte, accessFlags := 24, slot := 6, constantValue := 0 }]
  methods := #[k9m0, k9m1]
  instanceTypes := #[(.array .byte), .byte, .int, .boolean]
  staticTypes := #[.long, .boolean, (.array (.object "java/io/ObjectStreamField")), .char, (.object "java/util/Comparator"), .byte, .byte]
  resolved := Array.replicate 1451 none
  statics := some 1 }

def pool10 : Array CpInfo := pool [(4, .class_ 6), (1, u "java/lang/Object"), (0, u "<init>"), (0, u "()V"), (5, .class_ 16), (1, u "java/lang/StringLatin1"), (104, u "$assertionsDisabled"), (0, u "Z"), (98, .class_ 223), (1, u "java/lang/StringLatin1$LinesSpliterator"), (57, u "equals"), (0, u "([B[B)Z"), (107, .class_ 391), (0, u "java/lang/StringLatin1$CharsSpliterator")] 3

def k10m0 : Method := { name := "<init>", desc := "()V", sig := { parameters := [], returnType := none }, accessFlags := 0, code := none }
def k10c1 : Code := { maxStack := 3, maxLocals := 3, code := jdk_43_method_13_code, exceptionTable := #[], attributes := #[] }
def k10m1 : Method := { name := "equals", desc := "([B[B)Z", sig := { parameters := [(.array .byte), (.array .byte)], returnType := some .boolean }, accessFlags := 9, code := some k10c1 }
/-- java/lang/StringLatin1 -/
def k10 : Class := { plain "java/lang/StringLatin1" (some 0) with
  accessFlags := 48
  interfaces := #[]
  cf := some (fileOf pool10 14 #[.nestMembers #[390, 221]] #[{ accessFlags := 0, nameIndex := 7, descriptorIndex := 8, attributes := #[] }, { accessFlags := 9, nameIndex := 281, descriptorIndex := 282, attributes := #[] }] 48 4 #[] #[{ accessFlags := 4120, nameIndex := 121, descriptorIndex := 122, attributes := #[] }])
  fields := #[{ name := "$assertionsDisabled", type := .boolean, accessFlags := 4120, slot := 0, constantValue := 0 }]
  methods := #[k10m0, k10m1]
  instanceTypes := #[]
  staticTypes := #[.boolean]
  resolved := Array.replicate 395 none
  statics := none }

def pool11 : Array CpInfo := pool [(2, .class_ 4), (1, u "java/lang/Object"), (0, u "<init>"), (0, u "()V"), (17, .class_ 26), (1, u "jdk/internal/util/Preconditions"), (28, .class_ 56), (0, u "jdk/internal/util/Preconditions$4"), (57, .class_ 115), (0, u "jdk/internal/util/Preconditions$1"), (7, u "SIOOBE_FORMATTER"), (0, u "Ljava/util/function/BiFunction;"), (0, .class_ 126), (0, u "jdk/internal/util/Preconditions$2"), (3, u "AIOOBE_FORMATTER"), (0, .class_ 132), (0, u "jdk/internal/util/Preconditions$3"), (3, u "IOOBE_FORMATTER")] 57

def k11m0 : Method := { name := "<init>", desc := "()V", sig := { parameters := [], returnType := none }, accessFlags := 1, code := none }
/-- jdk/internal/util/Preconditions -/
def k11 : Class := { plain "jdk/internal/util/Preconditions" (some 0) with
  accessFlags := 33
  interfaces := #[]
  cf := some (fileOf pool11 24 #[.nestMembers #[55, 131, 125, 114]] #[{ accessFlags := 1, nameIndex := 5, descriptorIndex := 6, attributes := #[] }] 33 2 #[] #[{ accessFlags := 25, nameIndex := 123, descriptorIndex := 124, attributes := #[] }, { accessFlags := 25, nameIndex := 130, descriptorIndex := 124, attributes := #[] }, { accessFlags := 25, nameIndex := 136, descriptorIndex := 124, attributes := #[] }])
  fields := #[{ name := "SIOOBE_FORMATTER", type := (.object "java/util/function/BiFunction"), accessFlags := 25, slot := 0, constantValue := 0 }, { name := "AIOOBE_FORMATTER", type := (.object "java/util/function/BiFunction"), accessFlags := 25, slot := 1, constantValue := 0 }, { name := "IOOBE_FORMATTER", type := (.object "java/util/function/BiFunction"), accessFlags := 25, slot := 2, constantValue := 0 }]
  methods := #[k11m0]
  instanceTypes := #[]
  staticTypes := #[(.object "java/util/function/BiFunction"), (.object "java/util/function/BiFunction"), (.object "java/util/function/BiFunction")]
  resolved := Array.replicate 194 none
  statics := some 2 }

def pool12 : Array CpInfo := pool [(9, u "<init>"), (6, .class_ 18), (1, u "java/lang/Object"), (0, u "()V"), (1, .class_ 23), (1, u "jdk/internal/util/ArraysSupport"), (0, u "LOG2_ARRAY_LONG_INDEX_SCALE"), (0, u "I"), (2, u "U"), (0, u "Ljdk/internal/misc/Unsafe;"), (8, u "BIG_ENDIAN"), (0, u "Z"), (8, u "LOG2_BYTE_BIT_SIZE"), (4, u "LOG2_ARRAY_INT_INDEX_SCALE"), (54, u "JLA"), (0, u "Ljdk/internal/access/JavaLangAccess;"), (11, u "LOG2_ARRAY_BOOLEAN_INDEX_SCALE"), (9, u "LOG2_ARRAY_BYTE_INDEX_SCALE"), (5, u "LOG2_ARRAY_CHAR_INDEX_SCALE"), (5, u "LOG2_ARRAY_SHORT_INDEX_SCALE"), (18, u "LOG2_ARRAY_FLOAT_INDEX_SCALE"), (24, u "LOG2_ARRAY_DOUBLE_INDEX_SCALE"), (89, u "T_BOOLEAN"), (2, u "T_CHAR"), (1, u "T_FLOAT"), (1, u "T_DOUBLE"), (1, u "T_BYTE"), (1, u "T_SHORT"), (1, u "T_INT"), (1, u "T_LONG"), (1, u "SOFT_MAX_ARRAY_LENGTH")] 83

def k12m0 : Method := { name := "<init>", desc := "()V", sig := { parameters := [], returnType := none }, accessFlags := 2, code := none }
/-- jdk/internal/util/ArraysSupport -/
def k12 : Class := { plain "jdk/internal/util/ArraysSupport" (some 0) with
  accessFlags := 33
  interfaces := #[]
  cf := some (fileOf pool12 21 #[] #[{ accessFlags := 2, nameIndex := 9, descriptorIndex := 19, attributes := #[] }] 33 16 #[] #[{ accessFlags := 24, nameIndex := 28, descriptorIndex := 29, attributes := #[] }, { accessFlags := 26, nameIndex := 38, descriptorIndex := 39, attributes := #[] }, { accessFlags := 25, nameIndex := 121, descriptorIndex := 25, attributes := #[] }, { accessFlags := 25, nameIndex := 131, descriptorIndex := 25, attributes := #[] }, { accessFlags := 25, nameIndex := 137, descriptorIndex := 25, attributes := #[] }, { accessFlags := 25, nameIndex := 143, descriptorIndex := 25, attributes := #[] }, { accessFlags := 25, nameIndex := 53, descriptorIndex := 25, attributes := #[] }, { accessFlags := 25, nameIndex := 24, descriptorIndex := 25, attributes := #[] }, { accessFlags := 25, nameIndex := 162, descriptorIndex := 25, attributes := #[] }, { accessFlags := 25, nameIndex := 187, descriptorIndex := 25, attributes := #[] }, { accessFlags := 26, nameIndex := 48, descriptorIndex := 25, attributes := #[] }, { accessFlags := 25, nameIndex := 277, descriptorIndex := 25, attributes := #[] }, { accessFlags := 25, nameIndex := 280, descriptorIndex := 25, attributes := #[] }, { accessFlags := 25, nameIndex := 282, descriptorIndex := 25, attributes := #[] }, { accessFlags := 25, nameIndex := 284, descriptorIndex := 25, attributes := #[] }, { accessFlags := 25, nameIndex := 286, descriptorIndex := 25, attributes := #[] }, { accessFlags := 25, nameIndex := 288, descriptorIndex := 25, attributes := #[] }, { accessFlags := 25, nameIndex := 290, descriptorIndex := 25, attributes := #[] }, { accessFlags := 25, nameIndex := 292, descriptorIndex := 25, attributes := #[] }, { accessFlags := 26, nameIndex := 108, descriptorIndex := 109, attributes := #[] }, { accessFlags := 25, nameIndex := 294, descriptorIndex := 25, attributes := #[] }])
  fields := #[{ name := "U", type := (.object "jdk/internal/misc/Unsafe"), accessFlags := 24, slot := 0, constantValue := 0 }, { name := "BIG_ENDIAN", type := .boolean, accessFlags := 26, slot := 1, constantValue := 0 }, { name := "LOG2_ARRAY_BOOLEAN_INDEX_SCALE", type := .int, accessFlags := 25, slot := 2, constantValue := 0 }, { name := "LOG2_ARRAY_BYTE_INDEX_SCALE", type := .int, accessFlags := 25, slot := 3, constantValue := 0 }, { name := "LOG2_ARRAY_CHAR_INDEX_SCALE", type := .int, accessFlags := 25, slot := 4, constantValue := 0 }, { name := "LOG2_ARRAY_SHORT_INDEX_SCALE", type := .int, accessFlags := 25, slot := 5, constantValue := 0 }, { name := "LOG2_ARRAY_INT_INDEX_SCALE", type := .int, accessFlags := 25, slot := 6, constantValue := 0 }, { name := "LOG2_ARRAY_LONG_INDEX_SCALE", type := .int, accessFlags := 25, slot := 7, constantValue := 0 }, { name := "LOG2_ARRAY_FLOAT_INDEX_SCALE", type := .int, accessFlags := 25, slot := 8, constantValue := 0 }, { name := "LOG2_ARRAY_DOUBLE_INDEX_SCALE", type := .int, accessFlags := 25, slot := 9, constantValue := 0 }, { name := "LOG2_BYTE_BIT_SIZE", type := .int, accessFlags := 26, slot := 10, constantValue := 0 }, { name := "T_BOOLEAN", type := .int, accessFlags := 25, slot := 11, constantValue := 0 }, { name := "T_CHAR", type := .int, accessFlags := 25, slot := 12, constantValue := 0 }, { name := "T_FLOAT", type := .int, accessFlags := 25, slot := 13, constantValue := 0 }, { name := "T_DOUBLE", type := .int, accessFlags := 25, slot := 14, constantValue := 0 }, { name := "T_BYTE", type := .int, accessFlags := 25, slot := 15, constantValue := 0 }, { name := "T_SHORT", type := .int, accessFlags := 25, slot := 16, constantValue := 0 }, { name := "T_INT", type := .int, accessFlags := 25, slot := 17, constantValue := 0 }, { name := "T_LONG", type := .int, accessFlags := 25, slot := 18, constantValue := 0 }, { name := "JLA", type := (.object "jdk/internal/access/JavaLangAccess"), accessFlags := 26, slot := 19, constantValue := 0 }, { name := "SOFT_MAX_ARRAY_LENGTH", type := .int, accessFlags := 25, slot := 20, constantValue := 0 }]
  methods := #[k12m0]
  instanceTypes := #[]
  staticTypes := #[(.object "jdk/internal/misc/Unsafe"), .boolean, .int, .int, .int, .int, .int, .int, .int, .int, .int, .int, .int, .int, .int, .int, .int, .int, .int, (.object "jdk/internal/access/JavaLangAccess"), .int]
  resolved := Array.replicate 378 none
  statics := none }

def pool13 : Array CpInfo := pool [(1, u "java/lang/Cloneable"), (0, .class_ 1), (0, u "java/lang/Object"), (0, .class_ 3)] 3

/-- java/lang/Cloneable -/
def k13 : Class := { plain "java/lang/Cloneable" (some 0) with
  accessFlags := 1537
  interfaces := #[]
  cf := some (fileOf pool13 2 #[] #[] 1537 4 #[] #[])
  fields := #[]
  methods := #[]
  instanceTypes := #[]
  staticTypes := #[]
  resolved := Array.replicate 8 none
  statics := none }

/-- the primitive byte -/
def k14 : Class := { plain "byte" none with kind := .primitive 'B', accessFlags := 0x411 }
/-- [B -/
def k15 : Class := { plain "[B" (some 0) with kind := .array 14 .byte, interfaces := #[13, 4], accessFlags := 1041 }

/-- the primitive int -/
def k16 : Class := { plain "int" none with kind := .primitive 'I', accessFlags := 0x411 }
/-- [I -/
def k17 : Class := { plain "[I" (some 0) with kind := .array 16 .int, interfaces := #[13, 4], accessFlags := 1041 }

def heap : Heap := #[{ cls := 6, slots := #[.ref 3, .ref 4, .ref 5, .null, .null], vm := .statics 6 },
  { cls := 9, slots := #[.long 0, .int 1, .null, .int 0, .null, .int 0, .int 0], vm := .statics 9 },
  { cls := 11, slots := #[.null, .null, .null], vm := .statics 11 },
  { cls := 6, slots := #[.null, .int 0, .int 0], vm := .none },
  { cls := 6, slots := #[.null, .int 1, .int 0], vm := .none },
  { cls := 6, slots := #[.null, .int 2, .int 0], vm := .none }]
def classes : Array Class := #[k0, k1, k2, k3, k4, k5, k6, k7, k8, k9, k10, k11, k12, k13, k14, k15, k16, k17]
def interned : List (Array UInt16 × Addr) := []
def slotsUsed : Nat := 24
def theMethod : MethodId := ⟨1, 4⟩
def args0 : Array Value := #[.int 5, .int 1]
def aboutOver (below : List Frame) : State where
  vm := { classes := classes, interned := interned.toArray }
  heap := heap
  slotsUsed := slotsUsed
  threads := #[{ frames := .invoking theMethod args0 :: below }]
def below0 : List Frame := [.native { method := ⟨0, 0⟩, args := #[] }]
def about1 : State := aboutOver below0
def p0 : Program := .bare "" "" ""
def e0 : Env := launch0.env 0 0 0
theorem w_frames : about1.frames = Frame.invoking theMethod args0 :: below0 := rfl
set_option maxRecDepth 65536 in
theorem w_args : argsFit about1.vm theMethod args0 = true := by decide +kernel
set_option maxRecDepth 65536 in
theorem w_heap : heapFits about1 = true := by decide +kernel
set_option maxRecDepth 65536 in
theorem w_runnable : about1.curStatus? = some .runnable := by decide +kernel
set_option maxRecDepth 65536 in
theorem w_alone : about1.alone = true := by decide +kernel
set_option maxRecDepth 65536 in
theorem w_named : about1.methodNamed? x = some theMethod := by decide +kernel
set_option maxRecDepth 65536 in
theorem w_hears : about1.hears theMethod below0 = true := by decide +kernel
set_option maxRecDepth 65536 in
theorem w_ripe : about1.ripe theMethod args0 below0 = true := by decide +kernel
theorem w_running : about1.status = .running := rfl
set_option maxRecDepth 65536 in
theorem w_room : about1.hasRoom e0.platform room_1 = true :=
  launch0.hasRoom_least _ room_1 (by decide +kernel) (by decide +kernel) (by decide +kernel) (by decide +kernel) (by decide +kernel) (by decide +kernel)
theorem allAtoms_all (ts : List Jvm.Cond) (a : Array Jvm.Value) (st : Jvm.State) : (allAtoms ts).before a st = ts.all (fun c => c.before a st) := by
  induction ts with
  | nil => rfl
  | cons c t ih =>
    show (Jvm.Cond.and c (allAtoms t)).before a st = _
    rw [Jvm.Cond.before_and, ih, List.all_cons]
def words1 : List Jvm.Cond := Jvm.Cond.code x code maxLocals ret :: tables_1
/-- a 'code' word, met by the world's own term for the bytes: nothing is compared byte by byte -/
theorem code_word {y : MethodName} {bytes : ByteArray} {mx : Nat} {rt : Option FieldType} {a : Array Value} {s : State} {m : MethodId} {meth : Method} {c : Code} (h1 : s.methodNamed? y = some m) (h2 : s.vm.method? m = some meth) (h3 : meth.code = some c) (h4 : c.code = bytes)
    (h5 : (c.maxLocals == mx && c.exceptionTable.isEmpty && decide (c.maxStack ≤ mostOperands) && decide (meth.sig.returnType = rt) && !meth.locks && decide (parseMethodDescriptor y.desc = some meth.sig)) = true) : (Jvm.Cond.code y bytes mx rt).before a s = true := by
  simp only [Bool.and_eq_true, beq_iff_eq, Bool.not_eq_true', decide_eq_true_eq] at h5
  obtain ⟨⟨⟨⟨⟨g1, g2⟩, g3⟩, g4⟩, g5⟩, g6⟩ := h5
  simp [Cond.before, Cond.holds, Cond.value, h1, h2, h3, h4, g1, g2, g3, g4, g5, g6]
def isCode : Jvm.Cond → Bool
  | .code _ _ _ _ => true
  | _ => false
theorem all_split {L : List Jvm.Cond} {P : Jvm.Cond → Bool} (h1 : L.all (fun c => isCode c || P c) = true) (h2 : ∀ c ∈ L.filter isCode, P c = true) : L.all P = true := by
  refine List.all_eq_true.mpr fun c hc => ?_
  have h := List.all_eq_true.mp h1 c hc
  rcases Bool.eq_false_or_eq_true (isCode c) with hi | hi
  · exact h2 c (List.mem_filter.mpr ⟨hc, hi⟩)
  · simpa [hi] using h
set_option maxRecDepth 65536 in
theorem w_c0 : (Jvm.Cond.code x code maxLocals ret).before args0 about1 = true := code_word (m := ⟨1, 4⟩) (meth := k1m4) (c := k1c4) (by decide +kernel) rfl rfl rfl (by decide +kernel)
set_option maxRecDepth 65536 in
theorem w_c1 : (Jvm.Cond.code ({ cls := "com/example/backfill/backfill/engine/LaneRequestsPinLaw", name := "pick", desc := "(I)Lcom/example/backfill/backfill/engine/Lane;" } : Jvm.MethodName) method_3_code (2 : Nat) (Option.some (Jvm.ClassFile.FieldType.object "com/example/backfill/backfill/engine/Lane"))).before args0 about1 = true := code_word (m := ⟨1, 2⟩) (meth := k1m2) (c := k1c2) (by decide +kernel) rfl rfl rfl (by decide +kernel)
set_option maxRecDepth 65536 in
theorem w_c2 : (Jvm.Cond.code ({ cls := "com/example/backfill/backfill/engine/LaneRequestsPinLaw", name := "sel", desc := "(I)I" } : Jvm.MethodName) method_2_code (1 : Nat) (Option.some Jvm.ClassFile.FieldType.int)).before args0 about1 = true := code_word (m := ⟨1, 1⟩) (meth := k1m1) (c := k1c1) (by decide +kernel) rfl rfl rfl (by decide +kernel)
set_option maxRecDepth 65536 in
theorem w_c3 : (Jvm.Cond.code ({ cls := "com/example/backfill/backfill/engine/Lane", name := "requests", desc := "()Ljava/lang/String;" } : Jvm.MethodName) prog_19_method_6_code (1 : Nat) (Option.some (Jvm.ClassFile.FieldType.object "java/lang/String"))).before args0 about1 = true := code_word (m := ⟨6, 0⟩) (meth := k6m0) (c := k6c0) (by decide +kernel) rfl rfl rfl (by decide +kernel)
set_option maxRecDepth 65536 in
theorem w_c4 : (Jvm.Cond.code ({ cls := "java/lang/Enum", name := "ordinal", desc := "()I" } : Jvm.MethodName) jdk_37_method_2_code (1 : Nat) (Option.some Jvm.ClassFile.FieldType.int)).before args0 about1 = true := code_word (m := ⟨5, 0⟩) (meth := k5m0) (c := k5c0) (by decide +kernel) rfl rfl rfl (by decide +kernel)
set_option maxRecDepth 65536 in
theorem w_c5 : (Jvm.Cond.code ({ cls := "com/example/backfill/backfill/engine/LaneRequestsPinLaw", name := "expected", desc := "(I)Ljava/lang/String;" } : Jvm.MethodName) method_4_code (2 : Nat) (Option.some (Jvm.ClassFile.FieldType.object "java/lang/String"))).before args0 about1 = true := code_word (m := ⟨1, 3⟩) (meth := k1m3) (c := k1c3) (by decide +kernel) rfl rfl rfl (by decide +kernel)
set_option maxRecDepth 65536 in
theorem w_c6 : (Jvm.Cond.code ({ cls := "java/lang/String", name := "equals", desc := "(Ljava/lang/Object;)Z" } : Jvm.MethodName) jdk_42_method_66_code (3 : Nat) (Option.some Jvm.ClassFile.FieldType.boolean)).before args0 about1 = true := code_word (m := ⟨9, 1⟩) (meth := k9m1) (c := k9c1) (by decide +kernel) rfl rfl rfl (by decide +kernel)
set_option maxRecDepth 65536 in
theorem w_c7 : (Jvm.Cond.code ({ cls := "java/lang/StringLatin1", name := "equals", desc := "([B[B)Z" } : Jvm.MethodName) jdk_43_method_13_code (3 : Nat) (Option.some Jvm.ClassFile.FieldType.boolean)).before args0 about1 = true := code_word (m := ⟨10, 1⟩) (meth := k10m1) (c := k10c1) (by decide +kernel) rfl rfl rfl (by decide +kernel)
def codes1 : List Jvm.Cond := [Jvm.Cond.code x code maxLocals ret, Jvm.Cond.code ({ cls := "com/example/backfill/backfill/engine/LaneRequestsPinLaw", name := "pick", desc := "(I)Lcom/example/backfill/backfill/engine/Lane;" } : Jvm.MethodName) method_3_code (2 : Nat) (Option.some (Jvm.ClassFile.FieldType.object "com/example/backfill/backfill/engine/Lane")), Jvm.Cond.code ({ cls := "com/example/backfill/backfill/engine/LaneRequestsPinLaw", name := "sel", desc := "(I)I" } : Jvm.MethodName) method_2_code (1 : Nat) (Option.some Jvm.ClassFile.FieldType.int), Jvm.Cond.code ({ cls := "com/example/backfill/backfill/engine/Lane", name := "requests", desc := "()Ljava/lang/String;" } : Jvm.MethodName) prog_19_method_6_code (1 : Nat) (Option.some (Jvm.ClassFile.FieldType.object "java/lang/String")), Jvm.Cond.code ({ cls := "java/lang/Enum", name := "ordinal", desc := "()I" } : Jvm.MethodName) jdk_37_method_2_code (1 : Nat) (Option.some Jvm.ClassFile.FieldType.int), Jvm.Cond.code ({ cls := "com/example/backfill/backfill/engine/LaneRequestsPinLaw", name := "expected", desc := "(I)Ljava/lang/String;" } : Jvm.MethodName) method_4_code (2 : Nat) (Option.some (Jvm.ClassFile.FieldType.object "java/lang/String")), Jvm.Cond.code ({ cls := "java/lang/String", name := "equals", desc := "(Ljava/lang/Object;)Z" } : Jvm.MethodName) jdk_42_method_66_code (3 : Nat) (Option.some Jvm.ClassFile.FieldType.boolean), Jvm.Cond.code ({ cls := "java/lang/StringLatin1", name := "equals", desc := "([B[B)Z" } : Jvm.MethodName) jdk_43_method_13_code (3 : Nat) (Option.some Jvm.ClassFile.FieldType.boolean)]
set_option maxRecDepth 65536 in
theorem codes_eq : words1.filter isCode = codes1 := rfl
theorem w_codes : ∀ c ∈ words1.filter isCode, c.before args0 about1 = true := by
  rw [codes_eq]
  intro c hc
  simp only [codes1, List.mem_cons, List.not_mem_nil, or_false] at hc
  rcases hc with rfl | rfl | rfl | rfl | rfl | rfl | rfl | rfl
  · exact w_c0
  · exact w_c1
  · exact w_c2
  · exact w_c3
  · exact w_c4
  · exact w_c5
  · exact w_c6
  · exact w_c7
set_option maxRecDepth 65536 in
theorem w_t1 : (words1.take 24).all (fun c => isCode c || c.before args0 about1) = true := by decide +kernel
set_option maxRecDepth 65536 in
theorem w_t2 : ((words1.drop 24).take 24).all (fun c => isCode c || c.before args0 about1) = true := by decide +kernel
set_option maxRecDepth 65536 in
theorem w_t3 : ((words1.drop 24).drop 24).all (fun c => isCode c || c.before args0 about1) = true := by decide +kernel
theorem w_tables : (allAtoms (Jvm.Cond.code x code maxLocals ret :: tables_1)).before args0 about1 = true := by
  rw [allAtoms_all]
  show words1.all (fun c => c.before args0 about1) = true
  refine all_split ?_ w_codes
  rw [← List.take_append_drop 24 words1, List.all_append, w_t1, ← List.take_append_drop 24 (words1.drop 24), List.all_append, w_t2, w_t3]
  rfl
set_option maxRecDepth 65536 in
theorem w_rest : rest_1_c.before args0 about1 = true := by decide +kernel
set_option maxRecDepth 65536 in
theorem w_case : (Jvm.Cond.and given_1 narrow_1).before args0 about1 = true := by decide +kernel
set_option maxRecDepth 65536 in
theorem w_consts : constsHeld consts_1 about1 := Jvm.Lit.constsHeldB_iff.mp (by decide +kernel)
theorem w_applies : (headSpec (Jvm.Cond.code x code maxLocals ret :: tables_1) room_1).applies x e0.platform about1 = true :=
  (Spec.applies_iff w_frames).mpr ⟨w_running, w_runnable, w_alone, w_named, w_hears, w_ripe, w_room, w_tables⟩
theorem atStart : AtStart classFile x code maxLocals ret World_1 tables_1 room_1 Calls_1 rest_1 Pre_1 launch0 p0 e0 about1 theMethod args0 below0 :=
  ⟨lists_1, trivial, launch0.admits_env _ _ _, launch0.least_env, fairChoices_fair.cas, fairChoices_fair.clock, w_frames, w_args, w_heap, w_applies, ⟨w_consts, trivial⟩, w_rest, w_case⟩
end start1
theorem witness_1 : WitnessClaimed_1 := ⟨start1.p0, start1.e0, start1.about1, start1.theMethod, start1.args0, start1.below0, start1.atStart⟩
end Jvm.Pilot.@@N@@
