import JvmDerived
import JvmDerived.Pilot.@@N@@Statement
import JvmDerived.Pilot.@@N@@Code
set_option linter.unusedVariables false
set_option linter.unusedSimpArgs false
@@BLOCK:NumsL.lean.txt@@
namespace Jvm.RoadKit
open Sem ClassFile Op Lib Jvm.Stand Jvm.Free Jvm.LawKit
section New
variable {p : Program} {l : Launch} {e : Env} {R : Room} {s : State} {m : MethodId} {args : Array Value} {below : List Frame} {meth : Method} {c : Code} {T : State} {locs : List Loc} {cells slots : Nat}
theorem retI (X : Stand p l e R s m args below meth c T locs cells slots) (hx : p.tables.exec = Jvm.exec) {pc : Nat} {Ls : Array Slot} {z : Int32} {rest : List Value} (hret : meth.sig.returnType = some .int) (hd : decode c.code pc = .ok (.ireturn, 1)) {fs : List Frame}
    (hl : ∀ (f : JFrame) (acts : List Action), f.method = m → f.locked = none → f.entered = [] → (doReturn e (T.setTop f) acts (some (.int z))).1 = T.setFrames fs) : Steps p.tables e below (T.setTop (mkF m pc Ls (.int z :: rest))) (T.setFrames fs) := by
  have hm' : T.vm.method? m = some meth := X.method'
  have hn : narrow .int (.int z) = .int z := rfl
  show Steps p.tables e below (T.setTop { method := m, pc := pc, locals := Ls, stack := _ :: rest, locked := none }) _
  jvm_step X.here [X.here.top, hx, hd, hm', hret, hn]
  first | (intro acts; rw [hl _ acts rfl rfl rfl]) | rw [hl _ _ rfl rfl rfl]
  exact Steps.refl _
end New
end Jvm.RoadKit
namespace Jvm.Pilot.@@N@@
open Jvm Jvm.ClassFile Sem Op Lib Jvm.Free Jvm.Stand Jvm.LawKit Jvm.RoadKit Bundle Jvm.Pilot.@@N@@.Jvm.D
def absG (g d : Int32) : Int32 := if (g &&& (8388611 : Int32)) = 8388611 then (((g &&& (-8388612 : Int32)) ||| (if d = 1 then 5 else 3)) &&& (-8388609 : Int32)) else if (g &&& (8388613 : Int32)) = 8388613 then (((g &&& (-8388614 : Int32)) ||| (if d = 1 then 3 else 5)) &&& (-8388609 : Int32)) else (g &&& (-8388609 : Int32))
def expH (g d : Int32) : Int32 := if (g &&& (8388608 : Int32)) = 0 then (g &&& (7 : Int32)) else if d = 1 then (if (g &&& (7 : Int32)) = 3 then 5 else if (g &&& (7 : Int32)) = 5 then 3 else if (g &&& (7 : Int32)) = 7 then 5 else (g &&& (7 : Int32))) else (g &&& (7 : Int32))
theorem own_dis (g a b : Int32) : g &&& (a ||| b) = (g &&& a) ||| (g &&& b) := by
  apply Int32.toBitVec_inj.mp
  simp only [Int32.toBitVec_and, Int32.toBitVec_or]
  exact BitVec.and_or_distrib_left
theorem own_disr (a b g : Int32) : (a ||| b) &&& g = (a &&& g) ||| (b &&& g) := by
  apply Int32.toBitVec_inj.mp
  simp only [Int32.toBitVec_and, Int32.toBitVec_or]
  exact BitVec.and_or_distrib_right
theorem own_pow (g : Int32) (i : Nat) {k : Int32} (hk : k.toBitVec = BitVec.twoPow 32 i) : (g &&& k) = 0 ∨ (g &&& k) = k := by
  have e : (g &&& k).toBitVec = if g.toBitVec.getLsbD i then BitVec.twoPow 32 i else 0#32 := by
    rw [Int32.toBitVec_and, hk, BitVec.and_twoPow]
  cases hb : g.toBitVec.getLsbD i with
  | true => right; apply Int32.toBitVec_inj.mp; rw [e, hb, hk]; rfl
  | false => left; apply Int32.toBitVec_inj.mp; rw [e, hb]; rfl
theorem own_R (g : Int32) : (g &&& (-8388616 : Int32)) &&& (-8388609 : Int32) = g &&& (-8388616 : Int32) := by
  rw [Int32.and_assoc]; rfl
theorem own_mask {g : Int32} (m1 : Int32) : g &&& m1 = g &&& m1 := rfl
theorem abs_eq (g d : Int32) (hd : d = 0 ∨ d = 1) : absG g d = (g &&& (-8388616 : Int32)) ||| expH g d := by
  have e1 : g &&& (8388611 : Int32) = (g &&& (8388608 : Int32)) ||| ((g &&& (2 : Int32)) ||| (g &&& (1 : Int32))) := by rw [← own_dis, ← own_dis]; rfl
  have e2 : g &&& (8388613 : Int32) = (g &&& (8388608 : Int32)) ||| ((g &&& (4 : Int32)) ||| (g &&& (1 : Int32))) := by rw [← own_dis, ← own_dis]; rfl
  have e3 : g &&& (7 : Int32) = (g &&& (4 : Int32)) ||| ((g &&& (2 : Int32)) ||| (g &&& (1 : Int32))) := by rw [← own_dis, ← own_dis]; rfl
  have e4 : g &&& (-8388612 : Int32) = (g &&& (-8388616 : Int32)) ||| (g &&& (4 : Int32)) := by rw [← own_dis]; rfl
  have e5 : g &&& (-8388614 : Int32) = (g &&& (-8388616 : Int32)) ||| (g &&& (2 : Int32)) := by rw [← own_dis]; rfl
  have e6 : g &&& (-8388609 : Int32) = (g &&& (-8388616 : Int32)) ||| (g &&& (7 : Int32)) := by rw [← own_dis]; rfl
  have r := own_R g
  rw [e3] at e6
  unfold absG expH
  rw [e1, e2, e3, e4, e5, e6]
  have f1 := own_pow g 0 (k := 1) (by decide)
  have f2 := own_pow g 1 (k := 2) (by decide)
  have f4 := own_pow g 2 (k := 4) (by decide)
  have f8 := own_pow g 23 (k := 8388608) (by decide)
  generalize (g &&& (-8388616 : Int32)) = R at *
  generalize (g &&& (1 : Int32)) = b1 at *
  generalize (g &&& (2 : Int32)) = b2 at *
  generalize (g &&& (4 : Int32)) = b4 at *
  generalize (g &&& (8388608 : Int32)) = b8 at *
  have z : ∀ k : Int32, (R ||| k) &&& (-8388609 : Int32) = R ||| (k &&& (-8388609 : Int32)) := fun k => by rw [own_disr, r]
  have y : ∀ i j : Int32, (R ||| i) ||| j = R ||| (i ||| j) := fun i j => Int32.or_assoc ..
  rcases hd with rfl | rfl <;> rcases f1 with rfl | rfl <;> rcases f2 with rfl | rfl <;> rcases f4 with rfl | rfl <;> rcases f8 with rfl | rfl <;> simp only [y, z] <;> first | rfl | (simp (decide := true) only [if_true, if_false, z, y]; done) | (simp [z, y]; done)
theorem d1_0 : decode prog_17_method_2_code 0 = .ok (.iload_n 1, 1) := by decide +kernel
theorem d1_1 : decode prog_17_method_2_code 1 = .ok (.iconst 1, 1) := by decide +kernel
theorem d1_2 : decode prog_17_method_2_code 2 = .ok (.if_icmp .ne 7, 3) := by decide +kernel
theorem d1_5 : decode prog_17_method_2_code 5 = .ok (.iconst 1, 1) := by decide +kernel
theorem d1_6 : decode prog_17_method_2_code 6 = .ok (.goto 4, 3) := by decide +kernel
theorem d1_9 : decode prog_17_method_2_code 9 = .ok (.iconst 0, 1) := by decide +kernel
theorem d1_10 : decode prog_17_method_2_code 10 = .ok (.istore_n 2, 1) := by decide +kernel
theorem d1_11 : decode prog_17_method_2_code 11 = .ok (.iload_n 0, 1) := by decide +kernel
theorem d1_12 : decode prog_17_method_2_code 12 = .ok (.istore_n 3, 1) := by decide +kernel
theorem d1_13 : decode prog_17_method_2_code 13 = .ok (.iload_n 0, 1) := by decide +kernel
theorem d1_14 : decode prog_17_method_2_code 14 = .ok (.ldc 11, 2) := by decide +kernel
theorem d1_16 : decode prog_17_method_2_code 16 = .ok (.iand, 1) := by decide +kernel
theorem d1_17 : decode prog_17_method_2_code 17 = .ok (.ldc 11, 2) := by decide +kernel
theorem d1_19 : decode prog_17_method_2_code 19 = .ok (.if_icmp .ne 21, 3) := by decide +kernel
theorem d1_22 : decode prog_17_method_2_code 22 = .ok (.iload_n 3, 1) := by decide +kernel
theorem d1_23 : decode prog_17_method_2_code 23 = .ok (.ldc 12, 2) := by decide +kernel
theorem d1_25 : decode prog_17_method_2_code 25 = .ok (.iand, 1) := by decide +kernel
theorem d1_26 : decode prog_17_method_2_code 26 = .ok (.iload_n 2, 1) := by decide +kernel
theorem d1_27 : decode prog_17_method_2_code 27 = .ok (.ifCond .eq 7, 3) := by decide +kernel
theorem d1_30 : decode prog_17_method_2_code 30 = .ok (.iconst 5, 1) := by decide +kernel
theorem d1_31 : decode prog_17_method_2_code 31 = .ok (.goto 4, 3) := by decide +kernel
theorem d1_34 : decode prog_17_method_2_code 34 = .ok (.iconst 3, 1) := by decide +kernel
theorem d1_35 : decode prog_17_method_2_code 35 = .ok (.ior, 1) := by decide +kernel
theorem d1_36 : decode prog_17_method_2_code 36 = .ok (.istore_n 3, 1) := by decide +kernel
theorem d1_37 : decode prog_17_method_2_code 37 = .ok (.goto 27, 3) := by decide +kernel
theorem d1_40 : decode prog_17_method_2_code 40 = .ok (.iload_n 0, 1) := by decide +kernel
theorem d1_41 : decode prog_17_method_2_code 41 = .ok (.ldc 13, 2) := by decide +kernel
theorem d1_43 : decode prog_17_method_2_code 43 = .ok (.iand, 1) := by decide +kernel
theorem d1_44 : decode prog_17_method_2_code 44 = .ok (.ldc 13, 2) := by decide +kernel
theorem d1_46 : decode prog_17_method_2_code 46 = .ok (.if_icmp .ne 18, 3) := by decide +kernel
theorem d1_49 : decode prog_17_method_2_code 49 = .ok (.iload_n 3, 1) := by decide +kernel
theorem d1_50 : decode prog_17_method_2_code 50 = .ok (.ldc 14, 2) := by decide +kernel
theorem d1_52 : decode prog_17_method_2_code 52 = .ok (.iand, 1) := by decide +kernel
theorem d1_53 : decode prog_17_method_2_code 53 = .ok (.iload_n 2, 1) := by decide +kernel
theorem d1_54 : decode prog_17_method_2_code 54 = .ok (.ifCond .eq 7, 3) := by decide +kernel
theorem d1_57 : decode prog_17_method_2_code 57 = .ok (.iconst 3, 1) := by decide +kernel
theorem d1_58 : decode prog_17_method_2_code 58 = .ok (.goto 4, 3) := by decide +kernel
theorem d1_61 : decode prog_17_method_2_code 61 = .ok (.iconst 5, 1) := by decide +kernel
theorem d1_62 : decode prog_17_method_2_code 62 = .ok (.ior, 1) := by decide +kernel
theorem d1_63 : decode prog_17_method_2_code 63 = .ok (.istore_n 3, 1) := by decide +kernel
theorem d1_64 : decode prog_17_method_2_code 64 = .ok (.iload_n 3, 1) := by decide +kernel
theorem d1_65 : decode prog_17_method_2_code 65 = .ok (.ldc 15, 2) := by decide +kernel
theorem d1_67 : decode prog_17_method_2_code 67 = .ok (.iand, 1) := by decide +kernel
theorem d1_68 : decode prog_17_method_2_code 68 = .ok (.ireturn, 1) := by decide +kernel
theorem pn_com_example_decorum_decorum_Gravity : plainName "com/example/decorum/decorum/Gravity" = true := by first | (simp [plainName, overriddenIn]; done) | decide +kernel
theorem ef_1 (m : MethodId) (u0 : Int32) (u1 : Int32) : entryFrame m #[(.int u0), (.int u1)] 4 = mkF m 0 #[.val (.int u0), .val (.int u1), .unset, .unset] [] := by first | (simp [entryFrame, mkF, argsToLocals, Value.category]; done) | rfl
def Q1 (Z : State) (u0 : Int32) (u1 : Int32) (h0 : Heap) (n0 : Nat) (v : Option Value) (h : Heap) (L : List Loc) : Prop := v = some (.int (absG u0 u1)) ∧ Fr n0 L ∧ h = h0
set_option maxRecDepth 65536 in
set_option maxHeartbeats 40000000 in
theorem rm1 (l : Launch) (Z : State) (a0 : Array Value) (hw : ∀ d ∈ tables_1, d.before a0 Z = true) (ws : List Jvm.Cond) (u0 : Int32) (u1 : Int32) (h0 : Heap) (n0 : Nat) (Z0 : n0 ≤ h0.size) :
    MetFree l (⟨"com/example/decorum/decorum/Gravity", "getAbsoluteGravity", "(II)I"⟩ : MethodName) (head1 (Jvm.Cond.code (⟨"com/example/decorum/decorum/Gravity", "getAbsoluteGravity", "(II)I"⟩ : MethodName) prog_17_method_2_code 4 (some .int) :: ws) ({ frames := 0, cells := 0, slots := 0, locals := 0 } : Room)) (fun a U => a = #[(.int u0), (.int u1)] ∧ Z.Warmed39 U.vm ∧ U.heap = h0) (fun _ _ _ _ _ => True) (fun _ U o U' => ∃ v L, o = .returned v ∧ Q1 Z u0 u1 h0 n0 v U'.heap L ∧ FrameEnd U o U' L ({ frames := 0, cells := 0, slots := 0, locals := 0 } : Room).cells ({ frames := 0, cells := 0, slots := 0, locals := 0 } : Room).slots) := by
  refine MetFree.of_bodySF (plainFor_of_name pn_com_example_decorum_decorum_Gravity) hisR ?_
  intro p e s m args below meth c s₁ Bd hml0 hP hK
  obtain ⟨rfl, hZ, hh⟩ := hP
  have hx := Bd.exec
  have hby := Bd.bytes
  have hml : c.maxLocals = 4 := hml0
  have hown : s.vm.findClass "com/example/decorum/decorum/Gravity" = some m.cls := findClass_of_methodNamed Bd.named
  have hnm := (name_of_methodNamed Bd.named Bd.method).1
  have X0 : Stand p l e ({ frames := 0, cells := 0, slots := 0, locals := 0 } : Room) s m #[(.int u0), (.int u1)] below meth c s₁ [] 0 0 := Stand.of_body Bd
  have e0 : s₁.heap = h0 := by rw [← hh, Bd.state]; rfl
  have N0 := Fr.nil n0
  have pre0 : ∀ t, Steps p.tables e below (s₁.setTop (mkF m 0 #[.val (.int u0), .val (.int u1), .unset, .unset] [])) t → Steps p.tables e below (s₁.setTop (entryFrame m #[(.int u0), (.int u1)] 4)) t := fun t k => castTop (ef_1 m u0 u1) k
  by_cases hc2 : u1 = (1 : Int32)
  · have st1 := X0.ldcInt hx hown (mvT hZ (hw _ (List.mem_of_getElem? (i := 4) rfl))) (g := (mkF m 14 #[.val (.int u0), .val (.int u1), .val (.int (1 : Int32)), .val (.int u0)] [(.int u0)])) rfl (hb hby d1_14)
    have st2 := X0.ldcInt hx hown (mvT hZ (hw _ (List.mem_of_getElem? (i := 4) rfl))) (g := (mkF m 17 #[.val (.int u0), .val (.int u1), .val (.int (1 : Int32)), .val (.int u0)] [(.int (u0 &&& (8388611 : Int32)))])) rfl (hb hby d1_17)
    by_cases hc19 : (u0 &&& (8388611 : Int32)) = (8388611 : Int32)
    · have st3 := X0.ldcInt hx hown (mvT hZ (hw _ (List.mem_of_getElem? (i := 10) rfl))) (g := (mkF m 23 #[.val (.int u0), .val (.int u1), .val (.int (1 : Int32)), .val (.int u0)] [(.int u0)])) rfl (hb hby d1_23)
      have st4 := X0.ldcInt hx hown (mvT hZ (hw _ (List.mem_of_getElem? (i := 6) rfl))) (g := (mkF m 65 #[.val (.int u0), .val (.int u1), .val (.int (1 : Int32)), .val (.int ((u0 &&& (-8388612 : Int32)) ||| (5 : Int32)))] [(.int ((u0 &&& (-8388612 : Int32)) ||| (5 : Int32)))])) rfl (hb hby d1_65)
      have hv : absG u0 u1 = (((u0 &&& (-8388612 : Int32)) ||| (5 : Int32)) &&& (-8388609 : Int32)) := by
        unfold absG
        simp only [hc2, hc19, if_true, if_false]
      obtain ⟨fs, hr, hrun, hended, hW, hsame⟩ := X0.leave (v := some (.int (((u0 &&& (-8388612 : Int32)) ||| (5 : Int32)) &&& (-8388609 : Int32)))) (fun h => by rw [Bd.returns] at h; cases h)
      refine ⟨_, _, pre0 _ ?_, hrun, hended, _, _, rfl, ?_, ⟨_, rfl⟩, hW, hsame.mono (by decide) (by decide)⟩
      · show Steps p.tables e below (s₁.setTop (mkF m 0 #[.val (.int u0), .val (.int u1), .unset, .unset] [])) _
        refine XS.iloadN X0.here hx rfl (hb hby d1_0) rfl ?_
        show Steps p.tables e below (s₁.setTop (mkF m 1 #[.val (.int u0), .val (.int u1), .unset, .unset] [(.int u1)])) _
        refine XS.iconst X0.here hx rfl (hb hby d1_1) ?_
        show Steps p.tables e below (s₁.setTop (mkF m 2 #[.val (.int u0), .val (.int u1), .unset, .unset] [(.int (1 : Int32)), (.int u1)])) _
        refine XS.icmpNo X0.here hx rfl (hb hby d1_2) rfl (teq hc2).2 ?_
        show Steps p.tables e below (s₁.setTop (mkF m 5 #[.val (.int u0), .val (.int u1), .unset, .unset] [])) _
        refine XS.iconst X0.here hx rfl (hb hby d1_5) ?_
        show Steps p.tables e below (s₁.setTop (mkF m 6 #[.val (.int u0), .val (.int u1), .unset, .unset] [(.int (1 : Int32))])) _
        refine XS.goto X0.here hx rfl (pc0 := 6) (pc' := 10) rfl (hb hby d1_6) (by decide) (by decide) ?_
        show Steps p.tables e below (s₁.setTop (mkF m 10 #[.val (.int u0), .val (.int u1), .unset, .unset] [(.int (1 : Int32))])) _
        refine XS.istoreN X0.here hx rfl (hb hby d1_10) rfl (l' := #[.val (.int u0), .val (.int u1), .val (.int (1 : Int32)), .unset]) rfl ?_
        show Steps p.tables e below (s₁.setTop (mkF m 11 #[.val (.int u0), .val (.int u1), .val (.int (1 : Int32)), .unset] [])) _
        refine XS.iloadN X0.here hx rfl (hb hby d1_11) rfl ?_
        show Steps p.tables e below (s₁.setTop (mkF m 12 #[.val (.int u0), .val (.int u1), .val (.int (1 : Int32)), .unset] [(.int u0)])) _
        refine XS.istoreN X0.here hx rfl (hb hby d1_12) rfl (l' := #[.val (.int u0), .val (.int u1), .val (.int (1 : Int32)), .val (.int u0)]) rfl ?_
        show Steps p.tables e below (s₁.setTop (mkF m 13 #[.val (.int u0), .val (.int u1), .val (.int (1 : Int32)), .val (.int u0)] [])) _
        refine XS.iloadN X0.here hx rfl (hb hby d1_13) rfl ?_
        show Steps p.tables e below (s₁.setTop (mkF m 14 #[.val (.int u0), .val (.int u1), .val (.int (1 : Int32)), .val (.int u0)] [(.int u0)])) _
        refine st1 _ ?_
        show Steps p.tables e below (s₁.setTop (mkF m 16 #[.val (.int u0), .val (.int u1), .val (.int (1 : Int32)), .val (.int u0)] [(.int (8388611 : Int32)), (.int u0)])) _
        refine XS.iand X0.here hx rfl (hb hby d1_16) rfl ?_
        show Steps p.tables e below (s₁.setTop (mkF m 17 #[.val (.int u0), .val (.int u1), .val (.int (1 : Int32)), .val (.int u0)] [(.int (u0 &&& (8388611 : Int32)))])) _
        refine st2 _ ?_
        show Steps p.tables e below (s₁.setTop (mkF m 19 #[.val (.int u0), .val (.int u1), .val (.int (1 : Int32)), .val (.int u0)] [(.int (8388611 : Int32)), (.int (u0 &&& (8388611 : Int32)))])) _
        refine XS.icmpNo X0.here hx rfl (hb hby d1_19) rfl (teq hc19).2 ?_
        show Steps p.tables e below (s₁.setTop (mkF m 22 #[.val (.int u0), .val (.int u1), .val (.int (1 : Int32)), .val (.int u0)] [])) _
        refine XS.iloadN X0.here hx rfl (hb hby d1_22) rfl ?_
        show Steps p.tables e below (s₁.setTop (mkF m 23 #[.val (.int u0), .val (.int u1), .val (.int (1 : Int32)), .val (.int u0)] [(.int u0)])) _
        refine st3 _ ?_
        show Steps p.tables e below (s₁.setTop (mkF m 25 #[.val (.int u0), .val (.int u1), .val (.int (1 : Int32)), .val (.int u0)] [(.int (-8388612 : Int32)), (.int u0)])) _
        refine XS.iand X0.here hx rfl (hb hby d1_25) rfl ?_
        show Steps p.tables e below (s₁.setTop (mkF m 26 #[.val (.int u0), .val (.int u1), .val (.int (1 : Int32)), .val (.int u0)] [(.int (u0 &&& (-8388612 : Int32)))])) _
        refine XS.iloadN X0.here hx rfl (hb hby d1_26) rfl ?_
        show Steps p.tables e below (s₁.setTop (mkF m 27 #[.val (.int u0), .val (.int u1), .val (.int (1 : Int32)), .val (.int u0)] [(.int (1 : Int32)), (.int (u0 &&& (-8388612 : Int32)))])) _
        refine XS.ifNo X0.here hx rfl (hb hby d1_27) rfl ((if0 _ _).trans (feq (by decide)).1) ?_
        show Steps p.tables e below (s₁.setTop (mkF m 30 #[.val (.int u0), .val (.int u1), .val (.int (1 : Int32)), .val (.int u0)] [(.int (u0 &&& (-8388612 : Int32)))])) _
        refine XS.iconst X0.here hx rfl (hb hby d1_30) ?_
        show Steps p.tables e below (s₁.setTop (mkF m 31 #[.val (.int u0), .val (.int u1), .val (.int (1 : Int32)), .val (.int u0)] [(.int (5 : Int32)), (.int (u0 &&& (-8388612 : Int32)))])) _
        refine XS.goto X0.here hx rfl (pc0 := 31) (pc' := 35) rfl (hb hby d1_31) (by decide) (by decide) ?_
        show Steps p.tables e below (s₁.setTop (mkF m 35 #[.val (.int u0), .val (.int u1), .val (.int (1 : Int32)), .val (.int u0)] [(.int (5 : Int32)), (.int (u0 &&& (-8388612 : Int32)))])) _
        refine XS.ior X0.here hx rfl (hb hby d1_35) rfl ?_
        show Steps p.tables e below (s₁.setTop (mkF m 36 #[.val (.int u0), .val (.int u1), .val (.int (1 : Int32)), .val (.int u0)] [(.int ((u0 &&& (-8388612 : Int32)) ||| (5 : Int32)))])) _
        refine XS.istoreN X0.here hx rfl (hb hby d1_36) rfl (l' := #[.val (.int u0), .val (.int u1), .val (.int (1 : Int32)), .val (.int ((u0 &&& (-8388612 : Int32)) ||| (5 : Int32)))]) rfl ?_
        show Steps p.tables e below (s₁.setTop (mkF m 37 #[.val (.int u0), .val (.int u1), .val (.int (1 : Int32)), .val (.int ((u0 &&& (-8388612 : Int32)) ||| (5 : Int32)))] [])) _
        refine XS.goto X0.here hx rfl (pc0 := 37) (pc' := 64) rfl (hb hby d1_37) (by decide) (by decide) ?_
        show Steps p.tables e below (s₁.setTop (mkF m 64 #[.val (.int u0), .val (.int u1), .val (.int (1 : Int32)), .val (.int ((u0 &&& (-8388612 : Int32)) ||| (5 : Int32)))] [])) _
        refine XS.iloadN X0.here hx rfl (hb hby d1_64) rfl ?_
        show Steps p.tables e below (s₁.setTop (mkF m 65 #[.val (.int u0), .val (.int u1), .val (.int (1 : Int32)), .val (.int ((u0 &&& (-8388612 : Int32)) ||| (5 : Int32)))] [(.int ((u0 &&& (-8388612 : Int32)) ||| (5 : Int32)))])) _
        refine st4 _ ?_
        show Steps p.tables e below (s₁.setTop (mkF m 67 #[.val (.int u0), .val (.int u1), .val (.int (1 : Int32)), .val (.int ((u0 &&& (-8388612 : Int32)) ||| (5 : Int32)))] [(.int (-8388609 : Int32)), (.int ((u0 &&& (-8388612 : Int32)) ||| (5 : Int32)))])) _
        refine XS.iand X0.here hx rfl (hb hby d1_67) rfl ?_
        show Steps p.tables e below (s₁.setTop (mkF m 68 #[.val (.int u0), .val (.int u1), .val (.int (1 : Int32)), .val (.int ((u0 &&& (-8388612 : Int32)) ||| (5 : Int32)))] [(.int (((u0 &&& (-8388612 : Int32)) ||| (5 : Int32)) &&& (-8388609 : Int32)))])) _
        exact retI X0 hx Bd.returns (hb hby d1_68) hr
      · show Q1 Z u0 u1 h0 n0 _ s₁.heap _
        rw [e0]
        exact ⟨(by rw [hv]), N0, rfl⟩
    · have st5 := X0.ldcInt hx hown (mvT hZ (hw _ (List.mem_of_getElem? (i := 5) rfl))) (g := (mkF m 41 #[.val (.int u0), .val (.int u1), .val (.int (1 : Int32)), .val (.int u0)] [(.int u0)])) rfl (hb hby d1_41)
      have st6 := X0.ldcInt hx hown (mvT hZ (hw _ (List.mem_of_getElem? (i := 5) rfl))) (g := (mkF m 44 #[.val (.int u0), .val (.int u1), .val (.int (1 : Int32)), .val (.int u0)] [(.int (u0 &&& (8388613 : Int32)))])) rfl (hb hby d1_44)
      by_cases hc46 : (u0 &&& (8388613 : Int32)) = (8388613 : Int32)
      · have st7 := X0.ldcInt hx hown (mvT hZ (hw _ (List.mem_of_getElem? (i := 9) rfl))) (g := (mkF m 50 #[.val (.int u0), .val (.int u1), .val (.int (1 : Int32)), .val (.int u0)] [(.int u0)])) rfl (hb hby d1_50)
        have st8 := X0.ldcInt hx hown (mvT hZ (hw _ (List.mem_of_getElem? (i := 6) rfl))) (g := (mkF m 65 #[.val (.int u0), .val (.int u1), .val (.int (1 : Int32)), .val (.int ((u0 &&& (-8388614 : Int32)) ||| (3 : Int32)))] [(.int ((u0 &&& (-8388614 : Int32)) ||| (3 : Int32)))])) rfl (hb hby d1_65)
        have hv : absG u0 u1 = (((u0 &&& (-8388614 : Int32)) ||| (3 : Int32)) &&& (-8388609 : Int32)) := by
          unfold absG
          simp only [hc2, hc19, hc46, if_true, if_false]
        obtain ⟨fs, hr, hrun, hended, hW, hsame⟩ := X0.leave (v := some (.int (((u0 &&& (-8388614 : Int32)) ||| (3 : Int32)) &&& (-8388609 : Int32)))) (fun h => by rw [Bd.returns] at h; cases h)
        refine ⟨_, _, pre0 _ ?_, hrun, hended, _, _, rfl, ?_, ⟨_, rfl⟩, hW, hsame.mono (by decide) (by decide)⟩
        · show Steps p.tables e below (s₁.setTop (mkF m 0 #[.val (.int u0), .val (.int u1), .unset, .unset] [])) _
          refine XS.iloadN X0.here hx rfl (hb hby d1_0) rfl ?_
          show Steps p.tables e below (s₁.setTop (mkF m 1 #[.val (.int u0), .val (.int u1), .unset, .unset] [(.int u1)])) _
          refine XS.iconst X0.here hx rfl (hb hby d1_1) ?_
          show Steps p.tables e below (s₁.setTop (mkF m 2 #[.val (.int u0), .val (.int u1), .unset, .unset] [(.int (1 : Int32)), (.int u1)])) _
          refine XS.icmpNo X0.here hx rfl (hb hby d1_2) rfl (teq hc2).2 ?_
          show Steps p.tables e below (s₁.setTop (mkF m 5 #[.val (.int u0), .val (.int u1), .unset, .unset] [])) _
          refine XS.iconst X0.here hx rfl (hb hby d1_5) ?_
          show Steps p.tables e below (s₁.setTop (mkF m 6 #[.val (.int u0), .val (.int u1), .unset, .unset] [(.int (1 : Int32))])) _
          refine XS.goto X0.here hx rfl (pc0 := 6) (pc' := 10) rfl (hb hby d1_6) (by decide) (by decide) ?_
          show Steps p.tables e below (s₁.setTop (mkF m 10 #[.val (.int u0), .val (.int u1), .unset, .unset] [(.int (1 : Int32))])) _
          refine XS.istoreN X0.here hx rfl (hb hby d1_10) rfl (l' := #[.val (.int u0), .val (.int u1), .val (.int (1 : Int32)), .unset]) rfl ?_
          show Steps p.tables e below (s₁.setTop (mkF m 11 #[.val (.int u0), .val (.int u1), .val (.int (1 : Int32)), .unset] [])) _
          refine XS.iloadN X0.here hx rfl (hb hby d1_11) rfl ?_
          show Steps p.tables e below (s₁.setTop (mkF m 12 #[.val (.int u0), .val (.int u1), .val (.int (1 : Int32)), .unset] [(.int u0)])) _
          refine XS.istoreN X0.here hx rfl (hb hby d1_12) rfl (l' := #[.val (.int u0), .val (.int u1), .val (.int (1 : Int32)), .val (.int u0)]) rfl ?_
          show Steps p.tables e below (s₁.setTop (mkF m 13 #[.val (.int u0), .val (.int u1), .val (.int (1 : Int32)), .val (.int u0)] [])) _
          refine XS.iloadN X0.here hx rfl (hb hby d1_13) rfl ?_
          show Steps p.tables e below (s₁.setTop (mkF m 14 #[.val (.int u0), .val (.int u1), .val (.int (1 : Int32)), .val (.int u0)] [(.int u0)])) _
          refine st1 _ ?_
          show Steps p.tables e below (s₁.setTop (mkF m 16 #[.val (.int u0), .val (.int u1), .val (.int (1 : Int32)), .val (.int u0)] [(.int (8388611 : Int32)), (.int u0)])) _
          refine XS.iand X0.here hx rfl (hb hby d1_16) rfl ?_
          show Steps p.tables e below (s₁.setTop (mkF m 17 #[.val (.int u0), .val (.int u1), .val (.int (1 : Int32)), .val (.int u0)] [(.int (u0 &&& (8388611 : Int32)))])) _
          refine st2 _ ?_
          show Steps p.tables e below (s₁.setTop (mkF m 19 #[.val (.int u0), .val (.int u1), .val (.int (1 : Int32)), .val (.int u0)] [(.int (8388611 : Int32)), (.int (u0 &&& (8388611 : Int32)))])) _
          refine XS.icmpYes X0.here hx rfl (pc0 := 19) (pc' := 40) rfl (hb hby d1_19) rfl (feq hc19).2 (by decide) (by decide) ?_
          show Steps p.tables e below (s₁.setTop (mkF m 40 #[.val (.int u0), .val (.int u1), .val (.int (1 : Int32)), .val (.int u0)] [])) _
          refine XS.iloadN X0.here hx rfl (hb hby d1_40) rfl ?_
          show Steps p.tables e below (s₁.setTop (mkF m 41 #[.val (.int u0), .val (.int u1), .val (.int (1 : Int32)), .val (.int u0)] [(.int u0)])) _
          refine st5 _ ?_
          show Steps p.tables e below (s₁.setTop (mkF m 43 #[.val (.int u0), .val (.int u1), .val (.int (1 : Int32)), .val (.int u0)] [(.int (8388613 : Int32)), (.int u0)])) _
          refine XS.iand X0.here hx rfl (hb hby d1_43) rfl ?_
          show Steps p.tables e below (s₁.setTop (mkF m 44 #[.val (.int u0), .val (.int u1), .val (.int (1 : Int32)), .val (.int u0)] [(.int (u0 &&& (8388613 : Int32)))])) _
          refine st6 _ ?_
          show Steps p.tables e below (s₁.setTop (mkF m 46 #[.val (.int u0), .val (.int u1), .val (.int (1 : Int32)), .val (.int u0)] [(.int (8388613 : Int32)), (.int (u0 &&& (8388613 : Int32)))])) _
          refine XS.icmpNo X0.here hx rfl (hb hby d1_46) rfl (teq hc46).2 ?_
          show Steps p.tables e below (s₁.setTop (mkF m 49 #[.val (.int u0), .val (.int u1), .val (.int (1 : Int32)), .val (.int u0)] [])) _
          refine XS.iloadN X0.here hx rfl (hb hby d1_49) rfl ?_
          show Steps p.tables e below (s₁.setTop (mkF m 50 #[.val (.int u0), .val (.int u1), .val (.int (1 : Int32)), .val (.int u0)] [(.int u0)])) _
          refine st7 _ ?_
          show Steps p.tables e below (s₁.setTop (mkF m 52 #[.val (.int u0), .val (.int u1), .val (.int (1 : Int32)), .val (.int u0)] [(.int (-8388614 : Int32)), (.int u0)])) _
          refine XS.iand X0.here hx rfl (hb hby d1_52) rfl ?_
          show Steps p.tables e below (s₁.setTop (mkF m 53 #[.val (.int u0), .val (.int u1), .val (.int (1 : Int32)), .val (.int u0)] [(.int (u0 &&& (-8388614 : Int32)))])) _
          refine XS.iloadN X0.here hx rfl (hb hby d1_53) rfl ?_
          show Steps p.tables e below (s₁.setTop (mkF m 54 #[.val (.int u0), .val (.int u1), .val (.int (1 : Int32)), .val (.int u0)] [(.int (1 : Int32)), (.int (u0 &&& (-8388614 : Int32)))])) _
          refine XS.ifNo X0.here hx rfl (hb hby d1_54) rfl ((if0 _ _).trans (feq (by decide)).1) ?_
          show Steps p.tables e below (s₁.setTop (mkF m 57 #[.val (.int u0), .val (.int u1), .val (.int (1 : Int32)), .val (.int u0)] [(.int (u0 &&& (-8388614 : Int32)))])) _
          refine XS.iconst X0.here hx rfl (hb hby d1_57) ?_
          show Steps p.tables e below (s₁.setTop (mkF m 58 #[.val (.int u0), .val (.int u1), .val (.int (1 : Int32)), .val (.int u0)] [(.int (3 : Int32)), (.int (u0 &&& (-8388614 : Int32)))])) _
          refine XS.goto X0.here hx rfl (pc0 := 58) (pc' := 62) rfl (hb hby d1_58) (by decide) (by decide) ?_
          show Steps p.tables e below (s₁.setTop (mkF m 62 #[.val (.int u0), .val (.int u1), .val (.int (1 : Int32)), .val (.int u0)] [(.int (3 : Int32)), (.int (u0 &&& (-8388614 : Int32)))])) _
          refine XS.ior X0.here hx rfl (hb hby d1_62) rfl ?_
          show Steps p.tables e below (s₁.setTop (mkF m 63 #[.val (.int u0), .val (.int u1), .val (.int (1 : Int32)), .val (.int u0)] [(.int ((u0 &&& (-8388614 : Int32)) ||| (3 : Int32)))])) _
          refine XS.istoreN X0.here hx rfl (hb hby d1_63) rfl (l' := #[.val (.int u0), .val (.int u1), .val (.int (1 : Int32)), .val (.int ((u0 &&& (-8388614 : Int32)) ||| (3 : Int32)))]) rfl ?_
          show Steps p.tables e below (s₁.setTop (mkF m 64 #[.val (.int u0), .val (.int u1), .val (.int (1 : Int32)), .val (.int ((u0 &&& (-8388614 : Int32)) ||| (3 : Int32)))] [])) _
          refine XS.iloadN X0.here hx rfl (hb hby d1_64) rfl ?_
          show Steps p.tables e below (s₁.setTop (mkF m 65 #[.val (.int u0), .val (.int u1), .val (.int (1 : Int32)), .val (.int ((u0 &&& (-8388614 : Int32)) ||| (3 : Int32)))] [(.int ((u0 &&& (-8388614 : Int32)) ||| (3 : Int32)))])) _
          refine st8 _ ?_
          show Steps p.tables e below (s₁.setTop (mkF m 67 #[.val (.int u0), .val (.int u1), .val (.int (1 : Int32)), .val (.int ((u0 &&& (-8388614 : Int32)) ||| (3 : Int32)))] [(.int (-8388609 : Int32)), (.int ((u0 &&& (-8388614 : Int32)) ||| (3 : Int32)))])) _
          refine XS.iand X0.here hx rfl (hb hby d1_67) rfl ?_
          show Steps p.tables e below (s₁.setTop (mkF m 68 #[.val (.int u0), .val (.int u1), .val (.int (1 : Int32)), .val (.int ((u0 &&& (-8388614 : Int32)) ||| (3 : Int32)))] [(.int (((u0 &&& (-8388614 : Int32)) ||| (3 : Int32)) &&& (-8388609 : Int32)))])) _
          exact retI X0 hx Bd.returns (hb hby d1_68) hr
        · show Q1 Z u0 u1 h0 n0 _ s₁.heap _
          rw [e0]
          exact ⟨(by rw [hv]), N0, rfl⟩
      · have st9 := X0.ldcInt hx hown (mvT hZ (hw _ (List.mem_of_getElem? (i := 6) rfl))) (g := (mkF m 65 #[.val (.int u0), .val (.int u1), .val (.int (1 : Int32)), .val (.int u0)] [(.int u0)])) rfl (hb hby d1_65)
        have hv : absG u0 u1 = (u0 &&& (-8388609 : Int32)) := by
          unfold absG
          simp only [hc2, hc19, hc46, if_true, if_false]
        obtain ⟨fs, hr, hrun, hended, hW, hsame⟩ := X0.leave (v := some (.int (u0 &&& (-8388609 : Int32)))) (fun h => by rw [Bd.returns] at h; cases h)
        refine ⟨_, _, pre0 _ ?_, hrun, hended, _, _, rfl, ?_, ⟨_, rfl⟩, hW, hsame.mono (by decide) (by decide)⟩
        · show Steps p.tables e below (s₁.setTop (mkF m 0 #[.val (.int u0), .val (.int u1), .unset, .unset] [])) _
          refine XS.iloadN X0.here hx rfl (hb hby d1_0) rfl ?_
          show Steps p.tables e below (s₁.setTop (mkF m 1 #[.val (.int u0), .val (.int u1), .unset, .unset] [(.int u1)])) _
          refine XS.iconst X0.here hx rfl (hb hby d1_1) ?_
          show Steps p.tables e below (s₁.setTop (mkF m 2 #[.val (.int u0), .val (.int u1), .unset, .unset] [(.int (1 : Int32)), (.int u1)])) _
          refine XS.icmpNo X0.here hx rfl (hb hby d1_2) rfl (teq hc2).2 ?_
          show Steps p.tables e below (s₁.setTop (mkF m 5 #[.val (.int u0), .val (.int u1), .unset, .unset] [])) _
          refine XS.iconst X0.here hx rfl (hb hby d1_5) ?_
          show Steps p.tables e below (s₁.setTop (mkF m 6 #[.val (.int u0), .val (.int u1), .unset, .unset] [(.int (1 : Int32))])) _
          refine XS.goto X0.here hx rfl (pc0 := 6) (pc' := 10) rfl (hb hby d1_6) (by decide) (by decide) ?_
          show Steps p.tables e below (s₁.setTop (mkF m 10 #[.val (.int u0), .val (.int u1), .unset, .unset] [(.int (1 : Int32))])) _
          refine XS.istoreN X0.here hx rfl (hb hby d1_10) rfl (l' := #[.val (.int u0), .val (.int u1), .val (.int (1 : Int32)), .unset]) rfl ?_
          show Steps p.tables e below (s₁.setTop (mkF m 11 #[.val (.int u0), .val (.int u1), .val (.int (1 : Int32)), .unset] [])) _
          refine XS.iloadN X0.here hx rfl (hb hby d1_11) rfl ?_
          show Steps p.tables e below (s₁.setTop (mkF m 12 #[.val (.int u0), .val (.int u1), .val (.int (1 : Int32)), .unset] [(.int u0)])) _
          refine XS.istoreN X0.here hx rfl (hb hby d1_12) rfl (l' := #[.val (.int u0), .val (.int u1), .val (.int (1 : Int32)), .val (.int u0)]) rfl ?_
          show Steps p.tables e below (s₁.setTop (mkF m 13 #[.val (.int u0), .val (.int u1), .val (.int (1 : Int32)), .val (.int u0)] [])) _
          refine XS.iloadN X0.here hx rfl (hb hby d1_13) rfl ?_
          show Steps p.tables e below (s₁.setTop (mkF m 14 #[.val (.int u0), .val (.int u1), .val (.int (1 : Int32)), .val (.int u0)] [(.int u0)])) _
          refine st1 _ ?_
          show Steps p.tables e below (s₁.setTop (mkF m 16 #[.val (.int u0), .val (.int u1), .val (.int (1 : Int32)), .val (.int u0)] [(.int (8388611 : Int32)), (.int u0)])) _
          refine XS.iand X0.here hx rfl (hb hby d1_16) rfl ?_
          show Steps p.tables e below (s₁.setTop (mkF m 17 #[.val (.int u0), .val (.int u1), .val (.int (1 : Int32)), .val (.int u0)] [(.int (u0 &&& (8388611 : Int32)))])) _
          refine st2 _ ?_
          show Steps p.tables e below (s₁.setTop (mkF m 19 #[.val (.int u0), .val (.int u1), .val (.int (1 : Int32)), .val (.int u0)] [(.int (8388611 : Int32)), (.int (u0 &&& (8388611 : Int32)))])) _
          refine XS.icmpYes X0.here hx rfl (pc0 := 19) (pc' := 40) rfl (hb hby d1_19) rfl (feq hc19).2 (by decide) (by decide) ?_
          show Steps p.tables e below (s₁.setTop (mkF m 40 #[.val (.int u0), .val (.int u1), .val (.int (1 : Int32)), .val (.int u0)] [])) _
          refine XS.iloadN X0.here hx rfl (hb hby d1_40) rfl ?_
          show Steps p.tables e below (s₁.setTop (mkF m 41 #[.val (.int u0), .val (.int u1), .val (.int (1 : Int32)), .val (.int u0)] [(.int u0)])) _
          refine st5 _ ?_
          show Steps p.tables e below (s₁.setTop (mkF m 43 #[.val (.int u0), .val (.int u1), .val (.int (1 : Int32)), .val (.int u0)] [(.int (8388613 : Int32)), (.int u0)])) _
          refine XS.iand X0.here hx rfl (hb hby d1_43) rfl ?_
          show Steps p.tables e below (s₁.setTop (mkF m 44 #[.val (.int u0), .val (.int u1), .val (.int (1 : Int32)), .val (.int u0)] [(.int (u0 &&& (8388613 : Int32)))])) _
          refine st6 _ ?_
          show Steps p.tables e below (s₁.setTop (mkF m 46 #[.val (.int u0), .val (.int u1), .val (.int (1 : Int32)), .val (.int u0)] [(.int (8388613 : Int32)), (.int (u0 &&& (8388613 : Int32)))])) _
          refine XS.icmpYes X0.here hx rfl (pc0 := 46) (pc' := 64) rfl (hb hby d1_46) rfl (feq hc46).2 (by decide) (by decide) ?_
          show Steps p.tables e below (s₁.setTop (mkF m 64 #[.val (.int u0), .val (.int u1), .val (.int (1 : Int32)), .val (.int u0)] [])) _
          refine XS.iloadN X0.here hx rfl (hb hby d1_64) rfl ?_
          show Steps p.tables e below (s₁.setTop (mkF m 65 #[.val (.int u0), .val (.int u1), .val (.int (1 : Int32)), .val (.int u0)] [(.int u0)])) _
          refine st9 _ ?_
          show Steps p.tables e below (s₁.setTop (mkF m 67 #[.val (.int u0), .val (.int u1), .val (.int (1 : Int32)), .val (.int u0)] [(.int (-8388609 : Int32)), (.int u0)])) _
          refine XS.iand X0.here hx rfl (hb hby d1_67) rfl ?_
          show Steps p.tables e below (s₁.setTop (mkF m 68 #[.val (.int u0), .val (.int u1), .val (.int (1 : Int32)), .val (.int u0)] [(.int (u0 &&& (-8388609 : Int32)))])) _
          exact retI X0 hx Bd.returns (hb hby d1_68) hr
        · show Q1 Z u0 u1 h0 n0 _ s₁.heap _
          rw [e0]
          exact ⟨(by rw [hv]), N0, rfl⟩
  · have st10 := X0.ldcInt hx hown (mvT hZ (hw _ (List.mem_of_getElem? (i := 4) rfl))) (g := (mkF m 14 #[.val (.int u0), .val (.int u1), .val (.int (0 : Int32)), .val (.int u0)] [(.int u0)])) rfl (hb hby d1_14)
    have st11 := X0.ldcInt hx hown (mvT hZ (hw _ (List.mem_of_getElem? (i := 4) rfl))) (g := (mkF m 17 #[.val (.int u0), .val (.int u1), .val (.int (0 : Int32)), .val (.int u0)] [(.int (u0 &&& (8388611 : Int32)))])) rfl (hb hby d1_17)
    by_cases hc19 : (u0 &&& (8388611 : Int32)) = (8388611 : Int32)
    · have st12 := X0.ldcInt hx hown (mvT hZ (hw _ (List.mem_of_getElem? (i := 10) rfl))) (g := (mkF m 23 #[.val (.int u0), .val (.int u1), .val (.int (0 : Int32)), .val (.int u0)] [(.int u0)])) rfl (hb hby d1_23)
      have st13 := X0.ldcInt hx hown (mvT hZ (hw _ (List.mem_of_getElem? (i := 6) rfl))) (g := (mkF m 65 #[.val (.int u0), .val (.int u1), .val (.int (0 : Int32)), .val (.int ((u0 &&& (-8388612 : Int32)) ||| (3 : Int32)))] [(.int ((u0 &&& (-8388612 : Int32)) ||| (3 : Int32)))])) rfl (hb hby d1_65)
      have hv : absG u0 u1 = (((u0 &&& (-8388612 : Int32)) ||| (3 : Int32)) &&& (-8388609 : Int32)) := by
        unfold absG
        simp only [hc2, hc19, if_true, if_false]
      obtain ⟨fs, hr, hrun, hended, hW, hsame⟩ := X0.leave (v := some (.int (((u0 &&& (-8388612 : Int32)) ||| (3 : Int32)) &&& (-8388609 : Int32)))) (fun h => by rw [Bd.returns] at h; cases h)
      refine ⟨_, _, pre0 _ ?_, hrun, hended, _, _, rfl, ?_, ⟨_, rfl⟩, hW, hsame.mono (by decide) (by decide)⟩
      · show Steps p.tables e below (s₁.setTop (mkF m 0 #[.val (.int u0), .val (.int u1), .unset, .unset] [])) _
        refine XS.iloadN X0.here hx rfl (hb hby d1_0) rfl ?_
        show Steps p.tables e below (s₁.setTop (mkF m 1 #[.val (.int u0), .val (.int u1), .unset, .unset] [(.int u1)])) _
        refine XS.iconst X0.here hx rfl (hb hby d1_1) ?_
        show Steps p.tables e below (s₁.setTop (mkF m 2 #[.val (.int u0), .val (.int u1), .unset, .unset] [(.int (1 : Int32)), (.int u1)])) _
        refine XS.icmpYes X0.here hx rfl (pc0 := 2) (pc' := 9) rfl (hb hby d1_2) rfl (feq hc2).2 (by decide) (by decide) ?_
        show Steps p.tables e below (s₁.setTop (mkF m 9 #[.val (.int u0), .val (.int u1), .unset, .unset] [])) _
        refine XS.iconst X0.here hx rfl (hb hby d1_9) ?_
        show Steps p.tables e below (s₁.setTop (mkF m 10 #[.val (.int u0), .val (.int u1), .unset, .unset] [(.int (0 : Int32))])) _
        refine XS.istoreN X0.here hx rfl (hb hby d1_10) rfl (l' := #[.val (.int u0), .val (.int u1), .val (.int (0 : Int32)), .unset]) rfl ?_
        show Steps p.tables e below (s₁.setTop (mkF m 11 #[.val (.int u0), .val (.int u1), .val (.int (0 : Int32)), .unset] [])) _
        refine XS.iloadN X0.here hx rfl (hb hby d1_11) rfl ?_
        show Steps p.tables e below (s₁.setTop (mkF m 12 #[.val (.int u0), .val (.int u1), .val (.int (0 : Int32)), .unset] [(.int u0)])) _
        refine XS.istoreN X0.here hx rfl (hb hby d1_12) rfl (l' := #[.val (.int u0), .val (.int u1), .val (.int (0 : Int32)), .val (.int u0)]) rfl ?_
        show Steps p.tables e below (s₁.setTop (mkF m 13 #[.val (.int u0), .val (.int u1), .val (.int (0 : Int32)), .val (.int u0)] [])) _
        refine XS.iloadN X0.here hx rfl (hb hby d1_13) rfl ?_
        show Steps p.tables e below (s₁.setTop (mkF m 14 #[.val (.int u0), .val (.int u1), .val (.int (0 : Int32)), .val (.int u0)] [(.int u0)])) _
        refine st10 _ ?_
        show Steps p.tables e below (s₁.setTop (mkF m 16 #[.val (.int u0), .val (.int u1), .val (.int (0 : Int32)), .val (.int u0)] [(.int (8388611 : Int32)), (.int u0)])) _
        refine XS.iand X0.here hx rfl (hb hby d1_16) rfl ?_
        show Steps p.tables e below (s₁.setTop (mkF m 17 #[.val (.int u0), .val (.int u1), .val (.int (0 : Int32)), .val (.int u0)] [(.int (u0 &&& (8388611 : Int32)))])) _
        refine st11 _ ?_
        show Steps p.tables e below (s₁.setTop (mkF m 19 #[.val (.int u0), .val (.int u1), .val (.int (0 : Int32)), .val (.int u0)] [(.int (8388611 : Int32)), (.int (u0 &&& (8388611 : Int32)))])) _
        refine XS.icmpNo X0.here hx rfl (hb hby d1_19) rfl (teq hc19).2 ?_
        show Steps p.tables e below (s₁.setTop (mkF m 22 #[.val (.int u0), .val (.int u1), .val (.int (0 : Int32)), .val (.int u0)] [])) _
        refine XS.iloadN X0.here hx rfl (hb hby d1_22) rfl ?_
        show Steps p.tables e below (s₁.setTop (mkF m 23 #[.val (.int u0), .val (.int u1), .val (.int (0 : Int32)), .val (.int u0)] [(.int u0)])) _
        refine st12 _ ?_
        show Steps p.tables e below (s₁.setTop (mkF m 25 #[.val (.int u0), .val (.int u1), .val (.int (0 : Int32)), .val (.int u0)] [(.int (-8388612 : Int32)), (.int u0)])) _
        refine XS.iand X0.here hx rfl (hb hby d1_25) rfl ?_
        show Steps p.tables e below (s₁.setTop (mkF m 26 #[.val (.int u0), .val (.int u1), .val (.int (0 : Int32)), .val (.int u0)] [(.int (u0 &&& (-8388612 : Int32)))])) _
        refine XS.iloadN X0.here hx rfl (hb hby d1_26) rfl ?_
        show Steps p.tables e below (s₁.setTop (mkF m 27 #[.val (.int u0), .val (.int u1), .val (.int (0 : Int32)), .val (.int u0)] [(.int (0 : Int32)), (.int (u0 &&& (-8388612 : Int32)))])) _
        refine XS.ifYes X0.here hx rfl (pc0 := 27) (pc' := 34) rfl (hb hby d1_27) rfl ((if0 _ _).trans (teq (by decide)).1) (by decide) (by decide) ?_
        show Steps p.tables e below (s₁.setTop (mkF m 34 #[.val (.int u0), .val (.int u1), .val (.int (0 : Int32)), .val (.int u0)] [(.int (u0 &&& (-8388612 : Int32)))])) _
        refine XS.iconst X0.here hx rfl (hb hby d1_34) ?_
        show Steps p.tables e below (s₁.setTop (mkF m 35 #[.val (.int u0), .val (.int u1), .val (.int (0 : Int32)), .val (.int u0)] [(.int (3 : Int32)), (.int (u0 &&& (-8388612 : Int32)))])) _
        refine XS.ior X0.here hx rfl (hb hby d1_35) rfl ?_
        show Steps p.tables e below (s₁.setTop (mkF m 36 #[.val (.int u0), .val (.int u1), .val (.int (0 : Int32)), .val (.int u0)] [(.int ((u0 &&& (-8388612 : Int32)) ||| (3 : Int32)))])) _
        refine XS.istoreN X0.here hx rfl (hb hby d1_36) rfl (l' := #[.val (.int u0), .val (.int u1), .val (.int (0 : Int32)), .val (.int ((u0 &&& (-8388612 : Int32)) ||| (3 : Int32)))]) rfl ?_
        show Steps p.tables e below (s₁.setTop (mkF m 37 #[.val (.int u0), .val (.int u1), .val (.int (0 : Int32)), .val (.int ((u0 &&& (-8388612 : Int32)) ||| (3 : Int32)))] [])) _
        refine XS.goto X0.here hx rfl (pc0 := 37) (pc' := 64) rfl (hb hby d1_37) (by decide) (by decide) ?_
        show Steps p.tables e below (s₁.setTop (mkF m 64 #[.val (.int u0), .val (.int u1), .val (.int (0 : Int32)), .val (.int ((u0 &&& (-8388612 : Int32)) ||| (3 : Int32)))] [])) _
        refine XS.iloadN X0.here hx rfl (hb hby d1_64) rfl ?_
        show Steps p.tables e below (s₁.setTop (mkF m 65 #[.val (.int u0), .val (.int u1), .val (.int (0 : Int32)), .val (.int ((u0 &&& (-8388612 : Int32)) ||| (3 : Int32)))] [(.int ((u0 &&& (-8388612 : Int32)) ||| (3 : Int32)))])) _
        refine st13 _ ?_
        show Steps p.tables e below (s₁.setTop (mkF m 67 #[.val (.int u0), .val (.int u1), .val (.int (0 : Int32)), .val (.int ((u0 &&& (-8388612 : Int32)) ||| (3 : Int32)))] [(.int (-8388609 : Int32)), (.int ((u0 &&& (-8388612 : Int32)) ||| (3 : Int32)))])) _
        refine XS.iand X0.here hx rfl (hb hby d1_67) rfl ?_
        show Steps p.tables e below (s₁.setTop (mkF m 68 #[.val (.int u0), .val (.int u1), .val (.int (0 : Int32)), .val (.int ((u0 &&& (-8388612 : Int32)) ||| (3 : Int32)))] [(.int (((u0 &&& (-8388612 : Int32)) ||| (3 : Int32)) &&& (-8388609 : Int32)))])) _
        exact retI X0 hx Bd.returns (hb hby d1_68) hr
      · show Q1 Z u0 u1 h0 n0 _ s₁.heap _
        rw [e0]
        exact ⟨(by rw [hv]), N0, rfl⟩
    · have st14 := X0.ldcInt hx hown (mvT hZ (hw _ (List.mem_of_getElem? (i := 5) rfl))) (g := (mkF m 41 #[.val (.int u0), .val (.int u1), .val (.int (0 : Int32)), .val (.int u0)] [(.int u0)])) rfl (hb hby d1_41)
      have st15 := X0.ldcInt hx hown (mvT hZ (hw _ (List.mem_of_getElem? (i := 5) rfl))) (g := (mkF m 44 #[.val (.int u0), .val (.int u1), .val (.int (0 : Int32)), .val (.int u0)] [(.int (u0 &&& (8388613 : Int32)))])) rfl (hb hby d1_44)
      by_cases hc46 : (u0 &&& (8388613 : Int32)) = (8388613 : Int32)
      · have st16 := X0.ldcInt hx hown (mvT hZ (hw _ (List.mem_of_getElem? (i := 9) rfl))) (g := (mkF m 50 #[.val (.int u0), .val (.int u1), .val (.int (0 : Int32)), .val (.int u0)] [(.int u0)])) rfl (hb hby d1_50)
        have st17 := X0.ldcInt hx hown (mvT hZ (hw _ (List.mem_of_getElem? (i := 6) rfl))) (g := (mkF m 65 #[.val (.int u0), .val (.int u1), .val (.int (0 : Int32)), .val (.int ((u0 &&& (-8388614 : Int32)) ||| (5 : Int32)))] [(.int ((u0 &&& (-8388614 : Int32)) ||| (5 : Int32)))])) rfl (hb hby d1_65)
        have hv : absG u0 u1 = (((u0 &&& (-8388614 : Int32)) ||| (5 : Int32)) &&& (-8388609 : Int32)) := by
          unfold absG
          simp only [hc2, hc19, hc46, if_true, if_false]
        obtain ⟨fs, hr, hrun, hended, hW, hsame⟩ := X0.leave (v := some (.int (((u0 &&& (-8388614 : Int32)) ||| (5 : Int32)) &&& (-8388609 : Int32)))) (fun h => by rw [Bd.returns] at h; cases h)
        refine ⟨_, _, pre0 _ ?_, hrun, hended, _, _, rfl, ?_, ⟨_, rfl⟩, hW, hsame.mono (by decide) (by decide)⟩
        · show Steps p.tables e below (s₁.setTop (mkF m 0 #[.val (.int u0), .val (.int u1), .unset, .unset] [])) _
          refine XS.iloadN X0.here hx rfl (hb hby d1_0) rfl ?_
          show Steps p.tables e below (s₁.setTop (mkF m 1 #[.val (.int u0), .val (.int u1), .unset, .unset] [(.int u1)])) _
          refine XS.iconst X0.here hx rfl (hb hby d1_1) ?_
          show Steps p.tables e below (s₁.setTop (mkF m 2 #[.val (.int u0), .val (.int u1), .unset, .unset] [(.int (1 : Int32)), (.int u1)])) _
          refine XS.icmpYes X0.here hx rfl (pc0 := 2) (pc' := 9) rfl (hb hby d1_2) rfl (feq hc2).2 (by decide) (by decide) ?_
          show Steps p.tables e below (s₁.setTop (mkF m 9 #[.val (.int u0), .val (.int u1), .unset, .unset] [])) _
          refine XS.iconst X0.here hx rfl (hb hby d1_9) ?_
          show Steps p.tables e below (s₁.setTop (mkF m 10 #[.val (.int u0), .val (.int u1), .unset, .unset] [(.int (0 : Int32))])) _
          refine XS.istoreN X0.here hx rfl (hb hby d1_10) rfl (l' := #[.val (.int u0), .val (.int u1), .val (.int (0 : Int32)), .unset]) rfl ?_
          show Steps p.tables e below (s₁.setTop (mkF m 11 #[.val (.int u0), .val (.int u1), .val (.int (0 : Int32)), .unset] [])) _
          refine XS.iloadN X0.here hx rfl (hb hby d1_11) rfl ?_
          show Steps p.tables e below (s₁.setTop (mkF m 12 #[.val (.int u0), .val (.int u1), .val (.int (0 : Int32)), .unset] [(.int u0)])) _
          refine XS.istoreN X0.here hx rfl (hb hby d1_12) rfl (l' := #[.val (.int u0), .val (.int u1), .val (.int (0 : Int32)), .val (.int u0)]) rfl ?_
          show Steps p.tables e below (s₁.setTop (mkF m 13 #[.val (.int u0), .val (.int u1), .val (.int (0 : Int32)), .val (.int u0)] [])) _
          refine XS.iloadN X0.here hx rfl (hb hby d1_13) rfl ?_
          show Steps p.tables e below (s₁.setTop (mkF m 14 #[.val (.int u0), .val (.int u1), .val (.int (0 : Int32)), .val (.int u0)] [(.int u0)])) _
          refine st10 _ ?_
          show Steps p.tables e below (s₁.setTop (mkF m 16 #[.val (.int u0), .val (.int u1), .val (.int (0 : Int32)), .val (.int u0)] [(.int (8388611 : Int32)), (.int u0)])) _
          refine XS.iand X0.here hx rfl (hb hby d1_16) rfl ?_
          show Steps p.tables e below (s₁.setTop (mkF m 17 #[.val (.int u0), .val (.int u1), .val (.int (0 : Int32)), .val (.int u0)] [(.int (u0 &&& (8388611 : Int32)))])) _
          refine st11 _ ?_
          show Steps p.tables e below (s₁.setTop (mkF m 19 #[.val (.int u0), .val (.int u1), .val (.int (0 : Int32)), .val (.int u0)] [(.int (8388611 : Int32)), (.int (u0 &&& (8388611 : Int32)))])) _
          refine XS.icmpYes X0.here hx rfl (pc0 := 19) (pc' := 40) rfl (hb hby d1_19) rfl (feq hc19).2 (by decide) (by decide) ?_
          show Steps p.tables e below (s₁.setTop (mkF m 40 #[.val (.int u0), .val (.int u1), .val (.int (0 : Int32)), .val (.int u0)] [])) _
          refine XS.iloadN X0.here hx rfl (hb hby d1_40) rfl ?_
          show Steps p.tables e below (s₁.setTop (mkF m 41 #[.val (.int u0), .val (.int u1), .val (.int (0 : Int32)), .val (.int u0)] [(.int u0)])) _
          refine st14 _ ?_
          show Steps p.tables e below (s₁.setTop (mkF m 43 #[.val (.int u0), .val (.int u1), .val (.int (0 : Int32)), .val (.int u0)] [(.int (8388613 : Int32)), (.int u0)])) _
          refine XS.iand X0.here hx rfl (hb hby d1_43) rfl ?_
          show Steps p.tables e below (s₁.setTop (mkF m 44 #[.val (.int u0), .val (.int u1), .val (.int (0 : Int32)), .val (.int u0)] [(.int (u0 &&& (8388613 : Int32)))])) _
          refine st15 _ ?_
          show Steps p.tables e below (s₁.setTop (mkF m 46 #[.val (.int u0), .val (.int u1), .val (.int (0 : Int32)), .val (.int u0)] [(.int (8388613 : Int32)), (.int (u0 &&& (8388613 : Int32)))])) _
          refine XS.icmpNo X0.here hx rfl (hb hby d1_46) rfl (teq hc46).2 ?_
          show Steps p.tables e below (s₁.setTop (mkF m 49 #[.val (.int u0), .val (.int u1), .val (.int (0 : Int32)), .val (.int u0)] [])) _
          refine XS.iloadN X0.here hx rfl (hb hby d1_49) rfl ?_
          show Steps p.tables e below (s₁.setTop (mkF m 50 #[.val (.int u0), .val (.int u1), .val (.int (0 : Int32)), .val (.int u0)] [(.int u0)])) _
          refine st16 _ ?_
          show Steps p.tables e below (s₁.setTop (mkF m 52 #[.val (.int u0), .val (.int u1), .val (.int (0 : Int32)), .val (.int u0)] [(.int (-8388614 : Int32)), (.int u0)])) _
          refine XS.iand X0.here hx rfl (hb hby d1_52) rfl ?_
          show Steps p.tables e below (s₁.setTop (mkF m 53 #[.val (.int u0), .val (.int u1), .val (.int (0 : Int32)), .val (.int u0)] [(.int (u0 &&& (-8388614 : Int32)))])) _
          refine XS.iloadN X0.here hx rfl (hb hby d1_53) rfl ?_
          show Steps p.tables e below (s₁.setTop (mkF m 54 #[.val (.int u0), .val (.int u1), .val (.int (0 : Int32)), .val (.int u0)] [(.int (0 : Int32)), (.int (u0 &&& (-8388614 : Int32)))])) _
          refine XS.ifYes X0.here hx rfl (pc0 := 54) (pc' := 61) rfl (hb hby d1_54) rfl ((if0 _ _).trans (teq (by decide)).1) (by decide) (by decide) ?_
          show Steps p.tables e below (s₁.setTop (mkF m 61 #[.val (.int u0), .val (.int u1), .val (.int (0 : Int32)), .val (.int u0)] [(.int (u0 &&& (-8388614 : Int32)))])) _
          refine XS.iconst X0.here hx rfl (hb hby d1_61) ?_
          show Steps p.tables e below (s₁.setTop (mkF m 62 #[.val (.int u0), .val (.int u1), .val (.int (0 : Int32)), .val (.int u0)] [(.int (5 : Int32)), (.int (u0 &&& (-8388614 : Int32)))])) _
          refine XS.ior X0.here hx rfl (hb hby d1_62) rfl ?_
          show Steps p.tables e below (s₁.setTop (mkF m 63 #[.val (.int u0), .val (.int u1), .val (.int (0 : Int32)), .val (.int u0)] [(.int ((u0 &&& (-8388614 : Int32)) ||| (5 : Int32)))])) _
          refine XS.istoreN X0.here hx rfl (hb hby d1_63) rfl (l' := #[.val (.int u0), .val (.int u1), .val (.int (0 : Int32)), .val (.int ((u0 &&& (-8388614 : Int32)) ||| (5 : Int32)))]) rfl ?_
          show Steps p.tables e below (s₁.setTop (mkF m 64 #[.val (.int u0), .val (.int u1), .val (.int (0 : Int32)), .val (.int ((u0 &&& (-8388614 : Int32)) ||| (5 : Int32)))] [])) _
          refine XS.iloadN X0.here hx rfl (hb hby d1_64) rfl ?_
          show Steps p.tables e below (s₁.setTop (mkF m 65 #[.val (.int u0), .val (.int u1), .val (.int (0 : Int32)), .val (.int ((u0 &&& (-8388614 : Int32)) ||| (5 : Int32)))] [(.int ((u0 &&& (-8388614 : Int32)) ||| (5 : Int32)))])) _
          refine st17 _ ?_
          show Steps p.tables e below (s₁.setTop (mkF m 67 #[.val (.int u0), .val (.int u1), .val (.int (0 : Int32)), .val (.int ((u0 &&& (-8388614 : Int32)) ||| (5 : Int32)))] [(.int (-8388609 : Int32)), (.int ((u0 &&& (-8388614 : Int32)) ||| (5 : Int32)))])) _
          refine XS.iand X0.here hx rfl (hb hby d1_67) rfl ?_
          show Steps p.tables e below (s₁.setTop (mkF m 68 #[.val (.int u0), .val (.int u1), .val (.int (0 : Int32)), .val (.int ((u0 &&& (-8388614 : Int32)) ||| (5 : Int32)))] [(.int (((u0 &&& (-8388614 : Int32)) ||| (5 : Int32)) &&& (-8388609 : Int32)))])) _
          exact retI X0 hx Bd.returns (hb hby d1_68) hr
        · show Q1 Z u0 u1 h0 n0 _ s₁.heap _
          rw [e0]
          exact ⟨(by rw [hv]), N0, rfl⟩
      · have st18 := X0.ldcInt hx hown (mvT hZ (hw _ (List.mem_of_getElem? (i := 6) rfl))) (g := (mkF m 65 #[.val (.int u0), .val (.int u1), .val (.int (0 : Int32)), .val (.int u0)] [(.int u0)])) rfl (hb hby d1_65)
        have hv : absG u0 u1 = (u0 &&& (-8388609 : Int32)) := by
          unfold absG
          simp only [hc2, hc19, hc46, if_true, if_false]
        obtain ⟨fs, hr, hrun, hended, hW, hsame⟩ := X0.leave (v := some (.int (u0 &&& (-8388609 : Int32)))) (fun h => by rw [Bd.returns] at h; cases h)
        refine ⟨_, _, pre0 _ ?_, hrun, hended, _, _, rfl, ?_, ⟨_, rfl⟩, hW, hsame.mono (by decide) (by decide)⟩
        · show Steps p.tables e below (s₁.setTop (mkF m 0 #[.val (.int u0), .val (.int u1), .unset, .unset] [])) _
          refine XS.iloadN X0.here hx rfl (hb hby d1_0) rfl ?_
          show Steps p.tables e below (s₁.setTop (mkF m 1 #[.val (.int u0), .val (.int u1), .unset, .unset] [(.int u1)])) _
          refine XS.iconst X0.here hx rfl (hb hby d1_1) ?_
          show Steps p.tables e below (s₁.setTop (mkF m 2 #[.val (.int u0), .val (.int u1), .unset, .unset] [(.int (1 : Int32)), (.int u1)])) _
          refine XS.icmpYes X0.here hx rfl (pc0 := 2) (pc' := 9) rfl (hb hby d1_2) rfl (feq hc2).2 (by decide) (by decide) ?_
          show Steps p.tables e below (s₁.setTop (mkF m 9 #[.val (.int u0), .val (.int u1), .unset, .unset] [])) _
          refine XS.iconst X0.here hx rfl (hb hby d1_9) ?_
          show Steps p.tables e below (s₁.setTop (mkF m 10 #[.val (.int u0), .val (.int u1), .unset, .unset] [(.int (0 : Int32))])) _
          refine XS.istoreN X0.here hx rfl (hb hby d1_10) rfl (l' := #[.val (.int u0), .val (.int u1), .val (.int (0 : Int32)), .unset]) rfl ?_
          show Steps p.tables e below (s₁.setTop (mkF m 11 #[.val (.int u0), .val (.int u1), .val (.int (0 : Int32)), .unset] [])) _
          refine XS.iloadN X0.here hx rfl (hb hby d1_11) rfl ?_
          show Steps p.tables e below (s₁.setTop (mkF m 12 #[.val (.int u0), .val (.int u1), .val (.int (0 : Int32)), .unset] [(.int u0)])) _
          refine XS.istoreN X0.here hx rfl (hb hby d1_12) rfl (l' := #[.val (.int u0), .val (.int u1), .val (.int (0 : Int32)), .val (.int u0)]) rfl ?_
          show Steps p.tables e below (s₁.setTop (mkF m 13 #[.val (.int u0), .val (.int u1), .val (.int (0 : Int32)), .val (.int u0)] [])) _
          refine XS.iloadN X0.here hx rfl (hb hby d1_13) rfl ?_
          show Steps p.tables e below (s₁.setTop (mkF m 14 #[.val (.int u0), .val (.int u1), .val (.int (0 : Int32)), .val (.int u0)] [(.int u0)])) _
          refine st10 _ ?_
          show Steps p.tables e below (s₁.setTop (mkF m 16 #[.val (.int u0), .val (.int u1), .val (.int (0 : Int32)), .val (.int u0)] [(.int (8388611 : Int32)), (.int u0)])) _
          refine XS.iand X0.here hx rfl (hb hby d1_16) rfl ?_
          show Steps p.tables e below (s₁.setTop (mkF m 17 #[.val (.int u0), .val (.int u1), .val (.int (0 : Int32)), .val (.int u0)] [(.int (u0 &&& (8388611 : Int32)))])) _
          refine st11 _ ?_
          show Steps p.tables e below (s₁.setTop (mkF m 19 #[.val (.int u0), .val (.int u1), .val (.int (0 : Int32)), .val (.int u0)] [(.int (8388611 : Int32)), (.int (u0 &&& (8388611 : Int32)))])) _
          refine XS.icmpYes X0.here hx rfl (pc0 := 19) (pc' := 40) rfl (hb hby d1_19) rfl (feq hc19).2 (by decide) (by decide) ?_
          show Steps p.tables e below (s₁.setTop (mkF m 40 #[.val (.int u0), .val (.int u1), .val (.int (0 : Int32)), .val (.int u0)] [])) _
          refine XS.iloadN X0.here hx rfl (hb hby d1_40) rfl ?_
          show Steps p.tables e below (s₁.setTop (mkF m 41 #[.val (.int u0), .val (.int u1), .val (.int (0 : Int32)), .val (.int u0)] [(.int u0)])) _
          refine st14 _ ?_
          show Steps p.tables e below (s₁.setTop (mkF m 43 #[.val (.int u0), .val (.int u1), .val (.int (0 : Int32)), .val (.int u0)] [(.int (8388613 : Int32)), (.int u0)])) _
          refine XS.iand X0.here hx rfl (hb hby d1_43) rfl ?_
          show Steps p.tables e below (s₁.setTop (mkF m 44 #[.val (.int u0), .val (.int u1), .val (.int (0 : Int32)), .val (.int u0)] [(.int (u0 &&& (8388613 : Int32)))])) _
          refine st15 _ ?_
          show Steps p.tables e below (s₁.setTop (mkF m 46 #[.val (.int u0), .val (.int u1), .val (.int (0 : Int32)), .val (.int u0)] [(.int (8388613 : Int32)), (.int (u0 &&& (8388613 : Int32)))])) _
          refine XS.icmpYes X0.here hx rfl (pc0 := 46) (pc' := 64) rfl (hb hby d1_46) rfl (feq hc46).2 (by decide) (by decide) ?_
          show Steps p.tables e below (s₁.setTop (mkF m 64 #[.val (.int u0), .val (.int u1), .val (.int (0 : Int32)), .val (.int u0)] [])) _
          refine XS.iloadN X0.here hx rfl (hb hby d1_64) rfl ?_
          show Steps p.tables e below (s₁.setTop (mkF m 65 #[.val (.int u0), .val (.int u1), .val (.int (0 : Int32)), .val (.int u0)] [(.int u0)])) _
          refine st18 _ ?_
          show Steps p.tables e below (s₁.setTop (mkF m 67 #[.val (.int u0), .val (.int u1), .val (.int (0 : Int32)), .val (.int u0)] [(.int (-8388609 : Int32)), (.int u0)])) _
          refine XS.iand X0.here hx rfl (hb hby d1_67) rfl ?_
          show Steps p.tables e below (s₁.setTop (mkF m 68 #[.val (.int u0), .val (.int u1), .val (.int (0 : Int32)), .val (.int u0)] [(.int (u0 &&& (-8388609 : Int32)))])) _
          exact retI X0 hx Bd.returns (hb hby d1_68) hr
        · show Q1 Z u0 u1 h0 n0 _ s₁.heap _
          rw [e0]
          exact ⟨(by rw [hv]), N0, rfl⟩
theorem pd_0 : parseMethodDescriptor "(II)I" = some ⟨[.int, .int], some .int⟩ := by decide +kernel
theorem pn_com_example_decorum_decorum_GravityGetAbsoluteGravityPinLaw : plainName "com/example/decorum/decorum/GravityGetAbsoluteGravityPinLaw" = true := by first | (simp [plainName, overriddenIn]; done) | decide +kernel
theorem ef_0 (m : MethodId) (u0 : Int32) (u1 : Int32) : entryFrame m #[(.int u0), (.int u1)] maxLocals = mkF m 0 #[.val (.int u0), .val (.int u1), .unset, .unset, .unset, .unset, .unset, .unset, .unset] [] := by first | (simp [entryFrame, mkF, argsToLocals, Value.category, maxLocals]; done) | rfl
def Q0 (Z : State) (u0 : Int32) (u1 : Int32) (h0 : Heap) (n0 : Nat) (v : Option Value) (h : Heap) (L : List Loc) : Prop := v = some (.int (1 : Int32)) ∧ Fr n0 L
set_option maxRecDepth 65536 in
set_option maxHeartbeats 40000000 in
theorem rm0 (l : Launch) (Z : State) (a0 : Array Value) (hw : ∀ d ∈ tables_1, d.before a0 Z = true) (ws : List Jvm.Cond) (u0 : Int32) (u1 : Int32) (h0 : Heap) (n0 : Nat) (Z0 : n0 ≤ h0.size) :
    MetFree l x (head1 (Jvm.Cond.code x code maxLocals ret :: ws) room_1) (fun a U => a = #[(.int u0), (.int u1)] ∧ Z.Warmed39 U.vm ∧ U.heap = h0) (fun _ _ _ _ _ => True) (fun _ U o U' => ∃ v L, o = .returned v ∧ Q0 Z u0 u1 h0 n0 v U'.heap L ∧ FrameEnd U o U' L room_1.cells room_1.slots) := by
  refine MetFree.of_bodySF (plainFor_of_name pn_com_example_decorum_decorum_GravityGetAbsoluteGravityPinLaw) hisR ?_
  intro p e s m args below meth c s₁ Bd hml0 hP hK
  obtain ⟨rfl, hZ, hh⟩ := hP
  have hx := Bd.exec
  have hby := Bd.bytes
  have hml : c.maxLocals = 9 := hml0
  have hown : s.vm.findClass "com/example/decorum/decorum/GravityGetAbsoluteGravityPinLaw" = some m.cls := findClass_of_methodNamed Bd.named
  have hnm := (name_of_methodNamed Bd.named Bd.method).1
  have X0 : Stand p l e room_1 s m #[(.int u0), (.int u1)] below meth c s₁ [] 0 0 := Stand.of_body Bd
  have e0 : s₁.heap = h0 := by rw [← hh, Bd.state]; rfl
  have N0 := Fr.nil n0
  have pre0 : ∀ t, Steps p.tables e below (s₁.setTop (mkF m 0 #[.val (.int u0), .val (.int u1), .unset, .unset, .unset, .unset, .unset, .unset, .unset] [])) t → Steps p.tables e below (s₁.setTop (entryFrame m #[(.int u0), (.int u1)] maxLocals)) t := fun t k => castTop (ef_0 m u0 u1) k
  by_cases hc3 : (u1 &&& (1 : Int32)) = (0 : Int32)
  · obtain ⟨_, _, ⟨T1, L1, k1, n1⟩, -, X1, ⟨Lc1, hQ1, l1, y1, z1⟩, st1⟩ := Jvm.LawKit.callS X0 hx (y := (⟨"com/example/decorum/decorum/Gravity", "getAbsoluteGravity", "(II)I"⟩ : MethodName)) hown (mvT hZ (hw _ (List.mem_of_getElem? (i := 0) rfl))) (mvT hZ (hw _ (List.mem_of_getElem? (i := 1) rfl))) (mvT hZ (hw _ (List.mem_of_getElem? (i := 2) rfl))) (mvT hZ (hw _ (List.mem_of_getElem? (i := 3) rfl))) (by decide) (backOf (W := 0) (rm1 l Z a0 hw [] u0 (0 : Int32) h0 n0 Z0 ) hZ (hw _ (List.mem_of_getElem? (i := 3) rfl)) (hw _ (List.mem_of_getElem? (i := 2) rfl)) (by decide) (by decide)) (g := (mkF m 24 #[.val (.int u0), .val (.int u1), .val (.int (0 : Int32)), .val (.int (0 : Int32)), .unset, .unset, .unset, .unset, .unset] [(.int (0 : Int32)), (.int u0)])) rfl (by rw [hml]; rfl) (argsL := [(.int u0), (.int (0 : Int32))]) (rest := []) (lenOf pd_0 rfl) rfl (by show 2 * 0 + _ ≤ _; exact Nat.le_of_eq rfl) (hb hby at_24) (fun _ _ => ⟨rfl, e0, (by decide : 0 + 0 ≤ _), (by decide : 0 + 0 ≤ _)⟩)
    dsimp only [Pt.U, Pt.locs, Pt.cells, Pt.slots] at X1 l1 y1 z1 st1 hQ1
    subst l1 y1 z1
    obtain ⟨rfl, N1q, e1⟩ := hQ1
    have N1 := Fr.app N0 N1q
    have st2 := X1.ldcInt hx hown (mvT hZ (hw _ (List.mem_of_getElem? (i := 7) rfl))) (g := (mkF m 30 #[.val (.int u0), .val (.int u1), .val (.int (0 : Int32)), .val (.int (0 : Int32)), .val (.int (absG u0 (0 : Int32))), .unset, .unset, .unset, .unset] [(.int u0)])) rfl (hb hby at_30)
    by_cases hc33 : (u0 &&& (8388608 : Int32)) = (0 : Int32)
    · have st3 := X1.ldcInt hx hown (mvT hZ (hw _ (List.mem_of_getElem? (i := 8) rfl))) (g := (mkF m 50 #[.val (.int u0), .val (.int u1), .val (.int (0 : Int32)), .val (.int (0 : Int32)), .val (.int (absG u0 (0 : Int32))), .val (.int (0 : Int32)), .val (.int (u0 &&& (7 : Int32))), .unset, .unset] [(.int u0)])) rfl (hb hby at_50)
      have hb109 : (absG u0 (0 : Int32)) = ((u0 &&& (-8388616 : Int32)) ||| (u0 &&& (7 : Int32))) := by
        rw [abs_eq _ _ (by decide)]
        unfold expH
        simp [hc33]
      obtain ⟨fs, hr, hrun, hended, hW, hsame⟩ := X1.leave (v := some (.int (1 : Int32))) (fun h => by rw [Bd.returns] at h; cases h)
      refine ⟨_, _, pre0 _ ?_, hrun, hended, _, _, rfl, ?_, ⟨_, rfl⟩, hW, hsame.mono (by decide) (by decide)⟩
      · show Steps p.tables e below (s₁.setTop (mkF m 0 #[.val (.int u0), .val (.int u1), .unset, .unset, .unset, .unset, .unset, .unset, .unset] [])) _
        refine XS.iloadN X0.here hx rfl (hb hby at_0) rfl ?_
        show Steps p.tables e below (s₁.setTop (mkF m 1 #[.val (.int u0), .val (.int u1), .unset, .unset, .unset, .unset, .unset, .unset, .unset] [(.int u1)])) _
        refine XS.iconst X0.here hx rfl (hb hby at_1) ?_
        show Steps p.tables e below (s₁.setTop (mkF m 2 #[.val (.int u0), .val (.int u1), .unset, .unset, .unset, .unset, .unset, .unset, .unset] [(.int (1 : Int32)), (.int u1)])) _
        refine XS.iand X0.here hx rfl (hb hby at_2) rfl ?_
        show Steps p.tables e below (s₁.setTop (mkF m 3 #[.val (.int u0), .val (.int u1), .unset, .unset, .unset, .unset, .unset, .unset, .unset] [(.int (u1 &&& (1 : Int32)))])) _
        refine XS.ifYes X0.here hx rfl (pc0 := 3) (pc' := 10) rfl (hb hby at_3) rfl ((if0 _ _).trans (teq hc3).1) (by decide) (by decide) ?_
        show Steps p.tables e below (s₁.setTop (mkF m 10 #[.val (.int u0), .val (.int u1), .unset, .unset, .unset, .unset, .unset, .unset, .unset] [])) _
        refine XS.iconst X0.here hx rfl (hb hby at_10) ?_
        show Steps p.tables e below (s₁.setTop (mkF m 11 #[.val (.int u0), .val (.int u1), .unset, .unset, .unset, .unset, .unset, .unset, .unset] [(.int (0 : Int32))])) _
        refine XS.istoreN X0.here hx rfl (hb hby at_11) rfl (l' := #[.val (.int u0), .val (.int u1), .val (.int (0 : Int32)), .unset, .unset, .unset, .unset, .unset, .unset]) rfl ?_
        show Steps p.tables e below (s₁.setTop (mkF m 12 #[.val (.int u0), .val (.int u1), .val (.int (0 : Int32)), .unset, .unset, .unset, .unset, .unset, .unset] [])) _
        refine XS.iloadN X0.here hx rfl (hb hby at_12) rfl ?_
        show Steps p.tables e below (s₁.setTop (mkF m 13 #[.val (.int u0), .val (.int u1), .val (.int (0 : Int32)), .unset, .unset, .unset, .unset, .unset, .unset] [(.int (0 : Int32))])) _
        refine XS.ifYes X0.here hx rfl (pc0 := 13) (pc' := 20) rfl (hb hby at_13) rfl ((if0 _ _).trans (teq (by decide)).1) (by decide) (by decide) ?_
        show Steps p.tables e below (s₁.setTop (mkF m 20 #[.val (.int u0), .val (.int u1), .val (.int (0 : Int32)), .unset, .unset, .unset, .unset, .unset, .unset] [])) _
        refine XS.iconst X0.here hx rfl (hb hby at_20) ?_
        show Steps p.tables e below (s₁.setTop (mkF m 21 #[.val (.int u0), .val (.int u1), .val (.int (0 : Int32)), .unset, .unset, .unset, .unset, .unset, .unset] [(.int (0 : Int32))])) _
        refine XS.istoreN X0.here hx rfl (hb hby at_21) rfl (l' := #[.val (.int u0), .val (.int u1), .val (.int (0 : Int32)), .val (.int (0 : Int32)), .unset, .unset, .unset, .unset, .unset]) rfl ?_
        show Steps p.tables e below (s₁.setTop (mkF m 22 #[.val (.int u0), .val (.int u1), .val (.int (0 : Int32)), .val (.int (0 : Int32)), .unset, .unset, .unset, .unset, .unset] [])) _
        refine XS.iloadN X0.here hx rfl (hb hby at_22) rfl ?_
        show Steps p.tables e below (s₁.setTop (mkF m 23 #[.val (.int u0), .val (.int u1), .val (.int (0 : Int32)), .val (.int (0 : Int32)), .unset, .unset, .unset, .unset, .unset] [(.int u0)])) _
        refine XS.iloadN X0.here hx rfl (hb hby at_23) rfl ?_
        show Steps p.tables e below (s₁.setTop (mkF m 24 #[.val (.int u0), .val (.int u1), .val (.int (0 : Int32)), .val (.int (0 : Int32)), .unset, .unset, .unset, .unset, .unset] [(.int (0 : Int32)), (.int u0)])) _
        refine st1 _ ?_
        show Steps p.tables e below (T1.setTop (mkF m 27 #[.val (.int u0), .val (.int u1), .val (.int (0 : Int32)), .val (.int (0 : Int32)), .unset, .unset, .unset, .unset, .unset] [(.int (absG u0 (0 : Int32)))])) _
        refine XS.istore X1.here hx rfl (hb hby at_27) rfl (l' := #[.val (.int u0), .val (.int u1), .val (.int (0 : Int32)), .val (.int (0 : Int32)), .val (.int (absG u0 (0 : Int32))), .unset, .unset, .unset, .unset]) rfl ?_
        show Steps p.tables e below (T1.setTop (mkF m 29 #[.val (.int u0), .val (.int u1), .val (.int (0 : Int32)), .val (.int (0 : Int32)), .val (.int (absG u0 (0 : Int32))), .unset, .unset, .unset, .unset] [])) _
        refine XS.iloadN X1.here hx rfl (hb hby at_29) rfl ?_
        show Steps p.tables e below (T1.setTop (mkF m 30 #[.val (.int u0), .val (.int u1), .val (.int (0 : Int32)), .val (.int (0 : Int32)), .val (.int (absG u0 (0 : Int32))), .unset, .unset, .unset, .unset] [(.int u0)])) _
        refine st2 _ ?_
        show Steps p.tables e below (T1.setTop (mkF m 32 #[.val (.int u0), .val (.int u1), .val (.int (0 : Int32)), .val (.int (0 : Int32)), .val (.int (absG u0 (0 : Int32))), .unset, .unset, .unset, .unset] [(.int (8388608 : Int32)), (.int u0)])) _
        refine XS.iand X1.here hx rfl (hb hby at_32) rfl ?_
        show Steps p.tables e below (T1.setTop (mkF m 33 #[.val (.int u0), .val (.int u1), .val (.int (0 : Int32)), .val (.int (0 : Int32)), .val (.int (absG u0 (0 : Int32))), .unset, .unset, .unset, .unset] [(.int (u0 &&& (8388608 : Int32)))])) _
        refine XS.ifYes X1.here hx rfl (pc0 := 33) (pc' := 40) rfl (hb hby at_33) rfl ((if0 _ _).trans (teq hc33).1) (by decide) (by decide) ?_
        show Steps p.tables e below (T1.setTop (mkF m 40 #[.val (.int u0), .val (.int u1), .val (.int (0 : Int32)), .val (.int (0 : Int32)), .val (.int (absG u0 (0 : Int32))), .unset, .unset, .unset, .unset] [])) _
        refine XS.iconst X1.here hx rfl (hb hby at_40) ?_
        show Steps p.tables e below (T1.setTop (mkF m 41 #[.val (.int u0), .val (.int u1), .val (.int (0 : Int32)), .val (.int (0 : Int32)), .val (.int (absG u0 (0 : Int32))), .unset, .unset, .unset, .unset] [(.int (0 : Int32))])) _
        refine XS.istore X1.here hx rfl (hb hby at_41) rfl (l' := #[.val (.int u0), .val (.int u1), .val (.int (0 : Int32)), .val (.int (0 : Int32)), .val (.int (absG u0 (0 : Int32))), .val (.int (0 : Int32)), .unset, .unset, .unset]) rfl ?_
        show Steps p.tables e below (T1.setTop (mkF m 43 #[.val (.int u0), .val (.int u1), .val (.int (0 : Int32)), .val (.int (0 : Int32)), .val (.int (absG u0 (0 : Int32))), .val (.int (0 : Int32)), .unset, .unset, .unset] [])) _
        refine XS.iloadN X1.here hx rfl (hb hby at_43) rfl ?_
        show Steps p.tables e below (T1.setTop (mkF m 44 #[.val (.int u0), .val (.int u1), .val (.int (0 : Int32)), .val (.int (0 : Int32)), .val (.int (absG u0 (0 : Int32))), .val (.int (0 : Int32)), .unset, .unset, .unset] [(.int u0)])) _
        refine XS.bipush X1.here hx rfl (hb hby at_44) ?_
        show Steps p.tables e below (T1.setTop (mkF m 46 #[.val (.int u0), .val (.int u1), .val (.int (0 : Int32)), .val (.int (0 : Int32)), .val (.int (absG u0 (0 : Int32))), .val (.int (0 : Int32)), .unset, .unset, .unset] [(.int (7 : Int32)), (.int u0)])) _
        refine XS.iand X1.here hx rfl (hb hby at_46) rfl ?_
        show Steps p.tables e below (T1.setTop (mkF m 47 #[.val (.int u0), .val (.int u1), .val (.int (0 : Int32)), .val (.int (0 : Int32)), .val (.int (absG u0 (0 : Int32))), .val (.int (0 : Int32)), .unset, .unset, .unset] [(.int (u0 &&& (7 : Int32)))])) _
        refine XS.istore X1.here hx rfl (hb hby at_47) rfl (l' := #[.val (.int u0), .val (.int u1), .val (.int (0 : Int32)), .val (.int (0 : Int32)), .val (.int (absG u0 (0 : Int32))), .val (.int (0 : Int32)), .val (.int (u0 &&& (7 : Int32))), .unset, .unset]) rfl ?_
        show Steps p.tables e below (T1.setTop (mkF m 49 #[.val (.int u0), .val (.int u1), .val (.int (0 : Int32)), .val (.int (0 : Int32)), .val (.int (absG u0 (0 : Int32))), .val (.int (0 : Int32)), .val (.int (u0 &&& (7 : Int32))), .unset, .unset] [])) _
        refine XS.iloadN X1.here hx rfl (hb hby at_49) rfl ?_
        show Steps p.tables e below (T1.setTop (mkF m 50 #[.val (.int u0), .val (.int u1), .val (.int (0 : Int32)), .val (.int (0 : Int32)), .val (.int (absG u0 (0 : Int32))), .val (.int (0 : Int32)), .val (.int (u0 &&& (7 : Int32))), .unset, .unset] [(.int u0)])) _
        refine st3 _ ?_
        show Steps p.tables e below (T1.setTop (mkF m 52 #[.val (.int u0), .val (.int u1), .val (.int (0 : Int32)), .val (.int (0 : Int32)), .val (.int (absG u0 (0 : Int32))), .val (.int (0 : Int32)), .val (.int (u0 &&& (7 : Int32))), .unset, .unset] [(.int (-8388616 : Int32)), (.int u0)])) _
        refine XS.iand X1.here hx rfl (hb hby at_52) rfl ?_
        show Steps p.tables e below (T1.setTop (mkF m 53 #[.val (.int u0), .val (.int u1), .val (.int (0 : Int32)), .val (.int (0 : Int32)), .val (.int (absG u0 (0 : Int32))), .val (.int (0 : Int32)), .val (.int (u0 &&& (7 : Int32))), .unset, .unset] [(.int (u0 &&& (-8388616 : Int32)))])) _
        refine XS.istore X1.here hx rfl (hb hby at_53) rfl (l' := #[.val (.int u0), .val (.int u1), .val (.int (0 : Int32)), .val (.int (0 : Int32)), .val (.int (absG u0 (0 : Int32))), .val (.int (0 : Int32)), .val (.int (u0 &&& (7 : Int32))), .val (.int (u0 &&& (-8388616 : Int32))), .unset]) rfl ?_
        show Steps p.tables e below (T1.setTop (mkF m 55 #[.val (.int u0), .val (.int u1), .val (.int (0 : Int32)), .val (.int (0 : Int32)), .val (.int (absG u0 (0 : Int32))), .val (.int (0 : Int32)), .val (.int (u0 &&& (7 : Int32))), .val (.int (u0 &&& (-8388616 : Int32))), .unset] [])) _
        refine XS.iload X1.here hx rfl (hb hby at_55) rfl ?_
        show Steps p.tables e below (T1.setTop (mkF m 57 #[.val (.int u0), .val (.int u1), .val (.int (0 : Int32)), .val (.int (0 : Int32)), .val (.int (absG u0 (0 : Int32))), .val (.int (0 : Int32)), .val (.int (u0 &&& (7 : Int32))), .val (.int (u0 &&& (-8388616 : Int32))), .unset] [(.int (u0 &&& (7 : Int32)))])) _
        refine XS.istore X1.here hx rfl (hb hby at_57) rfl (l' := #[.val (.int u0), .val (.int u1), .val (.int (0 : Int32)), .val (.int (0 : Int32)), .val (.int (absG u0 (0 : Int32))), .val (.int (0 : Int32)), .val (.int (u0 &&& (7 : Int32))), .val (.int (u0 &&& (-8388616 : Int32))), .val (.int (u0 &&& (7 : Int32)))]) rfl ?_
        show Steps p.tables e below (T1.setTop (mkF m 59 #[.val (.int u0), .val (.int u1), .val (.int (0 : Int32)), .val (.int (0 : Int32)), .val (.int (absG u0 (0 : Int32))), .val (.int (0 : Int32)), .val (.int (u0 &&& (7 : Int32))), .val (.int (u0 &&& (-8388616 : Int32))), .val (.int (u0 &&& (7 : Int32)))] [])) _
        refine XS.iload X1.here hx rfl (hb hby at_59) rfl ?_
        show Steps p.tables e below (T1.setTop (mkF m 61 #[.val (.int u0), .val (.int u1), .val (.int (0 : Int32)), .val (.int (0 : Int32)), .val (.int (absG u0 (0 : Int32))), .val (.int (0 : Int32)), .val (.int (u0 &&& (7 : Int32))), .val (.int (u0 &&& (-8388616 : Int32))), .val (.int (u0 &&& (7 : Int32)))] [(.int (0 : Int32))])) _
        refine XS.ifYes X1.here hx rfl (pc0 := 61) (pc' := 102) rfl (hb hby at_61) rfl ((if0 _ _).trans (teq (by decide)).1) (by decide) (by decide) ?_
        show Steps p.tables e below (T1.setTop (mkF m 102 #[.val (.int u0), .val (.int u1), .val (.int (0 : Int32)), .val (.int (0 : Int32)), .val (.int (absG u0 (0 : Int32))), .val (.int (0 : Int32)), .val (.int (u0 &&& (7 : Int32))), .val (.int (u0 &&& (-8388616 : Int32))), .val (.int (u0 &&& (7 : Int32)))] [])) _
        refine XS.iload X1.here hx rfl (hb hby at_102) rfl ?_
        show Steps p.tables e below (T1.setTop (mkF m 104 #[.val (.int u0), .val (.int u1), .val (.int (0 : Int32)), .val (.int (0 : Int32)), .val (.int (absG u0 (0 : Int32))), .val (.int (0 : Int32)), .val (.int (u0 &&& (7 : Int32))), .val (.int (u0 &&& (-8388616 : Int32))), .val (.int (u0 &&& (7 : Int32)))] [(.int (absG u0 (0 : Int32)))])) _
        refine XS.iload X1.here hx rfl (hb hby at_104) rfl ?_
        show Steps p.tables e below (T1.setTop (mkF m 106 #[.val (.int u0), .val (.int u1), .val (.int (0 : Int32)), .val (.int (0 : Int32)), .val (.int (absG u0 (0 : Int32))), .val (.int (0 : Int32)), .val (.int (u0 &&& (7 : Int32))), .val (.int (u0 &&& (-8388616 : Int32))), .val (.int (u0 &&& (7 : Int32)))] [(.int (u0 &&& (-8388616 : Int32))), (.int (absG u0 (0 : Int32)))])) _
        refine XS.iload X1.here hx rfl (hb hby at_106) rfl ?_
        show Steps p.tables e below (T1.setTop (mkF m 108 #[.val (.int u0), .val (.int u1), .val (.int (0 : Int32)), .val (.int (0 : Int32)), .val (.int (absG u0 (0 : Int32))), .val (.int (0 : Int32)), .val (.int (u0 &&& (7 : Int32))), .val (.int (u0 &&& (-8388616 : Int32))), .val (.int (u0 &&& (7 : Int32)))] [(.int (u0 &&& (7 : Int32))), (.int (u0 &&& (-8388616 : Int32))), (.int (absG u0 (0 : Int32)))])) _
        refine XS.ior X1.here hx rfl (hb hby at_108) rfl ?_
        show Steps p.tables e below (T1.setTop (mkF m 109 #[.val (.int u0), .val (.int u1), .val (.int (0 : Int32)), .val (.int (0 : Int32)), .val (.int (absG u0 (0 : Int32))), .val (.int (0 : Int32)), .val (.int (u0 &&& (7 : Int32))), .val (.int (u0 &&& (-8388616 : Int32))), .val (.int (u0 &&& (7 : Int32)))] [(.int ((u0 &&& (-8388616 : Int32)) ||| (u0 &&& (7 : Int32)))), (.int (absG u0 (0 : Int32)))])) _
        refine XS.icmpNo X1.here hx rfl (hb hby at_109) rfl (teq hb109).2 ?_
        show Steps p.tables e below (T1.setTop (mkF m 112 #[.val (.int u0), .val (.int u1), .val (.int (0 : Int32)), .val (.int (0 : Int32)), .val (.int (absG u0 (0 : Int32))), .val (.int (0 : Int32)), .val (.int (u0 &&& (7 : Int32))), .val (.int (u0 &&& (-8388616 : Int32))), .val (.int (u0 &&& (7 : Int32)))] [])) _
        refine XS.iconst X1.here hx rfl (hb hby at_112) ?_
        show Steps p.tables e below (T1.setTop (mkF m 113 #[.val (.int u0), .val (.int u1), .val (.int (0 : Int32)), .val (.int (0 : Int32)), .val (.int (absG u0 (0 : Int32))), .val (.int (0 : Int32)), .val (.int (u0 &&& (7 : Int32))), .val (.int (u0 &&& (-8388616 : Int32))), .val (.int (u0 &&& (7 : Int32)))] [(.int (1 : Int32))])) _
        refine XS.goto X1.here hx rfl (pc0 := 113) (pc' := 117) rfl (hb hby at_113) (by decide) (by decide) ?_
        show Steps p.tables e below (T1.setTop (mkF m 117 #[.val (.int u0), .val (.int u1), .val (.int (0 : Int32)), .val (.int (0 : Int32)), .val (.int (absG u0 (0 : Int32))), .val (.int (0 : Int32)), .val (.int (u0 &&& (7 : Int32))), .val (.int (u0 &&& (-8388616 : Int32))), .val (.int (u0 &&& (7 : Int32)))] [(.int (1 : Int32))])) _
        exact retN X1 hx (t := .boolean) Bd.returns (by simp) (hb hby at_117) hr
      · show Q0 Z u0 u1 h0 n0 _ T1.heap _
        rw [e1]
        exact ⟨rfl, N1⟩
    · have st4 := X1.ldcInt hx hown (mvT hZ (hw _ (List.mem_of_getElem? (i := 8) rfl))) (g := (mkF m 50 #[.val (.int u0), .val (.int u1), .val (.int (0 : Int32)), .val (.int (0 : Int32)), .val (.int (absG u0 (0 : Int32))), .val (.int (1 : Int32)), .val (.int (u0 &&& (7 : Int32))), .unset, .unset] [(.int u0)])) rfl (hb hby at_50)
      have hb109 : (absG u0 (0 : Int32)) = ((u0 &&& (-8388616 : Int32)) ||| (u0 &&& (7 : Int32))) := by
        rw [abs_eq _ _ (by decide)]
        unfold expH
        simp [hc33]
      obtain ⟨fs, hr, hrun, hended, hW, hsame⟩ := X1.leave (v := some (.int (1 : Int32))) (fun h => by rw [Bd.returns] at h; cases h)
      refine ⟨_, _, pre0 _ ?_, hrun, hended, _, _, rfl, ?_, ⟨_, rfl⟩, hW, hsame.mono (by decide) (by decide)⟩
      · show Steps p.tables e below (s₁.setTop (mkF m 0 #[.val (.int u0), .val (.int u1), .unset, .unset, .unset, .unset, .unset, .unset, .unset] [])) _
        refine XS.iloadN X0.here hx rfl (hb hby at_0) rfl ?_
        show Steps p.tables e below (s₁.setTop (mkF m 1 #[.val (.int u0), .val (.int u1), .unset, .unset, .unset, .unset, .unset, .unset, .unset] [(.int u1)])) _
        refine XS.iconst X0.here hx rfl (hb hby at_1) ?_
        show Steps p.tables e below (s₁.setTop (mkF m 2 #[.val (.int u0), .val (.int u1), .unset, .unset, .unset, .unset, .unset, .unset, .unset] [(.int (1 : Int32)), (.int u1)])) _
        refine XS.iand X0.here hx rfl (hb hby at_2) rfl ?_
        show Steps p.tables e below (s₁.setTop (mkF m 3 #[.val (.int u0), .val (.int u1), .unset, .unset, .unset, .unset, .unset, .unset, .unset] [(.int (u1 &&& (1 : Int32)))])) _
        refine XS.ifYes X0.here hx rfl (pc0 := 3) (pc' := 10) rfl (hb hby at_3) rfl ((if0 _ _).trans (teq hc3).1) (by decide) (by decide) ?_
        show Steps p.tables e below (s₁.setTop (mkF m 10 #[.val (.int u0), .val (.int u1), .unset, .unset, .unset, .unset, .unset, .unset, .unset] [])) _
        refine XS.iconst X0.here hx rfl (hb hby at_10) ?_
        show Steps p.tables e below (s₁.setTop (mkF m 11 #[.val (.int u0), .val (.int u1), .unset, .unset, .unset, .unset, .unset, .unset, .unset] [(.int (0 : Int32))])) _
        refine XS.istoreN X0.here hx rfl (hb hby at_11) rfl (l' := #[.val (.int u0), .val (.int u1), .val (.int (0 : Int32)), .unset, .unset, .unset, .unset, .unset, .unset]) rfl ?_
        show Steps p.tables e below (s₁.setTop (mkF m 12 #[.val (.int u0), .val (.int u1), .val (.int (0 : Int32)), .unset, .unset, .unset, .unset, .unset, .unset] [])) _
        refine XS.iloadN X0.here hx rfl (hb hby at_12) rfl ?_
        show Steps p.tables e below (s₁.setTop (mkF m 13 #[.val (.int u0), .val (.int u1), .val (.int (0 : Int32)), .unset, .unset, .unset, .unset, .unset, .unset] [(.int (0 : Int32))])) _
        refine XS.ifYes X0.here hx rfl (pc0 := 13) (pc' := 20) rfl (hb hby at_13) rfl ((if0 _ _).trans (teq (by decide)).1) (by decide) (by decide) ?_
        show Steps p.tables e below (s₁.setTop (mkF m 20 #[.val (.int u0), .val (.int u1), .val (.int (0 : Int32)), .unset, .unset, .unset, .unset, .unset, .unset] [])) _
        refine XS.iconst X0.here hx rfl (hb hby at_20) ?_
        show Steps p.tables e below (s₁.setTop (mkF m 21 #[.val (.int u0), .val (.int u1), .val (.int (0 : Int32)), .unset, .unset, .unset, .unset, .unset, .unset] [(.int (0 : Int32))])) _
        refine XS.istoreN X0.here hx rfl (hb hby at_21) rfl (l' := #[.val (.int u0), .val (.int u1), .val (.int (0 : Int32)), .val (.int (0 : Int32)), .unset, .unset, .unset, .unset, .unset]) rfl ?_
        show Steps p.tables e below (s₁.setTop (mkF m 22 #[.val (.int u0), .val (.int u1), .val (.int (0 : Int32)), .val (.int (0 : Int32)), .unset, .unset, .unset, .unset, .unset] [])) _
        refine XS.iloadN X0.here hx rfl (hb hby at_22) rfl ?_
        show Steps p.tables e below (s₁.setTop (mkF m 23 #[.val (.int u0), .val (.int u1), .val (.int (0 : Int32)), .val (.int (0 : Int32)), .unset, .unset, .unset, .unset, .unset] [(.int u0)])) _
        refine XS.iloadN X0.here hx rfl (hb hby at_23) rfl ?_
        show Steps p.tables e below (s₁.setTop (mkF m 24 #[.val (.int u0), .val (.int u1), .val (.int (0 : Int32)), .val (.int (0 : Int32)), .unset, .unset, .unset, .unset, .unset] [(.int (0 : Int32)), (.int u0)])) _
        refine st1 _ ?_
        show Steps p.tables e below (T1.setTop (mkF m 27 #[.val (.int u0), .val (.int u1), .val (.int (0 : Int32)), .val (.int (0 : Int32)), .unset, .unset, .unset, .unset, .unset] [(.int (absG u0 (0 : Int32)))])) _
        refine XS.istore X1.here hx rfl (hb hby at_27) rfl (l' := #[.val (.int u0), .val (.int u1), .val (.int (0 : Int32)), .val (.int (0 : Int32)), .val (.int (absG u0 (0 : Int32))), .unset, .unset, .unset, .unset]) rfl ?_
        show Steps p.tables e below (T1.setTop (mkF m 29 #[.val (.int u0), .val (.int u1), .val (.int (0 : Int32)), .val (.int (0 : Int32)), .val (.int (absG u0 (0 : Int32))), .unset, .unset, .unset, .unset] [])) _
        refine XS.iloadN X1.here hx rfl (hb hby at_29) rfl ?_
        show Steps p.tables e below (T1.setTop (mkF m 30 #[.val (.int u0), .val (.int u1), .val (.int (0 : Int32)), .val (.int (0 : Int32)), .val (.int (absG u0 (0 : Int32))), .unset, .unset, .unset, .unset] [(.int u0)])) _
        refine st2 _ ?_
        show Steps p.tables e below (T1.setTop (mkF m 32 #[.val (.int u0), .val (.int u1), .val (.int (0 : Int32)), .val (.int (0 : Int32)), .val (.int (absG u0 (0 : Int32))), .unset, .unset, .unset, .unset] [(.int (8388608 : Int32)), (.int u0)])) _
        refine XS.iand X1.here hx rfl (hb hby at_32) rfl ?_
        show Steps p.tables e below (T1.setTop (mkF m 33 #[.val (.int u0), .val (.int u1), .val (.int (0 : Int32)), .val (.int (0 : Int32)), .val (.int (absG u0 (0 : Int32))), .unset, .unset, .unset, .unset] [(.int (u0 &&& (8388608 : Int32)))])) _
        refine XS.ifNo X1.here hx rfl (hb hby at_33) rfl ((if0 _ _).trans (feq hc33).1) ?_
        show Steps p.tables e below (T1.setTop (mkF m 36 #[.val (.int u0), .val (.int u1), .val (.int (0 : Int32)), .val (.int (0 : Int32)), .val (.int (absG u0 (0 : Int32))), .unset, .unset, .unset, .unset] [])) _
        refine XS.iconst X1.here hx rfl (hb hby at_36) ?_
        show Steps p.tables e below (T1.setTop (mkF m 37 #[.val (.int u0), .val (.int u1), .val (.int (0 : Int32)), .val (.int (0 : Int32)), .val (.int (absG u0 (0 : Int32))), .unset, .unset, .unset, .unset] [(.int (1 : Int32))])) _
        refine XS.goto X1.here hx rfl (pc0 := 37) (pc' := 41) rfl (hb hby at_37) (by decide) (by decide) ?_
        show Steps p.tables e below (T1.setTop (mkF m 41 #[.val (.int u0), .val (.int u1), .val (.int (0 : Int32)), .val (.int (0 : Int32)), .val (.int (absG u0 (0 : Int32))), .unset, .unset, .unset, .unset] [(.int (1 : Int32))])) _
        refine XS.istore X1.here hx rfl (hb hby at_41) rfl (l' := #[.val (.int u0), .val (.int u1), .val (.int (0 : Int32)), .val (.int (0 : Int32)), .val (.int (absG u0 (0 : Int32))), .val (.int (1 : Int32)), .unset, .unset, .unset]) rfl ?_
        show Steps p.tables e below (T1.setTop (mkF m 43 #[.val (.int u0), .val (.int u1), .val (.int (0 : Int32)), .val (.int (0 : Int32)), .val (.int (absG u0 (0 : Int32))), .val (.int (1 : Int32)), .unset, .unset, .unset] [])) _
        refine XS.iloadN X1.here hx rfl (hb hby at_43) rfl ?_
        show Steps p.tables e below (T1.setTop (mkF m 44 #[.val (.int u0), .val (.int u1), .val (.int (0 : Int32)), .val (.int (0 : Int32)), .val (.int (absG u0 (0 : Int32))), .val (.int (1 : Int32)), .unset, .unset, .unset] [(.int u0)])) _
        refine XS.bipush X1.here hx rfl (hb hby at_44) ?_
        show Steps p.tables e below (T1.setTop (mkF m 46 #[.val (.int u0), .val (.int u1), .val (.int (0 : Int32)), .val (.int (0 : Int32)), .val (.int (absG u0 (0 : Int32))), .val (.int (1 : Int32)), .unset, .unset, .unset] [(.int (7 : Int32)), (.int u0)])) _
        refine XS.iand X1.here hx rfl (hb hby at_46) rfl ?_
        show Steps p.tables e below (T1.setTop (mkF m 47 #[.val (.int u0), .val (.int u1), .val (.int (0 : Int32)), .val (.int (0 : Int32)), .val (.int (absG u0 (0 : Int32))), .val (.int (1 : Int32)), .unset, .unset, .unset] [(.int (u0 &&& (7 : Int32)))])) _
        refine XS.istore X1.here hx rfl (hb hby at_47) rfl (l' := #[.val (.int u0), .val (.int u1), .val (.int (0 : Int32)), .val (.int (0 : Int32)), .val (.int (absG u0 (0 : Int32))), .val (.int (1 : Int32)), .val (.int (u0 &&& (7 : Int32))), .unset, .unset]) rfl ?_
        show Steps p.tables e below (T1.setTop (mkF m 49 #[.val (.int u0), .val (.int u1), .val (.int (0 : Int32)), .val (.int (0 : Int32)), .val (.int (absG u0 (0 : Int32))), .val (.int (1 : Int32)), .val (.int (u0 &&& (7 : Int32))), .unset, .unset] [])) _
        refine XS.iloadN X1.here hx rfl (hb hby at_49) rfl ?_
        show Steps p.tables e below (T1.setTop (mkF m 50 #[.val (.int u0), .val (.int u1), .val (.int (0 : Int32)), .val (.int (0 : Int32)), .val (.int (absG u0 (0 : Int32))), .val (.int (1 : Int32)), .val (.int (u0 &&& (7 : Int32))), .unset, .unset] [(.int u0)])) _
        refine st4 _ ?_
        show Steps p.tables e below (T1.setTop (mkF m 52 #[.val (.int u0), .val (.int u1), .val (.int (0 : Int32)), .val (.int (0 : Int32)), .val (.int (absG u0 (0 : Int32))), .val (.int (1 : Int32)), .val (.int (u0 &&& (7 : Int32))), .unset, .unset] [(.int (-8388616 : Int32)), (.int u0)])) _
        refine XS.iand X1.here hx rfl (hb hby at_52) rfl ?_
        show Steps p.tables e below (T1.setTop (mkF m 53 #[.val (.int u0), .val (.int u1), .val (.int (0 : Int32)), .val (.int (0 : Int32)), .val (.int (absG u0 (0 : Int32))), .val (.int (1 : Int32)), .val (.int (u0 &&& (7 : Int32))), .unset, .unset] [(.int (u0 &&& (-8388616 : Int32)))])) _
        refine XS.istore X1.here hx rfl (hb hby at_53) rfl (l' := #[.val (.int u0), .val (.int u1), .val (.int (0 : Int32)), .val (.int (0 : Int32)), .val (.int (absG u0 (0 : Int32))), .val (.int (1 : Int32)), .val (.int (u0 &&& (7 : Int32))), .val (.int (u0 &&& (-8388616 : Int32))), .unset]) rfl ?_
        show Steps p.tables e below (T1.setTop (mkF m 55 #[.val (.int u0), .val (.int u1), .val (.int (0 : Int32)), .val (.int (0 : Int32)), .val (.int (absG u0 (0 : Int32))), .val (.int (1 : Int32)), .val (.int (u0 &&& (7 : Int32))), .val (.int (u0 &&& (-8388616 : Int32))), .unset] [])) _
        refine XS.iload X1.here hx rfl (hb hby at_55) rfl ?_
        show Steps p.tables e below (T1.setTop (mkF m 57 #[.val (.int u0), .val (.int u1), .val (.int (0 : Int32)), .val (.int (0 : Int32)), .val (.int (absG u0 (0 : Int32))), .val (.int (1 : Int32)), .val (.int (u0 &&& (7 : Int32))), .val (.int (u0 &&& (-8388616 : Int32))), .unset] [(.int (u0 &&& (7 : Int32)))])) _
        refine XS.istore X1.here hx rfl (hb hby at_57) rfl (l' := #[.val (.int u0), .val (.int u1), .val (.int (0 : Int32)), .val (.int (0 : Int32)), .val (.int (absG u0 (0 : Int32))), .val (.int (1 : Int32)), .val (.int (u0 &&& (7 : Int32))), .val (.int (u0 &&& (-8388616 : Int32))), .val (.int (u0 &&& (7 : Int32)))]) rfl ?_
        show Steps p.tables e below (T1.setTop (mkF m 59 #[.val (.int u0), .val (.int u1), .val (.int (0 : Int32)), .val (.int (0 : Int32)), .val (.int (absG u0 (0 : Int32))), .val (.int (1 : Int32)), .val (.int (u0 &&& (7 : Int32))), .val (.int (u0 &&& (-8388616 : Int32))), .val (.int (u0 &&& (7 : Int32)))] [])) _
        refine XS.iload X1.here hx rfl (hb hby at_59) rfl ?_
        show Steps p.tables e below (T1.setTop (mkF m 61 #[.val (.int u0), .val (.int u1), .val (.int (0 : Int32)), .val (.int (0 : Int32)), .val (.int (absG u0 (0 : Int32))), .val (.int (1 : Int32)), .val (.int (u0 &&& (7 : Int32))), .val (.int (u0 &&& (-8388616 : Int32))), .val (.int (u0 &&& (7 : Int32)))] [(.int (1 : Int32))])) _
        refine XS.ifNo X1.here hx rfl (hb hby at_61) rfl ((if0 _ _).trans (feq (by decide)).1) ?_
        show Steps p.tables e below (T1.setTop (mkF m 64 #[.val (.int u0), .val (.int u1), .val (.int (0 : Int32)), .val (.int (0 : Int32)), .val (.int (absG u0 (0 : Int32))), .val (.int (1 : Int32)), .val (.int (u0 &&& (7 : Int32))), .val (.int (u0 &&& (-8388616 : Int32))), .val (.int (u0 &&& (7 : Int32)))] [])) _
        refine XS.iloadN X1.here hx rfl (hb hby at_64) rfl ?_
        show Steps p.tables e below (T1.setTop (mkF m 65 #[.val (.int u0), .val (.int u1), .val (.int (0 : Int32)), .val (.int (0 : Int32)), .val (.int (absG u0 (0 : Int32))), .val (.int (1 : Int32)), .val (.int (u0 &&& (7 : Int32))), .val (.int (u0 &&& (-8388616 : Int32))), .val (.int (u0 &&& (7 : Int32)))] [(.int (0 : Int32))])) _
        refine XS.ifYes X1.here hx rfl (pc0 := 65) (pc' := 102) rfl (hb hby at_65) rfl ((if0 _ _).trans (teq (by decide)).1) (by decide) (by decide) ?_
        show Steps p.tables e below (T1.setTop (mkF m 102 #[.val (.int u0), .val (.int u1), .val (.int (0 : Int32)), .val (.int (0 : Int32)), .val (.int (absG u0 (0 : Int32))), .val (.int (1 : Int32)), .val (.int (u0 &&& (7 : Int32))), .val (.int (u0 &&& (-8388616 : Int32))), .val (.int (u0 &&& (7 : Int32)))] [])) _
        refine XS.iload X1.here hx rfl (hb hby at_102) rfl ?_
        show Steps p.tables e below (T1.setTop (mkF m 104 #[.val (.int u0), .val (.int u1), .val (.int (0 : Int32)), .val (.int (0 : Int32)), .val (.int (absG u0 (0 : Int32))), .val (.int (1 : Int32)), .val (.int (u0 &&& (7 : Int32))), .val (.int (u0 &&& (-8388616 : Int32))), .val (.int (u0 &&& (7 : Int32)))] [(.int (absG u0 (0 : Int32)))])) _
        refine XS.iload X1.here hx rfl (hb hby at_104) rfl ?_
        show Steps p.tables e below (T1.setTop (mkF m 106 #[.val (.int u0), .val (.int u1), .val (.int (0 : Int32)), .val (.int (0 : Int32)), .val (.int (absG u0 (0 : Int32))), .val (.int (1 : Int32)), .val (.int (u0 &&& (7 : Int32))), .val (.int (u0 &&& (-8388616 : Int32))), .val (.int (u0 &&& (7 : Int32)))] [(.int (u0 &&& (-8388616 : Int32))), (.int (absG u0 (0 : Int32)))])) _
        refine XS.iload X1.here hx rfl (hb hby at_106) rfl ?_
        show Steps p.tables e below (T1.setTop (mkF m 108 #[.val (.int u0), .val (.int u1), .val (.int (0 : Int32)), .val (.int (0 : Int32)), .val (.int (absG u0 (0 : Int32))), .val (.int (1 : Int32)), .val (.int (u0 &&& (7 : Int32))), .val (.int (u0 &&& (-8388616 : Int32))), .val (.int (u0 &&& (7 : Int32)))] [(.int (u0 &&& (7 : Int32))), (.int (u0 &&& (-8388616 : Int32))), (.int (absG u0 (0 : Int32)))])) _
        refine XS.ior X1.here hx rfl (hb hby at_108) rfl ?_
        show Steps p.tables e below (T1.setTop (mkF m 109 #[.val (.int u0), .val (.int u1), .val (.int (0 : Int32)), .val (.int (0 : Int32)), .val (.int (absG u0 (0 : Int32))), .val (.int (1 : Int32)), .val (.int (u0 &&& (7 : Int32))), .val (.int (u0 &&& (-8388616 : Int32))), .val (.int (u0 &&& (7 : Int32)))] [(.int ((u0 &&& (-8388616 : Int32)) ||| (u0 &&& (7 : Int32)))), (.int (absG u0 (0 : Int32)))])) _
        refine XS.icmpNo X1.here hx rfl (hb hby at_109) rfl (teq hb109).2 ?_
        show Steps p.tables e below (T1.setTop (mkF m 112 #[.val (.int u0), .val (.int u1), .val (.int (0 : Int32)), .val (.int (0 : Int32)), .val (.int (absG u0 (0 : Int32))), .val (.int (1 : Int32)), .val (.int (u0 &&& (7 : Int32))), .val (.int (u0 &&& (-8388616 : Int32))), .val (.int (u0 &&& (7 : Int32)))] [])) _
        refine XS.iconst X1.here hx rfl (hb hby at_112) ?_
        show Steps p.tables e below (T1.setTop (mkF m 113 #[.val (.int u0), .val (.int u1), .val (.int (0 : Int32)), .val (.int (0 : Int32)), .val (.int (absG u0 (0 : Int32))), .val (.int (1 : Int32)), .val (.int (u0 &&& (7 : Int32))), .val (.int (u0 &&& (-8388616 : Int32))), .val (.int (u0 &&& (7 : Int32)))] [(.int (1 : Int32))])) _
        refine XS.goto X1.here hx rfl (pc0 := 113) (pc' := 117) rfl (hb hby at_113) (by decide) (by decide) ?_
        show Steps p.tables e below (T1.setTop (mkF m 117 #[.val (.int u0), .val (.int u1), .val (.int (0 : Int32)), .val (.int (0 : Int32)), .val (.int (absG u0 (0 : Int32))), .val (.int (1 : Int32)), .val (.int (u0 &&& (7 : Int32))), .val (.int (u0 &&& (-8388616 : Int32))), .val (.int (u0 &&& (7 : Int32)))] [(.int (1 : Int32))])) _
        exact retN X1 hx (t := .boolean) Bd.returns (by simp) (hb hby at_117) hr
      · show Q0 Z u0 u1 h0 n0 _ T1.heap _
        rw [e1]
        exact ⟨rfl, N1⟩
  · obtain ⟨_, _, ⟨T5, L5, k5, n5⟩, -, X5, ⟨Lc5, hQ5, l5, y5, z5⟩, st5⟩ := Jvm.LawKit.callS X0 hx (y := (⟨"com/example/decorum/decorum/Gravity", "getAbsoluteGravity", "(II)I"⟩ : MethodName)) hown (mvT hZ (hw _ (List.mem_of_getElem? (i := 0) rfl))) (mvT hZ (hw _ (List.mem_of_getElem? (i := 1) rfl))) (mvT hZ (hw _ (List.mem_of_getElem? (i := 2) rfl))) (mvT hZ (hw _ (List.mem_of_getElem? (i := 3) rfl))) (by decide) (backOf (W := 0) (rm1 l Z a0 hw [] u0 (1 : Int32) h0 n0 Z0 ) hZ (hw _ (List.mem_of_getElem? (i := 3) rfl)) (hw _ (List.mem_of_getElem? (i := 2) rfl)) (by decide) (by decide)) (g := (mkF m 24 #[.val (.int u0), .val (.int u1), .val (.int (1 : Int32)), .val (.int (1 : Int32)), .unset, .unset, .unset, .unset, .unset] [(.int (1 : Int32)), (.int u0)])) rfl (by rw [hml]; rfl) (argsL := [(.int u0), (.int (1 : Int32))]) (rest := []) (lenOf pd_0 rfl) rfl (by show 2 * 0 + _ ≤ _; exact Nat.le_of_eq rfl) (hb hby at_24) (fun _ _ => ⟨rfl, e0, (by decide : 0 + 0 ≤ _), (by decide : 0 + 0 ≤ _)⟩)
    dsimp only [Pt.U, Pt.locs, Pt.cells, Pt.slots] at X5 l5 y5 z5 st5 hQ5
    subst l5 y5 z5
    obtain ⟨rfl, N5q, e5⟩ := hQ5
    have N5 := Fr.app N0 N5q
    have st6 := X5.ldcInt hx hown (mvT hZ (hw _ (List.mem_of_getElem? (i := 7) rfl))) (g := (mkF m 30 #[.val (.int u0), .val (.int u1), .val (.int (1 : Int32)), .val (.int (1 : Int32)), .val (.int (absG u0 (1 : Int32))), .unset, .unset, .unset, .unset] [(.int u0)])) rfl (hb hby at_30)
    by_cases hc33 : (u0 &&& (8388608 : Int32)) = (0 : Int32)
    · have st7 := X5.ldcInt hx hown (mvT hZ (hw _ (List.mem_of_getElem? (i := 8) rfl))) (g := (mkF m 50 #[.val (.int u0), .val (.int u1), .val (.int (1 : Int32)), .val (.int (1 : Int32)), .val (.int (absG u0 (1 : Int32))), .val (.int (0 : Int32)), .val (.int (u0 &&& (7 : Int32))), .unset, .unset] [(.int u0)])) rfl (hb hby at_50)
      have hb109 : (absG u0 (1 : Int32)) = ((u0 &&& (-8388616 : Int32)) ||| (u0 &&& (7 : Int32))) := by
        rw [abs_eq _ _ (by decide)]
        unfold expH
        simp [hc33]
      obtain ⟨fs, hr, hrun, hended, hW, hsame⟩ := X5.leave (v := some (.int (1 : Int32))) (fun h => by rw [Bd.returns] at h; cases h)
      refine ⟨_, _, pre0 _ ?_, hrun, hended, _, _, rfl, ?_, ⟨_, rfl⟩, hW, hsame.mono (by decide) (by decide)⟩
      · show Steps p.tables e below (s₁.setTop (mkF m 0 #[.val (.int u0), .val (.int u1), .unset, .unset, .unset, .unset, .unset, .unset, .unset] [])) _
        refine XS.iloadN X0.here hx rfl (hb hby at_0) rfl ?_
        show Steps p.tables e below (s₁.setTop (mkF m 1 #[.val (.int u0), .val (.int u1), .unset, .unset, .unset, .unset, .unset, .unset, .unset] [(.int u1)])) _
        refine XS.iconst X0.here hx rfl (hb hby at_1) ?_
        show Steps p.tables e below (s₁.setTop (mkF m 2 #[.val (.int u0), .val (.int u1), .unset, .unset, .unset, .unset, .unset, .unset, .unset] [(.int (1 : Int32)), (.int u1)])) _
        refine XS.iand X0.here hx rfl (hb hby at_2) rfl ?_
        show Steps p.tables e below (s₁.setTop (mkF m 3 #[.val (.int u0), .val (.int u1), .unset, .unset, .unset, .unset, .unset, .unset, .unset] [(.int (u1 &&& (1 : Int32)))])) _
        refine XS.ifNo X0.here hx rfl (hb hby at_3) rfl ((if0 _ _).trans (feq hc3).1) ?_
        show Steps p.tables e below (s₁.setTop (mkF m 6 #[.val (.int u0), .val (.int u1), .unset, .unset, .unset, .unset, .unset, .unset, .unset] [])) _
        refine XS.iconst X0.here hx rfl (hb hby at_6) ?_
        show Steps p.tables e below (s₁.setTop (mkF m 7 #[.val (.int u0), .val (.int u1), .unset, .unset, .unset, .unset, .unset, .unset, .unset] [(.int (1 : Int32))])) _
        refine XS.goto X0.here hx rfl (pc0 := 7) (pc' := 11) rfl (hb hby at_7) (by decide) (by decide) ?_
        show Steps p.tables e below (s₁.setTop (mkF m 11 #[.val (.int u0), .val (.int u1), .unset, .unset, .unset, .unset, .unset, .unset, .unset] [(.int (1 : Int32))])) _
        refine XS.istoreN X0.here hx rfl (hb hby at_11) rfl (l' := #[.val (.int u0), .val (.int u1), .val (.int (1 : Int32)), .unset, .unset, .unset, .unset, .unset, .unset]) rfl ?_
        show Steps p.tables e below (s₁.setTop (mkF m 12 #[.val (.int u0), .val (.int u1), .val (.int (1 : Int32)), .unset, .unset, .unset, .unset, .unset, .unset] [])) _
        refine XS.iloadN X0.here hx rfl (hb hby at_12) rfl ?_
        show Steps p.tables e below (s₁.setTop (mkF m 13 #[.val (.int u0), .val (.int u1), .val (.int (1 : Int32)), .unset, .unset, .unset, .unset, .unset, .unset] [(.int (1 : Int32))])) _
        refine XS.ifNo X0.here hx rfl (hb hby at_13) rfl ((if0 _ _).trans (feq (by decide)).1) ?_
        show Steps p.tables e below (s₁.setTop (mkF m 16 #[.val (.int u0), .val (.int u1), .val (.int (1 : Int32)), .unset, .unset, .unset, .unset, .unset, .unset] [])) _
        refine XS.iconst X0.here hx rfl (hb hby at_16) ?_
        show Steps p.tables e below (s₁.setTop (mkF m 17 #[.val (.int u0), .val (.int u1), .val (.int (1 : Int32)), .unset, .unset, .unset, .unset, .unset, .unset] [(.int (1 : Int32))])) _
        refine XS.goto X0.here hx rfl (pc0 := 17) (pc' := 21) rfl (hb hby at_17) (by decide) (by decide) ?_
        show Steps p.tables e below (s₁.setTop (mkF m 21 #[.val (.int u0), .val (.int u1), .val (.int (1 : Int32)), .unset, .unset, .unset, .unset, .unset, .unset] [(.int (1 : Int32))])) _
        refine XS.istoreN X0.here hx rfl (hb hby at_21) rfl (l' := #[.val (.int u0), .val (.int u1), .val (.int (1 : Int32)), .val (.int (1 : Int32)), .unset, .unset, .unset, .unset, .unset]) rfl ?_
        show Steps p.tables e below (s₁.setTop (mkF m 22 #[.val (.int u0), .val (.int u1), .val (.int (1 : Int32)), .val (.int (1 : Int32)), .unset, .unset, .unset, .unset, .unset] [])) _
        refine XS.iloadN X0.here hx rfl (hb hby at_22) rfl ?_
        show Steps p.tables e below (s₁.setTop (mkF m 23 #[.val (.int u0), .val (.int u1), .val (.int (1 : Int32)), .val (.int (1 : Int32)), .unset, .unset, .unset, .unset, .unset] [(.int u0)])) _
        refine XS.iloadN X0.here hx rfl (hb hby at_23) rfl ?_
        show Steps p.tables e below (s₁.setTop (mkF m 24 #[.val (.int u0), .val (.int u1), .val (.int (1 : Int32)), .val (.int (1 : Int32)), .unset, .unset, .unset, .unset, .unset] [(.int (1 : Int32)), (.int u0)])) _
        refine st5 _ ?_
        show Steps p.tables e below (T5.setTop (mkF m 27 #[.val (.int u0), .val (.int u1), .val (.int (1 : Int32)), .val (.int (1 : Int32)), .unset, .unset, .unset, .unset, .unset] [(.int (absG u0 (1 : Int32)))])) _
        refine XS.istore X5.here hx rfl (hb hby at_27) rfl (l' := #[.val (.int u0), .val (.int u1), .val (.int (1 : Int32)), .val (.int (1 : Int32)), .val (.int (absG u0 (1 : Int32))), .unset, .unset, .unset, .unset]) rfl ?_
        show Steps p.tables e below (T5.setTop (mkF m 29 #[.val (.int u0), .val (.int u1), .val (.int (1 : Int32)), .val (.int (1 : Int32)), .val (.int (absG u0 (1 : Int32))), .unset, .unset, .unset, .unset] [])) _
        refine XS.iloadN X5.here hx rfl (hb hby at_29) rfl ?_
        show Steps p.tables e below (T5.setTop (mkF m 30 #[.val (.int u0), .val (.int u1), .val (.int (1 : Int32)), .val (.int (1 : Int32)), .val (.int (absG u0 (1 : Int32))), .unset, .unset, .unset, .unset] [(.int u0)])) _
        refine st6 _ ?_
        show Steps p.tables e below (T5.setTop (mkF m 32 #[.val (.int u0), .val (.int u1), .val (.int (1 : Int32)), .val (.int (1 : Int32)), .val (.int (absG u0 (1 : Int32))), .unset, .unset, .unset, .unset] [(.int (8388608 : Int32)), (.int u0)])) _
        refine XS.iand X5.here hx rfl (hb hby at_32) rfl ?_
        show Steps p.tables e below (T5.setTop (mkF m 33 #[.val (.int u0), .val (.int u1), .val (.int (1 : Int32)), .val (.int (1 : Int32)), .val (.int (absG u0 (1 : Int32))), .unset, .unset, .unset, .unset] [(.int (u0 &&& (8388608 : Int32)))])) _
        refine XS.ifYes X5.here hx rfl (pc0 := 33) (pc' := 40) rfl (hb hby at_33) rfl ((if0 _ _).trans (teq hc33).1) (by decide) (by decide) ?_
        show Steps p.tables e below (T5.setTop (mkF m 40 #[.val (.int u0), .val (.int u1), .val (.int (1 : Int32)), .val (.int (1 : Int32)), .val (.int (absG u0 (1 : Int32))), .unset, .unset, .unset, .unset] [])) _
        refine XS.iconst X5.here hx rfl (hb hby at_40) ?_
        show Steps p.tables e below (T5.setTop (mkF m 41 #[.val (.int u0), .val (.int u1), .val (.int (1 : Int32)), .val (.int (1 : Int32)), .val (.int (absG u0 (1 : Int32))), .unset, .unset, .unset, .unset] [(.int (0 : Int32))])) _
        refine XS.istore X5.here hx rfl (hb hby at_41) rfl (l' := #[.val (.int u0), .val (.int u1), .val (.int (1 : Int32)), .val (.int (1 : Int32)), .val (.int (absG u0 (1 : Int32))), .val (.int (0 : Int32)), .unset, .unset, .unset]) rfl ?_
        show Steps p.tables e below (T5.setTop (mkF m 43 #[.val (.int u0), .val (.int u1), .val (.int (1 : Int32)), .val (.int (1 : Int32)), .val (.int (absG u0 (1 : Int32))), .val (.int (0 : Int32)), .unset, .unset, .unset] [])) _
        refine XS.iloadN X5.here hx rfl (hb hby at_43) rfl ?_
        show Steps p.tables e below (T5.setTop (mkF m 44 #[.val (.int u0), .val (.int u1), .val (.int (1 : Int32)), .val (.int (1 : Int32)), .val (.int (absG u0 (1 : Int32))), .val (.int (0 : Int32)), .unset, .unset, .unset] [(.int u0)])) _
        refine XS.bipush X5.here hx rfl (hb hby at_44) ?_
        show Steps p.tables e below (T5.setTop (mkF m 46 #[.val (.int u0), .val (.int u1), .val (.int (1 : Int32)), .val (.int (1 : Int32)), .val (.int (absG u0 (1 : Int32))), .val (.int (0 : Int32)), .unset, .unset, .unset] [(.int (7 : Int32)), (.int u0)])) _
        refine XS.iand X5.here hx rfl (hb hby at_46) rfl ?_
        show Steps p.tables e below (T5.setTop (mkF m 47 #[.val (.int u0), .val (.int u1), .val (.int (1 : Int32)), .val (.int (1 : Int32)), .val (.int (absG u0 (1 : Int32))), .val (.int (0 : Int32)), .unset, .unset, .unset] [(.int (u0 &&& (7 : Int32)))])) _
        refine XS.istore X5.here hx rfl (hb hby at_47) rfl (l' := #[.val (.int u0), .val (.int u1), .val (.int (1 : Int32)), .val (.int (1 : Int32)), .val (.int (absG u0 (1 : Int32))), .val (.int (0 : Int32)), .val (.int (u0 &&& (7 : Int32))), .unset, .unset]) rfl ?_
        show Steps p.tables e below (T5.setTop (mkF m 49 #[.val (.int u0), .val (.int u1), .val (.int (1 : Int32)), .val (.int (1 : Int32)), .val (.int (absG u0 (1 : Int32))), .val (.int (0 : Int32)), .val (.int (u0 &&& (7 : Int32))), .unset, .unset] [])) _
        refine XS.iloadN X5.here hx rfl (hb hby at_49) rfl ?_
        show Steps p.tables e below (T5.setTop (mkF m 50 #[.val (.int u0), .val (.int u1), .val (.int (1 : Int32)), .val (.int (1 : Int32)), .val (.int (absG u0 (1 : Int32))), .val (.int (0 : Int32)), .val (.int (u0 &&& (7 : Int32))), .unset, .unset] [(.int u0)])) _
        refine st7 _ ?_
        show Steps p.tables e below (T5.setTop (mkF m 52 #[.val (.int u0), .val (.int u1), .val (.int (1 : Int32)), .val (.int (1 : Int32)), .val (.int (absG u0 (1 : Int32))), .val (.int (0 : Int32)), .val (.int (u0 &&& (7 : Int32))), .unset, .unset] [(.int (-8388616 : Int32)), (.int u0)])) _
        refine XS.iand X5.here hx rfl (hb hby at_52) rfl ?_
        show Steps p.tables e below (T5.setTop (mkF m 53 #[.val (.int u0), .val (.int u1), .val (.int (1 : Int32)), .val (.int (1 : Int32)), .val (.int (absG u0 (1 : Int32))), .val (.int (0 : Int32)), .val (.int (u0 &&& (7 : Int32))), .unset, .unset] [(.int (u0 &&& (-8388616 : Int32)))])) _
        refine XS.istore X5.here hx rfl (hb hby at_53) rfl (l' := #[.val (.int u0), .val (.int u1), .val (.int (1 : Int32)), .val (.int (1 : Int32)), .val (.int (absG u0 (1 : Int32))), .val (.int (0 : Int32)), .val (.int (u0 &&& (7 : Int32))), .val (.int (u0 &&& (-8388616 : Int32))), .unset]) rfl ?_
        show Steps p.tables e below (T5.setTop (mkF m 55 #[.val (.int u0), .val (.int u1), .val (.int (1 : Int32)), .val (.int (1 : Int32)), .val (.int (absG u0 (1 : Int32))), .val (.int (0 : Int32)), .val (.int (u0 &&& (7 : Int32))), .val (.int (u0 &&& (-8388616 : Int32))), .unset] [])) _
        refine XS.iload X5.here hx rfl (hb hby at_55) rfl ?_
        show Steps p.tables e below (T5.setTop (mkF m 57 #[.val (.int u0), .val (.int u1), .val (.int (1 : Int32)), .val (.int (1 : Int32)), .val (.int (absG u0 (1 : Int32))), .val (.int (0 : Int32)), .val (.int (u0 &&& (7 : Int32))), .val (.int (u0 &&& (-8388616 : Int32))), .unset] [(.int (u0 &&& (7 : Int32)))])) _
        refine XS.istore X5.here hx rfl (hb hby at_57) rfl (l' := #[.val (.int u0), .val (.int u1), .val (.int (1 : Int32)), .val (.int (1 : Int32)), .val (.int (absG u0 (1 : Int32))), .val (.int (0 : Int32)), .val (.int (u0 &&& (7 : Int32))), .val (.int (u0 &&& (-8388616 : Int32))), .val (.int (u0 &&& (7 : Int32)))]) rfl ?_
        show Steps p.tables e below (T5.setTop (mkF m 59 #[.val (.int u0), .val (.int u1), .val (.int (1 : Int32)), .val (.int (1 : Int32)), .val (.int (absG u0 (1 : Int32))), .val (.int (0 : Int32)), .val (.int (u0 &&& (7 : Int32))), .val (.int (u0 &&& (-8388616 : Int32))), .val (.int (u0 &&& (7 : Int32)))] [])) _
        refine XS.iload X5.here hx rfl (hb hby at_59) rfl ?_
        show Steps p.tables e below (T5.setTop (mkF m 61 #[.val (.int u0), .val (.int u1), .val (.int (1 : Int32)), .val (.int (1 : Int32)), .val (.int (absG u0 (1 : Int32))), .val (.int (0 : Int32)), .val (.int (u0 &&& (7 : Int32))), .val (.int (u0 &&& (-8388616 : Int32))), .val (.int (u0 &&& (7 : Int32)))] [(.int (0 : Int32))])) _
        refine XS.ifYes X5.here hx rfl (pc0 := 61) (pc' := 102) rfl (hb hby at_61) rfl ((if0 _ _).trans (teq (by decide)).1) (by decide) (by decide) ?_
        show Steps p.tables e below (T5.setTop (mkF m 102 #[.val (.int u0), .val (.int u1), .val (.int (1 : Int32)), .val (.int (1 : Int32)), .val (.int (absG u0 (1 : Int32))), .val (.int (0 : Int32)), .val (.int (u0 &&& (7 : Int32))), .val (.int (u0 &&& (-8388616 : Int32))), .val (.int (u0 &&& (7 : Int32)))] [])) _
        refine XS.iload X5.here hx rfl (hb hby at_102) rfl ?_
        show Steps p.tables e below (T5.setTop (mkF m 104 #[.val (.int u0), .val (.int u1), .val (.int (1 : Int32)), .val (.int (1 : Int32)), .val (.int (absG u0 (1 : Int32))), .val (.int (0 : Int32)), .val (.int (u0 &&& (7 : Int32))), .val (.int (u0 &&& (-8388616 : Int32))), .val (.int (u0 &&& (7 : Int32)))] [(.int (absG u0 (1 : Int32)))])) _
        refine XS.iload X5.here hx rfl (hb hby at_104) rfl ?_
        show Steps p.tables e below (T5.setTop (mkF m 106 #[.val (.int u0), .val (.int u1), .val (.int (1 : Int32)), .val (.int (1 : Int32)), .val (.int (absG u0 (1 : Int32))), .val (.int (0 : Int32)), .val (.int (u0 &&& (7 : Int32))), .val (.int (u0 &&& (-8388616 : Int32))), .val (.int (u0 &&& (7 : Int32)))] [(.int (u0 &&& (-8388616 : Int32))), (.int (absG u0 (1 : Int32)))])) _
        refine XS.iload X5.here hx rfl (hb hby at_106) rfl ?_
        show Steps p.tables e below (T5.setTop (mkF m 108 #[.val (.int u0), .val (.int u1), .val (.int (1 : Int32)), .val (.int (1 : Int32)), .val (.int (absG u0 (1 : Int32))), .val (.int (0 : Int32)), .val (.int (u0 &&& (7 : Int32))), .val (.int (u0 &&& (-8388616 : Int32))), .val (.int (u0 &&& (7 : Int32)))] [(.int (u0 &&& (7 : Int32))), (.int (u0 &&& (-8388616 : Int32))), (.int (absG u0 (1 : Int32)))])) _
        refine XS.ior X5.here hx rfl (hb hby at_108) rfl ?_
        show Steps p.tables e below (T5.setTop (mkF m 109 #[.val (.int u0), .val (.int u1), .val (.int (1 : Int32)), .val (.int (1 : Int32)), .val (.int (absG u0 (1 : Int32))), .val (.int (0 : Int32)), .val (.int (u0 &&& (7 : Int32))), .val (.int (u0 &&& (-8388616 : Int32))), .val (.int (u0 &&& (7 : Int32)))] [(.int ((u0 &&& (-8388616 : Int32)) ||| (u0 &&& (7 : Int32)))), (.int (absG u0 (1 : Int32)))])) _
        refine XS.icmpNo X5.here hx rfl (hb hby at_109) rfl (teq hb109).2 ?_
        show Steps p.tables e below (T5.setTop (mkF m 112 #[.val (.int u0), .val (.int u1), .val (.int (1 : Int32)), .val (.int (1 : Int32)), .val (.int (absG u0 (1 : Int32))), .val (.int (0 : Int32)), .val (.int (u0 &&& (7 : Int32))), .val (.int (u0 &&& (-8388616 : Int32))), .val (.int (u0 &&& (7 : Int32)))] [])) _
        refine XS.iconst X5.here hx rfl (hb hby at_112) ?_
        show Steps p.tables e below (T5.setTop (mkF m 113 #[.val (.int u0), .val (.int u1), .val (.int (1 : Int32)), .val (.int (1 : Int32)), .val (.int (absG u0 (1 : Int32))), .val (.int (0 : Int32)), .val (.int (u0 &&& (7 : Int32))), .val (.int (u0 &&& (-8388616 : Int32))), .val (.int (u0 &&& (7 : Int32)))] [(.int (1 : Int32))])) _
        refine XS.goto X5.here hx rfl (pc0 := 113) (pc' := 117) rfl (hb hby at_113) (by decide) (by decide) ?_
        show Steps p.tables e below (T5.setTop (mkF m 117 #[.val (.int u0), .val (.int u1), .val (.int (1 : Int32)), .val (.int (1 : Int32)), .val (.int (absG u0 (1 : Int32))), .val (.int (0 : Int32)), .val (.int (u0 &&& (7 : Int32))), .val (.int (u0 &&& (-8388616 : Int32))), .val (.int (u0 &&& (7 : Int32)))] [(.int (1 : Int32))])) _
        exact retN X5 hx (t := .boolean) Bd.returns (by simp) (hb hby at_117) hr
      · show Q0 Z u0 u1 h0 n0 _ T5.heap _
        rw [e5]
        exact ⟨rfl, N5⟩
    · have st8 := X5.ldcInt hx hown (mvT hZ (hw _ (List.mem_of_getElem? (i := 8) rfl))) (g := (mkF m 50 #[.val (.int u0), .val (.int u1), .val (.int (1 : Int32)), .val (.int (1 : Int32)), .val (.int (absG u0 (1 : Int32))), .val (.int (1 : Int32)), .val (.int (u0 &&& (7 : Int32))), .unset, .unset] [(.int u0)])) rfl (hb hby at_50)
      by_cases hc71 : (u0 &&& (7 : Int32)) = (3 : Int32)
      · have hb109 : (absG u0 (1 : Int32)) = ((u0 &&& (-8388616 : Int32)) ||| (5 : Int32)) := by
          rw [abs_eq _ _ (by decide)]
          unfold expH
          simp [hc33, hc71]
        obtain ⟨fs, hr, hrun, hended, hW, hsame⟩ := X5.leave (v := some (.int (1 : Int32))) (fun h => by rw [Bd.returns] at h; cases h)
        refine ⟨_, _, pre0 _ ?_, hrun, hended, _, _, rfl, ?_, ⟨_, rfl⟩, hW, hsame.mono (by decide) (by decide)⟩
        · show Steps p.tables e below (s₁.setTop (mkF m 0 #[.val (.int u0), .val (.int u1), .unset, .unset, .unset, .unset, .unset, .unset, .unset] [])) _
          refine XS.iloadN X0.here hx rfl (hb hby at_0) rfl ?_
          show Steps p.tables e below (s₁.setTop (mkF m 1 #[.val (.int u0), .val (.int u1), .unset, .unset, .unset, .unset, .unset, .unset, .unset] [(.int u1)])) _
          refine XS.iconst X0.here hx rfl (hb hby at_1) ?_
          show Steps p.tables e below (s₁.setTop (mkF m 2 #[.val (.int u0), .val (.int u1), .unset, .unset, .unset, .unset, .unset, .unset, .unset] [(.int (1 : Int32)), (.int u1)])) _
          refine XS.iand X0.here hx rfl (hb hby at_2) rfl ?_
          show Steps p.tables e below (s₁.setTop (mkF m 3 #[.val (.int u0), .val (.int u1), .unset, .unset, .unset, .unset, .unset, .unset, .unset] [(.int (u1 &&& (1 : Int32)))])) _
          refine XS.ifNo X0.here hx rfl (hb hby at_3) rfl ((if0 _ _).trans (feq hc3).1) ?_
          show Steps p.tables e below (s₁.setTop (mkF m 6 #[.val (.int u0), .val (.int u1), .unset, .unset, .unset, .unset, .unset, .unset, .unset] [])) _
          refine XS.iconst X0.here hx rfl (hb hby at_6) ?_
          show Steps p.tables e below (s₁.setTop (mkF m 7 #[.val (.int u0), .val (.int u1), .unset, .unset, .unset, .unset, .unset, .unset, .unset] [(.int (1 : Int32))])) _
          refine XS.goto X0.here hx rfl (pc0 := 7) (pc' := 11) rfl (hb hby at_7) (by decide) (by decide) ?_
          show Steps p.tables e below (s₁.setTop (mkF m 11 #[.val (.int u0), .val (.int u1), .unset, .unset, .unset, .unset, .unset, .unset, .unset] [(.int (1 : Int32))])) _
          refine XS.istoreN X0.here hx rfl (hb hby at_11) rfl (l' := #[.val (.int u0), .val (.int u1), .val (.int (1 : Int32)), .unset, .unset, .unset, .unset, .unset, .unset]) rfl ?_
          show Steps p.tables e below (s₁.setTop (mkF m 12 #[.val (.int u0), .val (.int u1), .val (.int (1 : Int32)), .unset, .unset, .unset, .unset, .unset, .unset] [])) _
          refine XS.iloadN X0.here hx rfl (hb hby at_12) rfl ?_
          show Steps p.tables e below (s₁.setTop (mkF m 13 #[.val (.int u0), .val (.int u1), .val (.int (1 : Int32)), .unset, .unset, .unset, .unset, .unset, .unset] [(.int (1 : Int32))])) _
          refine XS.ifNo X0.here hx rfl (hb hby at_13) rfl ((if0 _ _).trans (feq (by decide)).1) ?_
          show Steps p.tables e below (s₁.setTop (mkF m 16 #[.val (.int u0), .val (.int u1), .val (.int (1 : Int32)), .unset, .unset, .unset, .unset, .unset, .unset] [])) _
          refine XS.iconst X0.here hx rfl (hb hby at_16) ?_
          show Steps p.tables e below (s₁.setTop (mkF m 17 #[.val (.int u0), .val (.int u1), .val (.int (1 : Int32)), .unset, .unset, .unset, .unset, .unset, .unset] [(.int (1 : Int32))])) _
          refine XS.goto X0.here hx rfl (pc0 := 17) (pc' := 21) rfl (hb hby at_17) (by decide) (by decide) ?_
          show Steps p.tables e below (s₁.setTop (mkF m 21 #[.val (.int u0), .val (.int u1), .val (.int (1 : Int32)), .unset, .unset, .unset, .unset, .unset, .unset] [(.int (1 : Int32))])) _
          refine XS.istoreN X0.here hx rfl (hb hby at_21) rfl (l' := #[.val (.int u0), .val (.int u1), .val (.int (1 : Int32)), .val (.int (1 : Int32)), .unset, .unset, .unset, .unset, .unset]) rfl ?_
          show Steps p.tables e below (s₁.setTop (mkF m 22 #[.val (.int u0), .val (.int u1), .val (.int (1 : Int32)), .val (.int (1 : Int32)), .unset, .unset, .unset, .unset, .unset] [])) _
          refine XS.iloadN X0.here hx rfl (hb hby at_22) rfl ?_
          show Steps p.tables e below (s₁.setTop (mkF m 23 #[.val (.int u0), .val (.int u1), .val (.int (1 : Int32)), .val (.int (1 : Int32)), .unset, .unset, .unset, .unset, .unset] [(.int u0)])) _
          refine XS.iloadN X0.here hx rfl (hb hby at_23) rfl ?_
          show Steps p.tables e below (s₁.setTop (mkF m 24 #[.val (.int u0), .val (.int u1), .val (.int (1 : Int32)), .val (.int (1 : Int32)), .unset, .unset, .unset, .unset, .unset] [(.int (1 : Int32)), (.int u0)])) _
          refine st5 _ ?_
          show Steps p.tables e below (T5.setTop (mkF m 27 #[.val (.int u0), .val (.int u1), .val (.int (1 : Int32)), .val (.int (1 : Int32)), .unset, .unset, .unset, .unset, .unset] [(.int (absG u0 (1 : Int32)))])) _
          refine XS.istore X5.here hx rfl (hb hby at_27) rfl (l' := #[.val (.int u0), .val (.int u1), .val (.int (1 : Int32)), .val (.int (1 : Int32)), .val (.int (absG u0 (1 : Int32))), .unset, .unset, .unset, .unset]) rfl ?_
          show Steps p.tables e below (T5.setTop (mkF m 29 #[.val (.int u0), .val (.int u1), .val (.int (1 : Int32)), .val (.int (1 : Int32)), .val (.int (absG u0 (1 : Int32))), .unset, .unset, .unset, .unset] [])) _
          refine XS.iloadN X5.here hx rfl (hb hby at_29) rfl ?_
          show Steps p.tables e below (T5.setTop (mkF m 30 #[.val (.int u0), .val (.int u1), .val (.int (1 : Int32)), .val (.int (1 : Int32)), .val (.int (absG u0 (1 : Int32))), .unset, .unset, .unset, .unset] [(.int u0)])) _
          refine st6 _ ?_
          show Steps p.tables e below (T5.setTop (mkF m 32 #[.val (.int u0), .val (.int u1), .val (.int (1 : Int32)), .val (.int (1 : Int32)), .val (.int (absG u0 (1 : Int32))), .unset, .unset, .unset, .unset] [(.int (8388608 : Int32)), (.int u0)])) _
          refine XS.iand X5.here hx rfl (hb hby at_32) rfl ?_
          show Steps p.tables e below (T5.setTop (mkF m 33 #[.val (.int u0), .val (.int u1), .val (.int (1 : Int32)), .val (.int (1 : Int32)), .val (.int (absG u0 (1 : Int32))), .unset, .unset, .unset, .unset] [(.int (u0 &&& (8388608 : Int32)))])) _
          refine XS.ifNo X5.here hx rfl (hb hby at_33) rfl ((if0 _ _).trans (feq hc33).1) ?_
          show Steps p.tables e below (T5.setTop (mkF m 36 #[.val (.int u0), .val (.int u1), .val (.int (1 : Int32)), .val (.int (1 : Int32)), .val (.int (absG u0 (1 : Int32))), .unset, .unset, .unset, .unset] [])) _
          refine XS.iconst X5.here hx rfl (hb hby at_36) ?_
          show Steps p.tables e below (T5.setTop (mkF m 37 #[.val (.int u0), .val (.int u1), .val (.int (1 : Int32)), .val (.int (1 : Int32)), .val (.int (absG u0 (1 : Int32))), .unset, .unset, .unset, .unset] [(.int (1 : Int32))])) _
          refine XS.goto X5.here hx rfl (pc0 := 37) (pc' := 41) rfl (hb hby at_37) (by decide) (by decide) ?_
          show Steps p.tables e below (T5.setTop (mkF m 41 #[.val (.int u0), .val (.int u1), .val (.int (1 : Int32)), .val (.int (1 : Int32)), .val (.int (absG u0 (1 : Int32))), .unset, .unset, .unset, .unset] [(.int (1 : Int32))])) _
          refine XS.istore X5.here hx rfl (hb hby at_41) rfl (l' := #[.val (.int u0), .val (.int u1), .val (.int (1 : Int32)), .val (.int (1 : Int32)), .val (.int (absG u0 (1 : Int32))), .val (.int (1 : Int32)), .unset, .unset, .unset]) rfl ?_
          show Steps p.tables e below (T5.setTop (mkF m 43 #[.val (.int u0), .val (.int u1), .val (.int (1 : Int32)), .val (.int (1 : Int32)), .val (.int (absG u0 (1 : Int32))), .val (.int (1 : Int32)), .unset, .unset, .unset] [])) _
          refine XS.iloadN X5.here hx rfl (hb hby at_43) rfl ?_
          show Steps p.tables e below (T5.setTop (mkF m 44 #[.val (.int u0), .val (.int u1), .val (.int (1 : Int32)), .val (.int (1 : Int32)), .val (.int (absG u0 (1 : Int32))), .val (.int (1 : Int32)), .unset, .unset, .unset] [(.int u0)])) _
          refine XS.bipush X5.here hx rfl (hb hby at_44) ?_
          show Steps p.tables e below (T5.setTop (mkF m 46 #[.val (.int u0), .val (.int u1), .val (.int (1 : Int32)), .val (.int (1 : Int32)), .val (.int (absG u0 (1 : Int32))), .val (.int (1 : Int32)), .unset, .unset, .unset] [(.int (7 : Int32)), (.int u0)])) _
          refine XS.iand X5.here hx rfl (hb hby at_46) rfl ?_
          show Steps p.tables e below (T5.setTop (mkF m 47 #[.val (.int u0), .val (.int u1), .val (.int (1 : Int32)), .val (.int (1 : Int32)), .val (.int (absG u0 (1 : Int32))), .val (.int (1 : Int32)), .unset, .unset, .unset] [(.int (u0 &&& (7 : Int32)))])) _
          refine XS.istore X5.here hx rfl (hb hby at_47) rfl (l' := #[.val (.int u0), .val (.int u1), .val (.int (1 : Int32)), .val (.int (1 : Int32)), .val (.int (absG u0 (1 : Int32))), .val (.int (1 : Int32)), .val (.int (u0 &&& (7 : Int32))), .unset, .unset]) rfl ?_
          show Steps p.tables e below (T5.setTop (mkF m 49 #[.val (.int u0), .val (.int u1), .val (.int (1 : Int32)), .val (.int (1 : Int32)), .val (.int (absG u0 (1 : Int32))), .val (.int (1 : Int32)), .val (.int (u0 &&& (7 : Int32))), .unset, .unset] [])) _
          refine XS.iloadN X5.here hx rfl (hb hby at_49) rfl ?_
          show Steps p.tables e below (T5.setTop (mkF m 50 #[.val (.int u0), .val (.int u1), .val (.int (1 : Int32)), .val (.int (1 : Int32)), .val (.int (absG u0 (1 : Int32))), .val (.int (1 : Int32)), .val (.int (u0 &&& (7 : Int32))), .unset, .unset] [(.int u0)])) _
          refine st8 _ ?_
          show Steps p.tables e below (T5.setTop (mkF m 52 #[.val (.int u0), .val (.int u1), .val (.int (1 : Int32)), .val (.int (1 : Int32)), .val (.int (absG u0 (1 : Int32))), .val (.int (1 : Int32)), .val (.int (u0 &&& (7 : Int32))), .unset, .unset] [(.int (-8388616 : Int32)), (.int u0)])) _
          refine XS.iand X5.here hx rfl (hb hby at_52) rfl ?_
          show Steps p.tables e below (T5.setTop (mkF m 53 #[.val (.int u0), .val (.int u1), .val (.int (1 : Int32)), .val (.int (1 : Int32)), .val (.int (absG u0 (1 : Int32))), .val (.int (1 : Int32)), .val (.int (u0 &&& (7 : Int32))), .unset, .unset] [(.int (u0 &&& (-8388616 : Int32)))])) _
          refine XS.istore X5.here hx rfl (hb hby at_53) rfl (l' := #[.val (.int u0), .val (.int u1), .val (.int (1 : Int32)), .val (.int (1 : Int32)), .val (.int (absG u0 (1 : Int32))), .val (.int (1 : Int32)), .val (.int (u0 &&& (7 : Int32))), .val (.int (u0 &&& (-8388616 : Int32))), .unset]) rfl ?_
          show Steps p.tables e below (T5.setTop (mkF m 55 #[.val (.int u0), .val (.int u1), .val (.int (1 : Int32)), .val (.int (1 : Int32)), .val (.int (absG u0 (1 : Int32))), .val (.int (1 : Int32)), .val (.int (u0 &&& (7 : Int32))), .val (.int (u0 &&& (-8388616 : Int32))), .unset] [])) _
          refine XS.iload X5.here hx rfl (hb hby at_55) rfl ?_
          show Steps p.tables e below (T5.setTop (mkF m 57 #[.val (.int u0), .val (.int u1), .val (.int (1 : Int32)), .val (.int (1 : Int32)), .val (.int (absG u0 (1 : Int32))), .val (.int (1 : Int32)), .val (.int (u0 &&& (7 : Int32))), .val (.int (u0 &&& (-8388616 : Int32))), .unset] [(.int (u0 &&& (7 : Int32)))])) _
          refine XS.istore X5.here hx rfl (hb hby at_57) rfl (l' := #[.val (.int u0), .val (.int u1), .val (.int (1 : Int32)), .val (.int (1 : Int32)), .val (.int (absG u0 (1 : Int32))), .val (.int (1 : Int32)), .val (.int (u0 &&& (7 : Int32))), .val (.int (u0 &&& (-8388616 : Int32))), .val (.int (u0 &&& (7 : Int32)))]) rfl ?_
          show Steps p.tables e below (T5.setTop (mkF m 59 #[.val (.int u0), .val (.int u1), .val (.int (1 : Int32)), .val (.int (1 : Int32)), .val (.int (absG u0 (1 : Int32))), .val (.int (1 : Int32)), .val (.int (u0 &&& (7 : Int32))), .val (.int (u0 &&& (-8388616 : Int32))), .val (.int (u0 &&& (7 : Int32)))] [])) _
          refine XS.iload X5.here hx rfl (hb hby at_59) rfl ?_
          show Steps p.tables e below (T5.setTop (mkF m 61 #[.val (.int u0), .val (.int u1), .val (.int (1 : Int32)), .val (.int (1 : Int32)), .val (.int (absG u0 (1 : Int32))), .val (.int (1 : Int32)), .val (.int (u0 &&& (7 : Int32))), .val (.int (u0 &&& (-8388616 : Int32))), .val (.int (u0 &&& (7 : Int32)))] [(.int (1 : Int32))])) _
          refine XS.ifNo X5.here hx rfl (hb hby at_61) rfl ((if0 _ _).trans (feq (by decide)).1) ?_
          show Steps p.tables e below (T5.setTop (mkF m 64 #[.val (.int u0), .val (.int u1), .val (.int (1 : Int32)), .val (.int (1 : Int32)), .val (.int (absG u0 (1 : Int32))), .val (.int (1 : Int32)), .val (.int (u0 &&& (7 : Int32))), .val (.int (u0 &&& (-8388616 : Int32))), .val (.int (u0 &&& (7 : Int32)))] [])) _
          refine XS.iloadN X5.here hx rfl (hb hby at_64) rfl ?_
          show Steps p.tables e below (T5.setTop (mkF m 65 #[.val (.int u0), .val (.int u1), .val (.int (1 : Int32)), .val (.int (1 : Int32)), .val (.int (absG u0 (1 : Int32))), .val (.int (1 : Int32)), .val (.int (u0 &&& (7 : Int32))), .val (.int (u0 &&& (-8388616 : Int32))), .val (.int (u0 &&& (7 : Int32)))] [(.int (1 : Int32))])) _
          refine XS.ifNo X5.here hx rfl (hb hby at_65) rfl ((if0 _ _).trans (feq (by decide)).1) ?_
          show Steps p.tables e below (T5.setTop (mkF m 68 #[.val (.int u0), .val (.int u1), .val (.int (1 : Int32)), .val (.int (1 : Int32)), .val (.int (absG u0 (1 : Int32))), .val (.int (1 : Int32)), .val (.int (u0 &&& (7 : Int32))), .val (.int (u0 &&& (-8388616 : Int32))), .val (.int (u0 &&& (7 : Int32)))] [])) _
          refine XS.iload X5.here hx rfl (hb hby at_68) rfl ?_
          show Steps p.tables e below (T5.setTop (mkF m 70 #[.val (.int u0), .val (.int u1), .val (.int (1 : Int32)), .val (.int (1 : Int32)), .val (.int (absG u0 (1 : Int32))), .val (.int (1 : Int32)), .val (.int (u0 &&& (7 : Int32))), .val (.int (u0 &&& (-8388616 : Int32))), .val (.int (u0 &&& (7 : Int32)))] [(.int (u0 &&& (7 : Int32)))])) _
          refine XS.iconst X5.here hx rfl (hb hby at_70) ?_
          show Steps p.tables e below (T5.setTop (mkF m 71 #[.val (.int u0), .val (.int u1), .val (.int (1 : Int32)), .val (.int (1 : Int32)), .val (.int (absG u0 (1 : Int32))), .val (.int (1 : Int32)), .val (.int (u0 &&& (7 : Int32))), .val (.int (u0 &&& (-8388616 : Int32))), .val (.int (u0 &&& (7 : Int32)))] [(.int (3 : Int32)), (.int (u0 &&& (7 : Int32)))])) _
          refine XS.icmpNo X5.here hx rfl (hb hby at_71) rfl (teq hc71).2 ?_
          show Steps p.tables e below (T5.setTop (mkF m 74 #[.val (.int u0), .val (.int u1), .val (.int (1 : Int32)), .val (.int (1 : Int32)), .val (.int (absG u0 (1 : Int32))), .val (.int (1 : Int32)), .val (.int (u0 &&& (7 : Int32))), .val (.int (u0 &&& (-8388616 : Int32))), .val (.int (u0 &&& (7 : Int32)))] [])) _
          refine XS.iconst X5.here hx rfl (hb hby at_74) ?_
          show Steps p.tables e below (T5.setTop (mkF m 75 #[.val (.int u0), .val (.int u1), .val (.int (1 : Int32)), .val (.int (1 : Int32)), .val (.int (absG u0 (1 : Int32))), .val (.int (1 : Int32)), .val (.int (u0 &&& (7 : Int32))), .val (.int (u0 &&& (-8388616 : Int32))), .val (.int (u0 &&& (7 : Int32)))] [(.int (5 : Int32))])) _
          refine XS.istore X5.here hx rfl (hb hby at_75) rfl (l' := #[.val (.int u0), .val (.int u1), .val (.int (1 : Int32)), .val (.int (1 : Int32)), .val (.int (absG u0 (1 : Int32))), .val (.int (1 : Int32)), .val (.int (u0 &&& (7 : Int32))), .val (.int (u0 &&& (-8388616 : Int32))), .val (.int (5 : Int32))]) rfl ?_
          show Steps p.tables e below (T5.setTop (mkF m 77 #[.val (.int u0), .val (.int u1), .val (.int (1 : Int32)), .val (.int (1 : Int32)), .val (.int (absG u0 (1 : Int32))), .val (.int (1 : Int32)), .val (.int (u0 &&& (7 : Int32))), .val (.int (u0 &&& (-8388616 : Int32))), .val (.int (5 : Int32))] [])) _
          refine XS.goto X5.here hx rfl (pc0 := 77) (pc' := 102) rfl (hb hby at_77) (by decide) (by decide) ?_
          show Steps p.tables e below (T5.setTop (mkF m 102 #[.val (.int u0), .val (.int u1), .val (.int (1 : Int32)), .val (.int (1 : Int32)), .val (.int (absG u0 (1 : Int32))), .val (.int (1 : Int32)), .val (.int (u0 &&& (7 : Int32))), .val (.int (u0 &&& (-8388616 : Int32))), .val (.int (5 : Int32))] [])) _
          refine XS.iload X5.here hx rfl (hb hby at_102) rfl ?_
          show Steps p.tables e below (T5.setTop (mkF m 104 #[.val (.int u0), .val (.int u1), .val (.int (1 : Int32)), .val (.int (1 : Int32)), .val (.int (absG u0 (1 : Int32))), .val (.int (1 : Int32)), .val (.int (u0 &&& (7 : Int32))), .val (.int (u0 &&& (-8388616 : Int32))), .val (.int (5 : Int32))] [(.int (absG u0 (1 : Int32)))])) _
          refine XS.iload X5.here hx rfl (hb hby at_104) rfl ?_
          show Steps p.tables e below (T5.setTop (mkF m 106 #[.val (.int u0), .val (.int u1), .val (.int (1 : Int32)), .val (.int (1 : Int32)), .val (.int (absG u0 (1 : Int32))), .val (.int (1 : Int32)), .val (.int (u0 &&& (7 : Int32))), .val (.int (u0 &&& (-8388616 : Int32))), .val (.int (5 : Int32))] [(.int (u0 &&& (-8388616 : Int32))), (.int (absG u0 (1 : Int32)))])) _
          refine XS.iload X5.here hx rfl (hb hby at_106) rfl ?_
          show Steps p.tables e below (T5.setTop (mkF m 108 #[.val (.int u0), .val (.int u1), .val (.int (1 : Int32)), .val (.int (1 : Int32)), .val (.int (absG u0 (1 : Int32))), .val (.int (1 : Int32)), .val (.int (u0 &&& (7 : Int32))), .val (.int (u0 &&& (-8388616 : Int32))), .val (.int (5 : Int32))] [(.int (5 : Int32)), (.int (u0 &&& (-8388616 : Int32))), (.int (absG u0 (1 : Int32)))])) _
          refine XS.ior X5.here hx rfl (hb hby at_108) rfl ?_
          show Steps p.tables e below (T5.setTop (mkF m 109 #[.val (.int u0), .val (.int u1), .val (.int (1 : Int32)), .val (.int (1 : Int32)), .val (.int (absG u0 (1 : Int32))), .val (.int (1 : Int32)), .val (.int (u0 &&& (7 : Int32))), .val (.int (u0 &&& (-8388616 : Int32))), .val (.int (5 : Int32))] [(.int ((u0 &&& (-8388616 : Int32)) ||| (5 : Int32))), (.int (absG u0 (1 : Int32)))])) _
          refine XS.icmpNo X5.here hx rfl (hb hby at_109) rfl (teq hb109).2 ?_
          show Steps p.tables e below (T5.setTop (mkF m 112 #[.val (.int u0), .val (.int u1), .val (.int (1 : Int32)), .val (.int (1 : Int32)), .val (.int (absG u0 (1 : Int32))), .val (.int (1 : Int32)), .val (.int (u0 &&& (7 : Int32))), .val (.int (u0 &&& (-8388616 : Int32))), .val (.int (5 : Int32))] [])) _
          refine XS.iconst X5.here hx rfl (hb hby at_112) ?_
          show Steps p.tables e below (T5.setTop (mkF m 113 #[.val (.int u0), .val (.int u1), .val (.int (1 : Int32)), .val (.int (1 : Int32)), .val (.int (absG u0 (1 : Int32))), .val (.int (1 : Int32)), .val (.int (u0 &&& (7 : Int32))), .val (.int (u0 &&& (-8388616 : Int32))), .val (.int (5 : Int32))] [(.int (1 : Int32))])) _
          refine XS.goto X5.here hx rfl (pc0 := 113) (pc' := 117) rfl (hb hby at_113) (by decide) (by decide) ?_
          show Steps p.tables e below (T5.setTop (mkF m 117 #[.val (.int u0), .val (.int u1), .val (.int (1 : Int32)), .val (.int (1 : Int32)), .val (.int (absG u0 (1 : Int32))), .val (.int (1 : Int32)), .val (.int (u0 &&& (7 : Int32))), .val (.int (u0 &&& (-8388616 : Int32))), .val (.int (5 : Int32))] [(.int (1 : Int32))])) _
          exact retN X5 hx (t := .boolean) Bd.returns (by simp) (hb hby at_117) hr
        · show Q0 Z u0 u1 h0 n0 _ T5.heap _
          rw [e5]
          exact ⟨rfl, N5⟩
      · by_cases hc83 : (u0 &&& (7 : Int32)) = (5 : Int32)
        · have hb109 : (absG u0 (1 : Int32)) = ((u0 &&& (-8388616 : Int32)) ||| (3 : Int32)) := by
            rw [abs_eq _ _ (by decide)]
            unfold expH
            simp [hc33, hc71, hc83]
          obtain ⟨fs, hr, hrun, hended, hW, hsame⟩ := X5.leave (v := some (.int (1 : Int32))) (fun h => by rw [Bd.returns] at h; cases h)
          refine ⟨_, _, pre0 _ ?_, hrun, hended, _, _, rfl, ?_, ⟨_, rfl⟩, hW, hsame.mono (by decide) (by decide)⟩
          · show Steps p.tables e below (s₁.setTop (mkF m 0 #[.val (.int u0), .val (.int u1), .unset, .unset, .unset, .unset, .unset, .unset, .unset] [])) _
            refine XS.iloadN X0.here hx rfl (hb hby at_0) rfl ?_
            show Steps p.tables e below (s₁.setTop (mkF m 1 #[.val (.int u0), .val (.int u1), .unset, .unset, .unset, .unset, .unset, .unset, .unset] [(.int u1)])) _
            refine XS.iconst X0.here hx rfl (hb hby at_1) ?_
            show Steps p.tables e below (s₁.setTop (mkF m 2 #[.val (.int u0), .val (.int u1), .unset, .unset, .unset, .unset, .unset, .unset, .unset] [(.int (1 : Int32)), (.int u1)])) _
            refine XS.iand X0.here hx rfl (hb hby at_2) rfl ?_
            show Steps p.tables e below (s₁.setTop (mkF m 3 #[.val (.int u0), .val (.int u1), .unset, .unset, .unset, .unset, .unset, .unset, .unset] [(.int (u1 &&& (1 : Int32)))])) _
            refine XS.ifNo X0.here hx rfl (hb hby at_3) rfl ((if0 _ _).trans (feq hc3).1) ?_
            show Steps p.tables e below (s₁.setTop (mkF m 6 #[.val (.int u0), .val (.int u1), .unset, .unset, .unset, .unset, .unset, .unset, .unset] [])) _
            refine XS.iconst X0.here hx rfl (hb hby at_6) ?_
            show Steps p.tables e below (s₁.setTop (mkF m 7 #[.val (.int u0), .val (.int u1), .unset, .unset, .unset, .unset, .unset, .unset, .unset] [(.int (1 : Int32))])) _
            refine XS.goto X0.here hx rfl (pc0 := 7) (pc' := 11) rfl (hb hby at_7) (by decide) (by decide) ?_
            show Steps p.tables e below (s₁.setTop (mkF m 11 #[.val (.int u0), .val (.int u1), .unset, .unset, .unset, .unset, .unset, .unset, .unset] [(.int (1 : Int32))])) _
            refine XS.istoreN X0.here hx rfl (hb hby at_11) rfl (l' := #[.val (.int u0), .val (.int u1), .val (.int (1 : Int32)), .unset, .unset, .unset, .unset, .unset, .unset]) rfl ?_
            show Steps p.tables e below (s₁.setTop (mkF m 12 #[.val (.int u0), .val (.int u1), .val (.int (1 : Int32)), .unset, .unset, .unset, .unset, .unset, .unset] [])) _
            refine XS.iloadN X0.here hx rfl (hb hby at_12) rfl ?_
            show Steps p.tables e below (s₁.setTop (mkF m 13 #[.val (.int u0), .val (.int u1), .val (.int (1 : Int32)), .unset, .unset, .unset, .unset, .unset, .unset] [(.int (1 : Int32))])) _
            refine XS.ifNo X0.here hx rfl (hb hby at_13) rfl ((if0 _ _).trans (feq (by decide)).1) ?_
            show Steps p.tables e below (s₁.setTop (mkF m 16 #[.val (.int u0), .val (.int u1), .val (.int (1 : Int32)), .unset, .unset, .unset, .unset, .unset, .unset] [])) _
            refine XS.iconst X0.here hx rfl (hb hby at_16) ?_
            show Steps p.tables e below (s₁.setTop (mkF m 17 #[.val (.int u0), .val (.int u1), .val (.int (1 : Int32)), .unset, .unset, .unset, .unset, .unset, .unset] [(.int (1 : Int32))])) _
            refine XS.goto X0.here hx rfl (pc0 := 17) (pc' := 21) rfl (hb hby at_17) (by decide) (by decide) ?_
            show Steps p.tables e below (s₁.setTop (mkF m 21 #[.val (.int u0), .val (.int u1), .val (.int (1 : Int32)), .unset, .unset, .unset, .unset, .unset, .unset] [(.int (1 : Int32))])) _
            refine XS.istoreN X0.here hx rfl (hb hby at_21) rfl (l' := #[.val (.int u0), .val (.int u1), .val (.int (1 : Int32)), .val (.int (1 : Int32)), .unset, .unset, .unset, .unset, .unset]) rfl ?_
            show Steps p.tables e below (s₁.setTop (mkF m 22 #[.val (.int u0), .val (.int u1), .val (.int (1 : Int32)), .val (.int (1 : Int32)), .unset, .unset, .unset, .unset, .unset] [])) _
            refine XS.iloadN X0.here hx rfl (hb hby at_22) rfl ?_
            show Steps p.tables e below (s₁.setTop (mkF m 23 #[.val (.int u0), .val (.int u1), .val (.int (1 : Int32)), .val (.int (1 : Int32)), .unset, .unset, .unset, .unset, .unset] [(.int u0)])) _
            refine XS.iloadN X0.here hx rfl (hb hby at_23) rfl ?_
            show Steps p.tables e below (s₁.setTop (mkF m 24 #[.val (.int u0), .val (.int u1), .val (.int (1 : Int32)), .val (.int (1 : Int32)), .unset, .unset, .unset, .unset, .unset] [(.int (1 : Int32)), (.int u0)])) _
            refine st5 _ ?_
            show Steps p.tables e below (T5.setTop (mkF m 27 #[.val (.int u0), .val (.int u1), .val (.int (1 : Int32)), .val (.int (1 : Int32)), .unset, .unset, .unset, .unset, .unset] [(.int (absG u0 (1 : Int32)))])) _
            refine XS.istore X5.here hx rfl (hb hby at_27) rfl (l' := #[.val (.int u0), .val (.int u1), .val (.int (1 : Int32)), .val (.int (1 : Int32)), .val (.int (absG u0 (1 : Int32))), .unset, .unset, .unset, .unset]) rfl ?_
            show Steps p.tables e below (T5.setTop (mkF m 29 #[.val (.int u0), .val (.int u1), .val (.int (1 : Int32)), .val (.int (1 : Int32)), .val (.int (absG u0 (1 : Int32))), .unset, .unset, .unset, .unset] [])) _
            refine XS.iloadN X5.here hx rfl (hb hby at_29) rfl ?_
            show Steps p.tables e below (T5.setTop (mkF m 30 #[.val (.int u0), .val (.int u1), .val (.int (1 : Int32)), .val (.int (1 : Int32)), .val (.int (absG u0 (1 : Int32))), .unset, .unset, .unset, .unset] [(.int u0)])) _
            refine st6 _ ?_
            show Steps p.tables e below (T5.setTop (mkF m 32 #[.val (.int u0), .val (.int u1), .val (.int (1 : Int32)), .val (.int (1 : Int32)), .val (.int (absG u0 (1 : Int32))), .unset, .unset, .unset, .unset] [(.int (8388608 : Int32)), (.int u0)])) _
            refine XS.iand X5.here hx rfl (hb hby at_32) rfl ?_
            show Steps p.tables e below (T5.setTop (mkF m 33 #[.val (.int u0), .val (.int u1), .val (.int (1 : Int32)), .val (.int (1 : Int32)), .val (.int (absG u0 (1 : Int32))), .unset, .unset, .unset, .unset] [(.int (u0 &&& (8388608 : Int32)))])) _
            refine XS.ifNo X5.here hx rfl (hb hby at_33) rfl ((if0 _ _).trans (feq hc33).1) ?_
            show Steps p.tables e below (T5.setTop (mkF m 36 #[.val (.int u0), .val (.int u1), .val (.int (1 : Int32)), .val (.int (1 : Int32)), .val (.int (absG u0 (1 : Int32))), .unset, .unset, .unset, .unset] [])) _
            refine XS.iconst X5.here hx rfl (hb hby at_36) ?_
            show Steps p.tables e below (T5.setTop (mkF m 37 #[.val (.int u0), .val (.int u1), .val (.int (1 : Int32)), .val (.int (1 : Int32)), .val (.int (absG u0 (1 : Int32))), .unset, .unset, .unset, .unset] [(.int (1 : Int32))])) _
            refine XS.goto X5.here hx rfl (pc0 := 37) (pc' := 41) rfl (hb hby at_37) (by decide) (by decide) ?_
            show Steps p.tables e below (T5.setTop (mkF m 41 #[.val (.int u0), .val (.int u1), .val (.int (1 : Int32)), .val (.int (1 : Int32)), .val (.int (absG u0 (1 : Int32))), .unset, .unset, .unset, .unset] [(.int (1 : Int32))])) _
            refine XS.istore X5.here hx rfl (hb hby at_41) rfl (l' := #[.val (.int u0), .val (.int u1), .val (.int (1 : Int32)), .val (.int (1 : Int32)), .val (.int (absG u0 (1 : Int32))), .val (.int (1 : Int32)), .unset, .unset, .unset]) rfl ?_
            show Steps p.tables e below (T5.setTop (mkF m 43 #[.val (.int u0), .val (.int u1), .val (.int (1 : Int32)), .val (.int (1 : Int32)), .val (.int (absG u0 (1 : Int32))), .val (.int (1 : Int32)), .unset, .unset, .unset] [])) _
            refine XS.iloadN X5.here hx rfl (hb hby at_43) rfl ?_
            show Steps p.tables e below (T5.setTop (mkF m 44 #[.val (.int u0), .val (.int u1), .val (.int (1 : Int32)), .val (.int (1 : Int32)), .val (.int (absG u0 (1 : Int32))), .val (.int (1 : Int32)), .unset, .unset, .unset] [(.int u0)])) _
            refine XS.bipush X5.here hx rfl (hb hby at_44) ?_
            show Steps p.tables e below (T5.setTop (mkF m 46 #[.val (.int u0), .val (.int u1), .val (.int (1 : Int32)), .val (.int (1 : Int32)), .val (.int (absG u0 (1 : Int32))), .val (.int (1 : Int32)), .unset, .unset, .unset] [(.int (7 : Int32)), (.int u0)])) _
            refine XS.iand X5.here hx rfl (hb hby at_46) rfl ?_
            show Steps p.tables e below (T5.setTop (mkF m 47 #[.val (.int u0), .val (.int u1), .val (.int (1 : Int32)), .val (.int (1 : Int32)), .val (.int (absG u0 (1 : Int32))), .val (.int (1 : Int32)), .unset, .unset, .unset] [(.int (u0 &&& (7 : Int32)))])) _
            refine XS.istore X5.here hx rfl (hb hby at_47) rfl (l' := #[.val (.int u0), .val (.int u1), .val (.int (1 : Int32)), .val (.int (1 : Int32)), .val (.int (absG u0 (1 : Int32))), .val (.int (1 : Int32)), .val (.int (u0 &&& (7 : Int32))), .unset, .unset]) rfl ?_
            show Steps p.tables e below (T5.setTop (mkF m 49 #[.val (.int u0), .val (.int u1), .val (.int (1 : Int32)), .val (.int (1 : Int32)), .val (.int (absG u0 (1 : Int32))), .val (.int (1 : Int32)), .val (.int (u0 &&& (7 : Int32))), .unset, .unset] [])) _
            refine XS.iloadN X5.here hx rfl (hb hby at_49) rfl ?_
            show Steps p.tables e below (T5.setTop (mkF m 50 #[.val (.int u0), .val (.int u1), .val (.int (1 : Int32)), .val (.int (1 : Int32)), .val (.int (absG u0 (1 : Int32))), .val (.int (1 : Int32)), .val (.int (u0 &&& (7 : Int32))), .unset, .unset] [(.int u0)])) _
            refine st8 _ ?_
            show Steps p.tables e below (T5.setTop (mkF m 52 #[.val (.int u0), .val (.int u1), .val (.int (1 : Int32)), .val (.int (1 : Int32)), .val (.int (absG u0 (1 : Int32))), .val (.int (1 : Int32)), .val (.int (u0 &&& (7 : Int32))), .unset, .unset] [(.int (-8388616 : Int32)), (.int u0)])) _
            refine XS.iand X5.here hx rfl (hb hby at_52) rfl ?_
            show Steps p.tables e below (T5.setTop (mkF m 53 #[.val (.int u0), .val (.int u1), .val (.int (1 : Int32)), .val (.int (1 : Int32)), .val (.int (absG u0 (1 : Int32))), .val (.int (1 : Int32)), .val (.int (u0 &&& (7 : Int32))), .unset, .unset] [(.int (u0 &&& (-8388616 : Int32)))])) _
            refine XS.istore X5.here hx rfl (hb hby at_53) rfl (l' := #[.val (.int u0), .val (.int u1), .val (.int (1 : Int32)), .val (.int (1 : Int32)), .val (.int (absG u0 (1 : Int32))), .val (.int (1 : Int32)), .val (.int (u0 &&& (7 : Int32))), .val (.int (u0 &&& (-8388616 : Int32))), .unset]) rfl ?_
            show Steps p.tables e below (T5.setTop (mkF m 55 #[.val (.int u0), .val (.int u1), .val (.int (1 : Int32)), .val (.int (1 : Int32)), .val (.int (absG u0 (1 : Int32))), .val (.int (1 : Int32)), .val (.int (u0 &&& (7 : Int32))), .val (.int (u0 &&& (-8388616 : Int32))), .unset] [])) _
            refine XS.iload X5.here hx rfl (hb hby at_55) rfl ?_
            show Steps p.tables e below (T5.setTop (mkF m 57 #[.val (.int u0), .val (.int u1), .val (.int (1 : Int32)), .val (.int (1 : Int32)), .val (.int (absG u0 (1 : Int32))), .val (.int (1 : Int32)), .val (.int (u0 &&& (7 : Int32))), .val (.int (u0 &&& (-8388616 : Int32))), .unset] [(.int (u0 &&& (7 : Int32)))])) _
            refine XS.istore X5.here hx rfl (hb hby at_57) rfl (l' := #[.val (.int u0), .val (.int u1), .val (.int (1 : Int32)), .val (.int (1 : Int32)), .val (.int (absG u0 (1 : Int32))), .val (.int (1 : Int32)), .val (.int (u0 &&& (7 : Int32))), .val (.int (u0 &&& (-8388616 : Int32))), .val (.int (u0 &&& (7 : Int32)))]) rfl ?_
            show Steps p.tables e below (T5.setTop (mkF m 59 #[.val (.int u0), .val (.int u1), .val (.int (1 : Int32)), .val (.int (1 : Int32)), .val (.int (absG u0 (1 : Int32))), .val (.int (1 : Int32)), .val (.int (u0 &&& (7 : Int32))), .val (.int (u0 &&& (-8388616 : Int32))), .val (.int (u0 &&& (7 : Int32)))] [])) _
            refine XS.iload X5.here hx rfl (hb hby at_59) rfl ?_
            show Steps p.tables e below (T5.setTop (mkF m 61 #[.val (.int u0), .val (.int u1), .val (.int (1 : Int32)), .val (.int (1 : Int32)), .val (.int (absG u0 (1 : Int32))), .val (.int (1 : Int32)), .val (.int (u0 &&& (7 : Int32))), .val (.int (u0 &&& (-8388616 : Int32))), .val (.int (u0 &&& (7 : Int32)))] [(.int (1 : Int32))])) _
            refine XS.ifNo X5.here hx rfl (hb hby at_61) rfl ((if0 _ _).trans (feq (by decide)).1) ?_
            show Steps p.tables e below (T5.setTop (mkF m 64 #[.val (.int u0), .val (.int u1), .val (.int (1 : Int32)), .val (.int (1 : Int32)), .val (.int (absG u0 (1 : Int32))), .val (.int (1 : Int32)), .val (.int (u0 &&& (7 : Int32))), .val (.int (u0 &&& (-8388616 : Int32))), .val (.int (u0 &&& (7 : Int32)))] [])) _
            refine XS.iloadN X5.here hx rfl (hb hby at_64) rfl ?_
            show Steps p.tables e below (T5.setTop (mkF m 65 #[.val (.int u0), .val (.int u1), .val (.int (1 : Int32)), .val (.int (1 : Int32)), .val (.int (absG u0 (1 : Int32))), .val (.int (1 : Int32)), .val (.int (u0 &&& (7 : Int32))), .val (.int (u0 &&& (-8388616 : Int32))), .val (.int (u0 &&& (7 : Int32)))] [(.int (1 : Int32))])) _
            refine XS.ifNo X5.here hx rfl (hb hby at_65) rfl ((if0 _ _).trans (feq (by decide)).1) ?_
            show Steps p.tables e below (T5.setTop (mkF m 68 #[.val (.int u0), .val (.int u1), .val (.int (1 : Int32)), .val (.int (1 : Int32)), .val (.int (absG u0 (1 : Int32))), .val (.int (1 : Int32)), .val (.int (u0 &&& (7 : Int32))), .val (.int (u0 &&& (-8388616 : Int32))), .val (.int (u0 &&& (7 : Int32)))] [])) _
            refine XS.iload X5.here hx rfl (hb hby at_68) rfl ?_
            show Steps p.tables e below (T5.setTop (mkF m 70 #[.val (.int u0), .val (.int u1), .val (.int (1 : Int32)), .val (.int (1 : Int32)), .val (.int (absG u0 (1 : Int32))), .val (.int (1 : Int32)), .val (.int (u0 &&& (7 : Int32))), .val (.int (u0 &&& (-8388616 : Int32))), .val (.int (u0 &&& (7 : Int32)))] [(.int (u0 &&& (7 : Int32)))])) _
            refine XS.iconst X5.here hx rfl (hb hby at_70) ?_
            show Steps p.tables e below (T5.setTop (mkF m 71 #[.val (.int u0), .val (.int u1), .val (.int (1 : Int32)), .val (.int (1 : Int32)), .val (.int (absG u0 (1 : Int32))), .val (.int (1 : Int32)), .val (.int (u0 &&& (7 : Int32))), .val (.int (u0 &&& (-8388616 : Int32))), .val (.int (u0 &&& (7 : Int32)))] [(.int (3 : Int32)), (.int (u0 &&& (7 : Int32)))])) _
            refine XS.icmpYes X5.here hx rfl (pc0 := 71) (pc' := 80) rfl (hb hby at_71) rfl (feq hc71).2 (by decide) (by decide) ?_
            show Steps p.tables e below (T5.setTop (mkF m 80 #[.val (.int u0), .val (.int u1), .val (.int (1 : Int32)), .val (.int (1 : Int32)), .val (.int (absG u0 (1 : Int32))), .val (.int (1 : Int32)), .val (.int (u0 &&& (7 : Int32))), .val (.int (u0 &&& (-8388616 : Int32))), .val (.int (u0 &&& (7 : Int32)))] [])) _
            refine XS.iload X5.here hx rfl (hb hby at_80) rfl ?_
            show Steps p.tables e below (T5.setTop (mkF m 82 #[.val (.int u0), .val (.int u1), .val (.int (1 : Int32)), .val (.int (1 : Int32)), .val (.int (absG u0 (1 : Int32))), .val (.int (1 : Int32)), .val (.int (u0 &&& (7 : Int32))), .val (.int (u0 &&& (-8388616 : Int32))), .val (.int (u0 &&& (7 : Int32)))] [(.int (u0 &&& (7 : Int32)))])) _
            refine XS.iconst X5.here hx rfl (hb hby at_82) ?_
            show Steps p.tables e below (T5.setTop (mkF m 83 #[.val (.int u0), .val (.int u1), .val (.int (1 : Int32)), .val (.int (1 : Int32)), .val (.int (absG u0 (1 : Int32))), .val (.int (1 : Int32)), .val (.int (u0 &&& (7 : Int32))), .val (.int (u0 &&& (-8388616 : Int32))), .val (.int (u0 &&& (7 : Int32)))] [(.int (5 : Int32)), (.int (u0 &&& (7 : Int32)))])) _
            refine XS.icmpNo X5.here hx rfl (hb hby at_83) rfl (teq hc83).2 ?_
            show Steps p.tables e below (T5.setTop (mkF m 86 #[.val (.int u0), .val (.int u1), .val (.int (1 : Int32)), .val (.int (1 : Int32)), .val (.int (absG u0 (1 : Int32))), .val (.int (1 : Int32)), .val (.int (u0 &&& (7 : Int32))), .val (.int (u0 &&& (-8388616 : Int32))), .val (.int (u0 &&& (7 : Int32)))] [])) _
            refine XS.iconst X5.here hx rfl (hb hby at_86) ?_
            show Steps p.tables e below (T5.setTop (mkF m 87 #[.val (.int u0), .val (.int u1), .val (.int (1 : Int32)), .val (.int (1 : Int32)), .val (.int (absG u0 (1 : Int32))), .val (.int (1 : Int32)), .val (.int (u0 &&& (7 : Int32))), .val (.int (u0 &&& (-8388616 : Int32))), .val (.int (u0 &&& (7 : Int32)))] [(.int (3 : Int32))])) _
            refine XS.istore X5.here hx rfl (hb hby at_87) rfl (l' := #[.val (.int u0), .val (.int u1), .val (.int (1 : Int32)), .val (.int (1 : Int32)), .val (.int (absG u0 (1 : Int32))), .val (.int (1 : Int32)), .val (.int (u0 &&& (7 : Int32))), .val (.int (u0 &&& (-8388616 : Int32))), .val (.int (3 : Int32))]) rfl ?_
            show Steps p.tables e below (T5.setTop (mkF m 89 #[.val (.int u0), .val (.int u1), .val (.int (1 : Int32)), .val (.int (1 : Int32)), .val (.int (absG u0 (1 : Int32))), .val (.int (1 : Int32)), .val (.int (u0 &&& (7 : Int32))), .val (.int (u0 &&& (-8388616 : Int32))), .val (.int (3 : Int32))] [])) _
            refine XS.goto X5.here hx rfl (pc0 := 89) (pc' := 102) rfl (hb hby at_89) (by decide) (by decide) ?_
            show Steps p.tables e below (T5.setTop (mkF m 102 #[.val (.int u0), .val (.int u1), .val (.int (1 : Int32)), .val (.int (1 : Int32)), .val (.int (absG u0 (1 : Int32))), .val (.int (1 : Int32)), .val (.int (u0 &&& (7 : Int32))), .val (.int (u0 &&& (-8388616 : Int32))), .val (.int (3 : Int32))] [])) _
            refine XS.iload X5.here hx rfl (hb hby at_102) rfl ?_
            show Steps p.tables e below (T5.setTop (mkF m 104 #[.val (.int u0), .val (.int u1), .val (.int (1 : Int32)), .val (.int (1 : Int32)), .val (.int (absG u0 (1 : Int32))), .val (.int (1 : Int32)), .val (.int (u0 &&& (7 : Int32))), .val (.int (u0 &&& (-8388616 : Int32))), .val (.int (3 : Int32))] [(.int (absG u0 (1 : Int32)))])) _
            refine XS.iload X5.here hx rfl (hb hby at_104) rfl ?_
            show Steps p.tables e below (T5.setTop (mkF m 106 #[.val (.int u0), .val (.int u1), .val (.int (1 : Int32)), .val (.int (1 : Int32)), .val (.int (absG u0 (1 : Int32))), .val (.int (1 : Int32)), .val (.int (u0 &&& (7 : Int32))), .val (.int (u0 &&& (-8388616 : Int32))), .val (.int (3 : Int32))] [(.int (u0 &&& (-8388616 : Int32))), (.int (absG u0 (1 : Int32)))])) _
            refine XS.iload X5.here hx rfl (hb hby at_106) rfl ?_
            show Steps p.tables e below (T5.setTop (mkF m 108 #[.val (.int u0), .val (.int u1), .val (.int (1 : Int32)), .val (.int (1 : Int32)), .val (.int (absG u0 (1 : Int32))), .val (.int (1 : Int32)), .val (.int (u0 &&& (7 : Int32))), .val (.int (u0 &&& (-8388616 : Int32))), .val (.int (3 : Int32))] [(.int (3 : Int32)), (.int (u0 &&& (-8388616 : Int32))), (.int (absG u0 (1 : Int32)))])) _
            refine XS.ior X5.here hx rfl (hb hby at_108) rfl ?_
            show Steps p.tables e below (T5.setTop (mkF m 109 #[.val (.int u0), .val (.int u1), .val (.int (1 : Int32)), .val (.int (1 : Int32)), .val (.int (absG u0 (1 : Int32))), .val (.int (1 : Int32)), .val (.int (u0 &&& (7 : Int32))), .val (.int (u0 &&& (-8388616 : Int32))), .val (.int (3 : Int32))] [(.int ((u0 &&& (-8388616 : Int32)) ||| (3 : Int32))), (.int (absG u0 (1 : Int32)))])) _
            refine XS.icmpNo X5.here hx rfl (hb hby at_109) rfl (teq hb109).2 ?_
            show Steps p.tables e below (T5.setTop (mkF m 112 #[.val (.int u0), .val (.int u1), .val (.int (1 : Int32)), .val (.int (1 : Int32)), .val (.int (absG u0 (1 : Int32))), .val (.int (1 : Int32)), .val (.int (u0 &&& (7 : Int32))), .val (.int (u0 &&& (-8388616 : Int32))), .val (.int (3 : Int32))] [])) _
            refine XS.iconst X5.here hx rfl (hb hby at_112) ?_
            show Steps p.tables e below (T5.setTop (mkF m 113 #[.val (.int u0), .val (.int u1), .val (.int (1 : Int32)), .val (.int (1 : Int32)), .val (.int (absG u0 (1 : Int32))), .val (.int (1 : Int32)), .val (.int (u0 &&& (7 : Int32))), .val (.int (u0 &&& (-8388616 : Int32))), .val (.int (3 : Int32))] [(.int (1 : Int32))])) _
            refine XS.goto X5.here hx rfl (pc0 := 113) (pc' := 117) rfl (hb hby at_113) (by decide) (by decide) ?_
            show Steps p.tables e below (T5.setTop (mkF m 117 #[.val (.int u0), .val (.int u1), .val (.int (1 : Int32)), .val (.int (1 : Int32)), .val (.int (absG u0 (1 : Int32))), .val (.int (1 : Int32)), .val (.int (u0 &&& (7 : Int32))), .val (.int (u0 &&& (-8388616 : Int32))), .val (.int (3 : Int32))] [(.int (1 : Int32))])) _
            exact retN X5 hx (t := .boolean) Bd.returns (by simp) (hb hby at_117) hr
          · show Q0 Z u0 u1 h0 n0 _ T5.heap _
            rw [e5]
            exact ⟨rfl, N5⟩
        · by_cases hc96 : (u0 &&& (7 : Int32)) = (7 : Int32)
          · have hb109 : (absG u0 (1 : Int32)) = ((u0 &&& (-8388616 : Int32)) ||| (5 : Int32)) := by
              rw [abs_eq _ _ (by decide)]
              unfold expH
              simp [hc33, hc71, hc83, hc96]
            obtain ⟨fs, hr, hrun, hended, hW, hsame⟩ := X5.leave (v := some (.int (1 : Int32))) (fun h => by rw [Bd.returns] at h; cases h)
            refine ⟨_, _, pre0 _ ?_, hrun, hended, _, _, rfl, ?_, ⟨_, rfl⟩, hW, hsame.mono (by decide) (by decide)⟩
            · show Steps p.tables e below (s₁.setTop (mkF m 0 #[.val (.int u0), .val (.int u1), .unset, .unset, .unset, .unset, .unset, .unset, .unset] [])) _
              refine XS.iloadN X0.here hx rfl (hb hby at_0) rfl ?_
              show Steps p.tables e below (s₁.setTop (mkF m 1 #[.val (.int u0), .val (.int u1), .unset, .unset, .unset, .unset, .unset, .unset, .unset] [(.int u1)])) _
              refine XS.iconst X0.here hx rfl (hb hby at_1) ?_
              show Steps p.tables e below (s₁.setTop (mkF m 2 #[.val (.int u0), .val (.int u1), .unset, .unset, .unset, .unset, .unset, .unset, .unset] [(.int (1 : Int32)), (.int u1)])) _
              refine XS.iand X0.here hx rfl (hb hby at_2) rfl ?_
              show Steps p.tables e below (s₁.setTop (mkF m 3 #[.val (.int u0), .val (.int u1), .unset, .unset, .unset, .unset, .unset, .unset, .unset] [(.int (u1 &&& (1 : Int32)))])) _
              refine XS.ifNo X0.here hx rfl (hb hby at_3) rfl ((if0 _ _).trans (feq hc3).1) ?_
              show Steps p.tables e below (s₁.setTop (mkF m 6 #[.val (.int u0), .val (.int u1), .unset, .unset, .unset, .unset, .unset, .unset, .unset] [])) _
              refine XS.iconst X0.here hx rfl (hb hby at_6) ?_
              show Steps p.tables e below (s₁.setTop (mkF m 7 #[.val (.int u0), .val (.int u1), .unset, .unset, .unset, .unset, .unset, .unset, .unset] [(.int (1 : Int32))])) _
              refine XS.goto X0.here hx rfl (pc0 := 7) (pc' := 11) rfl (hb hby at_7) (by decide) (by decide) ?_
              show Steps p.tables e below (s₁.setTop (mkF m 11 #[.val (.int u0), .val (.int u1), .unset, .unset, .unset, .unset, .unset, .unset, .unset] [(.int (1 : Int32))])) _
              refine XS.istoreN X0.here hx rfl (hb hby at_11) rfl (l' := #[.val (.int u0), .val (.int u1), .val (.int (1 : Int32)), .unset, .unset, .unset, .unset, .unset, .unset]) rfl ?_
              show Steps p.tables e below (s₁.setTop (mkF m 12 #[.val (.int u0), .val (.int u1), .val (.int (1 : Int32)), .unset, .unset, .unset, .unset, .unset, .unset] [])) _
              refine XS.iloadN X0.here hx rfl (hb hby at_12) rfl ?_
              show Steps p.tables e below (s₁.setTop (mkF m 13 #[.val (.int u0), .val (.int u1), .val (.int (1 : Int32)), .unset, .unset, .unset, .unset, .unset, .unset] [(.int (1 : Int32))])) _
              refine XS.ifNo X0.here hx rfl (hb hby at_13) rfl ((if0 _ _).trans (feq (by decide)).1) ?_
              show Steps p.tables e below (s₁.setTop (mkF m 16 #[.val (.int u0), .val (.int u1), .val (.int (1 : Int32)), .unset, .unset, .unset, .unset, .unset, .unset] [])) _
              refine XS.iconst X0.here hx rfl (hb hby at_16) ?_
              show Steps p.tables e below (s₁.setTop (mkF m 17 #[.val (.int u0), .val (.int u1), .val (.int (1 : Int32)), .unset, .unset, .unset, .unset, .unset, .unset] [(.int (1 : Int32))])) _
              refine XS.goto X0.here hx rfl (pc0 := 17) (pc' := 21) rfl (hb hby at_17) (by decide) (by decide) ?_
              show Steps p.tables e below (s₁.setTop (mkF m 21 #[.val (.int u0), .val (.int u1), .val (.int (1 : Int32)), .unset, .unset, .unset, .unset, .unset, .unset] [(.int (1 : Int32))])) _
              refine XS.istoreN X0.here hx rfl (hb hby at_21) rfl (l' := #[.val (.int u0), .val (.int u1), .val (.int (1 : Int32)), .val (.int (1 : Int32)), .unset, .unset, .unset, .unset, .unset]) rfl ?_
              show Steps p.tables e below (s₁.setTop (mkF m 22 #[.val (.int u0), .val (.int u1), .val (.int (1 : Int32)), .val (.int (1 : Int32)), .unset, .unset, .unset, .unset, .unset] [])) _
              refine XS.iloadN X0.here hx rfl (hb hby at_22) rfl ?_
              show Steps p.tables e below (s₁.setTop (mkF m 23 #[.val (.int u0), .val (.int u1), .val (.int (1 : Int32)), .val (.int (1 : Int32)), .unset, .unset, .unset, .unset, .unset] [(.int u0)])) _
              refine XS.iloadN X0.here hx rfl (hb hby at_23) rfl ?_
              show Steps p.tables e below (s₁.setTop (mkF m 24 #[.val (.int u0), .val (.int u1), .val (.int (1 : Int32)), .val (.int (1 : Int32)), .unset, .unset, .unset, .unset, .unset] [(.int (1 : Int32)), (.int u0)])) _
              refine st5 _ ?_
              show Steps p.tables e below (T5.setTop (mkF m 27 #[.val (.int u0), .val (.int u1), .val (.int (1 : Int32)), .val (.int (1 : Int32)), .unset, .unset, .unset, .unset, .unset] [(.int (absG u0 (1 : Int32)))])) _
              refine XS.istore X5.here hx rfl (hb hby at_27) rfl (l' := #[.val (.int u0), .val (.int u1), .val (.int (1 : Int32)), .val (.int (1 : Int32)), .val (.int (absG u0 (1 : Int32))), .unset, .unset, .unset, .unset]) rfl ?_
              show Steps p.tables e below (T5.setTop (mkF m 29 #[.val (.int u0), .val (.int u1), .val (.int (1 : Int32)), .val (.int (1 : Int32)), .val (.int (absG u0 (1 : Int32))), .unset, .unset, .unset, .unset] [])) _
              refine XS.iloadN X5.here hx rfl (hb hby at_29) rfl ?_
              show Steps p.tables e below (T5.setTop (mkF m 30 #[.val (.int u0), .val (.int u1), .val (.int (1 : Int32)), .val (.int (1 : Int32)), .val (.int (absG u0 (1 : Int32))), .unset, .unset, .unset, .unset] [(.int u0)])) _
              refine st6 _ ?_
              show Steps p.tables e below (T5.setTop (mkF m 32 #[.val (.int u0), .val (.int u1), .val (.int (1 : Int32)), .val (.int (1 : Int32)), .val (.int (absG u0 (1 : Int32))), .unset, .unset, .unset, .unset] [(.int (8388608 : Int32)), (.int u0)])) _
              refine XS.iand X5.here hx rfl (hb hby at_32) rfl ?_
              show Steps p.tables e below (T5.setTop (mkF m 33 #[.val (.int u0), .val (.int u1), .val (.int (1 : Int32)), .val (.int (1 : Int32)), .val (.int (absG u0 (1 : Int32))), .unset, .unset, .unset, .unset] [(.int (u0 &&& (8388608 : Int32)))])) _
              refine XS.ifNo X5.here hx rfl (hb hby at_33) rfl ((if0 _ _).trans (feq hc33).1) ?_
              show Steps p.tables e below (T5.setTop (mkF m 36 #[.val (.int u0), .val (.int u1), .val (.int (1 : Int32)), .val (.int (1 : Int32)), .val (.int (absG u0 (1 : Int32))), .unset, .unset, .unset, .unset] [])) _
              refine XS.iconst X5.here hx rfl (hb hby at_36) ?_
              show Steps p.tables e below (T5.setTop (mkF m 37 #[.val (.int u0), .val (.int u1), .val (.int (1 : Int32)), .val (.int (1 : Int32)), .val (.int (absG u0 (1 : Int32))), .unset, .unset, .unset, .unset] [(.int (1 : Int32))])) _
              refine XS.goto X5.here hx rfl (pc0 := 37) (pc' := 41) rfl (hb hby at_37) (by decide) (by decide) ?_
              show Steps p.tables e below (T5.setTop (mkF m 41 #[.val (.int u0), .val (.int u1), .val (.int (1 : Int32)), .val (.int (1 : Int32)), .val (.int (absG u0 (1 : Int32))), .unset, .unset, .unset, .unset] [(.int (1 : Int32))])) _
              refine XS.istore X5.here hx rfl (hb hby at_41) rfl (l' := #[.val (.int u0), .val (.int u1), .val (.int (1 : Int32)), .val (.int (1 : Int32)), .val (.int (absG u0 (1 : Int32))), .val (.int (1 : Int32)), .unset, .unset, .unset]) rfl ?_
              show Steps p.tables e below (T5.setTop (mkF m 43 #[.val (.int u0), .val (.int u1), .val (.int (1 : Int32)), .val (.int (1 : Int32)), .val (.int (absG u0 (1 : Int32))), .val (.int (1 : Int32)), .unset, .unset, .unset] [])) _
              refine XS.iloadN X5.here hx rfl (hb hby at_43) rfl ?_
              show Steps p.tables e below (T5.setTop (mkF m 44 #[.val (.int u0), .val (.int u1), .val (.int (1 : Int32)), .val (.int (1 : Int32)), .val (.int (absG u0 (1 : Int32))), .val (.int (1 : Int32)), .unset, .unset, .unset] [(.int u0)])) _
              refine XS.bipush X5.here hx rfl (hb hby at_44) ?_
              show Steps p.tables e below (T5.setTop (mkF m 46 #[.val (.int u0), .val (.int u1), .val (.int (1 : Int32)), .val (.int (1 : Int32)), .val (.int (absG u0 (1 : Int32))), .val (.int (1 : Int32)), .unset, .unset, .unset] [(.int (7 : Int32)), (.int u0)])) _
              refine XS.iand X5.here hx rfl (hb hby at_46) rfl ?_
              show Steps p.tables e below (T5.setTop (mkF m 47 #[.val (.int u0), .val (.int u1), .val (.int (1 : Int32)), .val (.int (1 : Int32)), .val (.int (absG u0 (1 : Int32))), .val (.int (1 : Int32)), .unset, .unset, .unset] [(.int (u0 &&& (7 : Int32)))])) _
              refine XS.istore X5.here hx rfl (hb hby at_47) rfl (l' := #[.val (.int u0), .val (.int u1), .val (.int (1 : Int32)), .val (.int (1 : Int32)), .val (.int (absG u0 (1 : Int32))), .val (.int (1 : Int32)), .val (.int (u0 &&& (7 : Int32))), .unset, .unset]) rfl ?_
              show Steps p.tables e below (T5.setTop (mkF m 49 #[.val (.int u0), .val (.int u1), .val (.int (1 : Int32)), .val (.int (1 : Int32)), .val (.int (absG u0 (1 : Int32))), .val (.int (1 : Int32)), .val (.int (u0 &&& (7 : Int32))), .unset, .unset] [])) _
              refine XS.iloadN X5.here hx rfl (hb hby at_49) rfl ?_
              show Steps p.tables e below (T5.setTop (mkF m 50 #[.val (.int u0), .val (.int u1), .val (.int (1 : Int32)), .val (.int (1 : Int32)), .val (.int (absG u0 (1 : Int32))), .val (.int (1 : Int32)), .val (.int (u0 &&& (7 : Int32))), .unset, .unset] [(.int u0)])) _
              refine st8 _ ?_
              show Steps p.tables e below (T5.setTop (mkF m 52 #[.val (.int u0), .val (.int u1), .val (.int (1 : Int32)), .val (.int (1 : Int32)), .val (.int (absG u0 (1 : Int32))), .val (.int (1 : Int32)), .val (.int (u0 &&& (7 : Int32))), .unset, .unset] [(.int (-8388616 : Int32)), (.int u0)])) _
              refine XS.iand X5.here hx rfl (hb hby at_52) rfl ?_
              show Steps p.tables e below (T5.setTop (mkF m 53 #[.val (.int u0), .val (.int u1), .val (.int (1 : Int32)), .val (.int (1 : Int32)), .val (.int (absG u0 (1 : Int32))), .val (.int (1 : Int32)), .val (.int (u0 &&& (7 : Int32))), .unset, .unset] [(.int (u0 &&& (-8388616 : Int32)))])) _
              refine XS.istore X5.here hx rfl (hb hby at_53) rfl (l' := #[.val (.int u0), .val (.int u1), .val (.int (1 : Int32)), .val (.int (1 : Int32)), .val (.int (absG u0 (1 : Int32))), .val (.int (1 : Int32)), .val (.int (u0 &&& (7 : Int32))), .val (.int (u0 &&& (-8388616 : Int32))), .unset]) rfl ?_
              show Steps p.tables e below (T5.setTop (mkF m 55 #[.val (.int u0), .val (.int u1), .val (.int (1 : Int32)), .val (.int (1 : Int32)), .val (.int (absG u0 (1 : Int32))), .val (.int (1 : Int32)), .val (.int (u0 &&& (7 : Int32))), .val (.int (u0 &&& (-8388616 : Int32))), .unset] [])) _
              refine XS.iload X5.here hx rfl (hb hby at_55) rfl ?_
              show Steps p.tables e below (T5.setTop (mkF m 57 #[.val (.int u0), .val (.int u1), .val (.int (1 : Int32)), .val (.int (1 : Int32)), .val (.int (absG u0 (1 : Int32))), .val (.int (1 : Int32)), .val (.int (u0 &&& (7 : Int32))), .val (.int (u0 &&& (-8388616 : Int32))), .unset] [(.int (u0 &&& (7 : Int32)))])) _
              refine XS.istore X5.here hx rfl (hb hby at_57) rfl (l' := #[.val (.int u0), .val (.int u1), .val (.int (1 : Int32)), .val (.int (1 : Int32)), .val (.int (absG u0 (1 : Int32))), .val (.int (1 : Int32)), .val (.int (u0 &&& (7 : Int32))), .val (.int (u0 &&& (-8388616 : Int32))), .val (.int (u0 &&& (7 : Int32)))]) rfl ?_
              show Steps p.tables e below (T5.setTop (mkF m 59 #[.val (.int u0), .val (.int u1), .val (.int (1 : Int32)), .val (.int (1 : Int32)), .val (.int (absG u0 (1 : Int32))), .val (.int (1 : Int32)), .val (.int (u0 &&& (7 : Int32))), .val (.int (u0 &&& (-8388616 : Int32))), .val (.int (u0 &&& (7 : Int32)))] [])) _
              refine XS.iload X5.here hx rfl (hb hby at_59) rfl ?_
              show Steps p.tables e below (T5.setTop (mkF m 61 #[.val (.int u0), .val (.int u1), .val (.int (1 : Int32)), .val (.int (1 : Int32)), .val (.int (absG u0 (1 : Int32))), .val (.int (1 : Int32)), .val (.int (u0 &&& (7 : Int32))), .val (.int (u0 &&& (-8388616 : Int32))), .val (.int (u0 &&& (7 : Int32)))] [(.int (1 : Int32))])) _
              refine XS.ifNo X5.here hx rfl (hb hby at_61) rfl ((if0 _ _).trans (feq (by decide)).1) ?_
              show Steps p.tables e below (T5.setTop (mkF m 64 #[.val (.int u0), .val (.int u1), .val (.int (1 : Int32)), .val (.int (1 : Int32)), .val (.int (absG u0 (1 : Int32))), .val (.int (1 : Int32)), .val (.int (u0 &&& (7 : Int32))), .val (.int (u0 &&& (-8388616 : Int32))), .val (.int (u0 &&& (7 : Int32)))] [])) _
              refine XS.iloadN X5.here hx rfl (hb hby at_64) rfl ?_
              show Steps p.tables e below (T5.setTop (mkF m 65 #[.val (.int u0), .val (.int u1), .val (.int (1 : Int32)), .val (.int (1 : Int32)), .val (.int (absG u0 (1 : Int32))), .val (.int (1 : Int32)), .val (.int (u0 &&& (7 : Int32))), .val (.int (u0 &&& (-8388616 : Int32))), .val (.int (u0 &&& (7 : Int32)))] [(.int (1 : Int32))])) _
              refine XS.ifNo X5.here hx rfl (hb hby at_65) rfl ((if0 _ _).trans (feq (by decide)).1) ?_
              show Steps p.tables e below (T5.setTop (mkF m 68 #[.val (.int u0), .val (.int u1), .val (.int (1 : Int32)), .val (.int (1 : Int32)), .val (.int (absG u0 (1 : Int32))), .val (.int (1 : Int32)), .val (.int (u0 &&& (7 : Int32))), .val (.int (u0 &&& (-8388616 : Int32))), .val (.int (u0 &&& (7 : Int32)))] [])) _
              refine XS.iload X5.here hx rfl (hb hby at_68) rfl ?_
              show Steps p.tables e below (T5.setTop (mkF m 70 #[.val (.int u0), .val (.int u1), .val (.int (1 : Int32)), .val (.int (1 : Int32)), .val (.int (absG u0 (1 : Int32))), .val (.int (1 : Int32)), .val (.int (u0 &&& (7 : Int32))), .val (.int (u0 &&& (-8388616 : Int32))), .val (.int (u0 &&& (7 : Int32)))] [(.int (u0 &&& (7 : Int32)))])) _
              refine XS.iconst X5.here hx rfl (hb hby at_70) ?_
              show Steps p.tables e below (T5.setTop (mkF m 71 #[.val (.int u0), .val (.int u1), .val (.int (1 : Int32)), .val (.int (1 : Int32)), .val (.int (absG u0 (1 : Int32))), .val (.int (1 : Int32)), .val (.int (u0 &&& (7 : Int32))), .val (.int (u0 &&& (-8388616 : Int32))), .val (.int (u0 &&& (7 : Int32)))] [(.int (3 : Int32)), (.int (u0 &&& (7 : Int32)))])) _
              refine XS.icmpYes X5.here hx rfl (pc0 := 71) (pc' := 80) rfl (hb hby at_71) rfl (feq hc71).2 (by decide) (by decide) ?_
              show Steps p.tables e below (T5.setTop (mkF m 80 #[.val (.int u0), .val (.int u1), .val (.int (1 : Int32)), .val (.int (1 : Int32)), .val (.int (absG u0 (1 : Int32))), .val (.int (1 : Int32)), .val (.int (u0 &&& (7 : Int32))), .val (.int (u0 &&& (-8388616 : Int32))), .val (.int (u0 &&& (7 : Int32)))] [])) _
              refine XS.iload X5.here hx rfl (hb hby at_80) rfl ?_
              show Steps p.tables e below (T5.setTop (mkF m 82 #[.val (.int u0), .val (.int u1), .val (.int (1 : Int32)), .val (.int (1 : Int32)), .val (.int (absG u0 (1 : Int32))), .val (.int (1 : Int32)), .val (.int (u0 &&& (7 : Int32))), .val (.int (u0 &&& (-8388616 : Int32))), .val (.int (u0 &&& (7 : Int32)))] [(.int (u0 &&& (7 : Int32)))])) _
              refine XS.iconst X5.here hx rfl (hb hby at_82) ?_
              show Steps p.tables e below (T5.setTop (mkF m 83 #[.val (.int u0), .val (.int u1), .val (.int (1 : Int32)), .val (.int (1 : Int32)), .val (.int (absG u0 (1 : Int32))), .val (.int (1 : Int32)), .val (.int (u0 &&& (7 : Int32))), .val (.int (u0 &&& (-8388616 : Int32))), .val (.int (u0 &&& (7 : Int32)))] [(.int (5 : Int32)), (.int (u0 &&& (7 : Int32)))])) _
              refine XS.icmpYes X5.here hx rfl (pc0 := 83) (pc' := 92) rfl (hb hby at_83) rfl (feq hc83).2 (by decide) (by decide) ?_
              show Steps p.tables e below (T5.setTop (mkF m 92 #[.val (.int u0), .val (.int u1), .val (.int (1 : Int32)), .val (.int (1 : Int32)), .val (.int (absG u0 (1 : Int32))), .val (.int (1 : Int32)), .val (.int (u0 &&& (7 : Int32))), .val (.int (u0 &&& (-8388616 : Int32))), .val (.int (u0 &&& (7 : Int32)))] [])) _
              refine XS.iload X5.here hx rfl (hb hby at_92) rfl ?_
              show Steps p.tables e below (T5.setTop (mkF m 94 #[.val (.int u0), .val (.int u1), .val (.int (1 : Int32)), .val (.int (1 : Int32)), .val (.int (absG u0 (1 : Int32))), .val (.int (1 : Int32)), .val (.int (u0 &&& (7 : Int32))), .val (.int (u0 &&& (-8388616 : Int32))), .val (.int (u0 &&& (7 : Int32)))] [(.int (u0 &&& (7 : Int32)))])) _
              refine XS.bipush X5.here hx rfl (hb hby at_94) ?_
              show Steps p.tables e below (T5.setTop (mkF m 96 #[.val (.int u0), .val (.int u1), .val (.int (1 : Int32)), .val (.int (1 : Int32)), .val (.int (absG u0 (1 : Int32))), .val (.int (1 : Int32)), .val (.int (u0 &&& (7 : Int32))), .val (.int (u0 &&& (-8388616 : Int32))), .val (.int (u0 &&& (7 : Int32)))] [(.int (7 : Int32)), (.int (u0 &&& (7 : Int32)))])) _
              refine XS.icmpNo X5.here hx rfl (hb hby at_96) rfl (teq hc96).2 ?_
              show Steps p.tables e below (T5.setTop (mkF m 99 #[.val (.int u0), .val (.int u1), .val (.int (1 : Int32)), .val (.int (1 : Int32)), .val (.int (absG u0 (1 : Int32))), .val (.int (1 : Int32)), .val (.int (u0 &&& (7 : Int32))), .val (.int (u0 &&& (-8388616 : Int32))), .val (.int (u0 &&& (7 : Int32)))] [])) _
              refine XS.iconst X5.here hx rfl (hb hby at_99) ?_
              show Steps p.tables e below (T5.setTop (mkF m 100 #[.val (.int u0), .val (.int u1), .val (.int (1 : Int32)), .val (.int (1 : Int32)), .val (.int (absG u0 (1 : Int32))), .val (.int (1 : Int32)), .val (.int (u0 &&& (7 : Int32))), .val (.int (u0 &&& (-8388616 : Int32))), .val (.int (u0 &&& (7 : Int32)))] [(.int (5 : Int32))])) _
              refine XS.istore X5.here hx rfl (hb hby at_100) rfl (l' := #[.val (.int u0), .val (.int u1), .val (.int (1 : Int32)), .val (.int (1 : Int32)), .val (.int (absG u0 (1 : Int32))), .val (.int (1 : Int32)), .val (.int (u0 &&& (7 : Int32))), .val (.int (u0 &&& (-8388616 : Int32))), .val (.int (5 : Int32))]) rfl ?_
              show Steps p.tables e below (T5.setTop (mkF m 102 #[.val (.int u0), .val (.int u1), .val (.int (1 : Int32)), .val (.int (1 : Int32)), .val (.int (absG u0 (1 : Int32))), .val (.int (1 : Int32)), .val (.int (u0 &&& (7 : Int32))), .val (.int (u0 &&& (-8388616 : Int32))), .val (.int (5 : Int32))] [])) _
              refine XS.iload X5.here hx rfl (hb hby at_102) rfl ?_
              show Steps p.tables e below (T5.setTop (mkF m 104 #[.val (.int u0), .val (.int u1), .val (.int (1 : Int32)), .val (.int (1 : Int32)), .val (.int (absG u0 (1 : Int32))), .val (.int (1 : Int32)), .val (.int (u0 &&& (7 : Int32))), .val (.int (u0 &&& (-8388616 : Int32))), .val (.int (5 : Int32))] [(.int (absG u0 (1 : Int32)))])) _
              refine XS.iload X5.here hx rfl (hb hby at_104) rfl ?_
              show Steps p.tables e below (T5.setTop (mkF m 106 #[.val (.int u0), .val (.int u1), .val (.int (1 : Int32)), .val (.int (1 : Int32)), .val (.int (absG u0 (1 : Int32))), .val (.int (1 : Int32)), .val (.int (u0 &&& (7 : Int32))), .val (.int (u0 &&& (-8388616 : Int32))), .val (.int (5 : Int32))] [(.int (u0 &&& (-8388616 : Int32))), (.int (absG u0 (1 : Int32)))])) _
              refine XS.iload X5.here hx rfl (hb hby at_106) rfl ?_
              show Steps p.tables e below (T5.setTop (mkF m 108 #[.val (.int u0), .val (.int u1), .val (.int (1 : Int32)), .val (.int (1 : Int32)), .val (.int (absG u0 (1 : Int32))), .val (.int (1 : Int32)), .val (.int (u0 &&& (7 : Int32))), .val (.int (u0 &&& (-8388616 : Int32))), .val (.int (5 : Int32))] [(.int (5 : Int32)), (.int (u0 &&& (-8388616 : Int32))), (.int (absG u0 (1 : Int32)))])) _
              refine XS.ior X5.here hx rfl (hb hby at_108) rfl ?_
              show Steps p.tables e below (T5.setTop (mkF m 109 #[.val (.int u0), .val (.int u1), .val (.int (1 : Int32)), .val (.int (1 : Int32)), .val (.int (absG u0 (1 : Int32))), .val (.int (1 : Int32)), .val (.int (u0 &&& (7 : Int32))), .val (.int (u0 &&& (-8388616 : Int32))), .val (.int (5 : Int32))] [(.int ((u0 &&& (-8388616 : Int32)) ||| (5 : Int32))), (.int (absG u0 (1 : Int32)))])) _
              refine XS.icmpNo X5.here hx rfl (hb hby at_109) rfl (teq hb109).2 ?_
              show Steps p.tables e below (T5.setTop (mkF m 112 #[.val (.int u0), .val (.int u1), .val (.int (1 : Int32)), .val (.int (1 : Int32)), .val (.int (absG u0 (1 : Int32))), .val (.int (1 : Int32)), .val (.int (u0 &&& (7 : Int32))), .val (.int (u0 &&& (-8388616 : Int32))), .val (.int (5 : Int32))] [])) _
              refine XS.iconst X5.here hx rfl (hb hby at_112) ?_
              show Steps p.tables e below (T5.setTop (mkF m 113 #[.val (.int u0), .val (.int u1), .val (.int (1 : Int32)), .val (.int (1 : Int32)), .val (.int (absG u0 (1 : Int32))), .val (.int (1 : Int32)), .val (.int (u0 &&& (7 : Int32))), .val (.int (u0 &&& (-8388616 : Int32))), .val (.int (5 : Int32))] [(.int (1 : Int32))])) _
              refine XS.goto X5.here hx rfl (pc0 := 113) (pc' := 117) rfl (hb hby at_113) (by decide) (by decide) ?_
              show Steps p.tables e below (T5.setTop (mkF m 117 #[.val (.int u0), .val (.int u1), .val (.int (1 : Int32)), .val (.int (1 : Int32)), .val (.int (absG u0 (1 : Int32))), .val (.int (1 : Int32)), .val (.int (u0 &&& (7 : Int32))), .val (.int (u0 &&& (-8388616 : Int32))), .val (.int (5 : Int32))] [(.int (1 : Int32))])) _
              exact retN X5 hx (t := .boolean) Bd.returns (by simp) (hb hby at_117) hr
            · show Q0 Z u0 u1 h0 n0 _ T5.heap _
              rw [e5]
              exact ⟨rfl, N5⟩
          · have hb109 : (absG u0 (1 : Int32)) = ((u0 &&& (-8388616 : Int32)) ||| (u0 &&& (7 : Int32))) := by
              rw [abs_eq _ _ (by decide)]
              unfold expH
              simp [hc33, hc71, hc83, hc96]
            obtain ⟨fs, hr, hrun, hended, hW, hsame⟩ := X5.leave (v := some (.int (1 : Int32))) (fun h => by rw [Bd.returns] at h; cases h)
            refine ⟨_, _, pre0 _ ?_, hrun, hended, _, _, rfl, ?_, ⟨_, rfl⟩, hW, hsame.mono (by decide) (by decide)⟩
            · show Steps p.tables e below (s₁.setTop (mkF m 0 #[.val (.int u0), .val (.int u1), .unset, .unset, .unset, .unset, .unset, .unset, .unset] [])) _
              refine XS.iloadN X0.here hx rfl (hb hby at_0) rfl ?_
              show Steps p.tables e below (s₁.setTop (mkF m 1 #[.val (.int u0), .val (.int u1), .unset, .unset, .unset, .unset, .unset, .unset, .unset] [(.int u1)])) _
              refine XS.iconst X0.here hx rfl (hb hby at_1) ?_
              show Steps p.tables e below (s₁.setTop (mkF m 2 #[.val (.int u0), .val (.int u1), .unset, .unset, .unset, .unset, .unset, .unset, .unset] [(.int (1 : Int32)), (.int u1)])) _
              refine XS.iand X0.here hx rfl (hb hby at_2) rfl ?_
              show Steps p.tables e below (s₁.setTop (mkF m 3 #[.val (.int u0), .val (.int u1), .unset, .unset, .unset, .unset, .unset, .unset, .unset] [(.int (u1 &&& (1 : Int32)))])) _
              refine XS.ifNo X0.here hx rfl (hb hby at_3) rfl ((if0 _ _).trans (feq hc3).1) ?_
              show Steps p.tables e below (s₁.setTop (mkF m 6 #[.val (.int u0), .val (.int u1), .unset, .unset, .unset, .unset, .unset, .unset, .unset] [])) _
              refine XS.iconst X0.here hx rfl (hb hby at_6) ?_
              show Steps p.tables e below (s₁.setTop (mkF m 7 #[.val (.int u0), .val (.int u1), .unset, .unset, .unset, .unset, .unset, .unset, .unset] [(.int (1 : Int32))])) _
              refine XS.goto X0.here hx rfl (pc0 := 7) (pc' := 11) rfl (hb hby at_7) (by decide) (by decide) ?_
              show Steps p.tables e below (s₁.setTop (mkF m 11 #[.val (.int u0), .val (.int u1), .unset, .unset, .unset, .unset, .unset, .unset, .unset] [(.int (1 : Int32))])) _
              refine XS.istoreN X0.here hx rfl (hb hby at_11) rfl (l' := #[.val (.int u0), .val (.int u1), .val (.int (1 : Int32)), .unset, .unset, .unset, .unset, .unset, .unset]) rfl ?_
              show Steps p.tables e below (s₁.setTop (mkF m 12 #[.val (.int u0), .val (.int u1), .val (.int (1 : Int32)), .unset, .unset, .unset, .unset, .unset, .unset] [])) _
              refine XS.iloadN X0.here hx rfl (hb hby at_12) rfl ?_
              show Steps p.tables e below (s₁.setTop (mkF m 13 #[.val (.int u0), .val (.int u1), .val (.int (1 : Int32)), .unset, .unset, .unset, .unset, .unset, .unset] [(.int (1 : Int32))])) _
              refine XS.ifNo X0.here hx rfl (hb hby at_13) rfl ((if0 _ _).trans (feq (by decide)).1) ?_
              show Steps p.tables e below (s₁.setTop (mkF m 16 #[.val (.int u0), .val (.int u1), .val (.int (1 : Int32)), .unset, .unset, .unset, .unset, .unset, .unset] [])) _
              refine XS.iconst X0.here hx rfl (hb hby at_16) ?_
              show Steps p.tables e below (s₁.setTop (mkF m 17 #[.val (.int u0), .val (.int u1), .val (.int (1 : Int32)), .unset, .unset, .unset, .unset, .unset, .unset] [(.int (1 : Int32))])) _
              refine XS.goto X0.here hx rfl (pc0 := 17) (pc' := 21) rfl (hb hby at_17) (by decide) (by decide) ?_
              show Steps p.tables e below (s₁.setTop (mkF m 21 #[.val (.int u0), .val (.int u1), .val (.int (1 : Int32)), .unset, .unset, .unset, .unset, .unset, .unset] [(.int (1 : Int32))])) _
              refine XS.istoreN X0.here hx rfl (hb hby at_21) rfl (l' := #[.val (.int u0), .val (.int u1), .val (.int (1 : Int32)), .val (.int (1 : Int32)), .unset, .unset, .unset, .unset, .unset]) rfl ?_
              show Steps p.tables e below (s₁.setTop (mkF m 22 #[.val (.int u0), .val (.int u1), .val (.int (1 : Int32)), .val (.int (1 : Int32)), .unset, .unset, .unset, .unset, .unset] [])) _
              refine XS.iloadN X0.here hx rfl (hb hby at_22) rfl ?_
              show Steps p.tables e below (s₁.setTop (mkF m 23 #[.val (.int u0), .val (.int u1), .val (.int (1 : Int32)), .val (.int (1 : Int32)), .unset, .unset, .unset, .unset, .unset] [(.int u0)])) _
              refine XS.iloadN X0.here hx rfl (hb hby at_23) rfl ?_
              show Steps p.tables e below (s₁.setTop (mkF m 24 #[.val (.int u0), .val (.int u1), .val (.int (1 : Int32)), .val (.int (1 : Int32)), .unset, .unset, .unset, .unset, .unset] [(.int (1 : Int32)), (.int u0)])) _
              refine st5 _ ?_
              show Steps p.tables e below (T5.setTop (mkF m 27 #[.val (.int u0), .val (.int u1), .val (.int (1 : Int32)), .val (.int (1 : Int32)), .unset, .unset, .unset, .unset, .unset] [(.int (absG u0 (1 : Int32)))])) _
              refine XS.istore X5.here hx rfl (hb hby at_27) rfl (l' := #[.val (.int u0), .val (.int u1), .val (.int (1 : Int32)), .val (.int (1 : Int32)), .val (.int (absG u0 (1 : Int32))), .unset, .unset, .unset, .unset]) rfl ?_
              show Steps p.tables e below (T5.setTop (mkF m 29 #[.val (.int u0), .val (.int u1), .val (.int (1 : Int32)), .val (.int (1 : Int32)), .val (.int (absG u0 (1 : Int32))), .unset, .unset, .unset, .unset] [])) _
              refine XS.iloadN X5.here hx rfl (hb hby at_29) rfl ?_
              show Steps p.tables e below (T5.setTop (mkF m 30 #[.val (.int u0), .val (.int u1), .val (.int (1 : Int32)), .val (.int (1 : Int32)), .val (.int (absG u0 (1 : Int32))), .unset, .unset, .unset, .unset] [(.int u0)])) _
              refine st6 _ ?_
              show Steps p.tables e below (T5.setTop (mkF m 32 #[.val (.int u0), .val (.int u1), .val (.int (1 : Int32)), .val (.int (1 : Int32)), .val (.int (absG u0 (1 : Int32))), .unset, .unset, .unset, .unset] [(.int (8388608 : Int32)), (.int u0)])) _
              refine XS.iand X5.here hx rfl (hb hby at_32) rfl ?_
              show Steps p.tables e below (T5.setTop (mkF m 33 #[.val (.int u0), .val (.int u1), .val (.int (1 : Int32)), .val (.int (1 : Int32)), .val (.int (absG u0 (1 : Int32))), .unset, .unset, .unset, .unset] [(.int (u0 &&& (8388608 : Int32)))])) _
              refine XS.ifNo X5.here hx rfl (hb hby at_33) rfl ((if0 _ _).trans (feq hc33).1) ?_
              show Steps p.tables e below (T5.setTop (mkF m 36 #[.val (.int u0), .val (.int u1), .val (.int (1 : Int32)), .val (.int (1 : Int32)), .val (.int (absG u0 (1 : Int32))), .unset, .unset, .unset, .unset] [])) _
              refine XS.iconst X5.here hx rfl (hb hby at_36) ?_
              show Steps p.tables e below (T5.setTop (mkF m 37 #[.val (.int u0), .val (.int u1), .val (.int (1 : Int32)), .val (.int (1 : Int32)), .val (.int (absG u0 (1 : Int32))), .unset, .unset, .unset, .unset] [(.int (1 : Int32))])) _
              refine XS.goto X5.here hx rfl (pc0 := 37) (pc' := 41) rfl (hb hby at_37) (by decide) (by decide) ?_
              show Steps p.tables e below (T5.setTop (mkF m 41 #[.val (.int u0), .val (.int u1), .val (.int (1 : Int32)), .val (.int (1 : Int32)), .val (.int (absG u0 (1 : Int32))), .unset, .unset, .unset, .unset] [(.int (1 : Int32))])) _
              refine XS.istore X5.here hx rfl (hb hby at_41) rfl (l' := #[.val (.int u0), .val (.int u1), .val (.int (1 : Int32)), .val (.int (1 : Int32)), .val (.int (absG u0 (1 : Int32))), .val (.int (1 : Int32)), .unset, .unset, .unset]) rfl ?_
              show Steps p.tables e below (T5.setTop (mkF m 43 #[.val (.int u0), .val (.int u1), .val (.int (1 : Int32)), .val (.int (1 : Int32)), .val (.int (absG u0 (1 : Int32))), .val (.int (1 : Int32)), .unset, .unset, .unset] [])) _
              refine XS.iloadN X5.here hx rfl (hb hby at_43) rfl ?_
              show Steps p.tables e below (T5.setTop (mkF m 44 #[.val (.int u0), .val (.int u1), .val (.int (1 : Int32)), .val (.int (1 : Int32)), .val (.int (absG u0 (1 : Int32))), .val (.int (1 : Int32)), .unset, .unset, .unset] [(.int u0)])) _
              refine XS.bipush X5.here hx rfl (hb hby at_44) ?_
              show Steps p.tables e below (T5.setTop (mkF m 46 #[.val (.int u0), .val (.int u1), .val (.int (1 : Int32)), .val (.int (1 : Int32)), .val (.int (absG u0 (1 : Int32))), .val (.int (1 : Int32)), .unset, .unset, .unset] [(.int (7 : Int32)), (.int u0)])) _
              refine XS.iand X5.here hx rfl (hb hby at_46) rfl ?_
              show Steps p.tables e below (T5.setTop (mkF m 47 #[.val (.int u0), .val (.int u1), .val (.int (1 : Int32)), .val (.int (1 : Int32)), .val (.int (absG u0 (1 : Int32))), .val (.int (1 : Int32)), .unset, .unset, .unset] [(.int (u0 &&& (7 : Int32)))])) _
              refine XS.istore X5.here hx rfl (hb hby at_47) rfl (l' := #[.val (.int u0), .val (.int u1), .val (.int (1 : Int32)), .val (.int (1 : Int32)), .val (.int (absG u0 (1 : Int32))), .val (.int (1 : Int32)), .val (.int (u0 &&& (7 : Int32))), .unset, .unset]) rfl ?_
              show Steps p.tables e below (T5.setTop (mkF m 49 #[.val (.int u0), .val (.int u1), .val (.int (1 : Int32)), .val (.int (1 : Int32)), .val (.int (absG u0 (1 : Int32))), .val (.int (1 : Int32)), .val (.int (u0 &&& (7 : Int32))), .unset, .unset] [])) _
              refine XS.iloadN X5.here hx rfl (hb hby at_49) rfl ?_
              show Steps p.tables e below (T5.setTop (mkF m 50 #[.val (.int u0), .val (.int u1), .val (.int (1 : Int32)), .val (.int (1 : Int32)), .val (.int (absG u0 (1 : Int32))), .val (.int (1 : Int32)), .val (.int (u0 &&& (7 : Int32))), .unset, .unset] [(.int u0)])) _
              refine st8 _ ?_
              show Steps p.tables e below (T5.setTop (mkF m 52 #[.val (.int u0), .val (.int u1), .val (.int (1 : Int32)), .val (.int (1 : Int32)), .val (.int (absG u0 (1 : Int32))), .val (.int (1 : Int32)), .val (.int (u0 &&& (7 : Int32))), .unset, .unset] [(.int (-8388616 : Int32)), (.int u0)])) _
              refine XS.iand X5.here hx rfl (hb hby at_52) rfl ?_
              show Steps p.tables e below (T5.setTop (mkF m 53 #[.val (.int u0), .val (.int u1), .val (.int (1 : Int32)), .val (.int (1 : Int32)), .val (.int (absG u0 (1 : Int32))), .val (.int (1 : Int32)), .val (.int (u0 &&& (7 : Int32))), .unset, .unset] [(.int (u0 &&& (-8388616 : Int32)))])) _
              refine XS.istore X5.here hx rfl (hb hby at_53) rfl (l' := #[.val (.int u0), .val (.int u1), .val (.int (1 : Int32)), .val (.int (1 : Int32)), .val (.int (absG u0 (1 : Int32))), .val (.int (1 : Int32)), .val (.int (u0 &&& (7 : Int32))), .val (.int (u0 &&& (-8388616 : Int32))), .unset]) rfl ?_
              show Steps p.tables e below (T5.setTop (mkF m 55 #[.val (.int u0), .val (.int u1), .val (.int (1 : Int32)), .val (.int (1 : Int32)), .val (.int (absG u0 (1 : Int32))), .val (.int (1 : Int32)), .val (.int (u0 &&& (7 : Int32))), .val (.int (u0 &&& (-8388616 : Int32))), .unset] [])) _
              refine XS.iload X5.here hx rfl (hb hby at_55) rfl ?_
              show Steps p.tables e below (T5.setTop (mkF m 57 #[.val (.int u0), .val (.int u1), .val (.int (1 : Int32)), .val (.int (1 : Int32)), .val (.int (absG u0 (1 : Int32))), .val (.int (1 : Int32)), .val (.int (u0 &&& (7 : Int32))), .val (.int (u0 &&& (-8388616 : Int32))), .unset] [(.int (u0 &&& (7 : Int32)))])) _
              refine XS.istore X5.here hx rfl (hb hby at_57) rfl (l' := #[.val (.int u0), .val (.int u1), .val (.int (1 : Int32)), .val (.int (1 : Int32)), .val (.int (absG u0 (1 : Int32))), .val (.int (1 : Int32)), .val (.int (u0 &&& (7 : Int32))), .val (.int (u0 &&& (-8388616 : Int32))), .val (.int (u0 &&& (7 : Int32)))]) rfl ?_
              show Steps p.tables e below (T5.setTop (mkF m 59 #[.val (.int u0), .val (.int u1), .val (.int (1 : Int32)), .val (.int (1 : Int32)), .val (.int (absG u0 (1 : Int32))), .val (.int (1 : Int32)), .val (.int (u0 &&& (7 : Int32))), .val (.int (u0 &&& (-8388616 : Int32))), .val (.int (u0 &&& (7 : Int32)))] [])) _
              refine XS.iload X5.here hx rfl (hb hby at_59) rfl ?_
              show Steps p.tables e below (T5.setTop (mkF m 61 #[.val (.int u0), .val (.int u1), .val (.int (1 : Int32)), .val (.int (1 : Int32)), .val (.int (absG u0 (1 : Int32))), .val (.int (1 : Int32)), .val (.int (u0 &&& (7 : Int32))), .val (.int (u0 &&& (-8388616 : Int32))), .val (.int (u0 &&& (7 : Int32)))] [(.int (1 : Int32))])) _
              refine XS.ifNo X5.here hx rfl (hb hby at_61) rfl ((if0 _ _).trans (feq (by decide)).1) ?_
              show Steps p.tables e below (T5.setTop (mkF m 64 #[.val (.int u0), .val (.int u1), .val (.int (1 : Int32)), .val (.int (1 : Int32)), .val (.int (absG u0 (1 : Int32))), .val (.int (1 : Int32)), .val (.int (u0 &&& (7 : Int32))), .val (.int (u0 &&& (-8388616 : Int32))), .val (.int (u0 &&& (7 : Int32)))] [])) _
              refine XS.iloadN X5.here hx rfl (hb hby at_64) rfl ?_
              show Steps p.tables e below (T5.setTop (mkF m 65 #[.val (.int u0), .val (.int u1), .val (.int (1 : Int32)), .val (.int (1 : Int32)), .val (.int (absG u0 (1 : Int32))), .val (.int (1 : Int32)), .val (.int (u0 &&& (7 : Int32))), .val (.int (u0 &&& (-8388616 : Int32))), .val (.int (u0 &&& (7 : Int32)))] [(.int (1 : Int32))])) _
              refine XS.ifNo X5.here hx rfl (hb hby at_65) rfl ((if0 _ _).trans (feq (by decide)).1) ?_
              show Steps p.tables e below (T5.setTop (mkF m 68 #[.val (.int u0), .val (.int u1), .val (.int (1 : Int32)), .val (.int (1 : Int32)), .val (.int (absG u0 (1 : Int32))), .val (.int (1 : Int32)), .val (.int (u0 &&& (7 : Int32))), .val (.int (u0 &&& (-8388616 : Int32))), .val (.int (u0 &&& (7 : Int32)))] [])) _
              refine XS.iload X5.here hx rfl (hb hby at_68) rfl ?_
              show Steps p.tables e below (T5.setTop (mkF m 70 #[.val (.int u0), .val (.int u1), .val (.int (1 : Int32)), .val (.int (1 : Int32)), .val (.int (absG u0 (1 : Int32))), .val (.int (1 : Int32)), .val (.int (u0 &&& (7 : Int32))), .val (.int (u0 &&& (-8388616 : Int32))), .val (.int (u0 &&& (7 : Int32)))] [(.int (u0 &&& (7 : Int32)))])) _
              refine XS.iconst X5.here hx rfl (hb hby at_70) ?_
              show Steps p.tables e below (T5.setTop (mkF m 71 #[.val (.int u0), .val (.int u1), .val (.int (1 : Int32)), .val (.int (1 : Int32)), .val (.int (absG u0 (1 : Int32))), .val (.int (1 : Int32)), .val (.int (u0 &&& (7 : Int32))), .val (.int (u0 &&& (-8388616 : Int32))), .val (.int (u0 &&& (7 : Int32)))] [(.int (3 : Int32)), (.int (u0 &&& (7 : Int32)))])) _
              refine XS.icmpYes X5.here hx rfl (pc0 := 71) (pc' := 80) rfl (hb hby at_71) rfl (feq hc71).2 (by decide) (by decide) ?_
              show Steps p.tables e below (T5.setTop (mkF m 80 #[.val (.int u0), .val (.int u1), .val (.int (1 : Int32)), .val (.int (1 : Int32)), .val (.int (absG u0 (1 : Int32))), .val (.int (1 : Int32)), .val (.int (u0 &&& (7 : Int32))), .val (.int (u0 &&& (-8388616 : Int32))), .val (.int (u0 &&& (7 : Int32)))] [])) _
              refine XS.iload X5.here hx rfl (hb hby at_80) rfl ?_
              show Steps p.tables e below (T5.setTop (mkF m 82 #[.val (.int u0), .val (.int u1), .val (.int (1 : Int32)), .val (.int (1 : Int32)), .val (.int (absG u0 (1 : Int32))), .val (.int (1 : Int32)), .val (.int (u0 &&& (7 : Int32))), .val (.int (u0 &&& (-8388616 : Int32))), .val (.int (u0 &&& (7 : Int32)))] [(.int (u0 &&& (7 : Int32)))])) _
              refine XS.iconst X5.here hx rfl (hb hby at_82) ?_
              show Steps p.tables e below (T5.setTop (mkF m 83 #[.val (.int u0), .val (.int u1), .val (.int (1 : Int32)), .val (.int (1 : Int32)), .val (.int (absG u0 (1 : Int32))), .val (.int (1 : Int32)), .val (.int (u0 &&& (7 : Int32))), .val (.int (u0 &&& (-8388616 : Int32))), .val (.int (u0 &&& (7 : Int32)))] [(.int (5 : Int32)), (.int (u0 &&& (7 : Int32)))])) _
              refine XS.icmpYes X5.here hx rfl (pc0 := 83) (pc' := 92) rfl (hb hby at_83) rfl (feq hc83).2 (by decide) (by decide) ?_
              show Steps p.tables e below (T5.setTop (mkF m 92 #[.val (.int u0), .val (.int u1), .val (.int (1 : Int32)), .val (.int (1 : Int32)), .val (.int (absG u0 (1 : Int32))), .val (.int (1 : Int32)), .val (.int (u0 &&& (7 : Int32))), .val (.int (u0 &&& (-8388616 : Int32))), .val (.int (u0 &&& (7 : Int32)))] [])) _
              refine XS.iload X5.here hx rfl (hb hby at_92) rfl ?_
              show Steps p.tables e below (T5.setTop (mkF m 94 #[.val (.int u0), .val (.int u1), .val (.int (1 : Int32)), .val (.int (1 : Int32)), .val (.int (absG u0 (1 : Int32))), .val (.int (1 : Int32)), .val (.int (u0 &&& (7 : Int32))), .val (.int (u0 &&& (-8388616 : Int32))), .val (.int (u0 &&& (7 : Int32)))] [(.int (u0 &&& (7 : Int32)))])) _
              refine XS.bipush X5.here hx rfl (hb hby at_94) ?_
              show Steps p.tables e below (T5.setTop (mkF m 96 #[.val (.int u0), .val (.int u1), .val (.int (1 : Int32)), .val (.int (1 : Int32)), .val (.int (absG u0 (1 : Int32))), .val (.int (1 : Int32)), .val (.int (u0 &&& (7 : Int32))), .val (.int (u0 &&& (-8388616 : Int32))), .val (.int (u0 &&& (7 : Int32)))] [(.int (7 : Int32)), (.int (u0 &&& (7 : Int32)))])) _
              refine XS.icmpYes X5.here hx rfl (pc0 := 96) (pc' := 102) rfl (hb hby at_96) rfl (feq hc96).2 (by decide) (by decide) ?_
              show Steps p.tables e below (T5.setTop (mkF m 102 #[.val (.int u0), .val (.int u1), .val (.int (1 : Int32)), .val (.int (1 : Int32)), .val (.int (absG u0 (1 : Int32))), .val (.int (1 : Int32)), .val (.int (u0 &&& (7 : Int32))), .val (.int (u0 &&& (-8388616 : Int32))), .val (.int (u0 &&& (7 : Int32)))] [])) _
              refine XS.iload X5.here hx rfl (hb hby at_102) rfl ?_
              show Steps p.tables e below (T5.setTop (mkF m 104 #[.val (.int u0), .val (.int u1), .val (.int (1 : Int32)), .val (.int (1 : Int32)), .val (.int (absG u0 (1 : Int32))), .val (.int (1 : Int32)), .val (.int (u0 &&& (7 : Int32))), .val (.int (u0 &&& (-8388616 : Int32))), .val (.int (u0 &&& (7 : Int32)))] [(.int (absG u0 (1 : Int32)))])) _
              refine XS.iload X5.here hx rfl (hb hby at_104) rfl ?_
              show Steps p.tables e below (T5.setTop (mkF m 106 #[.val (.int u0), .val (.int u1), .val (.int (1 : Int32)), .val (.int (1 : Int32)), .val (.int (absG u0 (1 : Int32))), .val (.int (1 : Int32)), .val (.int (u0 &&& (7 : Int32))), .val (.int (u0 &&& (-8388616 : Int32))), .val (.int (u0 &&& (7 : Int32)))] [(.int (u0 &&& (-8388616 : Int32))), (.int (absG u0 (1 : Int32)))])) _
              refine XS.iload X5.here hx rfl (hb hby at_106) rfl ?_
              show Steps p.tables e below (T5.setTop (mkF m 108 #[.val (.int u0), .val (.int u1), .val (.int (1 : Int32)), .val (.int (1 : Int32)), .val (.int (absG u0 (1 : Int32))), .val (.int (1 : Int32)), .val (.int (u0 &&& (7 : Int32))), .val (.int (u0 &&& (-8388616 : Int32))), .val (.int (u0 &&& (7 : Int32)))] [(.int (u0 &&& (7 : Int32))), (.int (u0 &&& (-8388616 : Int32))), (.int (absG u0 (1 : Int32)))])) _
              refine XS.ior X5.here hx rfl (hb hby at_108) rfl ?_
              show Steps p.tables e below (T5.setTop (mkF m 109 #[.val (.int u0), .val (.int u1), .val (.int (1 : Int32)), .val (.int (1 : Int32)), .val (.int (absG u0 (1 : Int32))), .val (.int (1 : Int32)), .val (.int (u0 &&& (7 : Int32))), .val (.int (u0 &&& (-8388616 : Int32))), .val (.int (u0 &&& (7 : Int32)))] [(.int ((u0 &&& (-8388616 : Int32)) ||| (u0 &&& (7 : Int32)))), (.int (absG u0 (1 : Int32)))])) _
              refine XS.icmpNo X5.here hx rfl (hb hby at_109) rfl (teq hb109).2 ?_
              show Steps p.tables e below (T5.setTop (mkF m 112 #[.val (.int u0), .val (.int u1), .val (.int (1 : Int32)), .val (.int (1 : Int32)), .val (.int (absG u0 (1 : Int32))), .val (.int (1 : Int32)), .val (.int (u0 &&& (7 : Int32))), .val (.int (u0 &&& (-8388616 : Int32))), .val (.int (u0 &&& (7 : Int32)))] [])) _
              refine XS.iconst X5.here hx rfl (hb hby at_112) ?_
              show Steps p.tables e below (T5.setTop (mkF m 113 #[.val (.int u0), .val (.int u1), .val (.int (1 : Int32)), .val (.int (1 : Int32)), .val (.int (absG u0 (1 : Int32))), .val (.int (1 : Int32)), .val (.int (u0 &&& (7 : Int32))), .val (.int (u0 &&& (-8388616 : Int32))), .val (.int (u0 &&& (7 : Int32)))] [(.int (1 : Int32))])) _
              refine XS.goto X5.here hx rfl (pc0 := 113) (pc' := 117) rfl (hb hby at_113) (by decide) (by decide) ?_
              show Steps p.tables e below (T5.setTop (mkF m 117 #[.val (.int u0), .val (.int u1), .val (.int (1 : Int32)), .val (.int (1 : Int32)), .val (.int (absG u0 (1 : Int32))), .val (.int (1 : Int32)), .val (.int (u0 &&& (7 : Int32))), .val (.int (u0 &&& (-8388616 : Int32))), .val (.int (u0 &&& (7 : Int32)))] [(.int (1 : Int32))])) _
              exact retN X5 hx (t := .boolean) Bd.returns (by simp) (hb hby at_117) hr
            · show Q0 Z u0 u1 h0 n0 _ T5.heap _
              rw [e5]
              exact ⟨rfl, N5⟩
set_option maxRecDepth 65536 in
set_option maxHeartbeats 40000000 in
theorem comes_1 {Post : Tables → Env → Array Value → State → Outcome → State → Prop} (hpost : ∀ tb e args s v u, (limb_1_1.after args s (.returned v) u = true ∧ limb_1_2.after args s (.returned v) u = true ∧ True) → FrameEnd s (.returned v) u (Jvm.fieldLocs frame_1_writes args s ++ Jvm.arrayLocs frame_1_arrays args s ++ Jvm.staticLocs frame_1_statics s) 0 0 → Post tb e args s (.returned v) u) :
    ArmFor flags0 classFile x code maxLocals ret World_1 tables_1 room_1 Calls_1 rest_1 Pre_1 Post := by
  intro l hfl _ _ p e ha hc hk s m args below hf hA hF happ hP
  obtain ⟨hcalls, hrest, hpre⟩ := hP
  obtain ⟨-, -, -, hnamed, -, -, -, hat⟩ := (Spec.applies_iff hf).mp happ
  obtain ⟨hg, hn⟩ := and_e (Cond.before_iff.mp (show (Jvm.Cond.and given_1 narrow_1).before args s = true from hpre))
  obtain ⟨g1, g2⟩ := and_e hg
  obtain ⟨g3, g4⟩ := and_e g2
  obtain ⟨w0, w1, rfl⟩ : ∃ w0 w1 : Value, args = #[w0, w1] := by
    have hs : args.size = 2 := by simpa [Cond.value, given_1] using g1
    obtain ⟨L⟩ := args
    match L, hs with
    | [w0, w1], _ => exact ⟨w0, w1, rfl⟩
  have hw := fun d (hd : d ∈ tables_1) => atoms_spec (ws := Jvm.Cond.code x code maxLocals ret :: tables_1) hat d (List.mem_cons_of_mem _ hd)
  have hfit : Fit s := fun {y c} hc i hi => by
    obtain ⟨ha, rfl⟩ := Array.getElem?_eq_some_iff.mp hc
    have q := List.all_eq_true.mp ((Array.all_eq_true_iff_forall_mem.mp hF) _ (Array.getElem_mem ha)) i (List.mem_range.mpr hi)
    simpa [Array.getElem?_eq_getElem hi] using q
  obtain ⟨i0, ei0⟩ := is_v g3
  obtain rfl : w0 = (.int i0) := Option.some.inj ei0
  obtain ⟨i1, ei1⟩ := is_v g4
  obtain rfl : w1 = (.int i1) := Option.some.inj ei1
  obtain ⟨n, o, h1, h2, h3, _, L, rfl, ⟨rfl, N⟩, hq⟩ := rm0 l s _ hw tables_1 i0 i1 s.heap s.heap.size (Nat.le_refl _)  p e ha hc hk s m _ below hf ((Spec.applies_iff_loose hf).mp happ).1 ⟨rfl, State.Warmed39.refl s, rfl⟩ trivial
  refine ⟨n, _, h1, h2, h3, hpost _ _ _ _ _ _ ⟨Cond.after_iff.mpr rfl, Cond.after_iff.mpr (eq_i res_at (Term.int_eval (1)) rfl), trivial⟩ ⟨hq.1, hq.2.1, (hq.2.2.sift fun y hy => Or.inr (N y hy)).mono (by decide) (by decide)⟩⟩
theorem main_1_1 : Claimed_1_1 := comes_1 fun _ _ _ _ _ _ h hF => ⟨h.1, hF⟩
theorem main_1_2 : Claimed_1_2 := comes_1 fun _ _ _ _ _ _ h hF => ⟨h.2.1, hF⟩
end Jvm.Pilot.@@N@@
namespace Jvm.Pilot.@@N@@
open Jvm Jvm.ClassFile Sem Op Lib Jvm.Free Jvm.Stand Jvm.Pilot.@@N@@.Jvm.D
/-! MADE BY PROGRAM (witnessworld.py) out of the Statement's table words and the real class files: 9 classes; the members and pool entries that the words name. The judged class is class 1, her method 1. -/
namespace start1
open Jvm.ClassFile
def u (s : String) : CpInfo := .utf8 (stringToUtf16 s)
/-- a pool by its gaps: so many unusable entries, then the entry; so many at the end -/
def gap : Nat → List CpInfo → List CpInfo
  | 0, r => r
  | n + 1, r => .unusable :: gap n r
def poolList (es : List (Nat × CpInfo)) (last : Nat) : List CpInfo := es.foldr (fun e r => gap e.1 (e.2 :: r)) (gap last [])
def pool (es : List (Nat × CpInfo)) (last : Nat) : Array CpInfo := ⟨poolList es last⟩
def fileOf (pool : Array CpInfo) (this : Nat) (attrs : Array Attribute := #[]) (ms : Array MethodInfo := #[]) (fl : Nat := 33) (sup : Nat := 0) (ifs : Array Nat := #[]) (fds : Array FieldInfo := #[]) : ClassFile where
  minorVersion := 0
  majorVersion := 65
  constantPool := pool
  accessFlags := fl
  thisClass := this
  superClass := sup
  interfaces := ifs
  fields := fds
  methods := ms
  attributes := attrs
def plain (name : String) (sup : Option ClassId) : Class where
  name := name
  kind := .ordinary
  loader := none
  accessFlags := 33
  super := sup
  interfaces := #[]
  cf := none
  fields := #[]
  methods := #[]
  instanceTypes := #[]
  staticTypes := #[]
  resolved := #[]
  callSites := []
  init := .initialized
  statics := none
  mirror := none

def pool0 : Array CpInfo := pool [(5, u "<init>"), (0, u "()V"), (1, .class_ 10), (1, u "java/lang/Object")] 113

def k0m0 : Method := { name := "<init>", desc := "()V", sig := { parameters := [], returnType := none }, accessFlags := 1, code := none }
/-- java/lang/Object -/
def k0 : Class := { plain "java/lang/Object" none with
  accessFlags := 33
  interfaces := #[]
  cf := some (fileOf pool0 8 #[] #[{ accessFlags := 1, nameIndex := 5, descriptorIndex := 6, attributes := #[] }] 33 0 #[] #[])
  fields := #[]
  methods := #[k0m0]
  instanceTypes := #[]
  staticTypes := #[]
  resolved := Array.replicate 124 none
  statics := none }

def pool1 : Array CpInfo := pool [(2, .class_ 4), (1, u "java/lang/Object"), (0, u "<init>"), (0, u "()V"), (2, .methodref 10 11), (0, .class_ 12), (0, .nameAndType 13 14), (0, u "com/example/decorum/decorum/Gravity"), (0, u "getAbsoluteGravity"), (0, u "(II)I"), (0, .integer 8388608), (0, .integer 4286578680), (0, .class_ 18), (0, u "com/example/decorum/decorum/GravityGetAbsoluteGravityPinLaw"), (2, u "law"), (0, u "(II)Z")] 3

def k1m0 : Method := { name := "<init>", desc := "()V", sig := { parameters := [], returnType := none }, accessFlags := 1, code := none }
def k1c1 : Code := { maxStack := 3, maxLocals := 9, code := code, exceptionTable := #[], attributes := #[] }
def k1m1 : Method := { name := "law", desc := "(II)Z", sig := { parameters := [.int, .int], returnType := some .boolean }, accessFlags := 9, code := some k1c1 }
/-- com/example/decorum/decorum/GravityGetAbsoluteGravityPinLaw -/
def k1 : Class := { plain "com/example/decorum/decorum/GravityGetAbsoluteGravityPinLaw" (some 0) with
  accessFlags := 49
  interfaces := #[]
  cf := some (fileOf pool1 17 #[] #[{ accessFlags := 1, nameIndex := 5, descriptorIndex := 6, attributes := #[] }, { accessFlags := 9, nameIndex := 21, descriptorIndex := 22, attributes := #[] }] 49 2 #[] #[])
  fields := #[]
  methods := #[k1m0, k1m1]
  instanceTypes := #[]
  staticTypes := #[]
  resolved := Array.replicate 26 none
  statics := none }

def pool2 : Array CpInfo := pool [(1, .class_ 2), (0, u "com/example/decorum/decorum/Gravity"), (1, .class_ 6), (1, u "java/lang/Object"), (0, u "<init>"), (0, u "()V"), (2, .integer 8388611), (0, .integer 4286578684), (0, .integer 8388613), (0, .integer 4286578682), (0, .integer 4286578687), (0, u "NO_GRAVITY"), (0, u "I"), (2, u "CENTER_HORIZONTAL"), (1, u "LEFT"), (1, u "RIGHT"), (1, u "FILL_HORIZONTAL"), (1, u "HORIZONTAL_GRAVITY_MASK"), (0, u "CLIP_HORIZONTAL"), (1, u "CENTER_VERTICAL"), (1, u "TOP"), (1, u "BOTTOM"), (1, u "FILL_VERTICAL"), (1, u "VERTICAL_GRAVITY_MASK"), (0, u "CLIP_VERTICAL"), (1, u "CENTER"), (1, u "FILL"), (1, u "RELATIVE_LAYOUT_DIRECTION"), (1, u "START"), (0, u "END"), (0, u "RELATIVE_HORIZONTAL_GRAVITY_MASK"), (3, u "getAbsoluteGravity"), (0, u "(II)I")] 3

def k2m0 : Method := { name := "<init>", desc := "()V", sig := { parameters := [], returnType := none }, accessFlags := 2, code := none }
def k2c1 : Code := { maxStack := 2, maxLocals := 4, code := prog_17_method_2_code, exceptionTable := #[], attributes := #[] }
def k2m1 : Method := { name := "getAbsoluteGravity", desc := "(II)I", sig := { parameters := [.int, .int], returnType := some .int }, accessFlags := 9, code := some k2c1 }
/-- com/example/decorum/decorum/Gravity -/
def k2 : Class := { plain "com/example/decorum/decorum/Gravity" (some 0) with
  accessFlags := 33
  interfaces := #[]
  cf := some (fileOf pool2 1 #[] #[{ accessFlags := 2, nameIndex := 7, descriptorIndex := 8, attributes := #[] }, { accessFlags := 9, nameIndex := 54, descriptorIndex := 55, attributes := #[] }] 33 4 #[] #[{ accessFlags := 25, nameIndex := 16, descriptorIndex := 17, attributes := #[] }, { accessFlags := 25, nameIndex := 20, descriptorIndex := 17, attributes := #[] }, { accessFlags := 25, nameIndex := 22, descriptorIndex := 17, attributes := #[] }, { accessFlags := 25, nameIndex := 24, descriptorIndex := 17, attributes := #[] }, { accessFlags := 25, nameIndex := 26, descriptorIndex := 17, attributes := #[] }, { accessFlags := 25, nameIndex := 28, descriptorIndex := 17, attributes := #[] }, { accessFlags := 25, nameIndex := 29, descriptorIndex := 17, attributes := #[] }, { accessFlags := 25, nameIndex := 31, descriptorIndex := 17, attributes := #[] }, { accessFlags := 25, nameIndex := 33, descriptorIndex := 17, attributes := #[] }, { accessFlags := 25, nameIndex := 35, descriptorIndex := 17, attributes := #[] }, { accessFlags := 25, nameIndex := 37, descriptorIndex := 17, attributes := #[] }, { accessFlags := 25, nameIndex := 39, descriptorIndex := 17, attributes := #[] }, { accessFlags := 25, nameIndex := 40, descriptorIndex := 17, attributes := #[] }, { accessFlags := 25, nameIndex := 42, descriptorIndex := 17, attributes := #[] }, { accessFlags := 25, nameIndex := 44, descriptorIndex := 17, attributes := #[] }, { accessFlags := 25, nameIndex := 46, descriptorIndex := 17, attributes := #[] }, { accessFlags := 25, nameIndex := 48, descriptorIndex := 17, attributes := #[] }, { accessFlags := 25, nameIndex := 49, descriptorIndex := 17, attributes := #[] }, { accessFlags := 25, nameIndex := 50, descriptorIndex := 17, attributes := #[] }])
  fields := #[{ name := "NO_GRAVITY", type := .int, accessFlags := 25, slot := 0, constantValue := 0 }, { name := "CENTER_HORIZONTAL", type := .int, accessFlags := 25, slot := 1, constantValue := 0 }, { name := "LEFT", type := .int, accessFlags := 25, slot := 2, constantValue := 0 }, { name := "RIGHT", type := .int, accessFlags := 25, slot := 3, constantValue := 0 }, { name := "FILL_HORIZONTAL", type := .int, accessFlags := 25, slot := 4, constantValue := 0 }, { name := "HORIZONTAL_GRAVITY_MASK", type := .int, accessFlags := 25, slot := 5, constantValue := 0 }, { name := "CLIP_HORIZONTAL", type := .int, accessFlags := 25, slot := 6, constantValue := 0 }, { name := "CENTER_VERTICAL", type := .int, accessFlags := 25, slot := 7, constantValue := 0 }, { name := "TOP", type := .int, accessFlags := 25, slot := 8, constantValue := 0 }, { name := "BOTTOM", type := .int, accessFlags := 25, slot := 9, constantValue := 0 }, { name := "FILL_VERTICAL", type := .int, accessFlags := 25, slot := 10, constantValue := 0 }, { name := "VERTICAL_GRAVITY_MASK", type := .int, accessFlags := 25, slot := 11, constantValue := 0 }, { name := "CLIP_VERTICAL", type := .int, accessFlags := 25, slot := 12, constantValue := 0 }, { name := "CENTER", type := .int, accessFlags := 25, slot := 13, constantValue := 0 }, { name := "FILL", type := .int, accessFlags := 25, slot := 14, constantValue := 0 }, { name := "RELATIVE_LAYOUT_DIRECTION", type := .int, accessFlags := 25, slot := 15, constantValue := 0 }, { name := "START", type := .int, accessFlags := 25, slot := 16, constantValue := 0 }, { name := "END", type := .int, accessFlags := 25, slot := 17, constantValue := 0 }, { name := "RELATIVE_HORIZONTAL_GRAVITY_MASK", type := .int, accessFlags := 25, slot := 18, constantValue := 0 }]
  methods := #[k2m0, k2m1]
  instanceTypes := #[]
  staticTypes := #[.int, .int, .int, .int, .int, .int, .int, .int, .int, .int, .int, .int, .int, .int, .int, .int, .int, .int, .int]
  resolved := Array.replicate 59 none
  statics := none }

def pool3 : Array CpInfo := pool [(1, u "java/lang/Cloneable"), (0, .class_ 1), (0, u "java/lang/Object"), (0, .class_ 3)] 3

/-- java/lang/Cloneable -/
def k3 : Class := { plain "java/lang/Cloneable" (some 0) with
  accessFlags := 1537
  interfaces := #[]
  cf := some (fileOf pool3 2 #[] #[] 1537 4 #[] #[])
  fields := #[]
  methods := #[]
  instanceTypes := #[]
  staticTypes := #[]
  resolved := Array.replicate 8 none
  statics := none }

def pool4 : Array CpInfo := pool [(1, u "java/io/Serializable"), (0, .class_ 1), (0, u "java/lang/Object"), (0, .class_ 3)] 3

/-- java/io/Serializable -/
def k4 : Class := { plain "java/io/Serializable" (some 0) with
  accessFlags := 1537
  interfaces := #[]
  cf := some (fileOf pool4 2 #[] #[] 1537 4 #[] #[])
  fields := #[]
  methods := #[]
  instanceTypes := #[]
  staticTypes := #[]
  resolved := Array.replicate 8 none
  statics := none }

/-- the primitive byte -/
def k5 : Class := { plain "byte" none with kind := .primitive 'B', accessFlags := 0x411 }
/-- [B -/
def k6 : Class := { plain "[B" (some 0) with kind := .array 5 .byte, interfaces := #[3, 4], accessFlags := 1041 }

/-- the primitive int -/
def k7 : Class := { plain "int" none with kind := .primitive 'I', accessFlags := 0x411 }
/-- [I -/
def k8 : Class := { plain "[I" (some 0) with kind := .array 7 .int, interfaces := #[3, 4], accessFlags := 1041 }

def heap : Heap := #[]
def classes : Array Class := #[k0, k1, k2, k3, k4, k5, k6, k7, k8]
def interned : List (Array UInt16 × Addr) := []
def slotsUsed : Nat := 0
def theMethod : MethodId := ⟨1, 1⟩
def args0 : Array Value := #[.int 5, .int 1]
def aboutOver (below : List Frame) : State where
  vm := { classes := classes, interned := interned.toArray }
  heap := heap
  slotsUsed := slotsUsed
  threads := #[{ frames := .invoking theMethod args0 :: below }]
def below0 : List Frame := [.native { method := ⟨0, 0⟩, args := #[] }]
def about1 : State := aboutOver below0
def p0 : Program := .bare "" "" ""
def e0 : Env := launch0.env 0 0 0
theorem w_frames : about1.frames = Frame.invoking theMethod args0 :: below0 := rfl
set_option maxRecDepth 65536 in
theorem w_args : argsFit about1.vm theMethod args0 = true := by decide +kernel
set_option maxRecDepth 65536 in
theorem w_heap : heapFits about1 = true := by decide +kernel
set_option maxRecDepth 65536 in
theorem w_runnable : about1.curStatus? = some .runnable := by decide +kernel
set_option maxRecDepth 65536 in
theorem w_alone : about1.alone = true := by decide +kernel
set_option maxRecDepth 65536 in
theorem w_named : about1.methodNamed? x = some theMethod := by decide +kernel
set_option maxRecDepth 65536 in
theorem w_hears : about1.hears theMethod below0 = true := by decide +kernel
set_option maxRecDepth 65536 in
theorem w_ripe : about1.ripe theMethod args0 below0 = true := by decide +kernel
theorem w_running : about1.status = .running := rfl
set_option maxRecDepth 65536 in
theorem w_room : about1.hasRoom e0.platform room_1 = true :=
  launch0.hasRoom_least _ room_1 (by decide +kernel) (by decide +kernel) (by decide +kernel) (by decide +kernel) (by decide +kernel) (by decide +kernel)
theorem allAtoms_all (ts : List Jvm.Cond) (a : Array Jvm.Value) (st : Jvm.State) : (allAtoms ts).before a st = ts.all (fun c => c.before a st) := by
  induction ts with
  | nil => rfl
  | cons c t ih =>
    show (Jvm.Cond.and c (allAtoms t)).before a st = _
    rw [Jvm.Cond.before_and, ih, List.all_cons]
def words1 : List Jvm.Cond := Jvm.Cond.code x code maxLocals ret :: tables_1
/-- a 'code' word, met by the world's own term for the bytes: nothing is compared byte by byte -/
theorem code_word {y : MethodName} {bytes : ByteArray} {mx : Nat} {rt : Option FieldType} {a : Array Value} {s : State} {m : MethodId} {meth : Method} {c : Code} (h1 : s.methodNamed? y = some m) (h2 : s.vm.method? m = some meth) (h3 : meth.code = some c) (h4 : c.code = bytes)
    (h5 : (c.maxLocals == mx && c.exceptionTable.isEmpty && decide (c.maxStack ≤ mostOperands) && decide (meth.sig.returnType = rt) && !meth.locks && decide (parseMethodDescriptor y.desc = some meth.sig)) = true) : (Jvm.Cond.code y bytes mx rt).before a s = true := by
  simp only [Bool.and_eq_true, beq_iff_eq, Bool.not_eq_true', decide_eq_true_eq] at h5
  obtain ⟨⟨⟨⟨⟨g1, g2⟩, g3⟩, g4⟩, g5⟩, g6⟩ := h5
  simp [Cond.before, Cond.holds, Cond.value, h1, h2, h3, h4, g1, g2, g3, g4, g5, g6]
def isCode : Jvm.Cond → Bool
  | .code _ _ _ _ => true
  | _ => false
theorem all_split {L : List Jvm.Cond} {P : Jvm.Cond → Bool} (h1 : L.all (fun c => isCode c || P c) = true) (h2 : ∀ c ∈ L.filter isCode, P c = true) : L.all P = true := by
  refine List.all_eq_true.mpr fun c hc => ?_
  have h := List.all_eq_true.mp h1 c hc
  rcases Bool.eq_false_or_eq_true (isCode c) with hi | hi
  · exact h2 c (List.mem_filter.mpr ⟨hc, hi⟩)
  · simpa [hi] using h
set_option maxRecDepth 65536 in
theorem w_c0 : (Jvm.Cond.code x code maxLocals ret).before args0 about1 = true := code_word (m := ⟨1, 1⟩) (meth := k1m1) (c := k1c1) (by decide +kernel) rfl rfl rfl (by decide +kernel)
set_option maxRecDepth 65536 in
theorem w_c1 : (Jvm.Cond.code ({ cls := "com/example/decorum/decorum/Gravity", name := "getAbsoluteGravity", desc := "(II)I" } : Jvm.MethodName) prog_17_method_2_code (4 : Nat) (Option.some Jvm.ClassFile.FieldType.int)).before args0 about1 = true := code_word (m := ⟨2, 1⟩) (meth := k2m1) (c := k2c1) (by decide +kernel) rfl rfl rfl (by decide +kernel)
def codes1 : List Jvm.Cond := [Jvm.Cond.code x code maxLocals ret, Jvm.Cond.code ({ cls := "com/example/decorum/decorum/Gravity", name := "getAbsoluteGravity", desc := "(II)I" } : Jvm.MethodName) prog_17_method_2_code (4 : Nat) (Option.some Jvm.ClassFile.FieldType.int)]
set_option maxRecDepth 65536 in
theorem codes_eq : words1.filter isCode = codes1 := rfl
theorem w_codes : ∀ c ∈ words1.filter isCode, c.before args0 about1 = true := by
  rw [codes_eq]
  intro c hc
  simp only [codes1, List.mem_cons, List.not_mem_nil, or_false] at hc
  rcases hc with rfl | rfl
  · exact w_c0
  · exact w_c1
set_option maxRecDepth 65536 in
theorem w_t1 : words1.all (fun c => isCode c || c.before args0 about1) = true := by decide +kernel
theorem w_tables : (allAtoms (Jvm.Cond.code x code maxLocals ret :: tables_1)).before args0 about1 = true := by
  rw [allAtoms_all]
  show words1.all (fun c => c.before args0 about1) = true
  refine all_split ?_ w_codes
  rw [w_t1]
set_option maxRecDepth 65536 in
theorem w_case : (Jvm.Cond.and given_1 narrow_1).before args0 about1 = true := by decide +kernel
theorem w_applies : (headSpec (Jvm.Cond.code x code maxLocals ret :: tables_1) room_1).applies x e0.platform about1 = true :=
  (Spec.applies_iff w_frames).mpr ⟨w_running, w_runnable, w_alone, w_named, w_hears, w_ripe, w_room, w_tables⟩
theorem atStart : AtStart classFile x code maxLocals ret World_1 tables_1 room_1 Calls_1 rest_1 Pre_1 launch0 p0 e0 about1 theMethod args0 below0 :=
  ⟨lists_1, trivial, launch0.admits_env _ _ _, launch0.least_env, fairChoices_fair.cas, fairChoices_fair.clock, w_frames, w_args, w_heap, w_applies, trivial, trivial, w_case⟩
end start1
theorem witness_1 : WitnessClaimed_1 := ⟨start1.p0, start1.e0, start1.about1, start1.theMethod, start1.args0, start1.below0, start1.atStart⟩
end Jvm.Pilot.@@N@@
