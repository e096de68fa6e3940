import JvmDerived
import JvmDerived.Pilot.@@N@@Statement
import JvmDerived.Pilot.@@N@@Code
set_option linter.unusedVariables false
set_option linter.unusedSimpArgs false
@@BLOCK:NumsL.lean.txt@@
namespace Jvm.RoadKit
open Sem ClassFile Op Lib Jvm.Stand Jvm.Free Jvm.LawKit
section New
variable {p : Program} {l : Launch} {e : Env} {R : Room} {s : State} {m : MethodId} {args : Array Value} {below : List Frame} {meth : Method} {c : Code} {T : State} {locs : List Loc} {cells slots : Nat}
theorem retI (X : Stand p l e R s m args below meth c T locs cells slots) (hx : p.tables.exec = Jvm.exec) {pc : Nat} {Ls : Array Slot} {z : Int32} {rest : List Value} (hret : meth.sig.returnType = some .int) (hd : decode c.code pc = .ok (.ireturn, 1)) {fs : List Frame}
    (hl : ∀ (f : JFrame) (acts : List Action), f.method = m → f.locked = none → f.entered = [] → (doReturn e (T.setTop f) acts (some (.int z))).1 = T.setFrames fs) : Steps p.tables e below (T.setTop (mkF m pc Ls (.int z :: rest))) (T.setFrames fs) := by
  have hm' : T.vm.method? m = some meth := X.method'
  have hn : narrow .int (.int z) = .int z := rfl
  show Steps p.tables e below (T.setTop { method := m, pc := pc, locals := Ls, stack := _ :: rest, locked := none }) _
  jvm_step X.here [X.here.top, hx, hd, hm', hret, hn]
  first | (intro acts; rw [hl _ acts rfl rfl rfl]) | rw [hl _ _ rfl rfl rfl]
  exact Steps.refl _
end New
end Jvm.RoadKit
namespace Jvm.Pilot.@@N@@
open Jvm Jvm.ClassFile Sem Op Lib Jvm.Free Jvm.Stand Jvm.LawKit Jvm.RoadKit Bundle Jvm.Pilot.@@N@@.Jvm.D
theorem own_lt {x y : Int32} {k : Int} (hy : y.toInt = k) : x < y ↔ x.toInt < k := by rw [Int32.lt_iff_toInt_lt, hy]
theorem own_gt {x y : Int32} {k : Int} (hy : y.toInt = k) : y < x ↔ k < x.toInt := by rw [Int32.lt_iff_toInt_lt, hy]
theorem own_ll {x : Int32} {K J : Int64} {k j : Int} (hK : K.toInt = k) (hJ : J.toInt = j) (h1 : 0 ≤ k) (h2 : k ≤ 1000) : lcmpW (x.toInt64 - K) J < 0 ↔ x.toInt - k < j := by
  have b1 := Int32.le_toInt x
  have b2 := Int32.toInt_lt x
  have e : (x.toInt64 - K).toInt = x.toInt - k := by
    rw [Jvm.Kit.i64_sub, Int32.toInt_toInt64, hK] <;> rw [Int32.toInt_toInt64, hK] <;> omega
  rw [lcW, lc_lt, Int64.lt_iff_toInt_lt, e, hJ]
def isHex (c : Int32) : Int32 := if (48 ≤ c.toInt ∧ c.toInt ≤ 57) ∨ (97 ≤ c.toInt ∧ c.toInt ≤ 102) ∨ (65 ≤ c.toInt ∧ c.toInt ≤ 70) then 1 else 0
def refHex (c : Int32) : Int32 := if (48 ≤ c.toInt ∧ c.toInt ≤ 57) ∨ (97 ≤ (c ||| (32 : Int32)).toInt ∧ (c ||| (32 : Int32)).toInt ≤ 102) then 1 else 0
theorem own_bit (c : BitVec 32) : c = (c ||| 32#32) ∨ c = (c ||| 32#32) ^^^ 32#32 := by
  have t : (32#32) = BitVec.twoPow 32 5 := by decide
  cases hb : c.getLsbD 5 with
  | true =>
    left
    apply BitVec.eq_of_getLsbD_eq
    intro i hi
    rw [t, BitVec.getLsbD_or, BitVec.getLsbD_twoPow]
    by_cases h5 : i = 5
    · subst h5; rw [hb]; decide
    · have : ¬ 5 = i := fun h => h5 h.symm
      simp [this]
  | false =>
    right
    apply BitVec.eq_of_getLsbD_eq
    intro i hi
    rw [t, BitVec.getLsbD_xor, BitVec.getLsbD_or, BitVec.getLsbD_twoPow]
    by_cases h5 : i = 5
    · subst h5; rw [hb]; decide
    · have : ¬ 5 = i := fun h => h5 h.symm
      simp [this]
theorem own_bit' (c : Int32) : c = (c ||| (32 : Int32)) ∨ c = (c ||| (32 : Int32)) ^^^ (32 : Int32) := by
  rcases own_bit c.toBitVec with h | h
  · left; exact Int32.toBitVec_inj.mp h
  · right; exact Int32.toBitVec_inj.mp h
theorem own_lit {c k : Int32} (h : c.toInt = k.toInt) : c = k := Int32.toInt_inj.mp h
theorem own_six {c : Int32} (h1 : 97 ≤ c.toInt) (h2 : c.toInt ≤ 102) : c = 97 ∨ c = 98 ∨ c = 99 ∨ c = 100 ∨ c = 101 ∨ c = 102 := by
  have h : c.toInt = 97 ∨ c.toInt = 98 ∨ c.toInt = 99 ∨ c.toInt = 100 ∨ c.toInt = 101 ∨ c.toInt = 102 := by omega
  rcases h with h | h | h | h | h | h
  · exact Or.inl (own_lit (k := 97) h)
  · exact Or.inr (Or.inl (own_lit (k := 98) h))
  · exact Or.inr (Or.inr (Or.inl (own_lit (k := 99) h)))
  · exact Or.inr (Or.inr (Or.inr (Or.inl (own_lit (k := 100) h))))
  · exact Or.inr (Or.inr (Or.inr (Or.inr (Or.inl (own_lit (k := 101) h)))))
  · exact Or.inr (Or.inr (Or.inr (Or.inr (Or.inr (own_lit (k := 102) h)))))
theorem own_six' {c : Int32} (h1 : 65 ≤ c.toInt) (h2 : c.toInt ≤ 70) : c = 65 ∨ c = 66 ∨ c = 67 ∨ c = 68 ∨ c = 69 ∨ c = 70 := by
  have h : c.toInt = 65 ∨ c.toInt = 66 ∨ c.toInt = 67 ∨ c.toInt = 68 ∨ c.toInt = 69 ∨ c.toInt = 70 := by omega
  rcases h with h | h | h | h | h | h
  · exact Or.inl (own_lit (k := 65) h)
  · exact Or.inr (Or.inl (own_lit (k := 66) h))
  · exact Or.inr (Or.inr (Or.inl (own_lit (k := 67) h)))
  · exact Or.inr (Or.inr (Or.inr (Or.inl (own_lit (k := 68) h))))
  · exact Or.inr (Or.inr (Or.inr (Or.inr (Or.inl (own_lit (k := 69) h)))))
  · exact Or.inr (Or.inr (Or.inr (Or.inr (Or.inr (own_lit (k := 70) h)))))
theorem own_or (c : Int32) : (97 ≤ (c ||| (32 : Int32)).toInt ∧ (c ||| (32 : Int32)).toInt ≤ 102) ↔ ((97 ≤ c.toInt ∧ c.toInt ≤ 102) ∨ (65 ≤ c.toInt ∧ c.toInt ≤ 70)) := by
  constructor
  · rintro ⟨h1, h2⟩
    have b := own_bit' c
    rcases own_six h1 h2 with h | h | h | h | h | h <;> rw [h] at b <;> rcases b with b | b <;> subst b <;> decide
  · rintro (⟨h1, h2⟩ | ⟨h1, h2⟩)
    · rcases own_six h1 h2 with h | h | h | h | h | h <;> subst h <;> decide
    · rcases own_six' h1 h2 with h | h | h | h | h | h <;> subst h <;> decide
theorem hex_eq (c : Int32) : isHex c = refHex c := by
  unfold isHex refHex
  simp only [own_or]
theorem d2_0 : decode prog_46_method_23_code 0 = .ok (.iload_n 0, 1) := by decide +kernel
theorem d2_1 : decode prog_46_method_23_code 1 = .ok (.bipush 48, 2) := by decide +kernel
theorem d2_3 : decode prog_46_method_23_code 3 = .ok (.if_icmp .lt 9, 3) := by decide +kernel
theorem d2_6 : decode prog_46_method_23_code 6 = .ok (.iload_n 0, 1) := by decide +kernel
theorem d2_7 : decode prog_46_method_23_code 7 = .ok (.bipush 57, 2) := by decide +kernel
theorem d2_9 : decode prog_46_method_23_code 9 = .ok (.if_icmp .le 27, 3) := by decide +kernel
theorem d2_12 : decode prog_46_method_23_code 12 = .ok (.iload_n 0, 1) := by decide +kernel
theorem d2_13 : decode prog_46_method_23_code 13 = .ok (.bipush 97, 2) := by decide +kernel
theorem d2_15 : decode prog_46_method_23_code 15 = .ok (.if_icmp .lt 9, 3) := by decide +kernel
theorem d2_18 : decode prog_46_method_23_code 18 = .ok (.iload_n 0, 1) := by decide +kernel
theorem d2_19 : decode prog_46_method_23_code 19 = .ok (.bipush 102, 2) := by decide +kernel
theorem d2_21 : decode prog_46_method_23_code 21 = .ok (.if_icmp .le 15, 3) := by decide +kernel
theorem d2_24 : decode prog_46_method_23_code 24 = .ok (.iload_n 0, 1) := by decide +kernel
theorem d2_25 : decode prog_46_method_23_code 25 = .ok (.bipush 65, 2) := by decide +kernel
theorem d2_27 : decode prog_46_method_23_code 27 = .ok (.if_icmp .lt 13, 3) := by decide +kernel
theorem d2_30 : decode prog_46_method_23_code 30 = .ok (.iload_n 0, 1) := by decide +kernel
theorem d2_31 : decode prog_46_method_23_code 31 = .ok (.bipush 70, 2) := by decide +kernel
theorem d2_33 : decode prog_46_method_23_code 33 = .ok (.if_icmp .gt 7, 3) := by decide +kernel
theorem d2_36 : decode prog_46_method_23_code 36 = .ok (.iconst 1, 1) := by decide +kernel
theorem d2_37 : decode prog_46_method_23_code 37 = .ok (.goto 4, 3) := by decide +kernel
theorem d2_40 : decode prog_46_method_23_code 40 = .ok (.iconst 0, 1) := by decide +kernel
theorem d2_41 : decode prog_46_method_23_code 41 = .ok (.ireturn, 1) := by decide +kernel
theorem pn_com_example_triplewright_triplewright_rdf_Iris : plainName "com/example/triplewright/triplewright/rdf/Iris" = true := by first | (simp [plainName, overriddenIn]; done) | decide +kernel
theorem ef_2 (m : MethodId) (u0 : Int32) : entryFrame m #[(.int u0)] 1 = mkF m 0 #[.val (.int u0)] [] := by first | (simp [entryFrame, mkF, argsToLocals, Value.category]; done) | rfl
def Q2 (Z : State) (u0 : Int32) (h0 : Heap) (n0 : Nat) (v : Option Value) (h : Heap) (L : List Loc) : Prop := v = some (.int (isHex u0)) ∧ Fr n0 L ∧ h = h0
set_option maxRecDepth 65536 in
set_option maxHeartbeats 40000000 in
theorem rm2 (l : Launch) (Z : State) (a0 : Array Value) (hw : ∀ d ∈ tables_1, d.before a0 Z = true) (ws : List Jvm.Cond) (u0 : Int32) (h0 : Heap) (n0 : Nat) (Z0 : n0 ≤ h0.size) :
    MetFree l (⟨"com/example/triplewright/triplewright/rdf/Iris", "isHexDigit", "(I)Z"⟩ : MethodName) (head1 (Jvm.Cond.code (⟨"com/example/triplewright/triplewright/rdf/Iris", "isHexDigit", "(I)Z"⟩ : MethodName) prog_46_method_23_code 1 (some .boolean) :: ws) ({ frames := 0, cells := 0, slots := 0, locals := 0 } : Room)) (fun a U => a = #[(.int u0)] ∧ Z.Warmed39 U.vm ∧ U.heap = h0) (fun _ _ _ _ _ => True) (fun _ U o U' => ∃ v L, o = .returned v ∧ Q2 Z u0 h0 n0 v U'.heap L ∧ FrameEnd U o U' L ({ frames := 0, cells := 0, slots := 0, locals := 0 } : Room).cells ({ frames := 0, cells := 0, slots := 0, locals := 0 } : Room).slots) := by
  refine MetFree.of_bodySF (plainFor_of_name pn_com_example_triplewright_triplewright_rdf_Iris) hisR ?_
  intro p e s m args below meth c s₁ Bd hml0 hP hK
  obtain ⟨rfl, hZ, hh⟩ := hP
  have hx := Bd.exec
  have hby := Bd.bytes
  have hml : c.maxLocals = 1 := hml0
  have hown : s.vm.findClass "com/example/triplewright/triplewright/rdf/Iris" = some m.cls := findClass_of_methodNamed Bd.named
  have hnm := (name_of_methodNamed Bd.named Bd.method).1
  have X0 : Stand p l e ({ frames := 0, cells := 0, slots := 0, locals := 0 } : Room) s m #[(.int u0)] below meth c s₁ [] 0 0 := Stand.of_body Bd
  have e0 : s₁.heap = h0 := by rw [← hh, Bd.state]; rfl
  have N0 := Fr.nil n0
  have pre0 : ∀ t, Steps p.tables e below (s₁.setTop (mkF m 0 #[.val (.int u0)] [])) t → Steps p.tables e below (s₁.setTop (entryFrame m #[(.int u0)] 1)) t := fun t k => castTop (ef_2 m u0) k
  by_cases hc3 : u0 < (48 : Int32)
  · by_cases hc15 : u0 < (97 : Int32)
    · by_cases hc27 : u0 < (65 : Int32)
      · have hv : isHex u0 = (0 : Int32) := by
          rw [own_lt (k := 48) (by decide)] at hc3
          rw [own_lt (k := 97) (by decide)] at hc15
          rw [own_lt (k := 65) (by decide)] at hc27
          unfold isHex
          exact if_neg (by omega)
        obtain ⟨fs, hr, hrun, hended, hW, hsame⟩ := X0.leave (v := some (.int (0 : Int32))) (fun h => by rw [Bd.returns] at h; cases h)
        refine ⟨_, _, pre0 _ ?_, hrun, hended, _, _, rfl, ?_, ⟨_, rfl⟩, hW, hsame.mono (by decide) (by decide)⟩
        · show Steps p.tables e below (s₁.setTop (mkF m 0 #[.val (.int u0)] [])) _
          refine XS.iloadN X0.here hx rfl (hb hby d2_0) rfl ?_
          show Steps p.tables e below (s₁.setTop (mkF m 1 #[.val (.int u0)] [(.int u0)])) _
          refine XS.bipush X0.here hx rfl (hb hby d2_1) ?_
          show Steps p.tables e below (s₁.setTop (mkF m 3 #[.val (.int u0)] [(.int (48 : Int32)), (.int u0)])) _
          refine XS.icmpYes X0.here hx rfl (pc0 := 3) (pc' := 12) rfl (hb hby d2_3) rfl (tlt hc3).1 (by decide) (by decide) ?_
          show Steps p.tables e below (s₁.setTop (mkF m 12 #[.val (.int u0)] [])) _
          refine XS.iloadN X0.here hx rfl (hb hby d2_12) rfl ?_
          show Steps p.tables e below (s₁.setTop (mkF m 13 #[.val (.int u0)] [(.int u0)])) _
          refine XS.bipush X0.here hx rfl (hb hby d2_13) ?_
          show Steps p.tables e below (s₁.setTop (mkF m 15 #[.val (.int u0)] [(.int (97 : Int32)), (.int u0)])) _
          refine XS.icmpYes X0.here hx rfl (pc0 := 15) (pc' := 24) rfl (hb hby d2_15) rfl (tlt hc15).1 (by decide) (by decide) ?_
          show Steps p.tables e below (s₁.setTop (mkF m 24 #[.val (.int u0)] [])) _
          refine XS.iloadN X0.here hx rfl (hb hby d2_24) rfl ?_
          show Steps p.tables e below (s₁.setTop (mkF m 25 #[.val (.int u0)] [(.int u0)])) _
          refine XS.bipush X0.here hx rfl (hb hby d2_25) ?_
          show Steps p.tables e below (s₁.setTop (mkF m 27 #[.val (.int u0)] [(.int (65 : Int32)), (.int u0)])) _
          refine XS.icmpYes X0.here hx rfl (pc0 := 27) (pc' := 40) rfl (hb hby d2_27) rfl (tlt hc27).1 (by decide) (by decide) ?_
          show Steps p.tables e below (s₁.setTop (mkF m 40 #[.val (.int u0)] [])) _
          refine XS.iconst X0.here hx rfl (hb hby d2_40) ?_
          show Steps p.tables e below (s₁.setTop (mkF m 41 #[.val (.int u0)] [(.int (0 : Int32))])) _
          exact retN X0 hx (t := .boolean) Bd.returns (by simp) (hb hby d2_41) hr
        · show Q2 Z u0 h0 n0 _ s₁.heap _
          rw [e0]
          exact ⟨(by rw [hv]), N0, rfl⟩
      · by_cases hc33 : (70 : Int32) < u0
        · have hv : isHex u0 = (0 : Int32) := by
            rw [own_lt (k := 48) (by decide)] at hc3
            rw [own_lt (k := 97) (by decide)] at hc15
            rw [own_lt (k := 65) (by decide)] at hc27
            rw [own_gt (k := 70) (by decide)] at hc33
            unfold isHex
            exact if_neg (by omega)
          obtain ⟨fs, hr, hrun, hended, hW, hsame⟩ := X0.leave (v := some (.int (0 : Int32))) (fun h => by rw [Bd.returns] at h; cases h)
          refine ⟨_, _, pre0 _ ?_, hrun, hended, _, _, rfl, ?_, ⟨_, rfl⟩, hW, hsame.mono (by decide) (by decide)⟩
          · show Steps p.tables e below (s₁.setTop (mkF m 0 #[.val (.int u0)] [])) _
            refine XS.iloadN X0.here hx rfl (hb hby d2_0) rfl ?_
            show Steps p.tables e below (s₁.setTop (mkF m 1 #[.val (.int u0)] [(.int u0)])) _
            refine XS.bipush X0.here hx rfl (hb hby d2_1) ?_
            show Steps p.tables e below (s₁.setTop (mkF m 3 #[.val (.int u0)] [(.int (48 : Int32)), (.int u0)])) _
            refine XS.icmpYes X0.here hx rfl (pc0 := 3) (pc' := 12) rfl (hb hby d2_3) rfl (tlt hc3).1 (by decide) (by decide) ?_
            show Steps p.tables e below (s₁.setTop (mkF m 12 #[.val (.int u0)] [])) _
            refine XS.iloadN X0.here hx rfl (hb hby d2_12) rfl ?_
            show Steps p.tables e below (s₁.setTop (mkF m 13 #[.val (.int u0)] [(.int u0)])) _
            refine XS.bipush X0.here hx rfl (hb hby d2_13) ?_
            show Steps p.tables e below (s₁.setTop (mkF m 15 #[.val (.int u0)] [(.int (97 : Int32)), (.int u0)])) _
            refine XS.icmpYes X0.here hx rfl (pc0 := 15) (pc' := 24) rfl (hb hby d2_15) rfl (tlt hc15).1 (by decide) (by decide) ?_
            show Steps p.tables e below (s₁.setTop (mkF m 24 #[.val (.int u0)] [])) _
            refine XS.iloadN X0.here hx rfl (hb hby d2_24) rfl ?_
            show Steps p.tables e below (s₁.setTop (mkF m 25 #[.val (.int u0)] [(.int u0)])) _
            refine XS.bipush X0.here hx rfl (hb hby d2_25) ?_
            show Steps p.tables e below (s₁.setTop (mkF m 27 #[.val (.int u0)] [(.int (65 : Int32)), (.int u0)])) _
            refine XS.icmpNo X0.here hx rfl (hb hby d2_27) rfl (flt hc27).1 ?_
            show Steps p.tables e below (s₁.setTop (mkF m 30 #[.val (.int u0)] [])) _
            refine XS.iloadN X0.here hx rfl (hb hby d2_30) rfl ?_
            show Steps p.tables e below (s₁.setTop (mkF m 31 #[.val (.int u0)] [(.int u0)])) _
            refine XS.bipush X0.here hx rfl (hb hby d2_31) ?_
            show Steps p.tables e below (s₁.setTop (mkF m 33 #[.val (.int u0)] [(.int (70 : Int32)), (.int u0)])) _
            refine XS.icmpYes X0.here hx rfl (pc0 := 33) (pc' := 40) rfl (hb hby d2_33) rfl (tlt hc33).2.2.1 (by decide) (by decide) ?_
            show Steps p.tables e below (s₁.setTop (mkF m 40 #[.val (.int u0)] [])) _
            refine XS.iconst X0.here hx rfl (hb hby d2_40) ?_
            show Steps p.tables e below (s₁.setTop (mkF m 41 #[.val (.int u0)] [(.int (0 : Int32))])) _
            exact retN X0 hx (t := .boolean) Bd.returns (by simp) (hb hby d2_41) hr
          · show Q2 Z u0 h0 n0 _ s₁.heap _
            rw [e0]
            exact ⟨(by rw [hv]), N0, rfl⟩
        · have hv : isHex u0 = (1 : Int32) := by
            rw [own_lt (k := 48) (by decide)] at hc3
            rw [own_lt (k := 97) (by decide)] at hc15
            rw [own_lt (k := 65) (by decide)] at hc27
            rw [own_gt (k := 70) (by decide)] at hc33
            unfold isHex
            exact if_pos (by omega)
          obtain ⟨fs, hr, hrun, hended, hW, hsame⟩ := X0.leave (v := some (.int (1 : Int32))) (fun h => by rw [Bd.returns] at h; cases h)
          refine ⟨_, _, pre0 _ ?_, hrun, hended, _, _, rfl, ?_, ⟨_, rfl⟩, hW, hsame.mono (by decide) (by decide)⟩
          · show Steps p.tables e below (s₁.setTop (mkF m 0 #[.val (.int u0)] [])) _
            refine XS.iloadN X0.here hx rfl (hb hby d2_0) rfl ?_
            show Steps p.tables e below (s₁.setTop (mkF m 1 #[.val (.int u0)] [(.int u0)])) _
            refine XS.bipush X0.here hx rfl (hb hby d2_1) ?_
            show Steps p.tables e below (s₁.setTop (mkF m 3 #[.val (.int u0)] [(.int (48 : Int32)), (.int u0)])) _
            refine XS.icmpYes X0.here hx rfl (pc0 := 3) (pc' := 12) rfl (hb hby d2_3) rfl (tlt hc3).1 (by decide) (by decide) ?_
            show Steps p.tables e below (s₁.setTop (mkF m 12 #[.val (.int u0)] [])) _
            refine XS.iloadN X0.here hx rfl (hb hby d2_12) rfl ?_
            show Steps p.tables e below (s₁.setTop (mkF m 13 #[.val (.int u0)] [(.int u0)])) _
            refine XS.bipush X0.here hx rfl (hb hby d2_13) ?_
            show Steps p.tables e below (s₁.setTop (mkF m 15 #[.val (.int u0)] [(.int (97 : Int32)), (.int u0)])) _
            refine XS.icmpYes X0.here hx rfl (pc0 := 15) (pc' := 24) rfl (hb hby d2_15) rfl (tlt hc15).1 (by decide) (by decide) ?_
            show Steps p.tables e below (s₁.setTop (mkF m 24 #[.val (.int u0)] [])) _
            refine XS.iloadN X0.here hx rfl (hb hby d2_24) rfl ?_
            show Steps p.tables e below (s₁.setTop (mkF m 25 #[.val (.int u0)] [(.int u0)])) _
            refine XS.bipush X0.here hx rfl (hb hby d2_25) ?_
            show Steps p.tables e below (s₁.setTop (mkF m 27 #[.val (.int u0)] [(.int (65 : Int32)), (.int u0)])) _
            refine XS.icmpNo X0.here hx rfl (hb hby d2_27) rfl (flt hc27).1 ?_
            show Steps p.tables e below (s₁.setTop (mkF m 30 #[.val (.int u0)] [])) _
            refine XS.iloadN X0.here hx rfl (hb hby d2_30) rfl ?_
            show Steps p.tables e below (s₁.setTop (mkF m 31 #[.val (.int u0)] [(.int u0)])) _
            refine XS.bipush X0.here hx rfl (hb hby d2_31) ?_
            show Steps p.tables e below (s₁.setTop (mkF m 33 #[.val (.int u0)] [(.int (70 : Int32)), (.int u0)])) _
            refine XS.icmpNo X0.here hx rfl (hb hby d2_33) rfl (flt hc33).2.2.1 ?_
            show Steps p.tables e below (s₁.setTop (mkF m 36 #[.val (.int u0)] [])) _
            refine XS.iconst X0.here hx rfl (hb hby d2_36) ?_
            show Steps p.tables e below (s₁.setTop (mkF m 37 #[.val (.int u0)] [(.int (1 : Int32))])) _
            refine XS.goto X0.here hx rfl (pc0 := 37) (pc' := 41) rfl (hb hby d2_37) (by decide) (by decide) ?_
            show Steps p.tables e below (s₁.setTop (mkF m 41 #[.val (.int u0)] [(.int (1 : Int32))])) _
            exact retN X0 hx (t := .boolean) Bd.returns (by simp) (hb hby d2_41) hr
          · show Q2 Z u0 h0 n0 _ s₁.heap _
            rw [e0]
            exact ⟨(by rw [hv]), N0, rfl⟩
    · by_cases hc21 : (102 : Int32) < u0
      · by_cases hc27 : u0 < (65 : Int32)
        · have hv : isHex u0 = (0 : Int32) := by
            rw [own_lt (k := 48) (by decide)] at hc3
            rw [own_lt (k := 97) (by decide)] at hc15
            rw [own_gt (k := 102) (by decide)] at hc21
            rw [own_lt (k := 65) (by decide)] at hc27
            unfold isHex
            exact if_neg (by omega)
          obtain ⟨fs, hr, hrun, hended, hW, hsame⟩ := X0.leave (v := some (.int (0 : Int32))) (fun h => by rw [Bd.returns] at h; cases h)
          refine ⟨_, _, pre0 _ ?_, hrun, hended, _, _, rfl, ?_, ⟨_, rfl⟩, hW, hsame.mono (by decide) (by decide)⟩
          · show Steps p.tables e below (s₁.setTop (mkF m 0 #[.val (.int u0)] [])) _
            refine XS.iloadN X0.here hx rfl (hb hby d2_0) rfl ?_
            show Steps p.tables e below (s₁.setTop (mkF m 1 #[.val (.int u0)] [(.int u0)])) _
            refine XS.bipush X0.here hx rfl (hb hby d2_1) ?_
            show Steps p.tables e below (s₁.setTop (mkF m 3 #[.val (.int u0)] [(.int (48 : Int32)), (.int u0)])) _
            refine XS.icmpYes X0.here hx rfl (pc0 := 3) (pc' := 12) rfl (hb hby d2_3) rfl (tlt hc3).1 (by decide) (by decide) ?_
            show Steps p.tables e below (s₁.setTop (mkF m 12 #[.val (.int u0)] [])) _
            refine XS.iloadN X0.here hx rfl (hb hby d2_12) rfl ?_
            show Steps p.tables e below (s₁.setTop (mkF m 13 #[.val (.int u0)] [(.int u0)])) _
            refine XS.bipush X0.here hx rfl (hb hby d2_13) ?_
            show Steps p.tables e below (s₁.setTop (mkF m 15 #[.val (.int u0)] [(.int (97 : Int32)), (.int u0)])) _
            refine XS.icmpNo X0.here hx rfl (hb hby d2_15) rfl (flt hc15).1 ?_
            show Steps p.tables e below (s₁.setTop (mkF m 18 #[.val (.int u0)] [])) _
            refine XS.iloadN X0.here hx rfl (hb hby d2_18) rfl ?_
            show Steps p.tables e below (s₁.setTop (mkF m 19 #[.val (.int u0)] [(.int u0)])) _
            refine XS.bipush X0.here hx rfl (hb hby d2_19) ?_
            show Steps p.tables e below (s₁.setTop (mkF m 21 #[.val (.int u0)] [(.int (102 : Int32)), (.int u0)])) _
            refine XS.icmpNo X0.here hx rfl (hb hby d2_21) rfl (tlt hc21).2.2.2 ?_
            show Steps p.tables e below (s₁.setTop (mkF m 24 #[.val (.int u0)] [])) _
            refine XS.iloadN X0.here hx rfl (hb hby d2_24) rfl ?_
            show Steps p.tables e below (s₁.setTop (mkF m 25 #[.val (.int u0)] [(.int u0)])) _
            refine XS.bipush X0.here hx rfl (hb hby d2_25) ?_
            show Steps p.tables e below (s₁.setTop (mkF m 27 #[.val (.int u0)] [(.int (65 : Int32)), (.int u0)])) _
            refine XS.icmpYes X0.here hx rfl (pc0 := 27) (pc' := 40) rfl (hb hby d2_27) rfl (tlt hc27).1 (by decide) (by decide) ?_
            show Steps p.tables e below (s₁.setTop (mkF m 40 #[.val (.int u0)] [])) _
            refine XS.iconst X0.here hx rfl (hb hby d2_40) ?_
            show Steps p.tables e below (s₁.setTop (mkF m 41 #[.val (.int u0)] [(.int (0 : Int32))])) _
            exact retN X0 hx (t := .boolean) Bd.returns (by simp) (hb hby d2_41) hr
          · show Q2 Z u0 h0 n0 _ s₁.heap _
            rw [e0]
            exact ⟨(by rw [hv]), N0, rfl⟩
        · by_cases hc33 : (70 : Int32) < u0
          · have hv : isHex u0 = (0 : Int32) := by
              rw [own_lt (k := 48) (by decide)] at hc3
              rw [own_lt (k := 97) (by decide)] at hc15
              rw [own_gt (k := 102) (by decide)] at hc21
              rw [own_lt (k := 65) (by decide)] at hc27
              rw [own_gt (k := 70) (by decide)] at hc33
              unfold isHex
              exact if_neg (by omega)
            obtain ⟨fs, hr, hrun, hended, hW, hsame⟩ := X0.leave (v := some (.int (0 : Int32))) (fun h => by rw [Bd.returns] at h; cases h)
            refine ⟨_, _, pre0 _ ?_, hrun, hended, _, _, rfl, ?_, ⟨_, rfl⟩, hW, hsame.mono (by decide) (by decide)⟩
            · show Steps p.tables e below (s₁.setTop (mkF m 0 #[.val (.int u0)] [])) _
              refine XS.iloadN X0.here hx rfl (hb hby d2_0) rfl ?_
              show Steps p.tables e below (s₁.setTop (mkF m 1 #[.val (.int u0)] [(.int u0)])) _
              refine XS.bipush X0.here hx rfl (hb hby d2_1) ?_
              show Steps p.tables e below (s₁.setTop (mkF m 3 #[.val (.int u0)] [(.int (48 : Int32)), (.int u0)])) _
              refine XS.icmpYes X0.here hx rfl (pc0 := 3) (pc' := 12) rfl (hb hby d2_3) rfl (tlt hc3).1 (by decide) (by decide) ?_
              show Steps p.tables e below (s₁.setTop (mkF m 12 #[.val (.int u0)] [])) _
              refine XS.iloadN X0.here hx rfl (hb hby d2_12) rfl ?_
              show Steps p.tables e below (s₁.setTop (mkF m 13 #[.val (.int u0)] [(.int u0)])) _
              refine XS.bipush X0.here hx rfl (hb hby d2_13) ?_
              show Steps p.tables e below (s₁.setTop (mkF m 15 #[.val (.int u0)] [(.int (97 : Int32)), (.int u0)])) _
              refine XS.icmpNo X0.here hx rfl (hb hby d2_15) rfl (flt hc15).1 ?_
              show Steps p.tables e below (s₁.setTop (mkF m 18 #[.val (.int u0)] [])) _
              refine XS.iloadN X0.here hx rfl (hb hby d2_18) rfl ?_
              show Steps p.tables e below (s₁.setTop (mkF m 19 #[.val (.int u0)] [(.int u0)])) _
              refine XS.bipush X0.here hx rfl (hb hby d2_19) ?_
              show Steps p.tables e below (s₁.setTop (mkF m 21 #[.val (.int u0)] [(.int (102 : Int32)), (.int u0)])) _
              refine XS.icmpNo X0.here hx rfl (hb hby d2_21) rfl (tlt hc21).2.2.2 ?_
              show Steps p.tables e below (s₁.setTop (mkF m 24 #[.val (.int u0)] [])) _
              refine XS.iloadN X0.here hx rfl (hb hby d2_24) rfl ?_
              show Steps p.tables e below (s₁.setTop (mkF m 25 #[.val (.int u0)] [(.int u0)])) _
              refine XS.bipush X0.here hx rfl (hb hby d2_25) ?_
              show Steps p.tables e below (s₁.setTop (mkF m 27 #[.val (.int u0)] [(.int (65 : Int32)), (.int u0)])) _
              refine XS.icmpNo X0.here hx rfl (hb hby d2_27) rfl (flt hc27).1 ?_
              show Steps p.tables e below (s₁.setTop (mkF m 30 #[.val (.int u0)] [])) _
              refine XS.iloadN X0.here hx rfl (hb hby d2_30) rfl ?_
              show Steps p.tables e below (s₁.setTop (mkF m 31 #[.val (.int u0)] [(.int u0)])) _
              refine XS.bipush X0.here hx rfl (hb hby d2_31) ?_
              show Steps p.tables e below (s₁.setTop (mkF m 33 #[.val (.int u0)] [(.int (70 : Int32)), (.int u0)])) _
              refine XS.icmpYes X0.here hx rfl (pc0 := 33) (pc' := 40) rfl (hb hby d2_33) rfl (tlt hc33).2.2.1 (by decide) (by decide) ?_
              show Steps p.tables e below (s₁.setTop (mkF m 40 #[.val (.int u0)] [])) _
              refine XS.iconst X0.here hx rfl (hb hby d2_40) ?_
              show Steps p.tables e below (s₁.setTop (mkF m 41 #[.val (.int u0)] [(.int (0 : Int32))])) _
              exact retN X0 hx (t := .boolean) Bd.returns (by simp) (hb hby d2_41) hr
            · show Q2 Z u0 h0 n0 _ s₁.heap _
              rw [e0]
              exact ⟨(by rw [hv]), N0, rfl⟩
          · have hv : isHex u0 = (1 : Int32) := by
              rw [own_lt (k := 48) (by decide)] at hc3
              rw [own_lt (k := 97) (by decide)] at hc15
              rw [own_gt (k := 102) (by decide)] at hc21
              rw [own_lt (k := 65) (by decide)] at hc27
              rw [own_gt (k := 70) (by decide)] at hc33
              unfold isHex
              exact if_pos (by omega)
            obtain ⟨fs, hr, hrun, hended, hW, hsame⟩ := X0.leave (v := some (.int (1 : Int32))) (fun h => by rw [Bd.returns] at h; cases h)
            refine ⟨_, _, pre0 _ ?_, hrun, hended, _, _, rfl, ?_, ⟨_, rfl⟩, hW, hsame.mono (by decide) (by decide)⟩
            · show Steps p.tables e below (s₁.setTop (mkF m 0 #[.val (.int u0)] [])) _
              refine XS.iloadN X0.here hx rfl (hb hby d2_0) rfl ?_
              show Steps p.tables e below (s₁.setTop (mkF m 1 #[.val (.int u0)] [(.int u0)])) _
              refine XS.bipush X0.here hx rfl (hb hby d2_1) ?_
              show Steps p.tables e below (s₁.setTop (mkF m 3 #[.val (.int u0)] [(.int (48 : Int32)), (.int u0)])) _
              refine XS.icmpYes X0.here hx rfl (pc0 := 3) (pc' := 12) rfl (hb hby d2_3) rfl (tlt hc3).1 (by decide) (by decide) ?_
              show Steps p.tables e below (s₁.setTop (mkF m 12 #[.val (.int u0)] [])) _
              refine XS.iloadN X0.here hx rfl (hb hby d2_12) rfl ?_
              show Steps p.tables e below (s₁.setTop (mkF m 13 #[.val (.int u0)] [(.int u0)])) _
              refine XS.bipush X0.here hx rfl (hb hby d2_13) ?_
              show Steps p.tables e below (s₁.setTop (mkF m 15 #[.val (.int u0)] [(.int (97 : Int32)), (.int u0)])) _
              refine XS.icmpNo X0.here hx rfl (hb hby d2_15) rfl (flt hc15).1 ?_
              show Steps p.tables e below (s₁.setTop (mkF m 18 #[.val (.int u0)] [])) _
              refine XS.iloadN X0.here hx rfl (hb hby d2_18) rfl ?_
              show Steps p.tables e below (s₁.setTop (mkF m 19 #[.val (.int u0)] [(.int u0)])) _
              refine XS.bipush X0.here hx rfl (hb hby d2_19) ?_
              show Steps p.tables e below (s₁.setTop (mkF m 21 #[.val (.int u0)] [(.int (102 : Int32)), (.int u0)])) _
              refine XS.icmpNo X0.here hx rfl (hb hby d2_21) rfl (tlt hc21).2.2.2 ?_
              show Steps p.tables e below (s₁.setTop (mkF m 24 #[.val (.int u0)] [])) _
              refine XS.iloadN X0.here hx rfl (hb hby d2_24) rfl ?_
              show Steps p.tables e below (s₁.setTop (mkF m 25 #[.val (.int u0)] [(.int u0)])) _
              refine XS.bipush X0.here hx rfl (hb hby d2_25) ?_
              show Steps p.tables e below (s₁.setTop (mkF m 27 #[.val (.int u0)] [(.int (65 : Int32)), (.int u0)])) _
              refine XS.icmpNo X0.here hx rfl (hb hby d2_27) rfl (flt hc27).1 ?_
              show Steps p.tables e below (s₁.setTop (mkF m 30 #[.val (.int u0)] [])) _
              refine XS.iloadN X0.here hx rfl (hb hby d2_30) rfl ?_
              show Steps p.tables e below (s₁.setTop (mkF m 31 #[.val (.int u0)] [(.int u0)])) _
              refine XS.bipush X0.here hx rfl (hb hby d2_31) ?_
              show Steps p.tables e below (s₁.setTop (mkF m 33 #[.val (.int u0)] [(.int (70 : Int32)), (.int u0)])) _
              refine XS.icmpNo X0.here hx rfl (hb hby d2_33) rfl (flt hc33).2.2.1 ?_
              show Steps p.tables e below (s₁.setTop (mkF m 36 #[.val (.int u0)] [])) _
              refine XS.iconst X0.here hx rfl (hb hby d2_36) ?_
              show Steps p.tables e below (s₁.setTop (mkF m 37 #[.val (.int u0)] [(.int (1 : Int32))])) _
              refine XS.goto X0.here hx rfl (pc0 := 37) (pc' := 41) rfl (hb hby d2_37) (by decide) (by decide) ?_
              show Steps p.tables e below (s₁.setTop (mkF m 41 #[.val (.int u0)] [(.int (1 : Int32))])) _
              exact retN X0 hx (t := .boolean) Bd.returns (by simp) (hb hby d2_41) hr
            · show Q2 Z u0 h0 n0 _ s₁.heap _
              rw [e0]
              exact ⟨(by rw [hv]), N0, rfl⟩
      · have hv : isHex u0 = (1 : Int32) := by
          rw [own_lt (k := 48) (by decide)] at hc3
          rw [own_lt (k := 97) (by decide)] at hc15
          rw [own_gt (k := 102) (by decide)] at hc21
          unfold isHex
          exact if_pos (by omega)
        obtain ⟨fs, hr, hrun, hended, hW, hsame⟩ := X0.leave (v := some (.int (1 : Int32))) (fun h => by rw [Bd.returns] at h; cases h)
        refine ⟨_, _, pre0 _ ?_, hrun, hended, _, _, rfl, ?_, ⟨_, rfl⟩, hW, hsame.mono (by decide) (by decide)⟩
        · show Steps p.tables e below (s₁.setTop (mkF m 0 #[.val (.int u0)] [])) _
          refine XS.iloadN X0.here hx rfl (hb hby d2_0) rfl ?_
          show Steps p.tables e below (s₁.setTop (mkF m 1 #[.val (.int u0)] [(.int u0)])) _
          refine XS.bipush X0.here hx rfl (hb hby d2_1) ?_
          show Steps p.tables e below (s₁.setTop (mkF m 3 #[.val (.int u0)] [(.int (48 : Int32)), (.int u0)])) _
          refine XS.icmpYes X0.here hx rfl (pc0 := 3) (pc' := 12) rfl (hb hby d2_3) rfl (tlt hc3).1 (by decide) (by decide) ?_
          show Steps p.tables e below (s₁.setTop (mkF m 12 #[.val (.int u0)] [])) _
          refine XS.iloadN X0.here hx rfl (hb hby d2_12) rfl ?_
          show Steps p.tables e below (s₁.setTop (mkF m 13 #[.val (.int u0)] [(.int u0)])) _
          refine XS.bipush X0.here hx rfl (hb hby d2_13) ?_
          show Steps p.tables e below (s₁.setTop (mkF m 15 #[.val (.int u0)] [(.int (97 : Int32)), (.int u0)])) _
          refine XS.icmpNo X0.here hx rfl (hb hby d2_15) rfl (flt hc15).1 ?_
          show Steps p.tables e below (s₁.setTop (mkF m 18 #[.val (.int u0)] [])) _
          refine XS.iloadN X0.here hx rfl (hb hby d2_18) rfl ?_
          show Steps p.tables e below (s₁.setTop (mkF m 19 #[.val (.int u0)] [(.int u0)])) _
          refine XS.bipush X0.here hx rfl (hb hby d2_19) ?_
          show Steps p.tables e below (s₁.setTop (mkF m 21 #[.val (.int u0)] [(.int (102 : Int32)), (.int u0)])) _
          refine XS.icmpYes X0.here hx rfl (pc0 := 21) (pc' := 36) rfl (hb hby d2_21) rfl (flt hc21).2.2.2 (by decide) (by decide) ?_
          show Steps p.tables e below (s₁.setTop (mkF m 36 #[.val (.int u0)] [])) _
          refine XS.iconst X0.here hx rfl (hb hby d2_36) ?_
          show Steps p.tables e below (s₁.setTop (mkF m 37 #[.val (.int u0)] [(.int (1 : Int32))])) _
          refine XS.goto X0.here hx rfl (pc0 := 37) (pc' := 41) rfl (hb hby d2_37) (by decide) (by decide) ?_
          show Steps p.tables e below (s₁.setTop (mkF m 41 #[.val (.int u0)] [(.int (1 : Int32))])) _
          exact retN X0 hx (t := .boolean) Bd.returns (by simp) (hb hby d2_41) hr
        · show Q2 Z u0 h0 n0 _ s₁.heap _
          rw [e0]
          exact ⟨(by rw [hv]), N0, rfl⟩
  · by_cases hc9 : (57 : Int32) < u0
    · by_cases hc15 : u0 < (97 : Int32)
      · by_cases hc27 : u0 < (65 : Int32)
        · have hv : isHex u0 = (0 : Int32) := by
            rw [own_lt (k := 48) (by decide)] at hc3
            rw [own_gt (k := 57) (by decide)] at hc9
            rw [own_lt (k := 97) (by decide)] at hc15
            rw [own_lt (k := 65) (by decide)] at hc27
            unfold isHex
            exact if_neg (by omega)
          obtain ⟨fs, hr, hrun, hended, hW, hsame⟩ := X0.leave (v := some (.int (0 : Int32))) (fun h => by rw [Bd.returns] at h; cases h)
          refine ⟨_, _, pre0 _ ?_, hrun, hended, _, _, rfl, ?_, ⟨_, rfl⟩, hW, hsame.mono (by decide) (by decide)⟩
          · show Steps p.tables e below (s₁.setTop (mkF m 0 #[.val (.int u0)] [])) _
            refine XS.iloadN X0.here hx rfl (hb hby d2_0) rfl ?_
            show Steps p.tables e below (s₁.setTop (mkF m 1 #[.val (.int u0)] [(.int u0)])) _
            refine XS.bipush X0.here hx rfl (hb hby d2_1) ?_
            show Steps p.tables e below (s₁.setTop (mkF m 3 #[.val (.int u0)] [(.int (48 : Int32)), (.int u0)])) _
            refine XS.icmpNo X0.here hx rfl (hb hby d2_3) rfl (flt hc3).1 ?_
            show Steps p.tables e below (s₁.setTop (mkF m 6 #[.val (.int u0)] [])) _
            refine XS.iloadN X0.here hx rfl (hb hby d2_6) rfl ?_
            show Steps p.tables e below (s₁.setTop (mkF m 7 #[.val (.int u0)] [(.int u0)])) _
            refine XS.bipush X0.here hx rfl (hb hby d2_7) ?_
            show Steps p.tables e below (s₁.setTop (mkF m 9 #[.val (.int u0)] [(.int (57 : Int32)), (.int u0)])) _
            refine XS.icmpNo X0.here hx rfl (hb hby d2_9) rfl (tlt hc9).2.2.2 ?_
            show Steps p.tables e below (s₁.setTop (mkF m 12 #[.val (.int u0)] [])) _
            refine XS.iloadN X0.here hx rfl (hb hby d2_12) rfl ?_
            show Steps p.tables e below (s₁.setTop (mkF m 13 #[.val (.int u0)] [(.int u0)])) _
            refine XS.bipush X0.here hx rfl (hb hby d2_13) ?_
            show Steps p.tables e below (s₁.setTop (mkF m 15 #[.val (.int u0)] [(.int (97 : Int32)), (.int u0)])) _
            refine XS.icmpYes X0.here hx rfl (pc0 := 15) (pc' := 24) rfl (hb hby d2_15) rfl (tlt hc15).1 (by decide) (by decide) ?_
            show Steps p.tables e below (s₁.setTop (mkF m 24 #[.val (.int u0)] [])) _
            refine XS.iloadN X0.here hx rfl (hb hby d2_24) rfl ?_
            show Steps p.tables e below (s₁.setTop (mkF m 25 #[.val (.int u0)] [(.int u0)])) _
            refine XS.bipush X0.here hx rfl (hb hby d2_25) ?_
            show Steps p.tables e below (s₁.setTop (mkF m 27 #[.val (.int u0)] [(.int (65 : Int32)), (.int u0)])) _
            refine XS.icmpYes X0.here hx rfl (pc0 := 27) (pc' := 40) rfl (hb hby d2_27) rfl (tlt hc27).1 (by decide) (by decide) ?_
            show Steps p.tables e below (s₁.setTop (mkF m 40 #[.val (.int u0)] [])) _
            refine XS.iconst X0.here hx rfl (hb hby d2_40) ?_
            show Steps p.tables e below (s₁.setTop (mkF m 41 #[.val (.int u0)] [(.int (0 : Int32))])) _
            exact retN X0 hx (t := .boolean) Bd.returns (by simp) (hb hby d2_41) hr
          · show Q2 Z u0 h0 n0 _ s₁.heap _
            rw [e0]
            exact ⟨(by rw [hv]), N0, rfl⟩
        · by_cases hc33 : (70 : Int32) < u0
          · have hv : isHex u0 = (0 : Int32) := by
              rw [own_lt (k := 48) (by decide)] at hc3
              rw [own_gt (k := 57) (by decide)] at hc9
              rw [own_lt (k := 97) (by decide)] at hc15
              rw [own_lt (k := 65) (by decide)] at hc27
              rw [own_gt (k := 70) (by decide)] at hc33
              unfold isHex
              exact if_neg (by omega)
            obtain ⟨fs, hr, hrun, hended, hW, hsame⟩ := X0.leave (v := some (.int (0 : Int32))) (fun h => by rw [Bd.returns] at h; cases h)
            refine ⟨_, _, pre0 _ ?_, hrun, hended, _, _, rfl, ?_, ⟨_, rfl⟩, hW, hsame.mono (by decide) (by decide)⟩
            · show Steps p.tables e below (s₁.setTop (mkF m 0 #[.val (.int u0)] [])) _
              refine XS.iloadN X0.here hx rfl (hb hby d2_0) rfl ?_
              show Steps p.tables e below (s₁.setTop (mkF m 1 #[.val (.int u0)] [(.int u0)])) _
              refine XS.bipush X0.here hx rfl (hb hby d2_1) ?_
              show Steps p.tables e below (s₁.setTop (mkF m 3 #[.val (.int u0)] [(.int (48 : Int32)), (.int u0)])) _
              refine XS.icmpNo X0.here hx rfl (hb hby d2_3) rfl (flt hc3).1 ?_
              show Steps p.tables e below (s₁.setTop (mkF m 6 #[.val (.int u0)] [])) _
              refine XS.iloadN X0.here hx rfl (hb hby d2_6) rfl ?_
              show Steps p.tables e below (s₁.setTop (mkF m 7 #[.val (.int u0)] [(.int u0)])) _
              refine XS.bipush X0.here hx rfl (hb hby d2_7) ?_
              show Steps p.tables e below (s₁.setTop (mkF m 9 #[.val (.int u0)] [(.int (57 : Int32)), (.int u0)])) _
              refine XS.icmpNo X0.here hx rfl (hb hby d2_9) rfl (tlt hc9).2.2.2 ?_
              show Steps p.tables e below (s₁.setTop (mkF m 12 #[.val (.int u0)] [])) _
              refine XS.iloadN X0.here hx rfl (hb hby d2_12) rfl ?_
              show Steps p.tables e below (s₁.setTop (mkF m 13 #[.val (.int u0)] [(.int u0)])) _
              refine XS.bipush X0.here hx rfl (hb hby d2_13) ?_
              show Steps p.tables e below (s₁.setTop (mkF m 15 #[.val (.int u0)] [(.int (97 : Int32)), (.int u0)])) _
              refine XS.icmpYes X0.here hx rfl (pc0 := 15) (pc' := 24) rfl (hb hby d2_15) rfl (tlt hc15).1 (by decide) (by decide) ?_
              show Steps p.tables e below (s₁.setTop (mkF m 24 #[.val (.int u0)] [])) _
              refine XS.iloadN X0.here hx rfl (hb hby d2_24) rfl ?_
              show Steps p.tables e below (s₁.setTop (mkF m 25 #[.val (.int u0)] [(.int u0)])) _
              refine XS.bipush X0.here hx rfl (hb hby d2_25) ?_
              show Steps p.tables e below (s₁.setTop (mkF m 27 #[.val (.int u0)] [(.int (65 : Int32)), (.int u0)])) _
              refine XS.icmpNo X0.here hx rfl (hb hby d2_27) rfl (flt hc27).1 ?_
              show Steps p.tables e below (s₁.setTop (mkF m 30 #[.val (.int u0)] [])) _
              refine XS.iloadN X0.here hx rfl (hb hby d2_30) rfl ?_
              show Steps p.tables e below (s₁.setTop (mkF m 31 #[.val (.int u0)] [(.int u0)])) _
              refine XS.bipush X0.here hx rfl (hb hby d2_31) ?_
              show Steps p.tables e below (s₁.setTop (mkF m 33 #[.val (.int u0)] [(.int (70 : Int32)), (.int u0)])) _
              refine XS.icmpYes X0.here hx rfl (pc0 := 33) (pc' := 40) rfl (hb hby d2_33) rfl (tlt hc33).2.2.1 (by decide) (by decide) ?_
              show Steps p.tables e below (s₁.setTop (mkF m 40 #[.val (.int u0)] [])) _
              refine XS.iconst X0.here hx rfl (hb hby d2_40) ?_
              show Steps p.tables e below (s₁.setTop (mkF m 41 #[.val (.int u0)] [(.int (0 : Int32))])) _
              exact retN X0 hx (t := .boolean) Bd.returns (by simp) (hb hby d2_41) hr
            · show Q2 Z u0 h0 n0 _ s₁.heap _
              rw [e0]
              exact ⟨(by rw [hv]), N0, rfl⟩
          · have hv : isHex u0 = (1 : Int32) := by
              rw [own_lt (k := 48) (by decide)] at hc3
              rw [own_gt (k := 57) (by decide)] at hc9
              rw [own_lt (k := 97) (by decide)] at hc15
              rw [own_lt (k := 65) (by decide)] at hc27
              rw [own_gt (k := 70) (by decide)] at hc33
              unfold isHex
              exact if_pos (by omega)
            obtain ⟨fs, hr, hrun, hended, hW, hsame⟩ := X0.leave (v := some (.int (1 : Int32))) (fun h => by rw [Bd.returns] at h; cases h)
            refine ⟨_, _, pre0 _ ?_, hrun, hended, _, _, rfl, ?_, ⟨_, rfl⟩, hW, hsame.mono (by decide) (by decide)⟩
            · show Steps p.tables e below (s₁.setTop (mkF m 0 #[.val (.int u0)] [])) _
              refine XS.iloadN X0.here hx rfl (hb hby d2_0) rfl ?_
              show Steps p.tables e below (s₁.setTop (mkF m 1 #[.val (.int u0)] [(.int u0)])) _
              refine XS.bipush X0.here hx rfl (hb hby d2_1) ?_
              show Steps p.tables e below (s₁.setTop (mkF m 3 #[.val (.int u0)] [(.int (48 : Int32)), (.int u0)])) _
              refine XS.icmpNo X0.here hx rfl (hb hby d2_3) rfl (flt hc3).1 ?_
              show Steps p.tables e below (s₁.setTop (mkF m 6 #[.val (.int u0)] [])) _
              refine XS.iloadN X0.here hx rfl (hb hby d2_6) rfl ?_
              show Steps p.tables e below (s₁.setTop (mkF m 7 #[.val (.int u0)] [(.int u0)])) _
              refine XS.bipush X0.here hx rfl (hb hby d2_7) ?_
              show Steps p.tables e below (s₁.setTop (mkF m 9 #[.val (.int u0)] [(.int (57 : Int32)), (.int u0)])) _
              refine XS.icmpNo X0.here hx rfl (hb hby d2_9) rfl (tlt hc9).2.2.2 ?_
              show Steps p.tables e below (s₁.setTop (mkF m 12 #[.val (.int u0)] [])) _
              refine XS.iloadN X0.here hx rfl (hb hby d2_12) rfl ?_
              show Steps p.tables e below (s₁.setTop (mkF m 13 #[.val (.int u0)] [(.int u0)])) _
              refine XS.bipush X0.here hx rfl (hb hby d2_13) ?_
              show Steps p.tables e below (s₁.setTop (mkF m 15 #[.val (.int u0)] [(.int (97 : Int32)), (.int u0)])) _
              refine XS.icmpYes X0.here hx rfl (pc0 := 15) (pc' := 24) rfl (hb hby d2_15) rfl (tlt hc15).1 (by decide) (by decide) ?_
              show Steps p.tables e below (s₁.setTop (mkF m 24 #[.val (.int u0)] [])) _
              refine XS.iloadN X0.here hx rfl (hb hby d2_24) rfl ?_
              show Steps p.tables e below (s₁.setTop (mkF m 25 #[.val (.int u0)] [(.int u0)])) _
              refine XS.bipush X0.here hx rfl (hb hby d2_25) ?_
              show Steps p.tables e below (s₁.setTop (mkF m 27 #[.val (.int u0)] [(.int (65 : Int32)), (.int u0)])) _
              refine XS.icmpNo X0.here hx rfl (hb hby d2_27) rfl (flt hc27).1 ?_
              show Steps p.tables e below (s₁.setTop (mkF m 30 #[.val (.int u0)] [])) _
              refine XS.iloadN X0.here hx rfl (hb hby d2_30) rfl ?_
              show Steps p.tables e below (s₁.setTop (mkF m 31 #[.val (.int u0)] [(.int u0)])) _
              refine XS.bipush X0.here hx rfl (hb hby d2_31) ?_
              show Steps p.tables e below (s₁.setTop (mkF m 33 #[.val (.int u0)] [(.int (70 : Int32)), (.int u0)])) _
              refine XS.icmpNo X0.here hx rfl (hb hby d2_33) rfl (flt hc33).2.2.1 ?_
              show Steps p.tables e below (s₁.setTop (mkF m 36 #[.val (.int u0)] [])) _
              refine XS.iconst X0.here hx rfl (hb hby d2_36) ?_
              show Steps p.tables e below (s₁.setTop (mkF m 37 #[.val (.int u0)] [(.int (1 : Int32))])) _
              refine XS.goto X0.here hx rfl (pc0 := 37) (pc' := 41) rfl (hb hby d2_37) (by decide) (by decide) ?_
              show Steps p.tables e below (s₁.setTop (mkF m 41 #[.val (.int u0)] [(.int (1 : Int32))])) _
              exact retN X0 hx (t := .boolean) Bd.returns (by simp) (hb hby d2_41) hr
            · show Q2 Z u0 h0 n0 _ s₁.heap _
              rw [e0]
              exact ⟨(by rw [hv]), N0, rfl⟩
      · by_cases hc21 : (102 : Int32) < u0
        · by_cases hc27 : u0 < (65 : Int32)
          · have hv : isHex u0 = (0 : Int32) := by
              rw [own_lt (k := 48) (by decide)] at hc3
              rw [own_gt (k := 57) (by decide)] at hc9
              rw [own_lt (k := 97) (by decide)] at hc15
              rw [own_gt (k := 102) (by decide)] at hc21
              rw [own_lt (k := 65) (by decide)] at hc27
              unfold isHex
              exact if_neg (by omega)
            obtain ⟨fs, hr, hrun, hended, hW, hsame⟩ := X0.leave (v := some (.int (0 : Int32))) (fun h => by rw [Bd.returns] at h; cases h)
            refine ⟨_, _, pre0 _ ?_, hrun, hended, _, _, rfl, ?_, ⟨_, rfl⟩, hW, hsame.mono (by decide) (by decide)⟩
            · show Steps p.tables e below (s₁.setTop (mkF m 0 #[.val (.int u0)] [])) _
              refine XS.iloadN X0.here hx rfl (hb hby d2_0) rfl ?_
              show Steps p.tables e below (s₁.setTop (mkF m 1 #[.val (.int u0)] [(.int u0)])) _
              refine XS.bipush X0.here hx rfl (hb hby d2_1) ?_
              show Steps p.tables e below (s₁.setTop (mkF m 3 #[.val (.int u0)] [(.int (48 : Int32)), (.int u0)])) _
              refine XS.icmpNo X0.here hx rfl (hb hby d2_3) rfl (flt hc3).1 ?_
              show Steps p.tables e below (s₁.setTop (mkF m 6 #[.val (.int u0)] [])) _
              refine XS.iloadN X0.here hx rfl (hb hby d2_6) rfl ?_
              show Steps p.tables e below (s₁.setTop (mkF m 7 #[.val (.int u0)] [(.int u0)])) _
              refine XS.bipush X0.here hx rfl (hb hby d2_7) ?_
              show Steps p.tables e below (s₁.setTop (mkF m 9 #[.val (.int u0)] [(.int (57 : Int32)), (.int u0)])) _
              refine XS.icmpNo X0.here hx rfl (hb hby d2_9) rfl (tlt hc9).2.2.2 ?_
              show Steps p.tables e below (s₁.setTop (mkF m 12 #[.val (.int u0)] [])) _
              refine XS.iloadN X0.here hx rfl (hb hby d2_12) rfl ?_
              show Steps p.tables e below (s₁.setTop (mkF m 13 #[.val (.int u0)] [(.int u0)])) _
              refine XS.bipush X0.here hx rfl (hb hby d2_13) ?_
              show Steps p.tables e below (s₁.setTop (mkF m 15 #[.val (.int u0)] [(.int (97 : Int32)), (.int u0)])) _
              refine XS.icmpNo X0.here hx rfl (hb hby d2_15) rfl (flt hc15).1 ?_
              show Steps p.tables e below (s₁.setTop (mkF m 18 #[.val (.int u0)] [])) _
              refine XS.iloadN X0.here hx rfl (hb hby d2_18) rfl ?_
              show Steps p.tables e below (s₁.setTop (mkF m 19 #[.val (.int u0)] [(.int u0)])) _
              refine XS.bipush X0.here hx rfl (hb hby d2_19) ?_
              show Steps p.tables e below (s₁.setTop (mkF m 21 #[.val (.int u0)] [(.int (102 : Int32)), (.int u0)])) _
              refine XS.icmpNo X0.here hx rfl (hb hby d2_21) rfl (tlt hc21).2.2.2 ?_
              show Steps p.tables e below (s₁.setTop (mkF m 24 #[.val (.int u0)] [])) _
              refine XS.iloadN X0.here hx rfl (hb hby d2_24) rfl ?_
              show Steps p.tables e below (s₁.setTop (mkF m 25 #[.val (.int u0)] [(.int u0)])) _
              refine XS.bipush X0.here hx rfl (hb hby d2_25) ?_
              show Steps p.tables e below (s₁.setTop (mkF m 27 #[.val (.int u0)] [(.int (65 : Int32)), (.int u0)])) _
              refine XS.icmpYes X0.here hx rfl (pc0 := 27) (pc' := 40) rfl (hb hby d2_27) rfl (tlt hc27).1 (by decide) (by decide) ?_
              show Steps p.tables e below (s₁.setTop (mkF m 40 #[.val (.int u0)] [])) _
              refine XS.iconst X0.here hx rfl (hb hby d2_40) ?_
              show Steps p.tables e below (s₁.setTop (mkF m 41 #[.val (.int u0)] [(.int (0 : Int32))])) _
              exact retN X0 hx (t := .boolean) Bd.returns (by simp) (hb hby d2_41) hr
            · show Q2 Z u0 h0 n0 _ s₁.heap _
              rw [e0]
              exact ⟨(by rw [hv]), N0, rfl⟩
          · by_cases hc33 : (70 : Int32) < u0
            · have hv : isHex u0 = (0 : Int32) := by
                rw [own_lt (k := 48) (by decide)] at hc3
                rw [own_gt (k := 57) (by decide)] at hc9
                rw [own_lt (k := 97) (by decide)] at hc15
                rw [own_gt (k := 102) (by decide)] at hc21
                rw [own_lt (k := 65) (by decide)] at hc27
                rw [own_gt (k := 70) (by decide)] at hc33
                unfold isHex
                exact if_neg (by omega)
              obtain ⟨fs, hr, hrun, hended, hW, hsame⟩ := X0.leave (v := some (.int (0 : Int32))) (fun h => by rw [Bd.returns] at h; cases h)
              refine ⟨_, _, pre0 _ ?_, hrun, hended, _, _, rfl, ?_, ⟨_, rfl⟩, hW, hsame.mono (by decide) (by decide)⟩
              · show Steps p.tables e below (s₁.setTop (mkF m 0 #[.val (.int u0)] [])) _
                refine XS.iloadN X0.here hx rfl (hb hby d2_0) rfl ?_
                show Steps p.tables e below (s₁.setTop (mkF m 1 #[.val (.int u0)] [(.int u0)])) _
                refine XS.bipush X0.here hx rfl (hb hby d2_1) ?_
                show Steps p.tables e below (s₁.setTop (mkF m 3 #[.val (.int u0)] [(.int (48 : Int32)), (.int u0)])) _
                refine XS.icmpNo X0.here hx rfl (hb hby d2_3) rfl (flt hc3).1 ?_
                show Steps p.tables e below (s₁.setTop (mkF m 6 #[.val (.int u0)] [])) _
                refine XS.iloadN X0.here hx rfl (hb hby d2_6) rfl ?_
                show Steps p.tables e below (s₁.setTop (mkF m 7 #[.val (.int u0)] [(.int u0)])) _
                refine XS.bipush X0.here hx rfl (hb hby d2_7) ?_
                show Steps p.tables e below (s₁.setTop (mkF m 9 #[.val (.int u0)] [(.int (57 : Int32)), (.int u0)])) _
                refine XS.icmpNo X0.here hx rfl (hb hby d2_9) rfl (tlt hc9).2.2.2 ?_
                show Steps p.tables e below (s₁.setTop (mkF m 12 #[.val (.int u0)] [])) _
                refine XS.iloadN X0.here hx rfl (hb hby d2_12) rfl ?_
                show Steps p.tables e below (s₁.setTop (mkF m 13 #[.val (.int u0)] [(.int u0)])) _
                refine XS.bipush X0.here hx rfl (hb hby d2_13) ?_
                show Steps p.tables e below (s₁.setTop (mkF m 15 #[.val (.int u0)] [(.int (97 : Int32)), (.int u0)])) _
                refine XS.icmpNo X0.here hx rfl (hb hby d2_15) rfl (flt hc15).1 ?_
                show Steps p.tables e below (s₁.setTop (mkF m 18 #[.val (.int u0)] [])) _
                refine XS.iloadN X0.here hx rfl (hb hby d2_18) rfl ?_
                show Steps p.tables e below (s₁.setTop (mkF m 19 #[.val (.int u0)] [(.int u0)])) _
                refine XS.bipush X0.here hx rfl (hb hby d2_19) ?_
                show Steps p.tables e below (s₁.setTop (mkF m 21 #[.val (.int u0)] [(.int (102 : Int32)), (.int u0)])) _
                refine XS.icmpNo X0.here hx rfl (hb hby d2_21) rfl (tlt hc21).2.2.2 ?_
                show Steps p.tables e below (s₁.setTop (mkF m 24 #[.val (.int u0)] [])) _
                refine XS.iloadN X0.here hx rfl (hb hby d2_24) rfl ?_
                show Steps p.tables e below (s₁.setTop (mkF m 25 #[.val (.int u0)] [(.int u0)])) _
                refine XS.bipush X0.here hx rfl (hb hby d2_25) ?_
                show Steps p.tables e below (s₁.setTop (mkF m 27 #[.val (.int u0)] [(.int (65 : Int32)), (.int u0)])) _
                refine XS.icmpNo X0.here hx rfl (hb hby d2_27) rfl (flt hc27).1 ?_
                show Steps p.tables e below (s₁.setTop (mkF m 30 #[.val (.int u0)] [])) _
                refine XS.iloadN X0.here hx rfl (hb hby d2_30) rfl ?_
                show Steps p.tables e below (s₁.setTop (mkF m 31 #[.val (.int u0)] [(.int u0)])) _
                refine XS.bipush X0.here hx rfl (hb hby d2_31) ?_
                show Steps p.tables e below (s₁.setTop (mkF m 33 #[.val (.int u0)] [(.int (70 : Int32)), (.int u0)])) _
                refine XS.icmpYes X0.here hx rfl (pc0 := 33) (pc' := 40) rfl (hb hby d2_33) rfl (tlt hc33).2.2.1 (by decide) (by decide) ?_
                show Steps p.tables e below (s₁.setTop (mkF m 40 #[.val (.int u0)] [])) _
                refine XS.iconst X0.here hx rfl (hb hby d2_40) ?_
                show Steps p.tables e below (s₁.setTop (mkF m 41 #[.val (.int u0)] [(.int (0 : Int32))])) _
                exact retN X0 hx (t := .boolean) Bd.returns (by simp) (hb hby d2_41) hr
              · show Q2 Z u0 h0 n0 _ s₁.heap _
                rw [e0]
                exact ⟨(by rw [hv]), N0, rfl⟩
            · have hv : isHex u0 = (1 : Int32) := by
                rw [own_lt (k := 48) (by decide)] at hc3
                rw [own_gt (k := 57) (by decide)] at hc9
                rw [own_lt (k := 97) (by decide)] at hc15
                rw [own_gt (k := 102) (by decide)] at hc21
                rw [own_lt (k := 65) (by decide)] at hc27
                rw [own_gt (k := 70) (by decide)] at hc33
                unfold isHex
                exact if_pos (by omega)
              obtain ⟨fs, hr, hrun, hended, hW, hsame⟩ := X0.leave (v := some (.int (1 : Int32))) (fun h => by rw [Bd.returns] at h; cases h)
              refine ⟨_, _, pre0 _ ?_, hrun, hended, _, _, rfl, ?_, ⟨_, rfl⟩, hW, hsame.mono (by decide) (by decide)⟩
              · show Steps p.tables e below (s₁.setTop (mkF m 0 #[.val (.int u0)] [])) _
                refine XS.iloadN X0.here hx rfl (hb hby d2_0) rfl ?_
                show Steps p.tables e below (s₁.setTop (mkF m 1 #[.val (.int u0)] [(.int u0)])) _
                refine XS.bipush X0.here hx rfl (hb hby d2_1) ?_
                show Steps p.tables e below (s₁.setTop (mkF m 3 #[.val (.int u0)] [(.int (48 : Int32)), (.int u0)])) _
                refine XS.icmpNo X0.here hx rfl (hb hby d2_3) rfl (flt hc3).1 ?_
                show Steps p.tables e below (s₁.setTop (mkF m 6 #[.val (.int u0)] [])) _
                refine XS.iloadN X0.here hx rfl (hb hby d2_6) rfl ?_
                show Steps p.tables e below (s₁.setTop (mkF m 7 #[.val (.int u0)] [(.int u0)])) _
                refine XS.bipush X0.here hx rfl (hb hby d2_7) ?_
                show Steps p.tables e below (s₁.setTop (mkF m 9 #[.val (.int u0)] [(.int (57 : Int32)), (.int u0)])) _
                refine XS.icmpNo X0.here hx rfl (hb hby d2_9) rfl (tlt hc9).2.2.2 ?_
                show Steps p.tables e below (s₁.setTop (mkF m 12 #[.val (.int u0)] [])) _
                refine XS.iloadN X0.here hx rfl (hb hby d2_12) rfl ?_
                show Steps p.tables e below (s₁.setTop (mkF m 13 #[.val (.int u0)] [(.int u0)])) _
                refine XS.bipush X0.here hx rfl (hb hby d2_13) ?_
                show Steps p.tables e below (s₁.setTop (mkF m 15 #[.val (.int u0)] [(.int (97 : Int32)), (.int u0)])) _
                refine XS.icmpNo X0.here hx rfl (hb hby d2_15) rfl (flt hc15).1 ?_
                show Steps p.tables e below (s₁.setTop (mkF m 18 #[.val (.int u0)] [])) _
                refine XS.iloadN X0.here hx rfl (hb hby d2_18) rfl ?_
                show Steps p.tables e below (s₁.setTop (mkF m 19 #[.val (.int u0)] [(.int u0)])) _
                refine XS.bipush X0.here hx rfl (hb hby d2_19) ?_
                show Steps p.tables e below (s₁.setTop (mkF m 21 #[.val (.int u0)] [(.int (102 : Int32)), (.int u0)])) _
                refine XS.icmpNo X0.here hx rfl (hb hby d2_21) rfl (tlt hc21).2.2.2 ?_
                show Steps p.tables e below (s₁.setTop (mkF m 24 #[.val (.int u0)] [])) _
                refine XS.iloadN X0.here hx rfl (hb hby d2_24) rfl ?_
                show Steps p.tables e below (s₁.setTop (mkF m 25 #[.val (.int u0)] [(.int u0)])) _
                refine XS.bipush X0.here hx rfl (hb hby d2_25) ?_
                show Steps p.tables e below (s₁.setTop (mkF m 27 #[.val (.int u0)] [(.int (65 : Int32)), (.int u0)])) _
                refine XS.icmpNo X0.here hx rfl (hb hby d2_27) rfl (flt hc27).1 ?_
                show Steps p.tables e below (s₁.setTop (mkF m 30 #[.val (.int u0)] [])) _
                refine XS.iloadN X0.here hx rfl (hb hby d2_30) rfl ?_
                show Steps p.tables e below (s₁.setTop (mkF m 31 #[.val (.int u0)] [(.int u0)])) _
                refine XS.bipush X0.here hx rfl (hb hby d2_31) ?_
                show Steps p.tables e below (s₁.setTop (mkF m 33 #[.val (.int u0)] [(.int (70 : Int32)), (.int u0)])) _
                refine XS.icmpNo X0.here hx rfl (hb hby d2_33) rfl (flt hc33).2.2.1 ?_
                show Steps p.tables e below (s₁.setTop (mkF m 36 #[.val (.int u0)] [])) _
                refine XS.iconst X0.here hx rfl (hb hby d2_36) ?_
                show Steps p.tables e below (s₁.setTop (mkF m 37 #[.val (.int u0)] [(.int (1 : Int32))])) _
                refine XS.goto X0.here hx rfl (pc0 := 37) (pc' := 41) rfl (hb hby d2_37) (by decide) (by decide) ?_
                show Steps p.tables e below (s₁.setTop (mkF m 41 #[.val (.int u0)] [(.int (1 : Int32))])) _
                exact retN X0 hx (t := .boolean) Bd.returns (by simp) (hb hby d2_41) hr
              · show Q2 Z u0 h0 n0 _ s₁.heap _
                rw [e0]
                exact ⟨(by rw [hv]), N0, rfl⟩
        · have hv : isHex u0 = (1 : Int32) := by
            rw [own_lt (k := 48) (by decide)] at hc3
            rw [own_gt (k := 57) (by decide)] at hc9
            rw [own_lt (k := 97) (by decide)] at hc15
            rw [own_gt (k := 102) (by decide)] at hc21
            unfold isHex
            exact if_pos (by omega)
          obtain ⟨fs, hr, hrun, hended, hW, hsame⟩ := X0.leave (v := some (.int (1 : Int32))) (fun h => by rw [Bd.returns] at h; cases h)
          refine ⟨_, _, pre0 _ ?_, hrun, hended, _, _, rfl, ?_, ⟨_, rfl⟩, hW, hsame.mono (by decide) (by decide)⟩
          · show Steps p.tables e below (s₁.setTop (mkF m 0 #[.val (.int u0)] [])) _
            refine XS.iloadN X0.here hx rfl (hb hby d2_0) rfl ?_
            show Steps p.tables e below (s₁.setTop (mkF m 1 #[.val (.int u0)] [(.int u0)])) _
            refine XS.bipush X0.here hx rfl (hb hby d2_1) ?_
            show Steps p.tables e below (s₁.setTop (mkF m 3 #[.val (.int u0)] [(.int (48 : Int32)), (.int u0)])) _
            refine XS.icmpNo X0.here hx rfl (hb hby d2_3) rfl (flt hc3).1 ?_
            show Steps p.tables e below (s₁.setTop (mkF m 6 #[.val (.int u0)] [])) _
            refine XS.iloadN X0.here hx rfl (hb hby d2_6) rfl ?_
            show Steps p.tables e below (s₁.setTop (mkF m 7 #[.val (.int u0)] [(.int u0)])) _
            refine XS.bipush X0.here hx rfl (hb hby d2_7) ?_
            show Steps p.tables e below (s₁.setTop (mkF m 9 #[.val (.int u0)] [(.int (57 : Int32)), (.int u0)])) _
            refine XS.icmpNo X0.here hx rfl (hb hby d2_9) rfl (tlt hc9).2.2.2 ?_
            show Steps p.tables e below (s₁.setTop (mkF m 12 #[.val (.int u0)] [])) _
            refine XS.iloadN X0.here hx rfl (hb hby d2_12) rfl ?_
            show Steps p.tables e below (s₁.setTop (mkF m 13 #[.val (.int u0)] [(.int u0)])) _
            refine XS.bipush X0.here hx rfl (hb hby d2_13) ?_
            show Steps p.tables e below (s₁.setTop (mkF m 15 #[.val (.int u0)] [(.int (97 : Int32)), (.int u0)])) _
            refine XS.icmpNo X0.here hx rfl (hb hby d2_15) rfl (flt hc15).1 ?_
            show Steps p.tables e below (s₁.setTop (mkF m 18 #[.val (.int u0)] [])) _
            refine XS.iloadN X0.here hx rfl (hb hby d2_18) rfl ?_
            show Steps p.tables e below (s₁.setTop (mkF m 19 #[.val (.int u0)] [(.int u0)])) _
            refine XS.bipush X0.here hx rfl (hb hby d2_19) ?_
            show Steps p.tables e below (s₁.setTop (mkF m 21 #[.val (.int u0)] [(.int (102 : Int32)), (.int u0)])) _
            refine XS.icmpYes X0.here hx rfl (pc0 := 21) (pc' := 36) rfl (hb hby d2_21) rfl (flt hc21).2.2.2 (by decide) (by decide) ?_
            show Steps p.tables e below (s₁.setTop (mkF m 36 #[.val (.int u0)] [])) _
            refine XS.iconst X0.here hx rfl (hb hby d2_36) ?_
            show Steps p.tables e below (s₁.setTop (mkF m 37 #[.val (.int u0)] [(.int (1 : Int32))])) _
            refine XS.goto X0.here hx rfl (pc0 := 37) (pc' := 41) rfl (hb hby d2_37) (by decide) (by decide) ?_
            show Steps p.tables e below (s₁.setTop (mkF m 41 #[.val (.int u0)] [(.int (1 : Int32))])) _
            exact retN X0 hx (t := .boolean) Bd.returns (by simp) (hb hby d2_41) hr
          · show Q2 Z u0 h0 n0 _ s₁.heap _
            rw [e0]
            exact ⟨(by rw [hv]), N0, rfl⟩
    · have hv : isHex u0 = (1 : Int32) := by
        rw [own_lt (k := 48) (by decide)] at hc3
        rw [own_gt (k := 57) (by decide)] at hc9
        unfold isHex
        exact if_pos (by omega)
      obtain ⟨fs, hr, hrun, hended, hW, hsame⟩ := X0.leave (v := some (.int (1 : Int32))) (fun h => by rw [Bd.returns] at h; cases h)
      refine ⟨_, _, pre0 _ ?_, hrun, hended, _, _, rfl, ?_, ⟨_, rfl⟩, hW, hsame.mono (by decide) (by decide)⟩
      · show Steps p.tables e below (s₁.setTop (mkF m 0 #[.val (.int u0)] [])) _
        refine XS.iloadN X0.here hx rfl (hb hby d2_0) rfl ?_
        show Steps p.tables e below (s₁.setTop (mkF m 1 #[.val (.int u0)] [(.int u0)])) _
        refine XS.bipush X0.here hx rfl (hb hby d2_1) ?_
        show Steps p.tables e below (s₁.setTop (mkF m 3 #[.val (.int u0)] [(.int (48 : Int32)), (.int u0)])) _
        refine XS.icmpNo X0.here hx rfl (hb hby d2_3) rfl (flt hc3).1 ?_
        show Steps p.tables e below (s₁.setTop (mkF m 6 #[.val (.int u0)] [])) _
        refine XS.iloadN X0.here hx rfl (hb hby d2_6) rfl ?_
        show Steps p.tables e below (s₁.setTop (mkF m 7 #[.val (.int u0)] [(.int u0)])) _
        refine XS.bipush X0.here hx rfl (hb hby d2_7) ?_
        show Steps p.tables e below (s₁.setTop (mkF m 9 #[.val (.int u0)] [(.int (57 : Int32)), (.int u0)])) _
        refine XS.icmpYes X0.here hx rfl (pc0 := 9) (pc' := 36) rfl (hb hby d2_9) rfl (flt hc9).2.2.2 (by decide) (by decide) ?_
        show Steps p.tables e below (s₁.setTop (mkF m 36 #[.val (.int u0)] [])) _
        refine XS.iconst X0.here hx rfl (hb hby d2_36) ?_
        show Steps p.tables e below (s₁.setTop (mkF m 37 #[.val (.int u0)] [(.int (1 : Int32))])) _
        refine XS.goto X0.here hx rfl (pc0 := 37) (pc' := 41) rfl (hb hby d2_37) (by decide) (by decide) ?_
        show Steps p.tables e below (s₁.setTop (mkF m 41 #[.val (.int u0)] [(.int (1 : Int32))])) _
        exact retN X0 hx (t := .boolean) Bd.returns (by simp) (hb hby d2_41) hr
      · show Q2 Z u0 h0 n0 _ s₁.heap _
        rw [e0]
        exact ⟨(by rw [hv]), N0, rfl⟩
theorem d3_0 : decode method_2_code 0 = .ok (.iload_n 0, 1) := by decide +kernel
theorem d3_1 : decode method_2_code 1 = .ok (.i2l, 1) := by decide +kernel
theorem d3_2 : decode method_2_code 2 = .ok (.ldc2_w 7, 3) := by decide +kernel
theorem d3_5 : decode method_2_code 5 = .ok (.lsub, 1) := by decide +kernel
theorem d3_6 : decode method_2_code 6 = .ok (.lstore_n 1, 1) := by decide +kernel
theorem d3_7 : decode method_2_code 7 = .ok (.lload_n 1, 1) := by decide +kernel
theorem d3_8 : decode method_2_code 8 = .ok (.lconst 0, 1) := by decide +kernel
theorem d3_9 : decode method_2_code 9 = .ok (.lcmp, 1) := by decide +kernel
theorem d3_10 : decode method_2_code 10 = .ok (.ifCond .lt 13, 3) := by decide +kernel
theorem d3_13 : decode method_2_code 13 = .ok (.lload_n 1, 1) := by decide +kernel
theorem d3_14 : decode method_2_code 14 = .ok (.ldc2_w 9, 3) := by decide +kernel
theorem d3_17 : decode method_2_code 17 = .ok (.lcmp, 1) := by decide +kernel
theorem d3_18 : decode method_2_code 18 = .ok (.ifCond .ge 5, 3) := by decide +kernel
theorem d3_21 : decode method_2_code 21 = .ok (.iconst 1, 1) := by decide +kernel
theorem d3_22 : decode method_2_code 22 = .ok (.ireturn, 1) := by decide +kernel
theorem d3_23 : decode method_2_code 23 = .ok (.iload_n 0, 1) := by decide +kernel
theorem d3_24 : decode method_2_code 24 = .ok (.bipush 32, 2) := by decide +kernel
theorem d3_26 : decode method_2_code 26 = .ok (.ior, 1) := by decide +kernel
theorem d3_27 : decode method_2_code 27 = .ok (.i2l, 1) := by decide +kernel
theorem d3_28 : decode method_2_code 28 = .ok (.ldc2_w 11, 3) := by decide +kernel
theorem d3_31 : decode method_2_code 31 = .ok (.lsub, 1) := by decide +kernel
theorem d3_32 : decode method_2_code 32 = .ok (.lstore_n 3, 1) := by decide +kernel
theorem d3_33 : decode method_2_code 33 = .ok (.lload_n 3, 1) := by decide +kernel
theorem d3_34 : decode method_2_code 34 = .ok (.lconst 0, 1) := by decide +kernel
theorem d3_35 : decode method_2_code 35 = .ok (.lcmp, 1) := by decide +kernel
theorem d3_36 : decode method_2_code 36 = .ok (.ifCond .lt 15, 3) := by decide +kernel
theorem d3_39 : decode method_2_code 39 = .ok (.lload_n 3, 1) := by decide +kernel
theorem d3_40 : decode method_2_code 40 = .ok (.ldc2_w 13, 3) := by decide +kernel
theorem d3_43 : decode method_2_code 43 = .ok (.lcmp, 1) := by decide +kernel
theorem d3_44 : decode method_2_code 44 = .ok (.ifCond .ge 7, 3) := by decide +kernel
theorem d3_47 : decode method_2_code 47 = .ok (.iconst 1, 1) := by decide +kernel
theorem d3_48 : decode method_2_code 48 = .ok (.goto 4, 3) := by decide +kernel
theorem d3_51 : decode method_2_code 51 = .ok (.iconst 0, 1) := by decide +kernel
theorem d3_52 : decode method_2_code 52 = .ok (.ireturn, 1) := by decide +kernel
theorem pn_com_example_triplewright_triplewright_rdf_IrisIsHexDigitPinLaw : plainName "com/example/triplewright/triplewright/rdf/IrisIsHexDigitPinLaw" = true := by first | (simp [plainName, overriddenIn]; done) | decide +kernel
theorem ef_3 (m : MethodId) (u0 : Int32) : entryFrame m #[(.int u0)] 5 = mkF m 0 #[.val (.int u0), .unset, .unset, .unset, .unset] [] := by first | (simp [entryFrame, mkF, argsToLocals, Value.category]; done) | rfl
def Q3 (Z : State) (u0 : Int32) (h0 : Heap) (n0 : Nat) (v : Option Value) (h : Heap) (L : List Loc) : Prop := v = some (.int (refHex u0)) ∧ Fr n0 L ∧ h = h0
set_option maxRecDepth 65536 in
set_option maxHeartbeats 40000000 in
theorem rm3 (l : Launch) (Z : State) (a0 : Array Value) (hw : ∀ d ∈ tables_1, d.before a0 Z = true) (ws : List Jvm.Cond) (u0 : Int32) (h0 : Heap) (n0 : Nat) (Z0 : n0 ≤ h0.size) :
    MetFree l (⟨"com/example/triplewright/triplewright/rdf/IrisIsHexDigitPinLaw", "reference", "(I)Z"⟩ : MethodName) (head1 (Jvm.Cond.code (⟨"com/example/triplewright/triplewright/rdf/IrisIsHexDigitPinLaw", "reference", "(I)Z"⟩ : MethodName) method_2_code 5 (some .boolean) :: ws) ({ frames := 0, cells := 0, slots := 0, locals := 0 } : Room)) (fun a U => a = #[(.int u0)] ∧ Z.Warmed39 U.vm ∧ U.heap = h0) (fun _ _ _ _ _ => True) (fun _ U o U' => ∃ v L, o = .returned v ∧ Q3 Z u0 h0 n0 v U'.heap L ∧ FrameEnd U o U' L ({ frames := 0, cells := 0, slots := 0, locals := 0 } : Room).cells ({ frames := 0, cells := 0, slots := 0, locals := 0 } : Room).slots) := by
  refine MetFree.of_bodySF (plainFor_of_name pn_com_example_triplewright_triplewright_rdf_IrisIsHexDigitPinLaw) hisR ?_
  intro p e s m args below meth c s₁ Bd hml0 hP hK
  obtain ⟨rfl, hZ, hh⟩ := hP
  have hx := Bd.exec
  have hby := Bd.bytes
  have hml : c.maxLocals = 5 := hml0
  have hown : s.vm.findClass "com/example/triplewright/triplewright/rdf/IrisIsHexDigitPinLaw" = some m.cls := findClass_of_methodNamed Bd.named
  have hnm := (name_of_methodNamed Bd.named Bd.method).1
  have X0 : Stand p l e ({ frames := 0, cells := 0, slots := 0, locals := 0 } : Room) s m #[(.int u0)] below meth c s₁ [] 0 0 := Stand.of_body Bd
  have e0 : s₁.heap = h0 := by rw [← hh, Bd.state]; rfl
  have N0 := Fr.nil n0
  have pre0 : ∀ t, Steps p.tables e below (s₁.setTop (mkF m 0 #[.val (.int u0), .unset, .unset, .unset, .unset] [])) t → Steps p.tables e below (s₁.setTop (entryFrame m #[(.int u0)] 5)) t := fun t k => castTop (ef_3 m u0) k
  have st1 := X0.ldc2Long hx hown (mvT hZ (hw _ (List.mem_of_getElem? (i := 11) rfl))) (g := (mkF m 2 #[.val (.int u0), .unset, .unset, .unset, .unset] [(.long (u0.toInt64))])) rfl (hb hby d3_2)
  by_cases hc10 : (lcmpW ((u0.toInt64) - (48 : Int64)) (0 : Int64)) < (0 : Int32)
  · have st2 := X0.ldc2Long hx hown (mvT hZ (hw _ (List.mem_of_getElem? (i := 12) rfl))) (g := (mkF m 28 #[.val (.int u0), .val (.long ((u0.toInt64) - (48 : Int64))), .second, .unset, .unset] [(.long ((u0 ||| (32 : Int32)).toInt64))])) rfl (hb hby d3_28)
    by_cases hc36 : (lcmpW (((u0 ||| (32 : Int32)).toInt64) - (97 : Int64)) (0 : Int64)) < (0 : Int32)
    · have hv : refHex u0 = (0 : Int32) := by
        rw [own_ll (k := 48) (j := 0) (by decide) (by decide) (by decide) (by decide)] at hc10
        rw [own_ll (k := 97) (j := 0) (by decide) (by decide) (by decide) (by decide)] at hc36
        unfold refHex
        exact if_neg (by omega)
      obtain ⟨fs, hr, hrun, hended, hW, hsame⟩ := X0.leave (v := some (.int (0 : Int32))) (fun h => by rw [Bd.returns] at h; cases h)
      refine ⟨_, _, pre0 _ ?_, hrun, hended, _, _, rfl, ?_, ⟨_, rfl⟩, hW, hsame.mono (by decide) (by decide)⟩
      · show Steps p.tables e below (s₁.setTop (mkF m 0 #[.val (.int u0), .unset, .unset, .unset, .unset] [])) _
        refine XS.iloadN X0.here hx rfl (hb hby d3_0) rfl ?_
        show Steps p.tables e below (s₁.setTop (mkF m 1 #[.val (.int u0), .unset, .unset, .unset, .unset] [(.int u0)])) _
        refine XS.i2l X0.here hx rfl (hb hby d3_1) rfl ?_
        show Steps p.tables e below (s₁.setTop (mkF m 2 #[.val (.int u0), .unset, .unset, .unset, .unset] [(.long (u0.toInt64))])) _
        refine st1 _ ?_
        show Steps p.tables e below (s₁.setTop (mkF m 5 #[.val (.int u0), .unset, .unset, .unset, .unset] [(.long (48 : Int64)), (.long (u0.toInt64))])) _
        refine XS.lsub X0.here hx rfl (hb hby d3_5) rfl ?_
        show Steps p.tables e below (s₁.setTop (mkF m 6 #[.val (.int u0), .unset, .unset, .unset, .unset] [(.long ((u0.toInt64) - (48 : Int64)))])) _
        refine XS.lstoreN X0.here hx rfl (hb hby d3_6) rfl (l' := #[.val (.int u0), .val (.long ((u0.toInt64) - (48 : Int64))), .second, .unset, .unset]) rfl ?_
        show Steps p.tables e below (s₁.setTop (mkF m 7 #[.val (.int u0), .val (.long ((u0.toInt64) - (48 : Int64))), .second, .unset, .unset] [])) _
        refine XS.lloadN X0.here hx rfl (hb hby d3_7) rfl ?_
        show Steps p.tables e below (s₁.setTop (mkF m 8 #[.val (.int u0), .val (.long ((u0.toInt64) - (48 : Int64))), .second, .unset, .unset] [(.long ((u0.toInt64) - (48 : Int64)))])) _
        refine XS.lconst X0.here hx rfl (hb hby d3_8) ?_
        show Steps p.tables e below (s₁.setTop (mkF m 9 #[.val (.int u0), .val (.long ((u0.toInt64) - (48 : Int64))), .second, .unset, .unset] [(.long (0 : Int64)), (.long ((u0.toInt64) - (48 : Int64)))])) _
        refine XS.lcmp X0.here hx rfl (hb hby d3_9) rfl ?_
        show Steps p.tables e below (s₁.setTop (mkF m 10 #[.val (.int u0), .val (.long ((u0.toInt64) - (48 : Int64))), .second, .unset, .unset] [(.int (lcmpW ((u0.toInt64) - (48 : Int64)) (0 : Int64)))])) _
        refine XS.ifYes X0.here hx rfl (pc0 := 10) (pc' := 23) rfl (hb hby d3_10) rfl ((if0 _ _).trans (tlt hc10).1) (by decide) (by decide) ?_
        show Steps p.tables e below (s₁.setTop (mkF m 23 #[.val (.int u0), .val (.long ((u0.toInt64) - (48 : Int64))), .second, .unset, .unset] [])) _
        refine XS.iloadN X0.here hx rfl (hb hby d3_23) rfl ?_
        show Steps p.tables e below (s₁.setTop (mkF m 24 #[.val (.int u0), .val (.long ((u0.toInt64) - (48 : Int64))), .second, .unset, .unset] [(.int u0)])) _
        refine XS.bipush X0.here hx rfl (hb hby d3_24) ?_
        show Steps p.tables e below (s₁.setTop (mkF m 26 #[.val (.int u0), .val (.long ((u0.toInt64) - (48 : Int64))), .second, .unset, .unset] [(.int (32 : Int32)), (.int u0)])) _
        refine XS.ior X0.here hx rfl (hb hby d3_26) rfl ?_
        show Steps p.tables e below (s₁.setTop (mkF m 27 #[.val (.int u0), .val (.long ((u0.toInt64) - (48 : Int64))), .second, .unset, .unset] [(.int (u0 ||| (32 : Int32)))])) _
        refine XS.i2l X0.here hx rfl (hb hby d3_27) rfl ?_
        show Steps p.tables e below (s₁.setTop (mkF m 28 #[.val (.int u0), .val (.long ((u0.toInt64) - (48 : Int64))), .second, .unset, .unset] [(.long ((u0 ||| (32 : Int32)).toInt64))])) _
        refine st2 _ ?_
        show Steps p.tables e below (s₁.setTop (mkF m 31 #[.val (.int u0), .val (.long ((u0.toInt64) - (48 : Int64))), .second, .unset, .unset] [(.long (97 : Int64)), (.long ((u0 ||| (32 : Int32)).toInt64))])) _
        refine XS.lsub X0.here hx rfl (hb hby d3_31) rfl ?_
        show Steps p.tables e below (s₁.setTop (mkF m 32 #[.val (.int u0), .val (.long ((u0.toInt64) - (48 : Int64))), .second, .unset, .unset] [(.long (((u0 ||| (32 : Int32)).toInt64) - (97 : Int64)))])) _
        refine XS.lstoreN X0.here hx rfl (hb hby d3_32) rfl (l' := #[.val (.int u0), .val (.long ((u0.toInt64) - (48 : Int64))), .second, .val (.long (((u0 ||| (32 : Int32)).toInt64) - (97 : Int64))), .second]) rfl ?_
        show Steps p.tables e below (s₁.setTop (mkF m 33 #[.val (.int u0), .val (.long ((u0.toInt64) - (48 : Int64))), .second, .val (.long (((u0 ||| (32 : Int32)).toInt64) - (97 : Int64))), .second] [])) _
        refine XS.lloadN X0.here hx rfl (hb hby d3_33) rfl ?_
        show Steps p.tables e below (s₁.setTop (mkF m 34 #[.val (.int u0), .val (.long ((u0.toInt64) - (48 : Int64))), .second, .val (.long (((u0 ||| (32 : Int32)).toInt64) - (97 : Int64))), .second] [(.long (((u0 ||| (32 : Int32)).toInt64) - (97 : Int64)))])) _
        refine XS.lconst X0.here hx rfl (hb hby d3_34) ?_
        show Steps p.tables e below (s₁.setTop (mkF m 35 #[.val (.int u0), .val (.long ((u0.toInt64) - (48 : Int64))), .second, .val (.long (((u0 ||| (32 : Int32)).toInt64) - (97 : Int64))), .second] [(.long (0 : Int64)), (.long (((u0 ||| (32 : Int32)).toInt64) - (97 : Int64)))])) _
        refine XS.lcmp X0.here hx rfl (hb hby d3_35) rfl ?_
        show Steps p.tables e below (s₁.setTop (mkF m 36 #[.val (.int u0), .val (.long ((u0.toInt64) - (48 : Int64))), .second, .val (.long (((u0 ||| (32 : Int32)).toInt64) - (97 : Int64))), .second] [(.int (lcmpW (((u0 ||| (32 : Int32)).toInt64) - (97 : Int64)) (0 : Int64)))])) _
        refine XS.ifYes X0.here hx rfl (pc0 := 36) (pc' := 51) rfl (hb hby d3_36) rfl ((if0 _ _).trans (tlt hc36).1) (by decide) (by decide) ?_
        show Steps p.tables e below (s₁.setTop (mkF m 51 #[.val (.int u0), .val (.long ((u0.toInt64) - (48 : Int64))), .second, .val (.long (((u0 ||| (32 : Int32)).toInt64) - (97 : Int64))), .second] [])) _
        refine XS.iconst X0.here hx rfl (hb hby d3_51) ?_
        show Steps p.tables e below (s₁.setTop (mkF m 52 #[.val (.int u0), .val (.long ((u0.toInt64) - (48 : Int64))), .second, .val (.long (((u0 ||| (32 : Int32)).toInt64) - (97 : Int64))), .second] [(.int (0 : Int32))])) _
        exact retN X0 hx (t := .boolean) Bd.returns (by simp) (hb hby d3_52) hr
      · show Q3 Z u0 h0 n0 _ s₁.heap _
        rw [e0]
        exact ⟨(by rw [hv]), N0, rfl⟩
    · have st3 := X0.ldc2Long hx hown (mvT hZ (hw _ (List.mem_of_getElem? (i := 14) rfl))) (g := (mkF m 40 #[.val (.int u0), .val (.long ((u0.toInt64) - (48 : Int64))), .second, .val (.long (((u0 ||| (32 : Int32)).toInt64) - (97 : Int64))), .second] [(.long (((u0 ||| (32 : Int32)).toInt64) - (97 : Int64)))])) rfl (hb hby d3_40)
      by_cases hc44 : (lcmpW (((u0 ||| (32 : Int32)).toInt64) - (97 : Int64)) (6 : Int64)) < (0 : Int32)
      · have hv : refHex u0 = (1 : Int32) := by
          rw [own_ll (k := 48) (j := 0) (by decide) (by decide) (by decide) (by decide)] at hc10
          rw [own_ll (k := 97) (j := 0) (by decide) (by decide) (by decide) (by decide)] at hc36
          rw [own_ll (k := 97) (j := 6) (by decide) (by decide) (by decide) (by decide)] at hc44
          unfold refHex
          exact if_pos (by omega)
        obtain ⟨fs, hr, hrun, hended, hW, hsame⟩ := X0.leave (v := some (.int (1 : Int32))) (fun h => by rw [Bd.returns] at h; cases h)
        refine ⟨_, _, pre0 _ ?_, hrun, hended, _, _, rfl, ?_, ⟨_, rfl⟩, hW, hsame.mono (by decide) (by decide)⟩
        · show Steps p.tables e below (s₁.setTop (mkF m 0 #[.val (.int u0), .unset, .unset, .unset, .unset] [])) _
          refine XS.iloadN X0.here hx rfl (hb hby d3_0) rfl ?_
          show Steps p.tables e below (s₁.setTop (mkF m 1 #[.val (.int u0), .unset, .unset, .unset, .unset] [(.int u0)])) _
          refine XS.i2l X0.here hx rfl (hb hby d3_1) rfl ?_
          show Steps p.tables e below (s₁.setTop (mkF m 2 #[.val (.int u0), .unset, .unset, .unset, .unset] [(.long (u0.toInt64))])) _
          refine st1 _ ?_
          show Steps p.tables e below (s₁.setTop (mkF m 5 #[.val (.int u0), .unset, .unset, .unset, .unset] [(.long (48 : Int64)), (.long (u0.toInt64))])) _
          refine XS.lsub X0.here hx rfl (hb hby d3_5) rfl ?_
          show Steps p.tables e below (s₁.setTop (mkF m 6 #[.val (.int u0), .unset, .unset, .unset, .unset] [(.long ((u0.toInt64) - (48 : Int64)))])) _
          refine XS.lstoreN X0.here hx rfl (hb hby d3_6) rfl (l' := #[.val (.int u0), .val (.long ((u0.toInt64) - (48 : Int64))), .second, .unset, .unset]) rfl ?_
          show Steps p.tables e below (s₁.setTop (mkF m 7 #[.val (.int u0), .val (.long ((u0.toInt64) - (48 : Int64))), .second, .unset, .unset] [])) _
          refine XS.lloadN X0.here hx rfl (hb hby d3_7) rfl ?_
          show Steps p.tables e below (s₁.setTop (mkF m 8 #[.val (.int u0), .val (.long ((u0.toInt64) - (48 : Int64))), .second, .unset, .unset] [(.long ((u0.toInt64) - (48 : Int64)))])) _
          refine XS.lconst X0.here hx rfl (hb hby d3_8) ?_
          show Steps p.tables e below (s₁.setTop (mkF m 9 #[.val (.int u0), .val (.long ((u0.toInt64) - (48 : Int64))), .second, .unset, .unset] [(.long (0 : Int64)), (.long ((u0.toInt64) - (48 : Int64)))])) _
          refine XS.lcmp X0.here hx rfl (hb hby d3_9) rfl ?_
          show Steps p.tables e below (s₁.setTop (mkF m 10 #[.val (.int u0), .val (.long ((u0.toInt64) - (48 : Int64))), .second, .unset, .unset] [(.int (lcmpW ((u0.toInt64) - (48 : Int64)) (0 : Int64)))])) _
          refine XS.ifYes X0.here hx rfl (pc0 := 10) (pc' := 23) rfl (hb hby d3_10) rfl ((if0 _ _).trans (tlt hc10).1) (by decide) (by decide) ?_
          show Steps p.tables e below (s₁.setTop (mkF m 23 #[.val (.int u0), .val (.long ((u0.toInt64) - (48 : Int64))), .second, .unset, .unset] [])) _
          refine XS.iloadN X0.here hx rfl (hb hby d3_23) rfl ?_
          show Steps p.tables e below (s₁.setTop (mkF m 24 #[.val (.int u0), .val (.long ((u0.toInt64) - (48 : Int64))), .second, .unset, .unset] [(.int u0)])) _
          refine XS.bipush X0.here hx rfl (hb hby d3_24) ?_
          show Steps p.tables e below (s₁.setTop (mkF m 26 #[.val (.int u0), .val (.long ((u0.toInt64) - (48 : Int64))), .second, .unset, .unset] [(.int (32 : Int32)), (.int u0)])) _
          refine XS.ior X0.here hx rfl (hb hby d3_26) rfl ?_
          show Steps p.tables e below (s₁.setTop (mkF m 27 #[.val (.int u0), .val (.long ((u0.toInt64) - (48 : Int64))), .second, .unset, .unset] [(.int (u0 ||| (32 : Int32)))])) _
          refine XS.i2l X0.here hx rfl (hb hby d3_27) rfl ?_
          show Steps p.tables e below (s₁.setTop (mkF m 28 #[.val (.int u0), .val (.long ((u0.toInt64) - (48 : Int64))), .second, .unset, .unset] [(.long ((u0 ||| (32 : Int32)).toInt64))])) _
          refine st2 _ ?_
          show Steps p.tables e below (s₁.setTop (mkF m 31 #[.val (.int u0), .val (.long ((u0.toInt64) - (48 : Int64))), .second, .unset, .unset] [(.long (97 : Int64)), (.long ((u0 ||| (32 : Int32)).toInt64))])) _
          refine XS.lsub X0.here hx rfl (hb hby d3_31) rfl ?_
          show Steps p.tables e below (s₁.setTop (mkF m 32 #[.val (.int u0), .val (.long ((u0.toInt64) - (48 : Int64))), .second, .unset, .unset] [(.long (((u0 ||| (32 : Int32)).toInt64) - (97 : Int64)))])) _
          refine XS.lstoreN X0.here hx rfl (hb hby d3_32) rfl (l' := #[.val (.int u0), .val (.long ((u0.toInt64) - (48 : Int64))), .second, .val (.long (((u0 ||| (32 : Int32)).toInt64) - (97 : Int64))), .second]) rfl ?_
          show Steps p.tables e below (s₁.setTop (mkF m 33 #[.val (.int u0), .val (.long ((u0.toInt64) - (48 : Int64))), .second, .val (.long (((u0 ||| (32 : Int32)).toInt64) - (97 : Int64))), .second] [])) _
          refine XS.lloadN X0.here hx rfl (hb hby d3_33) rfl ?_
          show Steps p.tables e below (s₁.setTop (mkF m 34 #[.val (.int u0), .val (.long ((u0.toInt64) - (48 : Int64))), .second, .val (.long (((u0 ||| (32 : Int32)).toInt64) - (97 : Int64))), .second] [(.long (((u0 ||| (32 : Int32)).toInt64) - (97 : Int64)))])) _
          refine XS.lconst X0.here hx rfl (hb hby d3_34) ?_
          show Steps p.tables e below (s₁.setTop (mkF m 35 #[.val (.int u0), .val (.long ((u0.toInt64) - (48 : Int64))), .second, .val (.long (((u0 ||| (32 : Int32)).toInt64) - (97 : Int64))), .second] [(.long (0 : Int64)), (.long (((u0 ||| (32 : Int32)).toInt64) - (97 : Int64)))])) _
          refine XS.lcmp X0.here hx rfl (hb hby d3_35) rfl ?_
          show Steps p.tables e below (s₁.setTop (mkF m 36 #[.val (.int u0), .val (.long ((u0.toInt64) - (48 : Int64))), .second, .val (.long (((u0 ||| (32 : Int32)).toInt64) - (97 : Int64))), .second] [(.int (lcmpW (((u0 ||| (32 : Int32)).toInt64) - (97 : Int64)) (0 : Int64)))])) _
          refine XS.ifNo X0.here hx rfl (hb hby d3_36) rfl ((if0 _ _).trans (flt hc36).1) ?_
          show Steps p.tables e below (s₁.setTop (mkF m 39 #[.val (.int u0), .val (.long ((u0.toInt64) - (48 : Int64))), .second, .val (.long (((u0 ||| (32 : Int32)).toInt64) - (97 : Int64))), .second] [])) _
          refine XS.lloadN X0.here hx rfl (hb hby d3_39) rfl ?_
          show Steps p.tables e below (s₁.setTop (mkF m 40 #[.val (.int u0), .val (.long ((u0.toInt64) - (48 : Int64))), .second, .val (.long (((u0 ||| (32 : Int32)).toInt64) - (97 : Int64))), .second] [(.long (((u0 ||| (32 : Int32)).toInt64) - (97 : Int64)))])) _
          refine st3 _ ?_
          show Steps p.tables e below (s₁.setTop (mkF m 43 #[.val (.int u0), .val (.long ((u0.toInt64) - (48 : Int64))), .second, .val (.long (((u0 ||| (32 : Int32)).toInt64) - (97 : Int64))), .second] [(.long (6 : Int64)), (.long (((u0 ||| (32 : Int32)).toInt64) - (97 : Int64)))])) _
          refine XS.lcmp X0.here hx rfl (hb hby d3_43) rfl ?_
          show Steps p.tables e below (s₁.setTop (mkF m 44 #[.val (.int u0), .val (.long ((u0.toInt64) - (48 : Int64))), .second, .val (.long (((u0 ||| (32 : Int32)).toInt64) - (97 : Int64))), .second] [(.int (lcmpW (((u0 ||| (32 : Int32)).toInt64) - (97 : Int64)) (6 : Int64)))])) _
          refine XS.ifNo X0.here hx rfl (hb hby d3_44) rfl ((if0 _ _).trans (tlt hc44).2.1) ?_
          show Steps p.tables e below (s₁.setTop (mkF m 47 #[.val (.int u0), .val (.long ((u0.toInt64) - (48 : Int64))), .second, .val (.long (((u0 ||| (32 : Int32)).toInt64) - (97 : Int64))), .second] [])) _
          refine XS.iconst X0.here hx rfl (hb hby d3_47) ?_
          show Steps p.tables e below (s₁.setTop (mkF m 48 #[.val (.int u0), .val (.long ((u0.toInt64) - (48 : Int64))), .second, .val (.long (((u0 ||| (32 : Int32)).toInt64) - (97 : Int64))), .second] [(.int (1 : Int32))])) _
          refine XS.goto X0.here hx rfl (pc0 := 48) (pc' := 52) rfl (hb hby d3_48) (by decide) (by decide) ?_
          show Steps p.tables e below (s₁.setTop (mkF m 52 #[.val (.int u0), .val (.long ((u0.toInt64) - (48 : Int64))), .second, .val (.long (((u0 ||| (32 : Int32)).toInt64) - (97 : Int64))), .second] [(.int (1 : Int32))])) _
          exact retN X0 hx (t := .boolean) Bd.returns (by simp) (hb hby d3_52) hr
        · show Q3 Z u0 h0 n0 _ s₁.heap _
          rw [e0]
          exact ⟨(by rw [hv]), N0, rfl⟩
      · have hv : refHex u0 = (0 : Int32) := by
          rw [own_ll (k := 48) (j := 0) (by decide) (by decide) (by decide) (by decide)] at hc10
          rw [own_ll (k := 97) (j := 0) (by decide) (by decide) (by decide) (by decide)] at hc36
          rw [own_ll (k := 97) (j := 6) (by decide) (by decide) (by decide) (by decide)] at hc44
          unfold refHex
          exact if_neg (by omega)
        obtain ⟨fs, hr, hrun, hended, hW, hsame⟩ := X0.leave (v := some (.int (0 : Int32))) (fun h => by rw [Bd.returns] at h; cases h)
        refine ⟨_, _, pre0 _ ?_, hrun, hended, _, _, rfl, ?_, ⟨_, rfl⟩, hW, hsame.mono (by decide) (by decide)⟩
        · show Steps p.tables e below (s₁.setTop (mkF m 0 #[.val (.int u0), .unset, .unset, .unset, .unset] [])) _
          refine XS.iloadN X0.here hx rfl (hb hby d3_0) rfl ?_
          show Steps p.tables e below (s₁.setTop (mkF m 1 #[.val (.int u0), .unset, .unset, .unset, .unset] [(.int u0)])) _
          refine XS.i2l X0.here hx rfl (hb hby d3_1) rfl ?_
          show Steps p.tables e below (s₁.setTop (mkF m 2 #[.val (.int u0), .unset, .unset, .unset, .unset] [(.long (u0.toInt64))])) _
          refine st1 _ ?_
          show Steps p.tables e below (s₁.setTop (mkF m 5 #[.val (.int u0), .unset, .unset, .unset, .unset] [(.long (48 : Int64)), (.long (u0.toInt64))])) _
          refine XS.lsub X0.here hx rfl (hb hby d3_5) rfl ?_
          show Steps p.tables e below (s₁.setTop (mkF m 6 #[.val (.int u0), .unset, .unset, .unset, .unset] [(.long ((u0.toInt64) - (48 : Int64)))])) _
          refine XS.lstoreN X0.here hx rfl (hb hby d3_6) rfl (l' := #[.val (.int u0), .val (.long ((u0.toInt64) - (48 : Int64))), .second, .unset, .unset]) rfl ?_
          show Steps p.tables e below (s₁.setTop (mkF m 7 #[.val (.int u0), .val (.long ((u0.toInt64) - (48 : Int64))), .second, .unset, .unset] [])) _
          refine XS.lloadN X0.here hx rfl (hb hby d3_7) rfl ?_
          show Steps p.tables e below (s₁.setTop (mkF m 8 #[.val (.int u0), .val (.long ((u0.toInt64) - (48 : Int64))), .second, .unset, .unset] [(.long ((u0.toInt64) - (48 : Int64)))])) _
          refine XS.lconst X0.here hx rfl (hb hby d3_8) ?_
          show Steps p.tables e below (s₁.setTop (mkF m 9 #[.val (.int u0), .val (.long ((u0.toInt64) - (48 : Int64))), .second, .unset, .unset] [(.long (0 : Int64)), (.long ((u0.toInt64) - (48 : Int64)))])) _
          refine XS.lcmp X0.here hx rfl (hb hby d3_9) rfl ?_
          show Steps p.tables e below (s₁.setTop (mkF m 10 #[.val (.int u0), .val (.long ((u0.toInt64) - (48 : Int64))), .second, .unset, .unset] [(.int (lcmpW ((u0.toInt64) - (48 : Int64)) (0 : Int64)))])) _
          refine XS.ifYes X0.here hx rfl (pc0 := 10) (pc' := 23) rfl (hb hby d3_10) rfl ((if0 _ _).trans (tlt hc10).1) (by decide) (by decide) ?_
          show Steps p.tables e below (s₁.setTop (mkF m 23 #[.val (.int u0), .val (.long ((u0.toInt64) - (48 : Int64))), .second, .unset, .unset] [])) _
          refine XS.iloadN X0.here hx rfl (hb hby d3_23) rfl ?_
          show Steps p.tables e below (s₁.setTop (mkF m 24 #[.val (.int u0), .val (.long ((u0.toInt64) - (48 : Int64))), .second, .unset, .unset] [(.int u0)])) _
          refine XS.bipush X0.here hx rfl (hb hby d3_24) ?_
          show Steps p.tables e below (s₁.setTop (mkF m 26 #[.val (.int u0), .val (.long ((u0.toInt64) - (48 : Int64))), .second, .unset, .unset] [(.int (32 : Int32)), (.int u0)])) _
          refine XS.ior X0.here hx rfl (hb hby d3_26) rfl ?_
          show Steps p.tables e below (s₁.setTop (mkF m 27 #[.val (.int u0), .val (.long ((u0.toInt64) - (48 : Int64))), .second, .unset, .unset] [(.int (u0 ||| (32 : Int32)))])) _
          refine XS.i2l X0.here hx rfl (hb hby d3_27) rfl ?_
          show Steps p.tables e below (s₁.setTop (mkF m 28 #[.val (.int u0), .val (.long ((u0.toInt64) - (48 : Int64))), .second, .unset, .unset] [(.long ((u0 ||| (32 : Int32)).toInt64))])) _
          refine st2 _ ?_
          show Steps p.tables e below (s₁.setTop (mkF m 31 #[.val (.int u0), .val (.long ((u0.toInt64) - (48 : Int64))), .second, .unset, .unset] [(.long (97 : Int64)), (.long ((u0 ||| (32 : Int32)).toInt64))])) _
          refine XS.lsub X0.here hx rfl (hb hby d3_31) rfl ?_
          show Steps p.tables e below (s₁.setTop (mkF m 32 #[.val (.int u0), .val (.long ((u0.toInt64) - (48 : Int64))), .second, .unset, .unset] [(.long (((u0 ||| (32 : Int32)).toInt64) - (97 : Int64)))])) _
          refine XS.lstoreN X0.here hx rfl (hb hby d3_32) rfl (l' := #[.val (.int u0), .val (.long ((u0.toInt64) - (48 : Int64))), .second, .val (.long (((u0 ||| (32 : Int32)).toInt64) - (97 : Int64))), .second]) rfl ?_
          show Steps p.tables e below (s₁.setTop (mkF m 33 #[.val (.int u0), .val (.long ((u0.toInt64) - (48 : Int64))), .second, .val (.long (((u0 ||| (32 : Int32)).toInt64) - (97 : Int64))), .second] [])) _
          refine XS.lloadN X0.here hx rfl (hb hby d3_33) rfl ?_
          show Steps p.tables e below (s₁.setTop (mkF m 34 #[.val (.int u0), .val (.long ((u0.toInt64) - (48 : Int64))), .second, .val (.long (((u0 ||| (32 : Int32)).toInt64) - (97 : Int64))), .second] [(.long (((u0 ||| (32 : Int32)).toInt64) - (97 : Int64)))])) _
          refine XS.lconst X0.here hx rfl (hb hby d3_34) ?_
          show Steps p.tables e below (s₁.setTop (mkF m 35 #[.val (.int u0), .val (.long ((u0.toInt64) - (48 : Int64))), .second, .val (.long (((u0 ||| (32 : Int32)).toInt64) - (97 : Int64))), .second] [(.long (0 : Int64)), (.long (((u0 ||| (32 : Int32)).toInt64) - (97 : Int64)))])) _
          refine XS.lcmp X0.here hx rfl (hb hby d3_35) rfl ?_
          show Steps p.tables e below (s₁.setTop (mkF m 36 #[.val (.int u0), .val (.long ((u0.toInt64) - (48 : Int64))), .second, .val (.long (((u0 ||| (32 : Int32)).toInt64) - (97 : Int64))), .second] [(.int (lcmpW (((u0 ||| (32 : Int32)).toInt64) - (97 : Int64)) (0 : Int64)))])) _
          refine XS.ifNo X0.here hx rfl (hb hby d3_36) rfl ((if0 _ _).trans (flt hc36).1) ?_
          show Steps p.tables e below (s₁.setTop (mkF m 39 #[.val (.int u0), .val (.long ((u0.toInt64) - (48 : Int64))), .second, .val (.long (((u0 ||| (32 : Int32)).toInt64) - (97 : Int64))), .second] [])) _
          refine XS.lloadN X0.here hx rfl (hb hby d3_39) rfl ?_
          show Steps p.tables e below (s₁.setTop (mkF m 40 #[.val (.int u0), .val (.long ((u0.toInt64) - (48 : Int64))), .second, .val (.long (((u0 ||| (32 : Int32)).toInt64) - (97 : Int64))), .second] [(.long (((u0 ||| (32 : Int32)).toInt64) - (97 : Int64)))])) _
          refine st3 _ ?_
          show Steps p.tables e below (s₁.setTop (mkF m 43 #[.val (.int u0), .val (.long ((u0.toInt64) - (48 : Int64))), .second, .val (.long (((u0 ||| (32 : Int32)).toInt64) - (97 : Int64))), .second] [(.long (6 : Int64)), (.long (((u0 ||| (32 : Int32)).toInt64) - (97 : Int64)))])) _
          refine XS.lcmp X0.here hx rfl (hb hby d3_43) rfl ?_
          show Steps p.tables e below (s₁.setTop (mkF m 44 #[.val (.int u0), .val (.long ((u0.toInt64) - (48 : Int64))), .second, .val (.long (((u0 ||| (32 : Int32)).toInt64) - (97 : Int64))), .second] [(.int (lcmpW (((u0 ||| (32 : Int32)).toInt64) - (97 : Int64)) (6 : Int64)))])) _
          refine XS.ifYes X0.here hx rfl (pc0 := 44) (pc' := 51) rfl (hb hby d3_44) rfl ((if0 _ _).trans (flt hc44).2.1) (by decide) (by decide) ?_
          show Steps p.tables e below (s₁.setTop (mkF m 51 #[.val (.int u0), .val (.long ((u0.toInt64) - (48 : Int64))), .second, .val (.long (((u0 ||| (32 : Int32)).toInt64) - (97 : Int64))), .second] [])) _
          refine XS.iconst X0.here hx rfl (hb hby d3_51) ?_
          show Steps p.tables e below (s₁.setTop (mkF m 52 #[.val (.int u0), .val (.long ((u0.toInt64) - (48 : Int64))), .second, .val (.long (((u0 ||| (32 : Int32)).toInt64) - (97 : Int64))), .second] [(.int (0 : Int32))])) _
          exact retN X0 hx (t := .boolean) Bd.returns (by simp) (hb hby d3_52) hr
        · show Q3 Z u0 h0 n0 _ s₁.heap _
          rw [e0]
          exact ⟨(by rw [hv]), N0, rfl⟩
  · have st4 := X0.ldc2Long hx hown (mvT hZ (hw _ (List.mem_of_getElem? (i := 13) rfl))) (g := (mkF m 14 #[.val (.int u0), .val (.long ((u0.toInt64) - (48 : Int64))), .second, .unset, .unset] [(.long ((u0.toInt64) - (48 : Int64)))])) rfl (hb hby d3_14)
    by_cases hc18 : (lcmpW ((u0.toInt64) - (48 : Int64)) (10 : Int64)) < (0 : Int32)
    · have hv : refHex u0 = (1 : Int32) := by
        rw [own_ll (k := 48) (j := 0) (by decide) (by decide) (by decide) (by decide)] at hc10
        rw [own_ll (k := 48) (j := 10) (by decide) (by decide) (by decide) (by decide)] at hc18
        unfold refHex
        exact if_pos (by omega)
      obtain ⟨fs, hr, hrun, hended, hW, hsame⟩ := X0.leave (v := some (.int (1 : Int32))) (fun h => by rw [Bd.returns] at h; cases h)
      refine ⟨_, _, pre0 _ ?_, hrun, hended, _, _, rfl, ?_, ⟨_, rfl⟩, hW, hsame.mono (by decide) (by decide)⟩
      · show Steps p.tables e below (s₁.setTop (mkF m 0 #[.val (.int u0), .unset, .unset, .unset, .unset] [])) _
        refine XS.iloadN X0.here hx rfl (hb hby d3_0) rfl ?_
        show Steps p.tables e below (s₁.setTop (mkF m 1 #[.val (.int u0), .unset, .unset, .unset, .unset] [(.int u0)])) _
        refine XS.i2l X0.here hx rfl (hb hby d3_1) rfl ?_
        show Steps p.tables e below (s₁.setTop (mkF m 2 #[.val (.int u0), .unset, .unset, .unset, .unset] [(.long (u0.toInt64))])) _
        refine st1 _ ?_
        show Steps p.tables e below (s₁.setTop (mkF m 5 #[.val (.int u0), .unset, .unset, .unset, .unset] [(.long (48 : Int64)), (.long (u0.toInt64))])) _
        refine XS.lsub X0.here hx rfl (hb hby d3_5) rfl ?_
        show Steps p.tables e below (s₁.setTop (mkF m 6 #[.val (.int u0), .unset, .unset, .unset, .unset] [(.long ((u0.toInt64) - (48 : Int64)))])) _
        refine XS.lstoreN X0.here hx rfl (hb hby d3_6) rfl (l' := #[.val (.int u0), .val (.long ((u0.toInt64) - (48 : Int64))), .second, .unset, .unset]) rfl ?_
        show Steps p.tables e below (s₁.setTop (mkF m 7 #[.val (.int u0), .val (.long ((u0.toInt64) - (48 : Int64))), .second, .unset, .unset] [])) _
        refine XS.lloadN X0.here hx rfl (hb hby d3_7) rfl ?_
        show Steps p.tables e below (s₁.setTop (mkF m 8 #[.val (.int u0), .val (.long ((u0.toInt64) - (48 : Int64))), .second, .unset, .unset] [(.long ((u0.toInt64) - (48 : Int64)))])) _
        refine XS.lconst X0.here hx rfl (hb hby d3_8) ?_
        show Steps p.tables e below (s₁.setTop (mkF m 9 #[.val (.int u0), .val (.long ((u0.toInt64) - (48 : Int64))), .second, .unset, .unset] [(.long (0 : Int64)), (.long ((u0.toInt64) - (48 : Int64)))])) _
        refine XS.lcmp X0.here hx rfl (hb hby d3_9) rfl ?_
        show Steps p.tables e below (s₁.setTop (mkF m 10 #[.val (.int u0), .val (.long ((u0.toInt64) - (48 : Int64))), .second, .unset, .unset] [(.int (lcmpW ((u0.toInt64) - (48 : Int64)) (0 : Int64)))])) _
        refine XS.ifNo X0.here hx rfl (hb hby d3_10) rfl ((if0 _ _).trans (flt hc10).1) ?_
        show Steps p.tables e below (s₁.setTop (mkF m 13 #[.val (.int u0), .val (.long ((u0.toInt64) - (48 : Int64))), .second, .unset, .unset] [])) _
        refine XS.lloadN X0.here hx rfl (hb hby d3_13) rfl ?_
        show Steps p.tables e below (s₁.setTop (mkF m 14 #[.val (.int u0), .val (.long ((u0.toInt64) - (48 : Int64))), .second, .unset, .unset] [(.long ((u0.toInt64) - (48 : Int64)))])) _
        refine st4 _ ?_
        show Steps p.tables e below (s₁.setTop (mkF m 17 #[.val (.int u0), .val (.long ((u0.toInt64) - (48 : Int64))), .second, .unset, .unset] [(.long (10 : Int64)), (.long ((u0.toInt64) - (48 : Int64)))])) _
        refine XS.lcmp X0.here hx rfl (hb hby d3_17) rfl ?_
        show Steps p.tables e below (s₁.setTop (mkF m 18 #[.val (.int u0), .val (.long ((u0.toInt64) - (48 : Int64))), .second, .unset, .unset] [(.int (lcmpW ((u0.toInt64) - (48 : Int64)) (10 : Int64)))])) _
        refine XS.ifNo X0.here hx rfl (hb hby d3_18) rfl ((if0 _ _).trans (tlt hc18).2.1) ?_
        show Steps p.tables e below (s₁.setTop (mkF m 21 #[.val (.int u0), .val (.long ((u0.toInt64) - (48 : Int64))), .second, .unset, .unset] [])) _
        refine XS.iconst X0.here hx rfl (hb hby d3_21) ?_
        show Steps p.tables e below (s₁.setTop (mkF m 22 #[.val (.int u0), .val (.long ((u0.toInt64) - (48 : Int64))), .second, .unset, .unset] [(.int (1 : Int32))])) _
        exact retN X0 hx (t := .boolean) Bd.returns (by simp) (hb hby d3_22) hr
      · show Q3 Z u0 h0 n0 _ s₁.heap _
        rw [e0]
        exact ⟨(by rw [hv]), N0, rfl⟩
    · have st5 := X0.ldc2Long hx hown (mvT hZ (hw _ (List.mem_of_getElem? (i := 12) rfl))) (g := (mkF m 28 #[.val (.int u0), .val (.long ((u0.toInt64) - (48 : Int64))), .second, .unset, .unset] [(.long ((u0 ||| (32 : Int32)).toInt64))])) rfl (hb hby d3_28)
      by_cases hc36 : (lcmpW (((u0 ||| (32 : Int32)).toInt64) - (97 : Int64)) (0 : Int64)) < (0 : Int32)
      · have hv : refHex u0 = (0 : Int32) := by
          rw [own_ll (k := 48) (j := 0) (by decide) (by decide) (by decide) (by decide)] at hc10
          rw [own_ll (k := 48) (j := 10) (by decide) (by decide) (by decide) (by decide)] at hc18
          rw [own_ll (k := 97) (j := 0) (by decide) (by decide) (by decide) (by decide)] at hc36
          unfold refHex
          exact if_neg (by omega)
        obtain ⟨fs, hr, hrun, hended, hW, hsame⟩ := X0.leave (v := some (.int (0 : Int32))) (fun h => by rw [Bd.returns] at h; cases h)
        refine ⟨_, _, pre0 _ ?_, hrun, hended, _, _, rfl, ?_, ⟨_, rfl⟩, hW, hsame.mono (by decide) (by decide)⟩
        · show Steps p.tables e below (s₁.setTop (mkF m 0 #[.val (.int u0), .unset, .unset, .unset, .unset] [])) _
          refine XS.iloadN X0.here hx rfl (hb hby d3_0) rfl ?_
          show Steps p.tables e below (s₁.setTop (mkF m 1 #[.val (.int u0), .unset, .unset, .unset, .unset] [(.int u0)])) _
          refine XS.i2l X0.here hx rfl (hb hby d3_1) rfl ?_
          show Steps p.tables e below (s₁.setTop (mkF m 2 #[.val (.int u0), .unset, .unset, .unset, .unset] [(.long (u0.toInt64))])) _
          refine st1 _ ?_
          show Steps p.tables e below (s₁.setTop (mkF m 5 #[.val (.int u0), .unset, .unset, .unset, .unset] [(.long (48 : Int64)), (.long (u0.toInt64))])) _
          refine XS.lsub X0.here hx rfl (hb hby d3_5) rfl ?_
          show Steps p.tables e below (s₁.setTop (mkF m 6 #[.val (.int u0), .unset, .unset, .unset, .unset] [(.long ((u0.toInt64) - (48 : Int64)))])) _
          refine XS.lstoreN X0.here hx rfl (hb hby d3_6) rfl (l' := #[.val (.int u0), .val (.long ((u0.toInt64) - (48 : Int64))), .second, .unset, .unset]) rfl ?_
          show Steps p.tables e below (s₁.setTop (mkF m 7 #[.val (.int u0), .val (.long ((u0.toInt64) - (48 : Int64))), .second, .unset, .unset] [])) _
          refine XS.lloadN X0.here hx rfl (hb hby d3_7) rfl ?_
          show Steps p.tables e below (s₁.setTop (mkF m 8 #[.val (.int u0), .val (.long ((u0.toInt64) - (48 : Int64))), .second, .unset, .unset] [(.long ((u0.toInt64) - (48 : Int64)))])) _
          refine XS.lconst X0.here hx rfl (hb hby d3_8) ?_
          show Steps p.tables e below (s₁.setTop (mkF m 9 #[.val (.int u0), .val (.long ((u0.toInt64) - (48 : Int64))), .second, .unset, .unset] [(.long (0 : Int64)), (.long ((u0.toInt64) - (48 : Int64)))])) _
          refine XS.lcmp X0.here hx rfl (hb hby d3_9) rfl ?_
          show Steps p.tables e below (s₁.setTop (mkF m 10 #[.val (.int u0), .val (.long ((u0.toInt64) - (48 : Int64))), .second, .unset, .unset] [(.int (lcmpW ((u0.toInt64) - (48 : Int64)) (0 : Int64)))])) _
          refine XS.ifNo X0.here hx rfl (hb hby d3_10) rfl ((if0 _ _).trans (flt hc10).1) ?_
          show Steps p.tables e below (s₁.setTop (mkF m 13 #[.val (.int u0), .val (.long ((u0.toInt64) - (48 : Int64))), .second, .unset, .unset] [])) _
          refine XS.lloadN X0.here hx rfl (hb hby d3_13) rfl ?_
          show Steps p.tables e below (s₁.setTop (mkF m 14 #[.val (.int u0), .val (.long ((u0.toInt64) - (48 : Int64))), .second, .unset, .unset] [(.long ((u0.toInt64) - (48 : Int64)))])) _
          refine st4 _ ?_
          show Steps p.tables e below (s₁.setTop (mkF m 17 #[.val (.int u0), .val (.long ((u0.toInt64) - (48 : Int64))), .second, .unset, .unset] [(.long (10 : Int64)), (.long ((u0.toInt64) - (48 : Int64)))])) _
          refine XS.lcmp X0.here hx rfl (hb hby d3_17) rfl ?_
          show Steps p.tables e below (s₁.setTop (mkF m 18 #[.val (.int u0), .val (.long ((u0.toInt64) - (48 : Int64))), .second, .unset, .unset] [(.int (lcmpW ((u0.toInt64) - (48 : Int64)) (10 : Int64)))])) _
          refine XS.ifYes X0.here hx rfl (pc0 := 18) (pc' := 23) rfl (hb hby d3_18) rfl ((if0 _ _).trans (flt hc18).2.1) (by decide) (by decide) ?_
          show Steps p.tables e below (s₁.setTop (mkF m 23 #[.val (.int u0), .val (.long ((u0.toInt64) - (48 : Int64))), .second, .unset, .unset] [])) _
          refine XS.iloadN X0.here hx rfl (hb hby d3_23) rfl ?_
          show Steps p.tables e below (s₁.setTop (mkF m 24 #[.val (.int u0), .val (.long ((u0.toInt64) - (48 : Int64))), .second, .unset, .unset] [(.int u0)])) _
          refine XS.bipush X0.here hx rfl (hb hby d3_24) ?_
          show Steps p.tables e below (s₁.setTop (mkF m 26 #[.val (.int u0), .val (.long ((u0.toInt64) - (48 : Int64))), .second, .unset, .unset] [(.int (32 : Int32)), (.int u0)])) _
          refine XS.ior X0.here hx rfl (hb hby d3_26) rfl ?_
          show Steps p.tables e below (s₁.setTop (mkF m 27 #[.val (.int u0), .val (.long ((u0.toInt64) - (48 : Int64))), .second, .unset, .unset] [(.int (u0 ||| (32 : Int32)))])) _
          refine XS.i2l X0.here hx rfl (hb hby d3_27) rfl ?_
          show Steps p.tables e below (s₁.setTop (mkF m 28 #[.val (.int u0), .val (.long ((u0.toInt64) - (48 : Int64))), .second, .unset, .unset] [(.long ((u0 ||| (32 : Int32)).toInt64))])) _
          refine st5 _ ?_
          show Steps p.tables e below (s₁.setTop (mkF m 31 #[.val (.int u0), .val (.long ((u0.toInt64) - (48 : Int64))), .second, .unset, .unset] [(.long (97 : Int64)), (.long ((u0 ||| (32 : Int32)).toInt64))])) _
          refine XS.lsub X0.here hx rfl (hb hby d3_31) rfl ?_
          show Steps p.tables e below (s₁.setTop (mkF m 32 #[.val (.int u0), .val (.long ((u0.toInt64) - (48 : Int64))), .second, .unset, .unset] [(.long (((u0 ||| (32 : Int32)).toInt64) - (97 : Int64)))])) _
          refine XS.lstoreN X0.here hx rfl (hb hby d3_32) rfl (l' := #[.val (.int u0), .val (.long ((u0.toInt64) - (48 : Int64))), .second, .val (.long (((u0 ||| (32 : Int32)).toInt64) - (97 : Int64))), .second]) rfl ?_
          show Steps p.tables e below (s₁.setTop (mkF m 33 #[.val (.int u0), .val (.long ((u0.toInt64) - (48 : Int64))), .second, .val (.long (((u0 ||| (32 : Int32)).toInt64) - (97 : Int64))), .second] [])) _
          refine XS.lloadN X0.here hx rfl (hb hby d3_33) rfl ?_
          show Steps p.tables e below (s₁.setTop (mkF m 34 #[.val (.int u0), .val (.long ((u0.toInt64) - (48 : Int64))), .second, .val (.long (((u0 ||| (32 : Int32)).toInt64) - (97 : Int64))), .second] [(.long (((u0 ||| (32 : Int32)).toInt64) - (97 : Int64)))])) _
          refine XS.lconst X0.here hx rfl (hb hby d3_34) ?_
          show Steps p.tables e below (s₁.setTop (mkF m 35 #[.val (.int u0), .val (.long ((u0.toInt64) - (48 : Int64))), .second, .val (.long (((u0 ||| (32 : Int32)).toInt64) - (97 : Int64))), .second] [(.long (0 : Int64)), (.long (((u0 ||| (32 : Int32)).toInt64) - (97 : Int64)))])) _
          refine XS.lcmp X0.here hx rfl (hb hby d3_35) rfl ?_
          show Steps p.tables e below (s₁.setTop (mkF m 36 #[.val (.int u0), .val (.long ((u0.toInt64) - (48 : Int64))), .second, .val (.long (((u0 ||| (32 : Int32)).toInt64) - (97 : Int64))), .second] [(.int (lcmpW (((u0 ||| (32 : Int32)).toInt64) - (97 : Int64)) (0 : Int64)))])) _
          refine XS.ifYes X0.here hx rfl (pc0 := 36) (pc' := 51) rfl (hb hby d3_36) rfl ((if0 _ _).trans (tlt hc36).1) (by decide) (by decide) ?_
          show Steps p.tables e below (s₁.setTop (mkF m 51 #[.val (.int u0), .val (.long ((u0.toInt64) - (48 : Int64))), .second, .val (.long (((u0 ||| (32 : Int32)).toInt64) - (97 : Int64))), .second] [])) _
          refine XS.iconst X0.here hx rfl (hb hby d3_51) ?_
          show Steps p.tables e below (s₁.setTop (mkF m 52 #[.val (.int u0), .val (.long ((u0.toInt64) - (48 : Int64))), .second, .val (.long (((u0 ||| (32 : Int32)).toInt64) - (97 : Int64))), .second] [(.int (0 : Int32))])) _
          exact retN X0 hx (t := .boolean) Bd.returns (by simp) (hb hby d3_52) hr
        · show Q3 Z u0 h0 n0 _ s₁.heap _
          rw [e0]
          exact ⟨(by rw [hv]), N0, rfl⟩
      · have st6 := X0.ldc2Long hx hown (mvT hZ (hw _ (List.mem_of_getElem? (i := 14) rfl))) (g := (mkF m 40 #[.val (.int u0), .val (.long ((u0.toInt64) - (48 : Int64))), .second, .val (.long (((u0 ||| (32 : Int32)).toInt64) - (97 : Int64))), .second] [(.long (((u0 ||| (32 : Int32)).toInt64) - (97 : Int64)))])) rfl (hb hby d3_40)
        by_cases hc44 : (lcmpW (((u0 ||| (32 : Int32)).toInt64) - (97 : Int64)) (6 : Int64)) < (0 : Int32)
        · have hv : refHex u0 = (1 : Int32) := by
            rw [own_ll (k := 48) (j := 0) (by decide) (by decide) (by decide) (by decide)] at hc10
            rw [own_ll (k := 48) (j := 10) (by decide) (by decide) (by decide) (by decide)] at hc18
            rw [own_ll (k := 97) (j := 0) (by decide) (by decide) (by decide) (by decide)] at hc36
            rw [own_ll (k := 97) (j := 6) (by decide) (by decide) (by decide) (by decide)] at hc44
            unfold refHex
            exact if_pos (by omega)
          obtain ⟨fs, hr, hrun, hended, hW, hsame⟩ := X0.leave (v := some (.int (1 : Int32))) (fun h => by rw [Bd.returns] at h; cases h)
          refine ⟨_, _, pre0 _ ?_, hrun, hended, _, _, rfl, ?_, ⟨_, rfl⟩, hW, hsame.mono (by decide) (by decide)⟩
          · show Steps p.tables e below (s₁.setTop (mkF m 0 #[.val (.int u0), .unset, .unset, .unset, .unset] [])) _
            refine XS.iloadN X0.here hx rfl (hb hby d3_0) rfl ?_
            show Steps p.tables e below (s₁.setTop (mkF m 1 #[.val (.int u0), .unset, .unset, .unset, .unset] [(.int u0)])) _
            refine XS.i2l X0.here hx rfl (hb hby d3_1) rfl ?_
            show Steps p.tables e below (s₁.setTop (mkF m 2 #[.val (.int u0), .unset, .unset, .unset, .unset] [(.long (u0.toInt64))])) _
            refine st1 _ ?_
            show Steps p.tables e below (s₁.setTop (mkF m 5 #[.val (.int u0), .unset, .unset, .unset, .unset] [(.long (48 : Int64)), (.long (u0.toInt64))])) _
            refine XS.lsub X0.here hx rfl (hb hby d3_5) rfl ?_
            show Steps p.tables e below (s₁.setTop (mkF m 6 #[.val (.int u0), .unset, .unset, .unset, .unset] [(.long ((u0.toInt64) - (48 : Int64)))])) _
            refine XS.lstoreN X0.here hx rfl (hb hby d3_6) rfl (l' := #[.val (.int u0), .val (.long ((u0.toInt64) - (48 : Int64))), .second, .unset, .unset]) rfl ?_
            show Steps p.tables e below (s₁.setTop (mkF m 7 #[.val (.int u0), .val (.long ((u0.toInt64) - (48 : Int64))), .second, .unset, .unset] [])) _
            refine XS.lloadN X0.here hx rfl (hb hby d3_7) rfl ?_
            show Steps p.tables e below (s₁.setTop (mkF m 8 #[.val (.int u0), .val (.long ((u0.toInt64) - (48 : Int64))), .second, .unset, .unset] [(.long ((u0.toInt64) - (48 : Int64)))])) _
            refine XS.lconst X0.here hx rfl (hb hby d3_8) ?_
            show Steps p.tables e below (s₁.setTop (mkF m 9 #[.val (.int u0), .val (.long ((u0.toInt64) - (48 : Int64))), .second, .unset, .unset] [(.long (0 : Int64)), (.long ((u0.toInt64) - (48 : Int64)))])) _
            refine XS.lcmp X0.here hx rfl (hb hby d3_9) rfl ?_
            show Steps p.tables e below (s₁.setTop (mkF m 10 #[.val (.int u0), .val (.long ((u0.toInt64) - (48 : Int64))), .second, .unset, .unset] [(.int (lcmpW ((u0.toInt64) - (48 : Int64)) (0 : Int64)))])) _
            refine XS.ifNo X0.here hx rfl (hb hby d3_10) rfl ((if0 _ _).trans (flt hc10).1) ?_
            show Steps p.tables e below (s₁.setTop (mkF m 13 #[.val (.int u0), .val (.long ((u0.toInt64) - (48 : Int64))), .second, .unset, .unset] [])) _
            refine XS.lloadN X0.here hx rfl (hb hby d3_13) rfl ?_
            show Steps p.tables e below (s₁.setTop (mkF m 14 #[.val (.int u0), .val (.long ((u0.toInt64) - (48 : Int64))), .second, .unset, .unset] [(.long ((u0.toInt64) - (48 : Int64)))])) _
            refine st4 _ ?_
            show Steps p.tables e below (s₁.setTop (mkF m 17 #[.val (.int u0), .val (.long ((u0.toInt64) - (48 : Int64))), .second, .unset, .unset] [(.long (10 : Int64)), (.long ((u0.toInt64) - (48 : Int64)))])) _
            refine XS.lcmp X0.here hx rfl (hb hby d3_17) rfl ?_
            show Steps p.tables e below (s₁.setTop (mkF m 18 #[.val (.int u0), .val (.long ((u0.toInt64) - (48 : Int64))), .second, .unset, .unset] [(.int (lcmpW ((u0.toInt64) - (48 : Int64)) (10 : Int64)))])) _
            refine XS.ifYes X0.here hx rfl (pc0 := 18) (pc' := 23) rfl (hb hby d3_18) rfl ((if0 _ _).trans (flt hc18).2.1) (by decide) (by decide) ?_
            show Steps p.tables e below (s₁.setTop (mkF m 23 #[.val (.int u0), .val (.long ((u0.toInt64) - (48 : Int64))), .second, .unset, .unset] [])) _
            refine XS.iloadN X0.here hx rfl (hb hby d3_23) rfl ?_
            show Steps p.tables e below (s₁.setTop (mkF m 24 #[.val (.int u0), .val (.long ((u0.toInt64) - (48 : Int64))), .second, .unset, .unset] [(.int u0)])) _
            refine XS.bipush X0.here hx rfl (hb hby d3_24) ?_
            show Steps p.tables e below (s₁.setTop (mkF m 26 #[.val (.int u0), .val (.long ((u0.toInt64) - (48 : Int64))), .second, .unset, .unset] [(.int (32 : Int32)), (.int u0)])) _
            refine XS.ior X0.here hx rfl (hb hby d3_26) rfl ?_
            show Steps p.tables e below (s₁.setTop (mkF m 27 #[.val (.int u0), .val (.long ((u0.toInt64) - (48 : Int64))), .second, .unset, .unset] [(.int (u0 ||| (32 : Int32)))])) _
            refine XS.i2l X0.here hx rfl (hb hby d3_27) rfl ?_
            show Steps p.tables e below (s₁.setTop (mkF m 28 #[.val (.int u0), .val (.long ((u0.toInt64) - (48 : Int64))), .second, .unset, .unset] [(.long ((u0 ||| (32 : Int32)).toInt64))])) _
            refine st5 _ ?_
            show Steps p.tables e below (s₁.setTop (mkF m 31 #[.val (.int u0), .val (.long ((u0.toInt64) - (48 : Int64))), .second, .unset, .unset] [(.long (97 : Int64)), (.long ((u0 ||| (32 : Int32)).toInt64))])) _
            refine XS.lsub X0.here hx rfl (hb hby d3_31) rfl ?_
            show Steps p.tables e below (s₁.setTop (mkF m 32 #[.val (.int u0), .val (.long ((u0.toInt64) - (48 : Int64))), .second, .unset, .unset] [(.long (((u0 ||| (32 : Int32)).toInt64) - (97 : Int64)))])) _
            refine XS.lstoreN X0.here hx rfl (hb hby d3_32) rfl (l' := #[.val (.int u0), .val (.long ((u0.toInt64) - (48 : Int64))), .second, .val (.long (((u0 ||| (32 : Int32)).toInt64) - (97 : Int64))), .second]) rfl ?_
            show Steps p.tables e below (s₁.setTop (mkF m 33 #[.val (.int u0), .val (.long ((u0.toInt64) - (48 : Int64))), .second, .val (.long (((u0 ||| (32 : Int32)).toInt64) - (97 : Int64))), .second] [])) _
            refine XS.lloadN X0.here hx rfl (hb hby d3_33) rfl ?_
            show Steps p.tables e below (s₁.setTop (mkF m 34 #[.val (.int u0), .val (.long ((u0.toInt64) - (48 : Int64))), .second, .val (.long (((u0 ||| (32 : Int32)).toInt64) - (97 : Int64))), .second] [(.long (((u0 ||| (32 : Int32)).toInt64) - (97 : Int64)))])) _
            refine XS.lconst X0.here hx rfl (hb hby d3_34) ?_
            show Steps p.tables e below (s₁.setTop (mkF m 35 #[.val (.int u0), .val (.long ((u0.toInt64) - (48 : Int64))), .second, .val (.long (((u0 ||| (32 : Int32)).toInt64) - (97 : Int64))), .second] [(.long (0 : Int64)), (.long (((u0 ||| (32 : Int32)).toInt64) - (97 : Int64)))])) _
            refine XS.lcmp X0.here hx rfl (hb hby d3_35) rfl ?_
            show Steps p.tables e below (s₁.setTop (mkF m 36 #[.val (.int u0), .val (.long ((u0.toInt64) - (48 : Int64))), .second, .val (.long (((u0 ||| (32 : Int32)).toInt64) - (97 : Int64))), .second] [(.int (lcmpW (((u0 ||| (32 : Int32)).toInt64) - (97 : Int64)) (0 : Int64)))])) _
            refine XS.ifNo X0.here hx rfl (hb hby d3_36) rfl ((if0 _ _).trans (flt hc36).1) ?_
            show Steps p.tables e below (s₁.setTop (mkF m 39 #[.val (.int u0), .val (.long ((u0.toInt64) - (48 : Int64))), .second, .val (.long (((u0 ||| (32 : Int32)).toInt64) - (97 : Int64))), .second] [])) _
            refine XS.lloadN X0.here hx rfl (hb hby d3_39) rfl ?_
            show Steps p.tables e below (s₁.setTop (mkF m 40 #[.val (.int u0), .val (.long ((u0.toInt64) - (48 : Int64))), .second, .val (.long (((u0 ||| (32 : Int32)).toInt64) - (97 : Int64))), .second] [(.long (((u0 ||| (32 : Int32)).toInt64) - (97 : Int64)))])) _
            refine st6 _ ?_
            show Steps p.tables e below (s₁.setTop (mkF m 43 #[.val (.int u0), .val (.long ((u0.toInt64) - (48 : Int64))), .second, .val (.long (((u0 ||| (32 : Int32)).toInt64) - (97 : Int64))), .second] [(.long (6 : Int64)), (.long (((u0 ||| (32 : Int32)).toInt64) - (97 : Int64)))])) _
            refine XS.lcmp X0.here hx rfl (hb hby d3_43) rfl ?_
            show Steps p.tables e below (s₁.setTop (mkF m 44 #[.val (.int u0), .val (.long ((u0.toInt64) - (48 : Int64))), .second, .val (.long (((u0 ||| (32 : Int32)).toInt64) - (97 : Int64))), .second] [(.int (lcmpW (((u0 ||| (32 : Int32)).toInt64) - (97 : Int64)) (6 : Int64)))])) _
            refine XS.ifNo X0.here hx rfl (hb hby d3_44) rfl ((if0 _ _).trans (tlt hc44).2.1) ?_
            show Steps p.tables e below (s₁.setTop (mkF m 47 #[.val (.int u0), .val (.long ((u0.toInt64) - (48 : Int64))), .second, .val (.long (((u0 ||| (32 : Int32)).toInt64) - (97 : Int64))), .second] [])) _
            refine XS.iconst X0.here hx rfl (hb hby d3_47) ?_
            show Steps p.tables e below (s₁.setTop (mkF m 48 #[.val (.int u0), .val (.long ((u0.toInt64) - (48 : Int64))), .second, .val (.long (((u0 ||| (32 : Int32)).toInt64) - (97 : Int64))), .second] [(.int (1 : Int32))])) _
            refine XS.goto X0.here hx rfl (pc0 := 48) (pc' := 52) rfl (hb hby d3_48) (by decide) (by decide) ?_
            show Steps p.tables e below (s₁.setTop (mkF m 52 #[.val (.int u0), .val (.long ((u0.toInt64) - (48 : Int64))), .second, .val (.long (((u0 ||| (32 : Int32)).toInt64) - (97 : Int64))), .second] [(.int (1 : Int32))])) _
            exact retN X0 hx (t := .boolean) Bd.returns (by simp) (hb hby d3_52) hr
          · show Q3 Z u0 h0 n0 _ s₁.heap _
            rw [e0]
            exact ⟨(by rw [hv]), N0, rfl⟩
        · have hv : refHex u0 = (0 : Int32) := by
            rw [own_ll (k := 48) (j := 0) (by decide) (by decide) (by decide) (by decide)] at hc10
            rw [own_ll (k := 48) (j := 10) (by decide) (by decide) (by decide) (by decide)] at hc18
            rw [own_ll (k := 97) (j := 0) (by decide) (by decide) (by decide) (by decide)] at hc36
            rw [own_ll (k := 97) (j := 6) (by decide) (by decide) (by decide) (by decide)] at hc44
            unfold refHex
            exact if_neg (by omega)
          obtain ⟨fs, hr, hrun, hended, hW, hsame⟩ := X0.leave (v := some (.int (0 : Int32))) (fun h => by rw [Bd.returns] at h; cases h)
          refine ⟨_, _, pre0 _ ?_, hrun, hended, _, _, rfl, ?_, ⟨_, rfl⟩, hW, hsame.mono (by decide) (by decide)⟩
          · show Steps p.tables e below (s₁.setTop (mkF m 0 #[.val (.int u0), .unset, .unset, .unset, .unset] [])) _
            refine XS.iloadN X0.here hx rfl (hb hby d3_0) rfl ?_
            show Steps p.tables e below (s₁.setTop (mkF m 1 #[.val (.int u0), .unset, .unset, .unset, .unset] [(.int u0)])) _
            refine XS.i2l X0.here hx rfl (hb hby d3_1) rfl ?_
            show Steps p.tables e below (s₁.setTop (mkF m 2 #[.val (.int u0), .unset, .unset, .unset, .unset] [(.long (u0.toInt64))])) _
            refine st1 _ ?_
            show Steps p.tables e below (s₁.setTop (mkF m 5 #[.val (.int u0), .unset, .unset, .unset, .unset] [(.long (48 : Int64)), (.long (u0.toInt64))])) _
            refine XS.lsub X0.here hx rfl (hb hby d3_5) rfl ?_
            show Steps p.tables e below (s₁.setTop (mkF m 6 #[.val (.int u0), .unset, .unset, .unset, .unset] [(.long ((u0.toInt64) - (48 : Int64)))])) _
            refine XS.lstoreN X0.here hx rfl (hb hby d3_6) rfl (l' := #[.val (.int u0), .val (.long ((u0.toInt64) - (48 : Int64))), .second, .unset, .unset]) rfl ?_
            show Steps p.tables e below (s₁.setTop (mkF m 7 #[.val (.int u0), .val (.long ((u0.toInt64) - (48 : Int64))), .second, .unset, .unset] [])) _
            refine XS.lloadN X0.here hx rfl (hb hby d3_7) rfl ?_
            show Steps p.tables e below (s₁.setTop (mkF m 8 #[.val (.int u0), .val (.long ((u0.toInt64) - (48 : Int64))), .second, .unset, .unset] [(.long ((u0.toInt64) - (48 : Int64)))])) _
            refine XS.lconst X0.here hx rfl (hb hby d3_8) ?_
            show Steps p.tables e below (s₁.setTop (mkF m 9 #[.val (.int u0), .val (.long ((u0.toInt64) - (48 : Int64))), .second, .unset, .unset] [(.long (0 : Int64)), (.long ((u0.toInt64) - (48 : Int64)))])) _
            refine XS.lcmp X0.here hx rfl (hb hby d3_9) rfl ?_
            show Steps p.tables e below (s₁.setTop (mkF m 10 #[.val (.int u0), .val (.long ((u0.toInt64) - (48 : Int64))), .second, .unset, .unset] [(.int (lcmpW ((u0.toInt64) - (48 : Int64)) (0 : Int64)))])) _
            refine XS.ifNo X0.here hx rfl (hb hby d3_10) rfl ((if0 _ _).trans (flt hc10).1) ?_
            show Steps p.tables e below (s₁.setTop (mkF m 13 #[.val (.int u0), .val (.long ((u0.toInt64) - (48 : Int64))), .second, .unset, .unset] [])) _
            refine XS.lloadN X0.here hx rfl (hb hby d3_13) rfl ?_
            show Steps p.tables e below (s₁.setTop (mkF m 14 #[.val (.int u0), .val (.long ((u0.toInt64) - (48 : Int64))), .second, .unset, .unset] [(.long ((u0.toInt64) - (48 : Int64)))])) _
            refine st4 _ ?_
            show Steps p.tables e below (s₁.setTop (mkF m 17 #[.val (.int u0), .val (.long ((u0.toInt64) - (48 : Int64))), .second, .unset, .unset] [(.long (10 : Int64)), (.long ((u0.toInt64) - (48 : Int64)))])) _
            refine XS.lcmp X0.here hx rfl (hb hby d3_17) rfl ?_
            show Steps p.tables e below (s₁.setTop (mkF m 18 #[.val (.int u0), .val (.long ((u0.toInt64) - (48 : Int64))), .second, .unset, .unset] [(.int (lcmpW ((u0.toInt64) - (48 : Int64)) (10 : Int64)))])) _
            refine XS.ifYes X0.here hx rfl (pc0 := 18) (pc' := 23) rfl (hb hby d3_18) rfl ((if0 _ _).trans (flt hc18).2.1) (by decide) (by decide) ?_
            show Steps p.tables e below (s₁.setTop (mkF m 23 #[.val (.int u0), .val (.long ((u0.toInt64) - (48 : Int64))), .second, .unset, .unset] [])) _
            refine XS.iloadN X0.here hx rfl (hb hby d3_23) rfl ?_
            show Steps p.tables e below (s₁.setTop (mkF m 24 #[.val (.int u0), .val (.long ((u0.toInt64) - (48 : Int64))), .second, .unset, .unset] [(.int u0)])) _
            refine XS.bipush X0.here hx rfl (hb hby d3_24) ?_
            show Steps p.tables e below (s₁.setTop (mkF m 26 #[.val (.int u0), .val (.long ((u0.toInt64) - (48 : Int64))), .second, .unset, .unset] [(.int (32 : Int32)), (.int u0)])) _
            refine XS.ior X0.here hx rfl (hb hby d3_26) rfl ?_
            show Steps p.tables e below (s₁.setTop (mkF m 27 #[.val (.int u0), .val (.long ((u0.toInt64) - (48 : Int64))), .second, .unset, .unset] [(.int (u0 ||| (32 : Int32)))])) _
            refine XS.i2l X0.here hx rfl (hb hby d3_27) rfl ?_
            show Steps p.tables e below (s₁.setTop (mkF m 28 #[.val (.int u0), .val (.long ((u0.toInt64) - (48 : Int64))), .second, .unset, .unset] [(.long ((u0 ||| (32 : Int32)).toInt64))])) _
            refine st5 _ ?_
            show Steps p.tables e below (s₁.setTop (mkF m 31 #[.val (.int u0), .val (.long ((u0.toInt64) - (48 : Int64))), .second, .unset, .unset] [(.long (97 : Int64)), (.long ((u0 ||| (32 : Int32)).toInt64))])) _
            refine XS.lsub X0.here hx rfl (hb hby d3_31) rfl ?_
            show Steps p.tables e below (s₁.setTop (mkF m 32 #[.val (.int u0), .val (.long ((u0.toInt64) - (48 : Int64))), .second, .unset, .unset] [(.long (((u0 ||| (32 : Int32)).toInt64) - (97 : Int64)))])) _
            refine XS.lstoreN X0.here hx rfl (hb hby d3_32) rfl (l' := #[.val (.int u0), .val (.long ((u0.toInt64) - (48 : Int64))), .second, .val (.long (((u0 ||| (32 : Int32)).toInt64) - (97 : Int64))), .second]) rfl ?_
            show Steps p.tables e below (s₁.setTop (mkF m 33 #[.val (.int u0), .val (.long ((u0.toInt64) - (48 : Int64))), .second, .val (.long (((u0 ||| (32 : Int32)).toInt64) - (97 : Int64))), .second] [])) _
            refine XS.lloadN X0.here hx rfl (hb hby d3_33) rfl ?_
            show Steps p.tables e below (s₁.setTop (mkF m 34 #[.val (.int u0), .val (.long ((u0.toInt64) - (48 : Int64))), .second, .val (.long (((u0 ||| (32 : Int32)).toInt64) - (97 : Int64))), .second] [(.long (((u0 ||| (32 : Int32)).toInt64) - (97 : Int64)))])) _
            refine XS.lconst X0.here hx rfl (hb hby d3_34) ?_
            show Steps p.tables e below (s₁.setTop (mkF m 35 #[.val (.int u0), .val (.long ((u0.toInt64) - (48 : Int64))), .second, .val (.long (((u0 ||| (32 : Int32)).toInt64) - (97 : Int64))), .second] [(.long (0 : Int64)), (.long (((u0 ||| (32 : Int32)).toInt64) - (97 : Int64)))])) _
            refine XS.lcmp X0.here hx rfl (hb hby d3_35) rfl ?_
            show Steps p.tables e below (s₁.setTop (mkF m 36 #[.val (.int u0), .val (.long ((u0.toInt64) - (48 : Int64))), .second, .val (.long (((u0 ||| (32 : Int32)).toInt64) - (97 : Int64))), .second] [(.int (lcmpW (((u0 ||| (32 : Int32)).toInt64) - (97 : Int64)) (0 : Int64)))])) _
            refine XS.ifNo X0.here hx rfl (hb hby d3_36) rfl ((if0 _ _).trans (flt hc36).1) ?_
            show Steps p.tables e below (s₁.setTop (mkF m 39 #[.val (.int u0), .val (.long ((u0.toInt64) - (48 : Int64))), .second, .val (.long (((u0 ||| (32 : Int32)).toInt64) - (97 : Int64))), .second] [])) _
            refine XS.lloadN X0.here hx rfl (hb hby d3_39) rfl ?_
            show Steps p.tables e below (s₁.setTop (mkF m 40 #[.val (.int u0), .val (.long ((u0.toInt64) - (48 : Int64))), .second, .val (.long (((u0 ||| (32 : Int32)).toInt64) - (97 : Int64))), .second] [(.long (((u0 ||| (32 : Int32)).toInt64) - (97 : Int64)))])) _
            refine st6 _ ?_
            show Steps p.tables e below (s₁.setTop (mkF m 43 #[.val (.int u0), .val (.long ((u0.toInt64) - (48 : Int64))), .second, .val (.long (((u0 ||| (32 : Int32)).toInt64) - (97 : Int64))), .second] [(.long (6 : Int64)), (.long (((u0 ||| (32 : Int32)).toInt64) - (97 : Int64)))])) _
            refine XS.lcmp X0.here hx rfl (hb hby d3_43) rfl ?_
            show Steps p.tables e below (s₁.setTop (mkF m 44 #[.val (.int u0), .val (.long ((u0.toInt64) - (48 : Int64))), .second, .val (.long (((u0 ||| (32 : Int32)).toInt64) - (97 : Int64))), .second] [(.int (lcmpW (((u0 ||| (32 : Int32)).toInt64) - (97 : Int64)) (6 : Int64)))])) _
            refine XS.ifYes X0.here hx rfl (pc0 := 44) (pc' := 51) rfl (hb hby d3_44) rfl ((if0 _ _).trans (flt hc44).2.1) (by decide) (by decide) ?_
            show Steps p.tables e below (s₁.setTop (mkF m 51 #[.val (.int u0), .val (.long ((u0.toInt64) - (48 : Int64))), .second, .val (.long (((u0 ||| (32 : Int32)).toInt64) - (97 : Int64))), .second] [])) _
            refine XS.iconst X0.here hx rfl (hb hby d3_51) ?_
            show Steps p.tables e below (s₁.setTop (mkF m 52 #[.val (.int u0), .val (.long ((u0.toInt64) - (48 : Int64))), .second, .val (.long (((u0 ||| (32 : Int32)).toInt64) - (97 : Int64))), .second] [(.int (0 : Int32))])) _
            exact retN X0 hx (t := .boolean) Bd.returns (by simp) (hb hby d3_52) hr
          · show Q3 Z u0 h0 n0 _ s₁.heap _
            rw [e0]
            exact ⟨(by rw [hv]), N0, rfl⟩
theorem pd_0 : parseMethodDescriptor "(I)Z" = some ⟨[.int], some .boolean⟩ := by decide +kernel
theorem d1_0 : decode method_3_code 0 = .ok (.iload_n 0, 1) := by decide +kernel
theorem d1_1 : decode method_3_code 1 = .ok (.invokestatic 15, 3) := by decide +kernel
theorem d1_4 : decode method_3_code 4 = .ok (.iload_n 0, 1) := by decide +kernel
theorem d1_5 : decode method_3_code 5 = .ok (.invokestatic 21, 3) := by decide +kernel
theorem d1_8 : decode method_3_code 8 = .ok (.if_icmp .ne 7, 3) := by decide +kernel
theorem d1_11 : decode method_3_code 11 = .ok (.iconst 1, 1) := by decide +kernel
theorem d1_12 : decode method_3_code 12 = .ok (.goto 4, 3) := by decide +kernel
theorem d1_16 : decode method_3_code 16 = .ok (.ireturn, 1) := by decide +kernel
theorem ef_1 (m : MethodId) (u0 : Int32) : entryFrame m #[(.int u0)] 1 = mkF m 0 #[.val (.int u0)] [] := by first | (simp [entryFrame, mkF, argsToLocals, Value.category]; done) | rfl
def Q1 (Z : State) (u0 : Int32) (h0 : Heap) (n0 : Nat) (v : Option Value) (h : Heap) (L : List Loc) : Prop := v = some (.int (1 : Int32)) ∧ Fr n0 L ∧ h = h0
set_option maxRecDepth 65536 in
set_option maxHeartbeats 40000000 in
theorem rm1 (l : Launch) (Z : State) (a0 : Array Value) (hw : ∀ d ∈ tables_1, d.before a0 Z = true) (ws : List Jvm.Cond) (u0 : Int32) (h0 : Heap) (n0 : Nat) (Z0 : n0 ≤ h0.size) :
    MetFree l (⟨"com/example/triplewright/triplewright/rdf/IrisIsHexDigitPinLaw", "agrees", "(I)Z"⟩ : MethodName) (head1 (Jvm.Cond.code (⟨"com/example/triplewright/triplewright/rdf/IrisIsHexDigitPinLaw", "agrees", "(I)Z"⟩ : MethodName) method_3_code 1 (some .boolean) :: ws) ({ frames := 1, cells := 0, slots := 0, locals := 17 } : Room)) (fun a U => a = #[(.int u0)] ∧ Z.Warmed39 U.vm ∧ U.heap = h0) (fun _ _ _ _ _ => True) (fun _ U o U' => ∃ v L, o = .returned v ∧ Q1 Z u0 h0 n0 v U'.heap L ∧ FrameEnd U o U' L ({ frames := 1, cells := 0, slots := 0, locals := 17 } : Room).cells ({ frames := 1, cells := 0, slots := 0, locals := 17 } : Room).slots) := by
  refine MetFree.of_bodySF (plainFor_of_name pn_com_example_triplewright_triplewright_rdf_IrisIsHexDigitPinLaw) hisR ?_
  intro p e s m args below meth c s₁ Bd hml0 hP hK
  obtain ⟨rfl, hZ, hh⟩ := hP
  have hx := Bd.exec
  have hby := Bd.bytes
  have hml : c.maxLocals = 1 := hml0
  have hown : s.vm.findClass "com/example/triplewright/triplewright/rdf/IrisIsHexDigitPinLaw" = some m.cls := findClass_of_methodNamed Bd.named
  have hnm := (name_of_methodNamed Bd.named Bd.method).1
  have X0 : Stand p l e ({ frames := 1, cells := 0, slots := 0, locals := 17 } : Room) s m #[(.int u0)] below meth c s₁ [] 0 0 := Stand.of_body Bd
  have e0 : s₁.heap = h0 := by rw [← hh, Bd.state]; rfl
  have N0 := Fr.nil n0
  have pre0 : ∀ t, Steps p.tables e below (s₁.setTop (mkF m 0 #[.val (.int u0)] [])) t → Steps p.tables e below (s₁.setTop (entryFrame m #[(.int u0)] 1)) t := fun t k => castTop (ef_1 m u0) k
  obtain ⟨_, _, ⟨T1, L1, k1, n1⟩, -, X1, ⟨Lc1, hQ1, l1, y1, z1⟩, st1⟩ := Jvm.LawKit.callS X0 hx (y := (⟨"com/example/triplewright/triplewright/rdf/Iris", "isHexDigit", "(I)Z"⟩ : MethodName)) hown (mvT hZ (hw _ (List.mem_of_getElem? (i := 4) rfl))) (mvT hZ (hw _ (List.mem_of_getElem? (i := 5) rfl))) (mvT hZ (hw _ (List.mem_of_getElem? (i := 6) rfl))) (mvT hZ (hw _ (List.mem_of_getElem? (i := 7) rfl))) (by decide) (backOf (W := 0) (rm2 l Z a0 hw [] u0 h0 n0 Z0 ) hZ (hw _ (List.mem_of_getElem? (i := 7) rfl)) (hw _ (List.mem_of_getElem? (i := 6) rfl)) (by decide) (by decide)) (g := (mkF m 1 #[.val (.int u0)] [(.int u0)])) rfl (by rw [hml]; rfl) (argsL := [(.int u0)]) (rest := []) (lenOf pd_0 rfl) rfl (by show 2 * 0 + _ ≤ _; exact Nat.le_of_eq rfl) (hb hby d1_1) (fun _ _ => ⟨rfl, e0, (by decide : 0 + 0 ≤ _), (by decide : 0 + 0 ≤ _)⟩)
  dsimp only [Pt.U, Pt.locs, Pt.cells, Pt.slots] at X1 l1 y1 z1 st1 hQ1
  subst l1 y1 z1
  obtain ⟨rfl, N1q, e1⟩ := hQ1
  have N1 := Fr.app N0 N1q
  obtain ⟨_, _, ⟨T2, L2, k2, n2⟩, -, X2, ⟨Lc2, hQ2, l2, y2, z2⟩, st2⟩ := Jvm.LawKit.callS X1 hx (y := (⟨"com/example/triplewright/triplewright/rdf/IrisIsHexDigitPinLaw", "reference", "(I)Z"⟩ : MethodName)) hown (mvT hZ (hw _ (List.mem_of_getElem? (i := 8) rfl))) (mvT hZ (hw _ (List.mem_of_getElem? (i := 9) rfl))) (mvT hZ (hw _ (List.mem_of_getElem? (i := 2) rfl))) (mvT hZ (hw _ (List.mem_of_getElem? (i := 10) rfl))) (by decide) (backOf (W := 1) (rm3 l Z a0 hw [] u0 h0 n0 Z0 ) hZ (hw _ (List.mem_of_getElem? (i := 10) rfl)) (hw _ (List.mem_of_getElem? (i := 2) rfl)) (by decide) (by decide)) (g := (mkF m 5 #[.val (.int u0)] [(.int u0), (.int (isHex u0))])) rfl (by rw [hml]; rfl) (argsL := [(.int u0)]) (rest := [(.int (isHex u0))]) (lenOf pd_0 rfl) rfl (by show 2 * 0 + _ ≤ _; exact Nat.le_of_eq rfl) (hb hby d1_5) (fun _ _ => ⟨rfl, e1, (by decide : 0 + 0 ≤ _), (by decide : 0 + 0 ≤ _)⟩)
  dsimp only [Pt.U, Pt.locs, Pt.cells, Pt.slots] at X2 l2 y2 z2 st2 hQ2
  subst l2 y2 z2
  obtain ⟨rfl, N2q, e2⟩ := hQ2
  have N2 := Fr.app N1 N2q
  obtain ⟨fs, hr, hrun, hended, hW, hsame⟩ := X2.leave (v := some (.int (1 : Int32))) (fun h => by rw [Bd.returns] at h; cases h)
  refine ⟨_, _, pre0 _ ?_, hrun, hended, _, _, rfl, ?_, ⟨_, rfl⟩, hW, hsame.mono (by decide) (by decide)⟩
  · show Steps p.tables e below (s₁.setTop (mkF m 0 #[.val (.int u0)] [])) _
    refine XS.iloadN X0.here hx rfl (hb hby d1_0) rfl ?_
    show Steps p.tables e below (s₁.setTop (mkF m 1 #[.val (.int u0)] [(.int u0)])) _
    refine st1 _ ?_
    show Steps p.tables e below (T1.setTop (mkF m 4 #[.val (.int u0)] [(.int (isHex u0))])) _
    refine XS.iloadN X1.here hx rfl (hb hby d1_4) rfl ?_
    show Steps p.tables e below (T1.setTop (mkF m 5 #[.val (.int u0)] [(.int u0), (.int (isHex u0))])) _
    refine st2 _ ?_
    show Steps p.tables e below (T2.setTop (mkF m 8 #[.val (.int u0)] [(.int (refHex u0)), (.int (isHex u0))])) _
    refine XS.icmpNo X2.here hx rfl (hb hby d1_8) rfl (teq (hex_eq u0)).2 ?_
    show Steps p.tables e below (T2.setTop (mkF m 11 #[.val (.int u0)] [])) _
    refine XS.iconst X2.here hx rfl (hb hby d1_11) ?_
    show Steps p.tables e below (T2.setTop (mkF m 12 #[.val (.int u0)] [(.int (1 : Int32))])) _
    refine XS.goto X2.here hx rfl (pc0 := 12) (pc' := 16) rfl (hb hby d1_12) (by decide) (by decide) ?_
    show Steps p.tables e below (T2.setTop (mkF m 16 #[.val (.int u0)] [(.int (1 : Int32))])) _
    exact retN X2 hx (t := .boolean) Bd.returns (by simp) (hb hby d1_16) hr
  · show Q1 Z u0 h0 n0 _ T2.heap _
    rw [e2]
    exact ⟨rfl, N2, rfl⟩
theorem ef_0 (m : MethodId) (u0 : Int32) (u1 : Int32) : entryFrame m #[(.int u0), (.int u1)] maxLocals = mkF m 0 #[.val (.int u0), .val (.int u1), .unset] [] := by first | (simp [entryFrame, mkF, argsToLocals, Value.category, maxLocals]; done) | rfl
def Q0 (Z : State) (u0 : Int32) (u1 : Int32) (h0 : Heap) (n0 : Nat) (v : Option Value) (h : Heap) (L : List Loc) : Prop := v = some (.int (1 : Int32)) ∧ Fr n0 L
set_option maxRecDepth 65536 in
set_option maxHeartbeats 40000000 in
theorem rm0 (l : Launch) (Z : State) (a0 : Array Value) (hw : ∀ d ∈ tables_1, d.before a0 Z = true) (ws : List Jvm.Cond) (u0 : Int32) (u1 : Int32) (h0 : Heap) (n0 : Nat) (Z0 : n0 ≤ h0.size) :
    MetFree l x (head1 (Jvm.Cond.code x code maxLocals ret :: ws) room_1) (fun a U => a = #[(.int u0), (.int u1)] ∧ Z.Warmed39 U.vm ∧ U.heap = h0) (fun _ _ _ _ _ => True) (fun _ U o U' => ∃ v L, o = .returned v ∧ Q0 Z u0 u1 h0 n0 v U'.heap L ∧ FrameEnd U o U' L room_1.cells room_1.slots) := by
  refine MetFree.of_bodySF (plainFor_of_name pn_com_example_triplewright_triplewright_rdf_IrisIsHexDigitPinLaw) hisR ?_
  intro p e s m args below meth c s₁ Bd hml0 hP hK
  obtain ⟨rfl, hZ, hh⟩ := hP
  have hx := Bd.exec
  have hby := Bd.bytes
  have hml : c.maxLocals = 3 := hml0
  have hown : s.vm.findClass "com/example/triplewright/triplewright/rdf/IrisIsHexDigitPinLaw" = some m.cls := findClass_of_methodNamed Bd.named
  have hnm := (name_of_methodNamed Bd.named Bd.method).1
  have X0 : Stand p l e room_1 s m #[(.int u0), (.int u1)] below meth c s₁ [] 0 0 := Stand.of_body Bd
  have e0 : s₁.heap = h0 := by rw [← hh, Bd.state]; rfl
  have N0 := Fr.nil n0
  have pre0 : ∀ t, Steps p.tables e below (s₁.setTop (mkF m 0 #[.val (.int u0), .val (.int u1), .unset] [])) t → Steps p.tables e below (s₁.setTop (entryFrame m #[(.int u0), (.int u1)] maxLocals)) t := fun t k => castTop (ef_0 m u0 u1) k
  obtain ⟨_, _, ⟨T1, L1, k1, n1⟩, -, X1, ⟨Lc1, hQ1, l1, y1, z1⟩, st1⟩ := Jvm.LawKit.callS X0 hx (y := (⟨"com/example/triplewright/triplewright/rdf/IrisIsHexDigitPinLaw", "agrees", "(I)Z"⟩ : MethodName)) hown (mvT hZ (hw _ (List.mem_of_getElem? (i := 0) rfl))) (mvT hZ (hw _ (List.mem_of_getElem? (i := 1) rfl))) (mvT hZ (hw _ (List.mem_of_getElem? (i := 2) rfl))) (mvT hZ (hw _ (List.mem_of_getElem? (i := 3) rfl))) (by decide) (backOf (W := 0) (rm1 l Z a0 hw [] u0 h0 n0 Z0 ) hZ (hw _ (List.mem_of_getElem? (i := 3) rfl)) (hw _ (List.mem_of_getElem? (i := 2) rfl)) (by decide) (by decide)) (g := (mkF m 7 #[.val (.int u0), .val (.int u1), .val (.int (u1 &&& (255 : Int32)))] [(.int u0)])) rfl (by rw [hml]; rfl) (argsL := [(.int u0)]) (rest := []) (lenOf pd_0 rfl) rfl (by show 2 * 0 + _ ≤ _; exact Nat.le_of_eq rfl) (hb hby at_7) (fun _ _ => ⟨rfl, e0, (by decide : 0 + 0 ≤ _), (by decide : 0 + 0 ≤ _)⟩)
  dsimp only [Pt.U, Pt.locs, Pt.cells, Pt.slots] at X1 l1 y1 z1 st1 hQ1
  subst l1 y1 z1
  obtain ⟨rfl, N1q, e1⟩ := hQ1
  have N1 := Fr.app N0 N1q
  obtain ⟨_, _, ⟨T2, L2, k2, n2⟩, -, X2, ⟨Lc2, hQ2, l2, y2, z2⟩, st2⟩ := Jvm.LawKit.callS X1 hx (y := (⟨"com/example/triplewright/triplewright/rdf/IrisIsHexDigitPinLaw", "agrees", "(I)Z"⟩ : MethodName)) hown (mvT hZ (hw _ (List.mem_of_getElem? (i := 0) rfl))) (mvT hZ (hw _ (List.mem_of_getElem? (i := 1) rfl))) (mvT hZ (hw _ (List.mem_of_getElem? (i := 2) rfl))) (mvT hZ (hw _ (List.mem_of_getElem? (i := 3) rfl))) (by decide) (backOf (W := 0) (rm1 l Z a0 hw [] (u1 &&& (255 : Int32)) h0 n0 Z0 ) hZ (hw _ (List.mem_of_getElem? (i := 3) rfl)) (hw _ (List.mem_of_getElem? (i := 2) rfl)) (by decide) (by decide)) (g := (mkF m 14 #[.val (.int u0), .val (.int u1), .val (.int (u1 &&& (255 : Int32)))] [(.int (u1 &&& (255 : Int32)))])) rfl (by rw [hml]; rfl) (argsL := [(.int (u1 &&& (255 : Int32)))]) (rest := []) (lenOf pd_0 rfl) rfl (by show 2 * 0 + _ ≤ _; exact Nat.le_of_eq rfl) (hb hby at_14) (fun _ _ => ⟨rfl, e1, (by decide : 0 + 0 ≤ _), (by decide : 0 + 0 ≤ _)⟩)
  dsimp only [Pt.U, Pt.locs, Pt.cells, Pt.slots] at X2 l2 y2 z2 st2 hQ2
  subst l2 y2 z2
  obtain ⟨rfl, N2q, e2⟩ := hQ2
  have N2 := Fr.app N1 N2q
  obtain ⟨fs, hr, hrun, hended, hW, hsame⟩ := X2.leave (v := some (.int (1 : Int32))) (fun h => by rw [Bd.returns] at h; cases h)
  refine ⟨_, _, pre0 _ ?_, hrun, hended, _, _, rfl, ?_, ⟨_, rfl⟩, hW, hsame.mono (by decide) (by decide)⟩
  · show Steps p.tables e below (s₁.setTop (mkF m 0 #[.val (.int u0), .val (.int u1), .unset] [])) _
    refine XS.iloadN X0.here hx rfl (hb hby at_0) rfl ?_
    show Steps p.tables e below (s₁.setTop (mkF m 1 #[.val (.int u0), .val (.int u1), .unset] [(.int u1)])) _
    refine XS.sipush X0.here hx rfl (hb hby at_1) ?_
    show Steps p.tables e below (s₁.setTop (mkF m 4 #[.val (.int u0), .val (.int u1), .unset] [(.int (255 : Int32)), (.int u1)])) _
    refine XS.iand X0.here hx rfl (hb hby at_4) rfl ?_
    show Steps p.tables e below (s₁.setTop (mkF m 5 #[.val (.int u0), .val (.int u1), .unset] [(.int (u1 &&& (255 : Int32)))])) _
    refine XS.istoreN X0.here hx rfl (hb hby at_5) rfl (l' := #[.val (.int u0), .val (.int u1), .val (.int (u1 &&& (255 : Int32)))]) rfl ?_
    show Steps p.tables e below (s₁.setTop (mkF m 6 #[.val (.int u0), .val (.int u1), .val (.int (u1 &&& (255 : Int32)))] [])) _
    refine XS.iloadN X0.here hx rfl (hb hby at_6) rfl ?_
    show Steps p.tables e below (s₁.setTop (mkF m 7 #[.val (.int u0), .val (.int u1), .val (.int (u1 &&& (255 : Int32)))] [(.int u0)])) _
    refine st1 _ ?_
    show Steps p.tables e below (T1.setTop (mkF m 10 #[.val (.int u0), .val (.int u1), .val (.int (u1 &&& (255 : Int32)))] [(.int (1 : Int32))])) _
    refine XS.ifNo X1.here hx rfl (hb hby at_10) rfl ((if0 _ _).trans (feq (by decide)).1) ?_
    show Steps p.tables e below (T1.setTop (mkF m 13 #[.val (.int u0), .val (.int u1), .val (.int (u1 &&& (255 : Int32)))] [])) _
    refine XS.iloadN X1.here hx rfl (hb hby at_13) rfl ?_
    show Steps p.tables e below (T1.setTop (mkF m 14 #[.val (.int u0), .val (.int u1), .val (.int (u1 &&& (255 : Int32)))] [(.int (u1 &&& (255 : Int32)))])) _
    refine st2 _ ?_
    show Steps p.tables e below (T2.setTop (mkF m 17 #[.val (.int u0), .val (.int u1), .val (.int (u1 &&& (255 : Int32)))] [(.int (1 : Int32))])) _
    refine XS.ifNo X2.here hx rfl (hb hby at_17) rfl ((if0 _ _).trans (feq (by decide)).1) ?_
    show Steps p.tables e below (T2.setTop (mkF m 20 #[.val (.int u0), .val (.int u1), .val (.int (u1 &&& (255 : Int32)))] [])) _
    refine XS.iconst X2.here hx rfl (hb hby at_20) ?_
    show Steps p.tables e below (T2.setTop (mkF m 21 #[.val (.int u0), .val (.int u1), .val (.int (u1 &&& (255 : Int32)))] [(.int (1 : Int32))])) _
    refine XS.goto X2.here hx rfl (pc0 := 21) (pc' := 25) rfl (hb hby at_21) (by decide) (by decide) ?_
    show Steps p.tables e below (T2.setTop (mkF m 25 #[.val (.int u0), .val (.int u1), .val (.int (u1 &&& (255 : Int32)))] [(.int (1 : Int32))])) _
    exact retN X2 hx (t := .boolean) Bd.returns (by simp) (hb hby at_25) hr
  · show Q0 Z u0 u1 h0 n0 _ T2.heap _
    rw [e2]
    exact ⟨rfl, N2⟩
set_option maxRecDepth 65536 in
set_option maxHeartbeats 40000000 in
theorem comes_1 {Post : Tables → Env → Array Value → State → Outcome → State → Prop} (hpost : ∀ tb e args s v u, (limb_1_1.after args s (.returned v) u = true ∧ limb_1_2.after args s (.returned v) u = true ∧ True) → FrameEnd s (.returned v) u (Jvm.fieldLocs frame_1_writes args s ++ Jvm.arrayLocs frame_1_arrays args s ++ Jvm.staticLocs frame_1_statics s) 0 0 → Post tb e args s (.returned v) u) :
    ArmFor flags0 classFile x code maxLocals ret World_1 tables_1 room_1 Calls_1 rest_1 Pre_1 Post := by
  intro l hfl _ _ p e ha hc hk s m args below hf hA hF happ hP
  obtain ⟨hcalls, hrest, hpre⟩ := hP
  obtain ⟨-, -, -, hnamed, -, -, -, hat⟩ := (Spec.applies_iff hf).mp happ
  obtain ⟨hg, hn⟩ := and_e (Cond.before_iff.mp (show (Jvm.Cond.and given_1 narrow_1).before args s = true from hpre))
  obtain ⟨g1, g2⟩ := and_e hg
  obtain ⟨g3, g4⟩ := and_e g2
  obtain ⟨w0, w1, rfl⟩ : ∃ w0 w1 : Value, args = #[w0, w1] := by
    have hs : args.size = 2 := by simpa [Cond.value, given_1] using g1
    obtain ⟨L⟩ := args
    match L, hs with
    | [w0, w1], _ => exact ⟨w0, w1, rfl⟩
  have hw := fun d (hd : d ∈ tables_1) => atoms_spec (ws := Jvm.Cond.code x code maxLocals ret :: tables_1) hat d (List.mem_cons_of_mem _ hd)
  have hfit : Fit s := fun {y c} hc i hi => by
    obtain ⟨ha, rfl⟩ := Array.getElem?_eq_some_iff.mp hc
    have q := List.all_eq_true.mp ((Array.all_eq_true_iff_forall_mem.mp hF) _ (Array.getElem_mem ha)) i (List.mem_range.mpr hi)
    simpa [Array.getElem?_eq_getElem hi] using q
  obtain ⟨i0, ei0⟩ := is_v g3
  obtain rfl : w0 = (.int i0) := Option.some.inj ei0
  obtain ⟨i1, ei1⟩ := is_v g4
  obtain rfl : w1 = (.int i1) := Option.some.inj ei1
  obtain ⟨n, o, h1, h2, h3, _, L, rfl, ⟨rfl, N⟩, hq⟩ := rm0 l s _ hw tables_1 i0 i1 s.heap s.heap.size (Nat.le_refl _)  p e ha hc hk s m _ below hf ((Spec.applies_iff_loose hf).mp happ).1 ⟨rfl, State.Warmed39.refl s, rfl⟩ trivial
  refine ⟨n, _, h1, h2, h3, hpost _ _ _ _ _ _ ⟨Cond.after_iff.mpr rfl, Cond.after_iff.mpr (eq_i res_at (Term.int_eval (1)) rfl), trivial⟩ ⟨hq.1, hq.2.1, (hq.2.2.sift fun y hy => Or.inr (N y hy)).mono (by decide) (by decide)⟩⟩
theorem main_1_1 : Claimed_1_1 := comes_1 fun _ _ _ _ _ _ h hF => ⟨h.1, hF⟩
theorem main_1_2 : Claimed_1_2 := comes_1 fun _ _ _ _ _ _ h hF => ⟨h.2.1, hF⟩
end Jvm.Pilot.@@N@@
namespace Jvm.Pilot.@@N@@
open Jvm Jvm.ClassFile Sem Op Lib Jvm.Free Jvm.Stand Jvm.Pilot.@@N@@.Jvm.D
/-! MADE BY PROGRAM (witnessworld.py) out of the Statement's table words and the real class files: 9 classes; the members and pool entries that the words name. The judged class is class 1, her method 3. -/
namespace start1
open Jvm.ClassFile
def u (s : String) : CpInfo := .utf8 (stringToUtf16 s)
/-- a pool by its gaps: so many unusable entries, then the entry; so many at the end -/
def gap : Nat → List CpInfo → List CpInfo
  | 0, r => r
  | n + 1, r => .unusable :: gap n r
def poolList (es : List (Nat × CpInfo)) (last : Nat) : List CpInfo := es.foldr (fun e r => gap e.1 (e.2 :: r)) (gap last [])
def pool (es : List (Nat × CpInfo)) (last : Nat) : Array CpInfo := ⟨poolList es last⟩
def fileOf (pool : Array CpInfo) (this : Nat) (attrs : Array Attribute := #[]) (ms : Array MethodInfo := #[]) (fl : Nat := 33) (sup : Nat := 0) (ifs : Array Nat := #[]) (fds : Array FieldInfo := #[]) : ClassFile where
  minorVersion := 0
  majorVersion := 65
  constantPool := pool
  accessFlags := fl
  thisClass := this
  superClass := sup
  interfaces := ifs
  fields := fds
  methods := ms
  attributes := attrs
def plain (name : String) (sup : Option ClassId) : Class where
  name := name
  kind := .ordinary
  loader := none
  accessFlags := 33
  super := sup
  interfaces := #[]
  cf := none
  fields := #[]
  methods := #[]
  instanceTypes := #[]
  staticTypes := #[]
  resolved := #[]
  callSites := []
  init := .initialized
  statics := none
  mirror := none

def pool0 : Array CpInfo := pool [(5, u "<init>"), (0, u "()V"), (1, .class_ 10), (1, u "java/lang/Object")] 113

def k0m0 : Method := { name := "<init>", desc := "()V", sig := { parameters := [], returnType := none }, accessFlags := 1, code := none }
/-- java/lang/Object -/
def k0 : Class := { plain "java/lang/Object" none with
  accessFlags := 33
  interfaces := #[]
  cf := some (fileOf pool0 8 #[] #[{ accessFlags := 1, nameIndex := 5, descriptorIndex := 6, attributes := #[] }] 33 0 #[] #[])
  fields := #[]
  methods := #[k0m0]
  instanceTypes := #[]
  staticTypes := #[]
  resolved := Array.replicate 124 none
  statics := none }

def pool1 : Array CpInfo := pool [(2, .class_ 4), (1, u "java/lang/Object"), (0, u "<init>"), (0, u "()V"), (0, .long 48), (1, .long 10), (1, .long 97), (1, .long 6), (1, .methodref 16 17), (0, .class_ 18), (0, .nameAndType 19 20), (0, u "com/example/triplewright/triplewright/rdf/Iris"), (0, u "isHexDigit"), (0, u "(I)Z"), (0, .methodref 22 23), (0, .class_ 24), (0, .nameAndType 25 20), (0, u "com/example/triplewright/triplewright/rdf/IrisIsHexDigitPinLaw"), (0, u "reference"), (0, .methodref 22 27), (0, .nameAndType 28 20), (0, u "agrees"), (3, u "law"), (0, u "(II)Z")] 2

def k1m0 : Method := { name := "<init>", desc := "()V", sig := { parameters := [], returnType := none }, accessFlags := 2, code := none }
def k1c1 : Code := { maxStack := 4, maxLocals := 5, code := method_2_code, exceptionTable := #[], attributes := #[] }
def k1m1 : Method := { name := "reference", desc := "(I)Z", sig := { parameters := [.int], returnType := some .boolean }, accessFlags := 10, code := some k1c1 }
def k1c2 : Code := { maxStack := 2, maxLocals := 1, code := method_3_code, exceptionTable := #[], attributes := #[] }
def k1m2 : Method := { name := "agrees", desc := "(I)Z", sig := { parameters := [.int], returnType := some .boolean }, accessFlags := 10, code := some k1c2 }
def k1c3 : Code := { maxStack := 2, maxLocals := 3, code := code, exceptionTable := #[], attributes := #[] }
def k1m3 : Method := { name := "law", desc := "(II)Z", sig := { parameters := [.int, .int], returnType := some .boolean }, accessFlags := 9, code := some k1c3 }
/-- com/example/triplewright/triplewright/rdf/IrisIsHexDigitPinLaw -/
def k1 : Class := { plain "com/example/triplewright/triplewright/rdf/IrisIsHexDigitPinLaw" (some 0) with
  accessFlags := 49
  interfaces := #[]
  cf := some (fileOf pool1 22 #[] #[{ accessFlags := 2, nameIndex := 5, descriptorIndex := 6, attributes := #[] }, { accessFlags := 10, nameIndex := 25, descriptorIndex := 20, attributes := #[] }, { accessFlags := 10, nameIndex := 28, descriptorIndex := 20, attributes := #[] }, { accessFlags := 9, nameIndex := 32, descriptorIndex := 33, attributes := #[] }] 49 2 #[] #[])
  fields := #[]
  methods := #[k1m0, k1m1, k1m2, k1m3]
  instanceTypes := #[]
  staticTypes := #[]
  resolved := Array.replicate 36 none
  statics := none }

def pool2 : Array CpInfo := pool [(2, .class_ 4), (1, u "java/lang/Object"), (0, u "<init>"), (0, u "()V"), (1, .class_ 10), (1, u "com/example/triplewright/triplewright/rdf/Iris"), (25, .class_ 38), (1, u "com/example/triplewright/triplewright/rdf/Iris$Part"), (22, u "isHexDigit"), (0, u "(I)Z"), (100, .class_ 165), (1, u "com/example/triplewright/triplewright/rdf/Iris$Parts")] 182

def k2m0 : Method := { name := "<init>", desc := "()V", sig := { parameters := [], returnType := none }, accessFlags := 2, code := none }
def k2c1 : Code := { maxStack := 2, maxLocals := 1, code := prog_46_method_23_code, exceptionTable := #[], attributes := #[] }
def k2m1 : Method := { name := "isHexDigit", desc := "(I)Z", sig := { parameters := [.int], returnType := some .boolean }, accessFlags := 8, code := some k2c1 }
/-- com/example/triplewright/triplewright/rdf/Iris -/
def k2 : Class := { plain "com/example/triplewright/triplewright/rdf/Iris" (some 0) with
  accessFlags := 49
  interfaces := #[]
  cf := some (fileOf pool2 8 #[.nestMembers #[163, 36]] #[{ accessFlags := 2, nameIndex := 5, descriptorIndex := 6, attributes := #[] }, { accessFlags := 8, nameIndex := 61, descriptorIndex := 62, attributes := #[] }] 49 2 #[] #[])
  fields := #[]
  methods := #[k2m0, k2m1]
  instanceTypes := #[]
  staticTypes := #[]
  resolved := Array.replicate 348 none
  statics := none }

def pool3 : Array CpInfo := pool [(1, u "java/lang/Cloneable"), (0, .class_ 1), (0, u "java/lang/Object"), (0, .class_ 3)] 3

/-- java/lang/Cloneable -/
def k3 : Class := { plain "java/lang/Cloneable" (some 0) with
  accessFlags := 1537
  interfaces := #[]
  cf := some (fileOf pool3 2 #[] #[] 1537 4 #[] #[])
  fields := #[]
  methods := #[]
  instanceTypes := #[]
  staticTypes := #[]
  resolved := Array.replicate 8 none
  statics := none }

def pool4 : Array CpInfo := pool [(1, u "java/io/Serializable"), (0, .class_ 1), (0, u "java/lang/Object"), (0, .class_ 3)] 3

/-- java/io/Serializable -/
def k4 : Class := { plain "java/io/Serializable" (some 0) with
  accessFlags := 1537
  interfaces := #[]
  cf := some (fileOf pool4 2 #[] #[] 1537 4 #[] #[])
  fields := #[]
  methods := #[]
  instanceTypes := #[]
  staticTypes := #[]
  resolved := Array.replicate 8 none
  statics := none }

/-- the primitive byte -/
def k5 : Class := { plain "byte" none with kind := .primitive 'B', accessFlags := 0x411 }
/-- [B -/
def k6 : Class := { plain "[B" (some 0) with kind := .array 5 .byte, interfaces := #[3, 4], accessFlags := 1041 }

/-- the primitive int -/
def k7 : Class := { plain "int" none with kind := .primitive 'I', accessFlags := 0x411 }
/-- [I -/
def k8 : Class := { plain "[I" (some 0) with kind := .array 7 .int, interfaces := #[3, 4], accessFlags := 1041 }

def heap : Heap := #[]
def classes : Array Class := #[k0, k1, k2, k3, k4, k5, k6, k7, k8]
def interned : List (Array UInt16 × Addr) := []
def slotsUsed : Nat := 0
def theMethod : MethodId := ⟨1, 3⟩
def args0 : Array Value := #[.int 5, .int 7]
def aboutOver (below : List Frame) : State where
  vm := { classes := classes, interned := interned.toArray }
  heap := heap
  slotsUsed := slotsUsed
  threads := #[{ frames := .invoking theMethod args0 :: below }]
def below0 : List Frame := [.native { method := ⟨0, 0⟩, args := #[] }]
def about1 : State := aboutOver below0
def p0 : Program := .bare "" "" ""
def e0 : Env := launch0.env 0 0 0
theorem w_frames : about1.frames = Frame.invoking theMethod args0 :: below0 := rfl
set_option maxRecDepth 65536 in
theorem w_args : argsFit about1.vm theMethod args0 = true := by decide +kernel
set_option maxRecDepth 65536 in
theorem w_heap : heapFits about1 = true := by decide +kernel
set_option maxRecDepth 65536 in
theorem w_runnable : about1.curStatus? = some .runnable := by decide +kernel
set_option maxRecDepth 65536 in
theorem w_alone : about1.alone = true := by decide +kernel
set_option maxRecDepth 65536 in
theorem w_named : about1.methodNamed? x = some theMethod := by decide +kernel
set_option maxRecDepth 65536 in
theorem w_hears : about1.hears theMethod below0 = true := by decide +kernel
set_option maxRecDepth 65536 in
theorem w_ripe : about1.ripe theMethod args0 below0 = true := by decide +kernel
theorem w_running : about1.status = .running := rfl
set_option maxRecDepth 65536 in
theorem w_room : about1.hasRoom e0.platform room_1 = true :=
  launch0.hasRoom_least _ room_1 (by decide +kernel) (by decide +kernel) (by decide +kernel) (by decide +kernel) (by decide +kernel) (by decide +kernel)
theorem allAtoms_all (ts : List Jvm.Cond) (a : Array Jvm.Value) (st : Jvm.State) : (allAtoms ts).before a st = ts.all (fun c => c.before a st) := by
  induction ts with
  | nil => rfl
  | cons c t ih =>
    show (Jvm.Cond.and c (allAtoms t)).before a st = _
    rw [Jvm.Cond.before_and, ih, List.all_cons]
def words1 : List Jvm.Cond := Jvm.Cond.code x code maxLocals ret :: tables_1
/-- a 'code' word, met by the world's own term for the bytes: nothing is compared byte by byte -/
theorem code_word {y : MethodName} {bytes : ByteArray} {mx : Nat} {rt : Option FieldType} {a : Array Value} {s : State} {m : MethodId} {meth : Method} {c : Code} (h1 : s.methodNamed? y = some m) (h2 : s.vm.method? m = some meth) (h3 : meth.code = some c) (h4 : c.code = bytes)
    (h5 : (c.maxLocals == mx && c.exceptionTable.isEmpty && decide (c.maxStack ≤ mostOperands) && decide (meth.sig.returnType = rt) && !meth.locks && decide (parseMethodDescriptor y.desc = some meth.sig)) = true) : (Jvm.Cond.code y bytes mx rt).before a s = true := by
  simp only [Bool.and_eq_true, beq_iff_eq, Bool.not_eq_true', decide_eq_true_eq] at h5
  obtain ⟨⟨⟨⟨⟨g1, g2⟩, g3⟩, g4⟩, g5⟩, g6⟩ := h5
  simp [Cond.before, Cond.holds, Cond.value, h1, h2, h3, h4, g1, g2, g3, g4, g5, g6]
def isCode : Jvm.Cond → Bool
  | .code _ _ _ _ => true
  | _ => false
theorem all_split {L : List Jvm.Cond} {P : Jvm.Cond → Bool} (h1 : L.all (fun c => isCode c || P c) = true) (h2 : ∀ c ∈ L.filter isCode, P c = true) : L.all P = true := by
  refine List.all_eq_true.mpr fun c hc => ?_
  have h := List.all_eq_true.mp h1 c hc
  rcases Bool.eq_false_or_eq_true (isCode c) with hi | hi
  · exact h2 c (List.mem_filter.mpr ⟨hc, hi⟩)
  · simpa [hi] using h
set_option maxRecDepth 65536 in
theorem w_c0 : (Jvm.Cond.code x code maxLocals ret).before args0 about1 = true := code_word (m := ⟨1, 3⟩) (meth := k1m3) (c := k1c3) (by decide +kernel) rfl rfl rfl (by decide +kernel)
set_option maxRecDepth 65536 in
theorem w_c1 : (Jvm.Cond.code ({ cls := "com/example/triplewright/triplewright/rdf/IrisIsHexDigitPinLaw", name := "agrees", desc := "(I)Z" } : Jvm.MethodName) method_3_code (1 : Nat) (Option.some Jvm.ClassFile.FieldType.boolean)).before args0 about1 = true := code_word (m := ⟨1, 2⟩) (meth := k1m2) (c := k1c2) (by decide +kernel) rfl rfl rfl (by decide +kernel)
set_option maxRecDepth 65536 in
theorem w_c2 : (Jvm.Cond.code ({ cls := "com/example/triplewright/triplewright/rdf/Iris", name := "isHexDigit", desc := "(I)Z" } : Jvm.MethodName) prog_46_method_23_code (1 : Nat) (Option.some Jvm.ClassFile.FieldType.boolean)).before args0 about1 = true := code_word (m := ⟨2, 1⟩) (meth := k2m1) (c := k2c1) (by decide +kernel) rfl rfl rfl (by decide +kernel)
set_option maxRecDepth 65536 in
theorem w_c3 : (Jvm.Cond.code ({ cls := "com/example/triplewright/triplewright/rdf/IrisIsHexDigitPinLaw", name := "reference", desc := "(I)Z" } : Jvm.MethodName) method_2_code (5 : Nat) (Option.some Jvm.ClassFile.FieldType.boolean)).before args0 about1 = true := code_word (m := ⟨1, 1⟩) (meth := k1m1) (c := k1c1) (by decide +kernel) rfl rfl rfl (by decide +kernel)
def codes1 : List Jvm.Cond := [Jvm.Cond.code x code maxLocals ret, Jvm.Cond.code ({ cls := "com/example/triplewright/triplewright/rdf/IrisIsHexDigitPinLaw", name := "agrees", desc := "(I)Z" } : Jvm.MethodName) method_3_code (1 : Nat) (Option.some Jvm.ClassFile.FieldType.boolean), Jvm.Cond.code ({ cls := "com/example/triplewright/triplewright/rdf/Iris", name := "isHexDigit", desc := "(I)Z" } : Jvm.MethodName) prog_46_method_23_code (1 : Nat) (Option.some Jvm.ClassFile.FieldType.boolean), Jvm.Cond.code ({ cls := "com/example/triplewright/triplewright/rdf/IrisIsHexDigitPinLaw", name := "reference", desc := "(I)Z" } : Jvm.MethodName) method_2_code (5 : Nat) (Option.some Jvm.ClassFile.FieldType.boolean)]
set_option maxRecDepth 65536 in
theorem codes_eq : words1.filter isCode = codes1 := rfl
theorem w_codes : ∀ c ∈ words1.filter isCode, c.before args0 about1 = true := by
  rw [codes_eq]
  intro c hc
  simp only [codes1, List.mem_cons, List.not_mem_nil, or_false] at hc
  rcases hc with rfl | rfl | rfl | rfl
  · exact w_c0
  · exact w_c1
  · exact w_c2
  · exact w_c3
set_option maxRecDepth 65536 in
theorem w_t1 : words1.all (fun c => isCode c || c.before args0 about1) = true := by decide +kernel
theorem w_tables : (allAtoms (Jvm.Cond.code x code maxLocals ret :: tables_1)).before args0 about1 = true := by
  rw [allAtoms_all]
  show words1.all (fun c => c.before args0 about1) = true
  refine all_split ?_ w_codes
  rw [w_t1]
set_option maxRecDepth 65536 in
theorem w_case : (Jvm.Cond.and given_1 narrow_1).before args0 about1 = true := by decide +kernel
theorem w_applies : (headSpec (Jvm.Cond.code x code maxLocals ret :: tables_1) room_1).applies x e0.platform about1 = true :=
  (Spec.applies_iff w_frames).mpr ⟨w_running, w_runnable, w_alone, w_named, w_hears, w_ripe, w_room, w_tables⟩
theorem atStart : AtStart classFile x code maxLocals ret World_1 tables_1 room_1 Calls_1 rest_1 Pre_1 launch0 p0 e0 about1 theMethod args0 below0 :=
  ⟨lists_1, trivial, launch0.admits_env _ _ _, launch0.least_env, fairChoices_fair.cas, fairChoices_fair.clock, w_frames, w_args, w_heap, w_applies, trivial, trivial, w_case⟩
end start1
theorem witness_1 : WitnessClaimed_1 := ⟨start1.p0, start1.e0, start1.about1, start1.theMethod, start1.args0, start1.below0, start1.atStart⟩
end Jvm.Pilot.@@N@@
