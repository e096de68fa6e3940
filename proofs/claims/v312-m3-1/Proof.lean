import JvmDerived
import JvmDerived.Pilot.@@N@@Statement
import JvmDerived.Pilot.@@N@@Code
set_option linter.unusedVariables false
set_option linter.unusedSimpArgs false
/- laws to paste: Road.backV, Road.eqW, Road.codOf (cut by pick.py; bodies as the Statement names them) -/
namespace Jvm.Pilot.@@N@@
namespace StrChars
open Jvm Sem ClassFile Op Lib Jvm.Stand Jvm.Free.XT Jvm.Free.ALB Jvm.Free.JM Jvm.Free
open Jvm.Lib.Cold (StaticIs)
/-- a char array whose places are chars -/
def Ch (a : Addr) (A : Cell) (U : State) : Prop := Arr .char a A U ∧ Typed .char A
theorem Ch.mv {a : Addr} {A : Cell} {U U' : State} (h : Ch a A U) (hal : U.vm.Alike U'.vm) (hh : U'.heap = U.heap) : Ch a A U' := ⟨h.1.mv hal hh, h.2⟩
theorem Ch.keep {a : Addr} {A : Cell} {U U' : State} (h : Ch a A U) (hal : U.vm.Alike U'.vm) (hk : U'.heap[a]? = some A) : Ch a A U' := ⟨h.1.keep hal hk, h.2⟩
/-- what place i of a char[]'s cell holds -/
def cv (A : Cell) (i : Nat) : Int32 := match A.slots[i]? with | some (.int x) => x | _ => 0
theorem Ch.get {a : Addr} {A : Cell} {U : State} (h : Ch a A U) {i : Nat} (hi : i < A.slots.size) : A.slots[i]? = some (.int (cv A i)) := by
  have e := Array.getElem?_eq_getElem hi
  have f := h.2 i _ e
  unfold cv; rw [e]
  generalize A.slots[i] = v at f
  cases v <;> simp [fits] at f ⊢
/-- the byte that i2b leaves of a char -/
def lo8 (x : Int32) : Int32 := x.toInt8.toInt32
theorem fits_lo8 (y : Int32) : fits .byte (.int (lo8 y)) = true := by
  have h1 := y.toInt8.le_toInt
  have h2 := y.toInt8.toInt_lt
  simp only [lo8, fits, Bool.and_eq_true, decide_eq_true_eq, Int32.le_iff_toInt_le, Int8.toInt_toInt32, show (-128 : Int32).toInt = -128 from by decide, show (127 : Int32).toInt = 127 from by decide]
  omega
/-- A' is A but that each place j of lo .. hi - 1 holds f j -/
def Laid (A A' : Cell) (lo hi : Nat) (f : Nat → Value) : Prop := A'.cls = A.cls ∧ A'.vm = A.vm ∧ A'.slots.size = A.slots.size ∧ ∀ i, A'.slots[i]? = if lo ≤ i ∧ i < hi then some (f i) else A.slots[i]?
theorem Laid.zero (A : Cell) (lo : Nat) (f : Nat → Value) : Laid A A lo (lo + 0) f := ⟨rfl, rfl, rfl, fun i => by rw [if_neg (by omega)]⟩
theorem Laid.step {A Ak : Cell} {lo k : Nat} {f : Nat → Value} {v : Value} (h : Laid A Ak lo k f) (hlo : lo ≤ k) (hk : k < Ak.slots.size) (hv : v = f k) : Laid A (Ak.setSlot k v) lo (k + 1) f := by
  refine ⟨h.1, h.2.1, by simpa [Cell.setSlot] using h.2.2.1, fun i => ?_⟩
  by_cases e : k = i
  · subst e; rw [Cell.slots_setSlot_self v hk, if_pos (by omega), hv]
  · rw [Cell.slots_setSlot_ne v e, h.2.2.2 i]
    by_cases q : lo ≤ i ∧ i < k
    · rw [if_pos q, if_pos (by omega)]
    · rw [if_neg q, if_neg (by omega)]
def U16 : String := "java/lang/StringUTF16"
namespace Cmp5
def yN : MethodName := ⟨"java/lang/StringUTF16", "compress", "([CI[BII)I"⟩
abbrev yB : ByteArray := jdk_52_method_21_code
theorem d0 : decode yB 0 = .ok (.iconst 0, 1) := by decide +kernel
theorem d1 : decode yB 1 = .ok (.istore 5, 2) := by decide +kernel
theorem d3 : decode yB 3 = .ok (.iload 5, 2) := by decide +kernel
theorem d5 : decode yB 5 = .ok (.iload 4, 2) := by decide +kernel
theorem d7 : decode yB 7 = .ok (.if_icmp (.ge) 37, 3) := by decide +kernel
theorem d10 : decode yB 10 = .ok (.aload_n 0, 1) := by decide +kernel
theorem d11 : decode yB 11 = .ok (.iload_n 1, 1) := by decide +kernel
theorem d12 : decode yB 12 = .ok (.caload, 1) := by decide +kernel
theorem d13 : decode yB 13 = .ok (.istore 6, 2) := by decide +kernel
theorem d15 : decode yB 15 = .ok (.iload 6, 2) := by decide +kernel
theorem d17 : decode yB 17 = .ok (.sipush 255, 3) := by decide +kernel
theorem d20 : decode yB 20 = .ok (.if_icmp (.le) 6, 3) := by decide +kernel
theorem d26 : decode yB 26 = .ok (.aload_n 2, 1) := by decide +kernel
theorem d27 : decode yB 27 = .ok (.iload_n 3, 1) := by decide +kernel
theorem d28 : decode yB 28 = .ok (.iload 6, 2) := by decide +kernel
theorem d30 : decode yB 30 = .ok (.i2b, 1) := by decide +kernel
theorem d31 : decode yB 31 = .ok (.bastore, 1) := by decide +kernel
theorem d32 : decode yB 32 = .ok (.iinc 1 1, 3) := by decide +kernel
theorem d35 : decode yB 35 = .ok (.iinc 3 1, 3) := by decide +kernel
theorem d38 : decode yB 38 = .ok (.iinc 5 1, 3) := by decide +kernel
theorem d41 : decode yB 41 = .ok (.goto (-38), 3) := by decide +kernel
theorem d44 : decode yB 44 = .ok (.iload 4, 2) := by decide +kernel
theorem d46 : decode yB 46 = .ok (.ireturn, 1) := by decide +kernel
def site : List Cond := []
def tab : Cond := tabOf yN yB 7 (some .int) site
def P (b : Addr) (A : Cell) (d : Addr) (B : Cell) (o q len : Nat) (args : Array Value) (s : State) : Prop := args = #[.ref b, .int (Int32.ofNat o), .ref d, .int (Int32.ofNat q), .int (Int32.ofNat len)] ∧ Ch b A s ∧ Arr .byte d B s ∧ b ≠ d ∧ o + len ≤ A.slots.size ∧ q + len ≤ B.slots.size ∧ ∀ i, i < len → ¬ 255 < cv A (o + i)
def E (b : Addr) (A : Cell) (d : Addr) (B : Cell) (o q len : Nat) (r : Option Value) (s u : State) : Prop := r = some (.int (Int32.ofNat len)) ∧ ∃ B', Put d B' s u ∧ Laid B B' q (q + len) (fun j => Value.int (lo8 (cv A (o + (j - q)))))
/-- no char of the range above 255: len; the places written hold each char's low byte -/
theorem law (l : Launch) (b : Addr) (A : Cell) (d : Addr) (B : Cell) (o q len : Nat) : Law l yN 5 5 0 0 yB 7 (some .int) site (P b A d B o q len) (E b A d B o q len) (copyLocs d q len) 0 0 := by
  refine Law.of_walk (plainFor_of_name (by decide +kernel)) (by decide +kernel) (by decide +kernel) (by decide) (fun _ _ h => by rw [h.1]; rfl) (fun _ U U' hal hh h => ⟨h.1, h.2.1.mv hal hh, h.2.2.1.mv hal hh, h.2.2.2⟩) (fun r U U' V V' h1 hal h2 h => ⟨h.1, h.2.elim fun B' q => ⟨B', q.1.mv h1 h2, q.2⟩⟩) ?_
  intro p e s m args below meth c s₁ X0 hexec hbytes hml hret hlk hnm hown hh0 W hP
  obtain ⟨rfl, hA, hB, hne, l1, l2, hp⟩ := hP
  have c1 : Steps p.tables e below (s₁.setTop (entryFrame m #[.ref b, .int (Int32.ofNat o), .ref d, .int (Int32.ofNat q), .int (Int32.ofNat len)] 7)) (s₁.setTop (mkF m 0 #[.val (.ref b), .val (.int (Int32.ofNat o)), .val (.ref d), .val (.int (Int32.ofNat q)), .val (.int (Int32.ofNat len)), .unset, .unset] [])) := entry rfl
  have hA0 := hA.1.mv X0.warmed.alike hh0
  have hB0 := hB.mv X0.warmed.alike hh0
  have a31 := hA.1.2.2.2
  have c2 : Steps p.tables e below (s₁.setTop (entryFrame m #[.ref b, .int (Int32.ofNat o), .ref d, .int (Int32.ofNat q), .int (Int32.ofNat len)] 7)) (s₁.setTop (mkF m 3 #[.val (.ref b), .val (.int (Int32.ofNat o)), .val (.ref d), .val (.int (Int32.ofNat q)), .val (.int (Int32.ofNat len)), .val (.int 0), .unset] [])) := c1.trans (by
    refine iconstV X0.here hexec rfl 0 (hb hbytes d0) (by decide) ?_
    refine XS.istore X0.here hexec rfl (hb hbytes d1) rfl rfl ?_
    exact Steps.refl _)
  have loop : ∀ (r i : Nat), i + r = len → ∀ (z : Slot), (z = .unset ∨ ∃ w, z = .val w ∧ w.category = 1) → ∀ (Tl : State) (Bk : Cell), Stand p l e { frames := 0, locals := 0, cells := 0, slots := 0 } s m #[.ref b, .int (Int32.ofNat o), .ref d, .int (Int32.ofNat q), .int (Int32.ofNat len)] below meth c Tl ([] ++ copyLocs d q i) 0 0 → Put d Bk s₁ Tl → Laid B Bk q (q + i) (fun j => Value.int (lo8 (cv A (o + (j - q))))) →
      Steps p.tables e below (s₁.setTop (entryFrame m #[.ref b, .int (Int32.ofNat o), .ref d, .int (Int32.ofNat q), .int (Int32.ofNat len)] 7)) (Tl.setTop (mkF m 3 #[.val (.ref b), .val (.int (Int32.ofNat (o + i))), .val (.ref d), .val (.int (Int32.ofNat (q + i))), .val (.int (Int32.ofNat len)), .val (.int (Int32.ofNat i)), z] [])) → ∃ (T' : State) (B' : Cell) (z' : Slot), Stand p l e { frames := 0, locals := 0, cells := 0, slots := 0 } s m #[.ref b, .int (Int32.ofNat o), .ref d, .int (Int32.ofNat q), .int (Int32.ofNat len)] below meth c T' ([] ++ copyLocs d q len) 0 0 ∧ Put d B' s₁ T' ∧ Laid B B' q (q + len) (fun j => Value.int (lo8 (cv A (o + (j - q))))) ∧
      Steps p.tables e below (s₁.setTop (entryFrame m #[.ref b, .int (Int32.ofNat o), .ref d, .int (Int32.ofNat q), .int (Int32.ofNat len)] 7)) (T'.setTop (mkF m 3 #[.val (.ref b), .val (.int (Int32.ofNat (o + len))), .val (.ref d), .val (.int (Int32.ofNat (q + len))), .val (.int (Int32.ofNat len)), .val (.int (Int32.ofNat len)), z'] [])) := by
    intro r
    induction r with
    | zero =>
      intro i hi z hz Tl Bk Xl pl fl cl
      have hil : i = len := by omega
      rw [hil] at Xl fl cl
      exact ⟨Tl, Bk, z, Xl, pl, fl, cl⟩
    | succ r ih =>
      intro i hi z hz Tl Bk Xl pl fl cl
      have all := X0.warmed.alike.symm.trans Xl.warmed.alike
      have hAl := hA0.keep all (pl.other hne hA0.1)
      have hBk := hB0.like all pl.1 fl.1 fl.2.1 fl.2.2.1
      have hlt : q + i < Bk.slots.size := by rw [fl.2.2.1]; omega
      have c3 : Steps p.tables e below (s₁.setTop (entryFrame m #[.ref b, .int (Int32.ofNat o), .ref d, .int (Int32.ofNat q), .int (Int32.ofNat len)] 7)) (Tl.setTop (mkF m 12 #[.val (.ref b), .val (.int (Int32.ofNat (o + i))), .val (.ref d), .val (.int (Int32.ofNat (q + i))), .val (.int (Int32.ofNat len)), .val (.int (Int32.ofNat i)), z] [.int (Int32.ofNat (o + i)), .ref b])) := cl.trans (by
        refine XS.iload Xl.here hexec rfl (hb hbytes d3) rfl ?_
        refine XS.iload Xl.here hexec rfl (hb hbytes d5) rfl ?_
        refine XS.icmpNo Xl.here hexec rfl (hb hbytes d7) rfl (ii_ge_f (lt32 (by omega) (by omega))) ?_
        refine XS.aloadN Xl.here hexec rfl (hb hbytes d10) rfl rfl ?_
        refine XS.iloadN Xl.here hexec rfl (hb hbytes d11) rfl ?_
        exact Steps.refl _)
      have c4 : Steps p.tables e below (s₁.setTop (entryFrame m #[.ref b, .int (Int32.ofNat o), .ref d, .int (Int32.ofNat q), .int (Int32.ofNat len)] 7)) (Tl.setTop (mkF m 13 #[.val (.ref b), .val (.int (Int32.ofNat (o + i))), .val (.ref d), .val (.int (Int32.ofNat (q + i))), .val (.int (Int32.ofNat len)), .val (.int (Int32.ofNat i)), z] [.int (cv A (o + i))])) := c3.trans (by
        refine Xl.aget hexec hAl rfl (hA.get (i := o + i) (by omega)) rfl rfl (hb hbytes d12) ?_
        exact Steps.refl _)
      have c5 : Steps p.tables e below (s₁.setTop (entryFrame m #[.ref b, .int (Int32.ofNat o), .ref d, .int (Int32.ofNat q), .int (Int32.ofNat len)] 7)) (Tl.setTop (mkF m 15 #[.val (.ref b), .val (.int (Int32.ofNat (o + i))), .val (.ref d), .val (.int (Int32.ofNat (q + i))), .val (.int (Int32.ofNat len)), .val (.int (Int32.ofNat i)), .val (.int (cv A (o + i)))] [])) := c4.trans (by
        refine XS.istoreS Xl.here hexec rfl (hb hbytes d13) rfl rfl hz ?_
        exact Steps.refl _)
      have c6 : Steps p.tables e below (s₁.setTop (entryFrame m #[.ref b, .int (Int32.ofNat o), .ref d, .int (Int32.ofNat q), .int (Int32.ofNat len)] 7)) (Tl.setTop (mkF m 31 #[.val (.ref b), .val (.int (Int32.ofNat (o + i))), .val (.ref d), .val (.int (Int32.ofNat (q + i))), .val (.int (Int32.ofNat len)), .val (.int (Int32.ofNat i)), .val (.int (cv A (o + i)))] [.int (lo8 (cv A (o + i))), .int (Int32.ofNat (q + i)), .ref d])) := c5.trans (by
        refine XS.iload Xl.here hexec rfl (hb hbytes d15) rfl ?_
        refine sipushV Xl.here hexec rfl 255 (hb hbytes d17) (by decide) ?_
        refine XS.icmpYes Xl.here hexec rfl (pc0 := 20) rfl (hb hbytes d20) rfl (ii_le_t (hp i (by omega))) (by decide) rfl ?_
        refine XS.aloadN Xl.here hexec rfl (hb hbytes d26) rfl rfl ?_
        refine XS.iloadN Xl.here hexec rfl (hb hbytes d27) rfl ?_
        refine XS.iload Xl.here hexec rfl (hb hbytes d28) rfl ?_
        refine i2b Xl.here hexec rfl (hb hbytes d30) rfl ?_
        exact Steps.refl _)
      obtain ⟨T7, X7, p7, st7⟩ := Xl.aput hexec hBk rfl hlt rfl (fits_lo8 (cv A (o + i))) (g := (mkF m 31 #[.val (.ref b), .val (.int (Int32.ofNat (o + i))), .val (.ref d), .val (.int (Int32.ofNat (q + i))), .val (.int (Int32.ofNat len)), .val (.int (Int32.ofNat i)), .val (.int (cv A (o + i)))] [.int (lo8 (cv A (o + i))), .int (Int32.ofNat (q + i)), .ref d])) rfl (rest := []) rfl (hb hbytes d31)
      have c8 : Steps p.tables e below (s₁.setTop (entryFrame m #[.ref b, .int (Int32.ofNat o), .ref d, .int (Int32.ofNat q), .int (Int32.ofNat len)] 7)) (T7.setTop (mkF m 32 #[.val (.ref b), .val (.int (Int32.ofNat (o + i))), .val (.ref d), .val (.int (Int32.ofNat (q + i))), .val (.int (Int32.ofNat len)), .val (.int (Int32.ofNat i)), .val (.int (cv A (o + i)))] [])) := c6.trans (st7 _ (Steps.refl _))
      have c9 : Steps p.tables e below (s₁.setTop (entryFrame m #[.ref b, .int (Int32.ofNat o), .ref d, .int (Int32.ofNat q), .int (Int32.ofNat len)] 7)) (T7.setTop (mkF m 3 #[.val (.ref b), .val (.int (Int32.ofNat (o + i) + 1)), .val (.ref d), .val (.int (Int32.ofNat (q + i) + 1)), .val (.int (Int32.ofNat len)), .val (.int (Int32.ofNat i + 1)), .val (.int (cv A (o + i)))] [])) := c8.trans (by
        refine iincV X7.here hexec rfl 1 (hb hbytes d32) (by decide) rfl rfl ?_
        refine iincV X7.here hexec rfl 1 (hb hbytes d35) (by decide) rfl rfl ?_
        refine iincV X7.here hexec rfl 1 (hb hbytes d38) (by decide) rfl rfl ?_
        refine XS.goto X7.here hexec rfl (pc0 := 41) rfl (hb hbytes d41) (by decide) rfl ?_
        exact Steps.refl _)
      have c10 : Steps p.tables e below (s₁.setTop (entryFrame m #[.ref b, .int (Int32.ofNat o), .ref d, .int (Int32.ofNat q), .int (Int32.ofNat len)] 7)) (T7.setTop (mkF m 3 #[.val (.ref b), .val (.int (Int32.ofNat (o + (i + 1)))), .val (.ref d), .val (.int (Int32.ofNat (q + (i + 1)))), .val (.int (Int32.ofNat len)), .val (.int (Int32.ofNat (i + 1))), .val (.int (cv A (o + i)))] [])) := by
        have := c9
        rw [succ32, succ32, succ32] at this
        exact this
      exact ih (i + 1) (by omega) _ (Or.inr ⟨_, rfl, rfl⟩) T7 _ (by rw [copyLocs_step, ← List.append_assoc]; exact X7) (pl.trans p7) (fl.step (by omega) hlt (by simp)) c10
  obtain ⟨T9, B9, z9, X9, p9, f9, g9⟩ := loop len 0 (by omega) .unset (Or.inl rfl) s₁ B (by simpa [copyLocs] using X0) ⟨hB0.1, fun _ _ => rfl, rfl⟩ (Laid.zero _ _ _) c2
  have c11 : Steps p.tables e below (s₁.setTop (entryFrame m #[.ref b, .int (Int32.ofNat o), .ref d, .int (Int32.ofNat q), .int (Int32.ofNat len)] 7)) (T9.setTop (mkF m 46 #[.val (.ref b), .val (.int (Int32.ofNat (o + len))), .val (.ref d), .val (.int (Int32.ofNat (q + len))), .val (.int (Int32.ofNat len)), .val (.int (Int32.ofNat len)), z9] [.int (Int32.ofNat len)])) := g9.trans (by
    refine XS.iload X9.here hexec rfl (hb hbytes d3) rfl ?_
    refine XS.iload X9.here hexec rfl (hb hbytes d5) rfl ?_
    refine XS.icmpYes X9.here hexec rfl (pc0 := 7) rfl (hb hbytes d7) rfl (ii_ge_t (nlt32 (by omega) (Nat.le_refl _))) (by decide) rfl ?_
    refine XS.iload X9.here hexec rfl (hb hbytes d44) rfl ?_
    exact Steps.refl _)
  exact ⟨T9, some (.int (Int32.ofNat len)), _, _, _, X9, by simp, rfl, rfl, (fun h => by cases h), ⟨rfl, B9, p9.from hh0, f9⟩, fun fs hl => c11.trans (X9.ireturnOut hexec hret rfl (Or.inl rfl) (hb hbytes d46) hl)⟩
end Cmp5
namespace Cmp3
def yN : MethodName := ⟨"java/lang/StringUTF16", "compress", "([CII)[B"⟩
abbrev yB : ByteArray := jdk_52_method_16_code
theorem d0 : decode yB 0 = .ok (.iload_n 2, 1) := by decide +kernel
theorem d1 : decode yB 1 = .ok (.newarray .byte, 2) := by decide +kernel
theorem d3 : decode yB 3 = .ok (.astore_n 3, 1) := by decide +kernel
theorem d4 : decode yB 4 = .ok (.aload_n 0, 1) := by decide +kernel
theorem d5 : decode yB 5 = .ok (.iload_n 1, 1) := by decide +kernel
theorem d6 : decode yB 6 = .ok (.aload_n 3, 1) := by decide +kernel
theorem d7 : decode yB 7 = .ok (.iconst 0, 1) := by decide +kernel
theorem d8 : decode yB 8 = .ok (.iload_n 2, 1) := by decide +kernel
theorem d9 : decode yB 9 = .ok (.invokestatic 115, 3) := by decide +kernel
theorem d12 : decode yB 12 = .ok (.istore 4, 2) := by decide +kernel
theorem d14 : decode yB 14 = .ok (.iload 4, 2) := by decide +kernel
theorem d16 : decode yB 16 = .ok (.iload_n 2, 1) := by decide +kernel
theorem d17 : decode yB 17 = .ok (.if_icmp (.eq) 40, 3) := by decide +kernel
theorem d57 : decode yB 57 = .ok (.aload_n 3, 1) := by decide +kernel
theorem d58 : decode yB 58 = .ok (.areturn, 1) := by decide +kernel
def site : List Cond := [.arrayClass .byte, Cmp5.tab] ++ staticW U16 115 Cmp5.yN
def tab : Cond := tabOf yN yB 6 (some (.array .byte)) site
def P (b : Addr) (A : Cell) (o len : Nat) (args : Array Value) (s : State) : Prop := args = #[.ref b, .int (Int32.ofNat o), .int (Int32.ofNat len)] ∧ Ch b A s ∧ o + len ≤ A.slots.size ∧ len ≤ 536870912 ∧ ∀ i, i < len → ¬ 255 < cv A (o + i)
def E (b : Addr) (A : Cell) (o len : Nat) (r : Option Value) (s u : State) : Prop := NewArr .byte "[B" len (fun j => .int (lo8 (cv A (o + j)))) r s u ∧ u.heap.size = s.heap.size + 1
/-- no char of the range above 255: a new byte[] of their low bytes -/
theorem law (l : Launch) (b : Addr) (A : Cell) (o len : Nat) : Law l yN 3 3 1 18 yB 6 (some (.array .byte)) site (P b A o len) (E b A o len) [] 1 len := by
  refine Law.of_walk (plainFor_of_name (by decide +kernel)) (by decide +kernel) (by decide +kernel) (by decide) (fun _ _ h => by rw [h.1]; rfl) (fun _ U U' hal hh h => ⟨h.1, h.2.1.mv hal hh, h.2.2⟩) (fun r U U' V V' h1 hal h2 h => ⟨NewArr.mv r U U' V V' h1 hal h2 h.1, by rw [h1, h2]; exact h.2⟩) ?_
  intro p e s m args below meth c s₁ X0 hexec hbytes hml hret hlk hnm hown hh0 W hP
  obtain ⟨rfl, hA, l1, l2, hp⟩ := hP
  have a31 := hA.1.2.2.2
  have c1 : Steps p.tables e below (s₁.setTop (entryFrame m #[.ref b, .int (Int32.ofNat o), .int (Int32.ofNat len)] 6)) (s₁.setTop (mkF m 0 #[.val (.ref b), .val (.int (Int32.ofNat o)), .val (.int (Int32.ofNat len)), .unset, .unset, .unset] [])) := entry rfl
  have c2 : Steps p.tables e below (s₁.setTop (entryFrame m #[.ref b, .int (Int32.ofNat o), .int (Int32.ofNat len)] 6)) (s₁.setTop (mkF m 1 #[.val (.ref b), .val (.int (Int32.ofNat o)), .val (.int (Int32.ofNat len)), .unset, .unset, .unset] [.int (Int32.ofNat len)])) := c1.trans (by
    refine XS.iloadN X0.here hexec rfl (hb hbytes d0) rfl ?_
    exact Steps.refl _)
  obtain ⟨T3, B3, X3, ba3, bs3, bv3, bh3, bf3, st3⟩ := X0.anew hexec (atype := .byte) (wk W (.arrayClass .byte)) rfl (by show len * 1 ≤ _; omega) (by omega) (g := (mkF m 1 #[.val (.ref b), .val (.int (Int32.ofNat o)), .val (.int (Int32.ofNat len)), .unset, .unset, .unset] [.int (Int32.ofNat len)])) rfl (hb hbytes d1) (rest := []) rfl (Nat.le_refl _) (by show 0 + len ≤ len; omega)
  rw [hh0] at ba3 st3
  have kp3 : XT.Kept s T3 := (XT.Kept.of_eq hh0).push bh3
  have hA3 := hA.keep X3.warmed.alike (kp3 _ _ hA.1.1)
  have hne : b ≠ s.heap.size := hA.1.ne
  have c4 : Steps p.tables e below (s₁.setTop (entryFrame m #[.ref b, .int (Int32.ofNat o), .int (Int32.ofNat len)] 6)) (T3.setTop (mkF m 3 #[.val (.ref b), .val (.int (Int32.ofNat o)), .val (.int (Int32.ofNat len)), .unset, .unset, .unset] [.ref s.heap.size])) := c2.trans (st3 _ (Steps.refl _))
  have c5 : Steps p.tables e below (s₁.setTop (entryFrame m #[.ref b, .int (Int32.ofNat o), .int (Int32.ofNat len)] 6)) (T3.setTop (mkF m 9 #[.val (.ref b), .val (.int (Int32.ofNat o)), .val (.int (Int32.ofNat len)), .val (.ref s.heap.size), .unset, .unset] [.int (Int32.ofNat len), .int 0, .ref s.heap.size, .int (Int32.ofNat o), .ref b])) := c4.trans (by
    refine XS.astoreN X3.here hexec rfl (hb hbytes d3) rfl rfl rfl ?_
    refine XS.aloadN X3.here hexec rfl (hb hbytes d4) rfl rfl ?_
    refine XS.iloadN X3.here hexec rfl (hb hbytes d5) rfl ?_
    refine XS.aloadN X3.here hexec rfl (hb hbytes d6) rfl rfl ?_
    refine iconstV X3.here hexec rfl 0 (hb hbytes d7) (by decide) ?_
    refine XS.iloadN X3.here hexec rfl (hb hbytes d8) rfl ?_
    exact Steps.refl _)
  obtain ⟨v6, T6, X6, E6, g6⟩ := X3.callS hexec (Cmp5.law l b A s.heap.size B3 o 0 len) hown (wks W (staticW U16 115 Cmp5.yN)) (wk W Cmp5.tab) (W := 0) (Nat.le_of_ble_eq_true rfl) (Nat.le_of_ble_eq_true rfl) (Nat.le_refl _) (by show 0 + len + 0 ≤ len; omega) (g := (mkF m 9 #[.val (.ref b), .val (.int (Int32.ofNat o)), .val (.int (Int32.ofNat len)), .val (.ref s.heap.size), .unset, .unset] [.int (Int32.ofNat len), .int (Int32.ofNat 0), .ref s.heap.size, .int (Int32.ofNat o), .ref b])) rfl (by rw [hml]; rfl) c5 (argsL := [.ref b, .int (Int32.ofNat o), .ref s.heap.size, .int (Int32.ofNat 0), .int (Int32.ofNat len)]) (rest := []) rfl rfl (by show 2 * 0 + 0 ≤ _; decide) (hb hbytes d9) (⟨rfl, hA3, ba3, hne, l1, by rw [bs3]; simp, hp⟩)
  obtain ⟨rfl, B6, p6, f6⟩ := E6
  have c7 : Steps p.tables e below (s₁.setTop (entryFrame m #[.ref b, .int (Int32.ofNat o), .int (Int32.ofNat len)] 6)) (T6.setTop (mkF m 12 #[.val (.ref b), .val (.int (Int32.ofNat o)), .val (.int (Int32.ofNat len)), .val (.ref s.heap.size), .unset, .unset] [.int (Int32.ofNat len)])) := g6
  have c8 : Steps p.tables e below (s₁.setTop (entryFrame m #[.ref b, .int (Int32.ofNat o), .int (Int32.ofNat len)] 6)) (T6.setTop (mkF m 58 #[.val (.ref b), .val (.int (Int32.ofNat o)), .val (.int (Int32.ofNat len)), .val (.ref s.heap.size), .val (.int (Int32.ofNat len)), .unset] [.ref s.heap.size])) := c7.trans (by
    refine XS.istore X6.here hexec rfl (hb hbytes d12) rfl rfl ?_
    refine XS.iload X6.here hexec rfl (hb hbytes d14) rfl ?_
    refine XS.iloadN X6.here hexec rfl (hb hbytes d16) rfl ?_
    refine XS.icmpYes X6.here hexec rfl (pc0 := 17) rfl (hb hbytes d17) rfl (ii_eq_t rfl) (by decide) rfl ?_
    refine XS.aloadN X6.here hexec rfl (hb hbytes d57) rfl rfl ?_
    exact Steps.refl _)
  have X8 := X6.wide (L' := []) (cells' := 1) (slots' := len) (fun x hx hlt => by
    simp only [List.nil_append, copyLocs, List.mem_map, List.mem_range] at hx
    obtain ⟨i, -, rfl⟩ := hx
    exact absurd hlt (Nat.lt_irrefl _)) (Nat.le_refl _) (by omega)
  exact ⟨T6, some (.ref s.heap.size), _, _, _, X8, rfl, rfl, rfl, (fun h => by cases h), ⟨⟨rfl, B6, ba3.like (X3.warmed.alike.symm.trans X6.warmed.alike) p6.1 f6.1 f6.2.1 f6.2.2.1, f6.2.1.trans bv3, by rw [X6.warmed.alike.findClass, f6.1]; exact bf3, by rw [f6.2.2.1, bs3]; simp, fun j hj => by rw [f6.2.2.2 j, if_pos (by omega)]; rfl, kp3.put p6 (Nat.le_refl _)⟩, by rw [p6.2.2, bh3, hh0]; simp⟩, fun fs hl => c8.trans (X8.areturnOut hexec rfl hret rfl (hb hbytes d58) hl)⟩
end Cmp3
namespace CodL
def yN : MethodName := ⟨"java/lang/StringUTF16", "coderFromArrayLen", "([BI)B"⟩
abbrev yB : ByteArray := jdk_52_method_15_code
theorem d0 : decode yB 0 = .ok (.iload_n 1, 1) := by decide +kernel
theorem d1 : decode yB 1 = .ok (.aload_n 0, 1) := by decide +kernel
theorem d2 : decode yB 2 = .ok (.arraylength, 1) := by decide +kernel
theorem d3 : decode yB 3 = .ok (.isub, 1) := by decide +kernel
theorem d4 : decode yB 4 = .ok (.bipush 31, 2) := by decide +kernel
theorem d6 : decode yB 6 = .ok (.iushr, 1) := by decide +kernel
theorem d7 : decode yB 7 = .ok (.i2b, 1) := by decide +kernel
theorem d8 : decode yB 8 = .ok (.ireturn, 1) := by decide +kernel
def site : List Cond := []
def tab : Cond := tabOf yN yB 2 (some .byte) site
def P (d : Addr) (B : Cell) (args : Array Value) (s : State) : Prop := args = #[.ref d, .int (Int32.ofNat B.slots.size)] ∧ Arr .byte d B s
def E (r : Option Value) (s u : State) : Prop := XT.PureE (some (.int 0)) r s u
/-- an array as long as the number of chars: LATIN1 -/
theorem law (l : Launch) (d : Addr) (B : Cell) : Law l yN 2 2 0 0 yB 2 (some .byte) site (P d B) E [] 0 0 := by
  refine Law.of_walk (plainFor_of_name (by decide +kernel)) (by decide +kernel) (by decide +kernel) (by decide) (fun _ _ h => by rw [h.1]; rfl) (fun _ U U' hal hh h => ⟨h.1, h.2.mv hal hh⟩) (fun r U U' V V' h1 hal h2 h => XT.PureE.mv r U U' V V' h1 hal h2 h) ?_
  intro p e s m args below meth c s₁ X0 hexec hbytes hml hret hlk hnm hown hh0 W hP
  obtain ⟨rfl, hB⟩ := hP
  have hB0 := hB.mv X0.warmed.alike hh0
  have c1 : Steps p.tables e below (s₁.setTop (entryFrame m #[.ref d, .int (Int32.ofNat B.slots.size)] 2)) (s₁.setTop (mkF m 0 #[.val (.ref d), .val (.int (Int32.ofNat B.slots.size))] [])) := entry rfl
  have c2 : Steps p.tables e below (s₁.setTop (entryFrame m #[.ref d, .int (Int32.ofNat B.slots.size)] 2)) (s₁.setTop (mkF m 2 #[.val (.ref d), .val (.int (Int32.ofNat B.slots.size))] [.ref d, .int (Int32.ofNat B.slots.size)])) := c1.trans (by
    refine XS.iloadN X0.here hexec rfl (hb hbytes d0) rfl ?_
    refine XS.aloadN X0.here hexec rfl (hb hbytes d1) rfl rfl ?_
    exact Steps.refl _)
  have c3 : Steps p.tables e below (s₁.setTop (entryFrame m #[.ref d, .int (Int32.ofNat B.slots.size)] 2)) (s₁.setTop (mkF m 8 #[.val (.ref d), .val (.int (Int32.ofNat B.slots.size))] [.int (lo8 (ushr (Int32.ofNat B.slots.size - Int32.ofNat B.slots.size) 31))])) := c2.trans (by
    refine X0.alen hexec hB0 rfl rfl (hb hbytes d2) ?_
    refine XS.isub X0.here hexec rfl (hb hbytes d3) rfl ?_
    refine bipushV X0.here hexec rfl 31 (hb hbytes d4) (by decide) ?_
    refine iushr X0.here hexec rfl (hb hbytes d6) rfl ?_
    refine i2b X0.here hexec rfl (hb hbytes d7) rfl ?_
    exact Steps.refl _)
  have e0 : lo8 (ushr (Int32.ofNat B.slots.size - Int32.ofNat B.slots.size) 31) = 0 := by rw [Int32.sub_self]; decide
  rw [e0] at c3
  exact ⟨s₁, some (.int 0), _, _, _, X0, rfl, rfl, rfl, (fun h => by cases h), ⟨rfl, hh0⟩, fun fs hl => c3.trans (X0.ireturnOut hexec hret rfl (Or.inr (Or.inr (Or.inl rfl))) (hb hbytes d8) hl)⟩
end CodL
/-- the String at a is Latin-1 over a new byte[] (the heap's one new cell): the low bytes of the len chars of A from o on; every cell but a is kept -/
def Got (a : Addr) (D : Cell) (fV fC : Field) (A : Cell) (o len : Nat) (r : Option Value) (s u : State) : Prop := r = none ∧ ∃ D' V : Cell, Blank "java/lang/String" a D' u ∧ Same D D' [fV.slot, fC.slot] ∧ D'.slots[fV.slot]? = some (.ref s.heap.size) ∧ D'.slots[fC.slot]? = some (.int 0) ∧ Arr .byte s.heap.size V u ∧ V.vm = .none ∧ u.vm.findClass "[B" = some V.cls ∧ V.slots.size = len ∧ (∀ j, j < len → V.slots[j]? = some (.int (lo8 (cv A (o + j))))) ∧ (∀ (y : Addr) (c : Cell), y ≠ a → s.heap[y]? = some c → u.heap[y]? = some c) ∧ u.heap.size = s.heap.size + 1
theorem Got.mv {a : Addr} {D A : Cell} {fV fC : Field} {o len : Nat} : ∀ r (U U' V V' : State), U'.heap = U.heap → V.vm.Alike V'.vm → V'.heap = V.heap → Got a D fV fC A o len r U V → Got a D fV fC A o len r U' V' :=
  fun r U U' V V' h1 hal h2 ⟨e0, D', X, a1, a2, a3, a4, a5, a6, a7, a8, a9, a10, a11⟩ => ⟨e0, D', X, a1.mv hal h2, a2, by rw [h1]; exact a3, a4, by rw [h1]; exact a5.mv hal h2, a6, by rw [hal.findClass]; exact a7, a8, a9, by rw [h1, h2]; exact a10, by rw [h1, h2]; exact a11⟩
namespace New4
def yN : MethodName := ⟨"java/lang/String", "<init>", "([CIILjava/lang/Void;)V"⟩
abbrev yB : ByteArray := jdk_42_method_149_code
theorem d0 : decode yB 0 = .ok (.aload_n 0, 1) := by decide +kernel
theorem d1 : decode yB 1 = .ok (.invokespecial 1, 3) := by decide +kernel
theorem d4 : decode yB 4 = .ok (.iload_n 3, 1) := by decide +kernel
theorem d5 : decode yB 5 = .ok (.ifCond (.ne) 22, 3) := by decide +kernel
theorem d27 : decode yB 27 = .ok (.getstatic 38, 3) := by decide +kernel
theorem d30 : decode yB 30 = .ok (.ifCond (.eq) 28, 3) := by decide +kernel
theorem d33 : decode yB 33 = .ok (.aload_n 1, 1) := by decide +kernel
theorem d34 : decode yB 34 = .ok (.iload_n 2, 1) := by decide +kernel
theorem d35 : decode yB 35 = .ok (.iload_n 3, 1) := by decide +kernel
theorem d36 : decode yB 36 = .ok (.invokestatic 177, 3) := by decide +kernel
theorem d39 : decode yB 39 = .ok (.astore 5, 2) := by decide +kernel
theorem d41 : decode yB 41 = .ok (.aload_n 0, 1) := by decide +kernel
theorem d42 : decode yB 42 = .ok (.aload 5, 2) := by decide +kernel
theorem d44 : decode yB 44 = .ok (.iload_n 3, 1) := by decide +kernel
theorem d45 : decode yB 45 = .ok (.invokestatic 47, 3) := by decide +kernel
theorem d48 : decode yB 48 = .ok (.putfield 15, 3) := by decide +kernel
theorem d51 : decode yB 51 = .ok (.aload_n 0, 1) := by decide +kernel
theorem d52 : decode yB 52 = .ok (.aload 5, 2) := by decide +kernel
theorem d54 : decode yB 54 = .ok (.putfield 9, 3) := by decide +kernel
theorem d57 : decode yB 57 = .ok (.return_, 1) := by decide +kernel
def site : List Cond := [.fieldLink "java/lang/String" 38 "java/lang/String" "COMPACT_STRINGS" "Z", Cmp3.tab, CodL.tab, .laysFinal "java/lang/String" "java/lang/String" "value" "[B", .fieldLink "java/lang/String" 9 "java/lang/String" "value" "[B", .laysFinal "java/lang/String" "java/lang/String" "coder" "B", .fieldLink "java/lang/String" 15 "java/lang/String" "coder" "B"] ++ objW "java/lang/String" 1 ++ staticW "java/lang/String" 177 Cmp3.yN ++ staticW "java/lang/String" 47 CodL.yN
def tab : Cond := tabOf yN yB 6 none site
def P (a : Addr) (D : Cell) (fV fC : Field) (b : Addr) (A : Cell) (z : Int32) (o len : Nat) (args : Array Value) (s : State) : Prop := args = #[.ref a, .ref b, .int (Int32.ofNat o), .int (Int32.ofNat len), .null] ∧ Blank "java/lang/String" a D s ∧ Found "java/lang/String" "value" "[B" fV s ∧ Found "java/lang/String" "coder" "B" fC s ∧ Ch b A s ∧ StaticIs s "java/lang/String" "COMPACT_STRINGS" "Z" (.int z) ∧ ¬ z = 0 ∧ 0 < len ∧ o + len ≤ A.slots.size ∧ len ≤ 536870912 ∧ ∀ i, i < len → ¬ 255 < cv A (o + i)
def E (a : Addr) (D : Cell) (fV fC : Field) (A : Cell) (o len : Nat) (r : Option Value) (s u : State) : Prop := Got a D fV fC A o len r s u
/-- len > 0, no char of the range above 255: a Latin-1 String of their low bytes -/
theorem law (l : Launch) (a : Addr) (D : Cell) (fV fC : Field) (b : Addr) (A : Cell) (z : Int32) (o len : Nat) : Law l yN 5 4 2 35 yB 6 none site (P a D fV fC b A z o len) (E a D fV fC A o len) [⟨a, fC.slot⟩, ⟨a, fV.slot⟩] 1 len := by
  refine Law.of_walk (plainFor_of_name (by decide +kernel)) (by decide +kernel) (by decide +kernel) (by decide) (fun _ _ h => by rw [h.1]; rfl) (fun _ U U' hal hh h => ⟨h.1, h.2.1.mv hal hh, h.2.2.1.al hal, h.2.2.2.1.al hal, h.2.2.2.2.1.mv hal hh, h.2.2.2.2.2.1.there hal hh, h.2.2.2.2.2.2⟩) (fun r U U' V V' h1 hal h2 h => Got.mv r U U' V V' h1 hal h2 h) ?_
  intro p e s m args below meth c s₁ X0 hexec hbytes hml hret hlk hnm hown hh0 W hP
  obtain ⟨rfl, hB, f1, f2, hA, s1, hz, l0, l1, l2, hp⟩ := hP
  have a31 := hA.1.2.2.2
  have c1 : Steps p.tables e below (s₁.setTop (entryFrame m #[.ref a, .ref b, .int (Int32.ofNat o), .int (Int32.ofNat len), .null] 6)) (s₁.setTop (mkF m 0 #[.val (.ref a), .val (.ref b), .val (.int (Int32.ofNat o)), .val (.int (Int32.ofNat len)), .val .null, .unset] [])) := entry rfl
  have c2 : Steps p.tables e below (s₁.setTop (entryFrame m #[.ref a, .ref b, .int (Int32.ofNat o), .int (Int32.ofNat len), .null] 6)) (s₁.setTop (mkF m 1 #[.val (.ref a), .val (.ref b), .val (.int (Int32.ofNat o)), .val (.int (Int32.ofNat len)), .val .null, .unset] [.ref a])) := c1.trans (by
    refine XS.aloadN X0.here hexec rfl (hb hbytes d0) rfl rfl ?_
    exact Steps.refl _)
  obtain ⟨T3, X3, q3, st3⟩ := X0.oinit hexec hown (wks W (objW "java/lang/String" 1)) (g := (mkF m 1 #[.val (.ref a), .val (.ref b), .val (.int (Int32.ofNat o)), .val (.int (Int32.ofNat len)), .val .null, .unset] [.ref a])) rfl (by rw [hml]; rfl) (rest := []) rfl (hb hbytes d1) (W := 0) (by show 2 * 0 + 0 ≤ _; decide) (Nat.le_of_ble_eq_true rfl) (Nat.le_of_ble_eq_true rfl)
  have hh3 := q3.trans hh0
  have c4 : Steps p.tables e below (s₁.setTop (entryFrame m #[.ref a, .ref b, .int (Int32.ofNat o), .int (Int32.ofNat len), .null] 6)) (T3.setTop (mkF m 27 #[.val (.ref a), .val (.ref b), .val (.int (Int32.ofNat o)), .val (.int (Int32.ofNat len)), .val .null, .unset] [])) := (c2.trans (st3 _ (Steps.refl _))).trans (by
    refine XS.iloadN X3.here hexec rfl (hb hbytes d4) rfl ?_
    refine XS.ifYes X3.here hexec rfl (pc0 := 5) rfl (hb hbytes d5) rfl (i0_ne_t (nz32 (by omega) l0)) (by decide) rfl ?_
    exact Steps.refl _)
  obtain ⟨T5, X5, q5, st5⟩ := X3.sget hexec hown (wk W (.fieldLink "java/lang/String" 38 "java/lang/String" "COMPACT_STRINGS" "Z")) s1 (fun _ _ h => by rw [hh3]; exact h) (g := (mkF m 27 #[.val (.ref a), .val (.ref b), .val (.int (Int32.ofNat o)), .val (.int (Int32.ofNat len)), .val .null, .unset] [])) rfl (hb hbytes d27)
  have hh5 := q5.trans hh3
  have c6 : Steps p.tables e below (s₁.setTop (entryFrame m #[.ref a, .ref b, .int (Int32.ofNat o), .int (Int32.ofNat len), .null] 6)) (T5.setTop (mkF m 30 #[.val (.ref a), .val (.ref b), .val (.int (Int32.ofNat o)), .val (.int (Int32.ofNat len)), .val .null, .unset] [.int z])) := c4.trans (st5 _ (Steps.refl _))
  have c7 : Steps p.tables e below (s₁.setTop (entryFrame m #[.ref a, .ref b, .int (Int32.ofNat o), .int (Int32.ofNat len), .null] 6)) (T5.setTop (mkF m 36 #[.val (.ref a), .val (.ref b), .val (.int (Int32.ofNat o)), .val (.int (Int32.ofNat len)), .val .null, .unset] [.int (Int32.ofNat len), .int (Int32.ofNat o), .ref b])) := c6.trans (by
    refine XS.ifNo X5.here hexec rfl (hb hbytes d30) rfl (i0_eq_f hz) ?_
    refine XS.aloadN X5.here hexec rfl (hb hbytes d33) rfl rfl ?_
    refine XS.iloadN X5.here hexec rfl (hb hbytes d34) rfl ?_
    refine XS.iloadN X5.here hexec rfl (hb hbytes d35) rfl ?_
    exact Steps.refl _)
  obtain ⟨v8, T8, X8, E8, g8⟩ := X5.callS hexec (Cmp3.law l b A o len) hown (wks W (staticW "java/lang/String" 177 Cmp3.yN)) (wk W Cmp3.tab) (W := 0) (Nat.le_of_ble_eq_true rfl) (Nat.le_of_ble_eq_true rfl) (Nat.le_refl _) (by show 0 + len ≤ len; omega) (g := (mkF m 36 #[.val (.ref a), .val (.ref b), .val (.int (Int32.ofNat o)), .val (.int (Int32.ofNat len)), .val .null, .unset] [.int (Int32.ofNat len), .int (Int32.ofNat o), .ref b])) rfl (by rw [hml]; rfl) c7 (argsL := [.ref b, .int (Int32.ofNat o), .int (Int32.ofNat len)]) (rest := []) rfl rfl (by show 2 * 0 + 0 ≤ _; decide) (hb hbytes d36) (⟨rfl, hA.mv X5.warmed.alike hh5, l1, l2, hp⟩)
  obtain ⟨e8, z8⟩ := E8
  obtain ⟨rfl, N, n1, n2, n3, n4, n5, n6⟩ := NewArr.mv _ T5 s _ _ hh5.symm (Vm.Alike.refl _) rfl e8
  rw [hh5] at z8
  have hB1 := hB.keep X8.warmed.alike (n6 _ _ hB.1)
  have hne : s.heap.size ≠ a := (Nat.ne_of_lt (Array.getElem?_eq_some_iff.mp hB.1).1).symm
  have c9 : Steps p.tables e below (s₁.setTop (entryFrame m #[.ref a, .ref b, .int (Int32.ofNat o), .int (Int32.ofNat len), .null] 6)) (T8.setTop (mkF m 39 #[.val (.ref a), .val (.ref b), .val (.int (Int32.ofNat o)), .val (.int (Int32.ofNat len)), .val .null, .unset] [.ref s.heap.size])) := g8
  have c10 : Steps p.tables e below (s₁.setTop (entryFrame m #[.ref a, .ref b, .int (Int32.ofNat o), .int (Int32.ofNat len), .null] 6)) (T8.setTop (mkF m 45 #[.val (.ref a), .val (.ref b), .val (.int (Int32.ofNat o)), .val (.int (Int32.ofNat len)), .val .null, .val (.ref s.heap.size)] [.int (Int32.ofNat N.slots.size), .ref s.heap.size, .ref a])) := by
    have hc : Steps p.tables e below (s₁.setTop (entryFrame m #[.ref a, .ref b, .int (Int32.ofNat o), .int (Int32.ofNat len), .null] 6)) (T8.setTop (mkF m 45 #[.val (.ref a), .val (.ref b), .val (.int (Int32.ofNat o)), .val (.int (Int32.ofNat len)), .val .null, .val (.ref s.heap.size)] [.int (Int32.ofNat len), .ref s.heap.size, .ref a])) := c9.trans (by
      refine XS.astore X8.here hexec rfl (hb hbytes d39) rfl rfl rfl ?_
      refine XS.aloadN X8.here hexec rfl (hb hbytes d41) rfl rfl ?_
      refine XS.aload X8.here hexec rfl (hb hbytes d42) rfl rfl ?_
      refine XS.iloadN X8.here hexec rfl (hb hbytes d44) rfl ?_
      exact Steps.refl _)
    rw [n4]; exact hc
  obtain ⟨v11, T11, X11, E11, g11⟩ := X8.callS hexec (CodL.law l s.heap.size N) hown (wks W (staticW "java/lang/String" 47 CodL.yN)) (wk W CodL.tab) (W := 1) (Nat.le_of_ble_eq_true rfl) (Nat.le_of_ble_eq_true rfl) (Nat.le_refl _) (by show 0 + len + 0 ≤ len; omega) (g := (mkF m 45 #[.val (.ref a), .val (.ref b), .val (.int (Int32.ofNat o)), .val (.int (Int32.ofNat len)), .val .null, .val (.ref s.heap.size)] [.int (Int32.ofNat N.slots.size), .ref s.heap.size, .ref a])) rfl (by rw [hml]; rfl) c10 (argsL := [.ref s.heap.size, .int (Int32.ofNat N.slots.size)]) (rest := [.ref a]) rfl rfl (by show 2 * 0 + (1 + 0) ≤ _; decide) (hb hbytes d45) (⟨rfl, n1⟩)
  obtain ⟨rfl, q11⟩ := E11
  have hB11 := hB1.mv (X8.warmed.alike.symm.trans X11.warmed.alike) q11
  have c12 : Steps p.tables e below (s₁.setTop (entryFrame m #[.ref a, .ref b, .int (Int32.ofNat o), .int (Int32.ofNat len), .null] 6)) (T11.setTop (mkF m 48 #[.val (.ref a), .val (.ref b), .val (.int (Int32.ofNat o)), .val (.int (Int32.ofNat len)), .val .null, .val (.ref s.heap.size)] [.int 0, .ref a])) := g11
  obtain ⟨T13, X13, p13, bl13, sl13, st13⟩ := X11.finit hexec hown (wk W (.fieldLink "java/lang/String" 15 "java/lang/String" "coder" "B")) (Or.inr ⟨_, (wk W (.laysFinal "java/lang/String" "java/lang/String" "coder" "B"))⟩) (Or.inl ⟨rfl, hnm⟩) f2 (Or.inl rfl) hB11 (t := .byte) (by decide +kernel) rfl (g := (mkF m 48 #[.val (.ref a), .val (.ref b), .val (.int (Int32.ofNat o)), .val (.int (Int32.ofNat len)), .val .null, .val (.ref s.heap.size)] [.int 0, .ref a])) rfl (rest := []) rfl (hb hbytes d48)
  have c14 : Steps p.tables e below (s₁.setTop (entryFrame m #[.ref a, .ref b, .int (Int32.ofNat o), .int (Int32.ofNat len), .null] 6)) (T13.setTop (mkF m 54 #[.val (.ref a), .val (.ref b), .val (.int (Int32.ofNat o)), .val (.int (Int32.ofNat len)), .val .null, .val (.ref s.heap.size)] [.ref s.heap.size, .ref a])) := (c12.trans (st13 _ (Steps.refl _))).trans (by
    refine XS.aloadN X13.here hexec rfl (hb hbytes d51) rfl rfl ?_
    refine XS.aload X13.here hexec rfl (hb hbytes d52) rfl rfl ?_
    exact Steps.refl _)
  obtain ⟨T15, X15, p15, bl15, sl15, st15⟩ := X13.finit hexec hown (wk W (.fieldLink "java/lang/String" 9 "java/lang/String" "value" "[B")) (Or.inr ⟨_, (wk W (.laysFinal "java/lang/String" "java/lang/String" "value" "[B"))⟩) (Or.inl ⟨rfl, hnm⟩) f1 (Or.inl rfl) bl13 (t := (.array .byte)) (by decide +kernel) rfl (g := (mkF m 54 #[.val (.ref a), .val (.ref b), .val (.int (Int32.ofNat o)), .val (.int (Int32.ofNat len)), .val .null, .val (.ref s.heap.size)] [.ref s.heap.size, .ref a])) rfl (rest := []) rfl (hb hbytes d54)
  have c16 : Steps p.tables e below (s₁.setTop (entryFrame m #[.ref a, .ref b, .int (Int32.ofNat o), .int (Int32.ofNat len), .null] 6)) (T15.setTop (mkF m 57 #[.val (.ref a), .val (.ref b), .val (.int (Int32.ofNat o)), .val (.int (Int32.ofNat len)), .val .null, .val (.ref s.heap.size)] [])) := c14.trans (st15 _ (Steps.refl _))
  have ap := apart (Or.inr ⟨_, (wk W (.laysFinal "java/lang/String" "java/lang/String" "value" "[B"))⟩) (Or.inr ⟨_, (wk W (.laysFinal "java/lang/String" "java/lang/String" "coder" "B"))⟩) f1 f2 (t₁ := .array .byte) (t₂ := .byte) (by decide +kernel) (by decide +kernel) (by decide)
  have al := X8.warmed.alike.symm.trans X15.warmed.alike
  have n7 : T11.heap[s.heap.size]? = some N := by rw [q11]; exact n1.1
  exact ⟨T15, none, _, _, _, X15, by simp, rfl, by omega, (fun _ => rfl), ⟨rfl, _, N, bl15, ((Same.refl D _).set _ (by simp)).set _ (by simp), sl15, (Cell.slots_setSlot_ne _ ap).trans sl13, n1.keep al (p15.other hne (p13.other hne n7)), n2, by rw [al.findClass]; exact n3, n4, n5, fun y c h1 h2 => p15.other h1 (p13.other h1 (by rw [q11]; exact n6 y c h2)), by rw [p15.2.2, p13.2.2, q11]; exact z8⟩, fun fs hl => c16.trans (X15.returnOut hexec hret (hb hbytes d57) hl)⟩
end New4
namespace New1
def yN : MethodName := ⟨"java/lang/String", "<init>", "([C)V"⟩
abbrev yB : ByteArray := jdk_42_method_3_code
theorem d0 : decode yB 0 = .ok (.aload_n 0, 1) := by decide +kernel
theorem d1 : decode yB 1 = .ok (.aload_n 1, 1) := by decide +kernel
theorem d2 : decode yB 2 = .ok (.iconst 0, 1) := by decide +kernel
theorem d3 : decode yB 3 = .ok (.aload_n 1, 1) := by decide +kernel
theorem d4 : decode yB 4 = .ok (.arraylength, 1) := by decide +kernel
theorem d5 : decode yB 5 = .ok (.aconst_null, 1) := by decide +kernel
theorem d6 : decode yB 6 = .ok (.invokespecial 27, 3) := by decide +kernel
theorem d9 : decode yB 9 = .ok (.return_, 1) := by decide +kernel
def site : List Cond := [New4.tab] ++ initW "java/lang/String" 27 New4.yN
def tab : Cond := tabOf yN yB 2 none site
def P (a : Addr) (D : Cell) (fV fC : Field) (b : Addr) (A : Cell) (z : Int32) (args : Array Value) (s : State) : Prop := args = #[.ref a, .ref b] ∧ Blank "java/lang/String" a D s ∧ Found "java/lang/String" "value" "[B" fV s ∧ Found "java/lang/String" "coder" "B" fC s ∧ Ch b A s ∧ StaticIs s "java/lang/String" "COMPACT_STRINGS" "Z" (.int z) ∧ ¬ z = 0 ∧ 0 < A.slots.size ∧ A.slots.size ≤ 536870912 ∧ ∀ i, i < A.slots.size → ¬ 255 < cv A i
def E (a : Addr) (D : Cell) (fV fC : Field) (A : Cell) (r : Option Value) (s u : State) : Prop := Got a D fV fC A 0 A.slots.size r s u
/-- new String(chars), not empty, no char above 255: a Latin-1 String of their low bytes -/
theorem law (l : Launch) (a : Addr) (D : Cell) (fV fC : Field) (b : Addr) (A : Cell) (z : Int32) : Law l yN 2 1 3 52 yB 2 none site (P a D fV fC b A z) (E a D fV fC A) [⟨a, fC.slot⟩, ⟨a, fV.slot⟩] 1 A.slots.size := by
  refine Law.of_walk (plainFor_of_name (by decide +kernel)) (by decide +kernel) (by decide +kernel) (by decide) (fun _ _ h => by rw [h.1]; rfl) (fun _ U U' hal hh h => ⟨h.1, h.2.1.mv hal hh, h.2.2.1.al hal, h.2.2.2.1.al hal, h.2.2.2.2.1.mv hal hh, h.2.2.2.2.2.1.there hal hh, h.2.2.2.2.2.2⟩) (fun r U U' V V' h1 hal h2 h => Got.mv r U U' V V' h1 hal h2 h) ?_
  intro p e s m args below meth c s₁ X0 hexec hbytes hml hret hlk hnm hown hh0 W hP
  obtain ⟨rfl, hB, f1, f2, hA, s1, hz, l0, l2, hp⟩ := hP
  have c1 : Steps p.tables e below (s₁.setTop (entryFrame m #[.ref a, .ref b] 2)) (s₁.setTop (mkF m 0 #[.val (.ref a), .val (.ref b)] [])) := entry rfl
  have c2 : Steps p.tables e below (s₁.setTop (entryFrame m #[.ref a, .ref b] 2)) (s₁.setTop (mkF m 6 #[.val (.ref a), .val (.ref b)] [.null, .int (Int32.ofNat A.slots.size), .int 0, .ref b, .ref a])) := c1.trans (by
    refine XS.aloadN X0.here hexec rfl (hb hbytes d0) rfl rfl ?_
    refine XS.aloadN X0.here hexec rfl (hb hbytes d1) rfl rfl ?_
    refine iconstV X0.here hexec rfl 0 (hb hbytes d2) (by decide) ?_
    refine XS.aloadN X0.here hexec rfl (hb hbytes d3) rfl rfl ?_
    refine X0.alen hexec (hA.1.mv X0.warmed.alike hh0) rfl rfl (hb hbytes d4) ?_
    refine XS.aconstNull X0.here hexec rfl (hb hbytes d5) ?_
    exact Steps.refl _)
  obtain ⟨v3, T3, X3, E3, g3⟩ := X0.callN hexec (New4.law l a D fV fC b A z 0 A.slots.size) rfl hown (wks W (initW "java/lang/String" 27 New4.yN)) (W New4.tab (by simp only [site, List.mem_cons, List.mem_append, true_or, or_true])) (W := 0) (Nat.le_of_ble_eq_true rfl) (Nat.le_of_ble_eq_true rfl) (Nat.le_refl _) (by show 0 + A.slots.size ≤ A.slots.size; omega) (g := (mkF m 6 #[.val (.ref a), .val (.ref b)] [.null, .int (Int32.ofNat A.slots.size), .int (Int32.ofNat 0), .ref b, .ref a])) rfl (by rw [hml]; rfl) c2 (argsL := [.ref b, .int (Int32.ofNat 0), .int (Int32.ofNat A.slots.size), .null]) (rest := []) rfl rfl (by show 2 * 0 + 0 ≤ _; decide) (hb hbytes d6) (⟨rfl, hB.mv X0.warmed.alike hh0, f1.al X0.warmed.alike, f2.al X0.warmed.alike, hA.mv X0.warmed.alike hh0, s1.there X0.warmed.alike hh0, hz, l0, by omega, l2, fun i hi => by rw [Nat.zero_add]; exact hp i hi⟩)
  have e0 := Got.mv _ s₁ s _ _ hh0.symm (Vm.Alike.refl _) rfl E3
  obtain rfl := e0.1
  have c4 : Steps p.tables e below (s₁.setTop (entryFrame m #[.ref a, .ref b] 2)) (T3.setTop (mkF m 9 #[.val (.ref a), .val (.ref b)] [])) := g3
  exact ⟨T3, none, _, _, _, X3, by simp, rfl, by omega, (fun _ => rfl), e0, fun fs hl => c4.trans (X3.returnOut hexec hret (hb hbytes d9) hl)⟩
theorem pays {l : Launch} {R : Room} {p : Program} {e : Env} {below : List Frame} {s : State} {sargs : Array Value} {len W : Nat} (a : Addr) (D : Cell) (fV fC : Field) (b : Addr) (A : Cell) (z : Int32) (htab : tab.before sargs s = true) (hfr : 4 ≤ R.frames) (hlo : W + 65 ≤ R.locals) :
    Back l R p e below s sargs yN len W (fun A₁ a₁ => A₁.cells + 1 ≤ R.cells ∧ A₁.slots + A.slots.size ≤ R.slots ∧ P a D fV fC b A z a₁ A₁.U) (fun A₁ _ v₁ B₁ => E a D fV fC A v₁ A₁.U B₁.U ∧ B₁.locs = A₁.locs ++ [⟨a, fC.slot⟩, ⟨a, fV.slot⟩] ∧ B₁.cells = A₁.cells + 1 ∧ B₁.slots = A₁.slots + A.slots.size) :=
  (law l a D fV fC b A z).pays htab hfr (by omega)
end New1
/-- the byte, read back as charAt reads it, is the char -/
theorem lo8_mask {x : Int32} (h0 : ¬ x < 0) (h1 : ¬ 255 < x) : lo8 x &&& 255 = x := by
  have t : ∀ k : Fin 256, lo8 (Int32.ofNat k.val) &&& 255 = Int32.ofNat k.val := by decide +kernel
  rw [Int32.lt_iff_toInt_lt] at h0 h1
  have e0 : (0 : Int32).toInt = 0 := rfl
  have e1 : (255 : Int32).toInt = 255 := rfl
  obtain ⟨k, hk⟩ : ∃ k : Nat, x.toInt = k := ⟨x.toInt.toNat, by omega⟩
  have hx : x = Int32.ofNat k := Int32.toInt_inj.mp (by rw [hk, Int32.toInt_ofNat_small (by omega)])
  rw [hx]
  exact t ⟨k, by omega⟩
end StrChars
namespace StrChars.Road
open Jvm Sem ClassFile Op Lib Jvm.Stand Jvm.Free Jvm.Free.XT
open Jvm.Lib.Cold (StaticIs)
abbrev ST : String := "java/lang/String"
/-- every table word that New1's law asks, flat -/
abbrev words : List Jvm.Cond := [.code New1.yN New1.yB 2 none, .initialized ST, .methodLink ST 27 New4.yN, .instanceMethod New4.yN,
  .code New4.yN New4.yB 6 none, .fieldLink ST 38 ST "COMPACT_STRINGS" "Z", .laysFinal ST ST "value" "[B", .fieldLink ST 9 ST "value" "[B", .laysFinal ST ST "coder" "B", .fieldLink ST 15 ST "coder" "B",
  .methodLink ST 1 Lib.objectInit, .instanceMethod Lib.objectInit, .code Lib.objectInit ⟨#[0xb1]⟩ 1 none, .methodLink ST 177 Cmp3.yN, .static Cmp3.yN, .methodLink ST 47 CodL.yN, .static CodL.yN,
  .code Cmp3.yN Cmp3.yB 6 (some (.array .byte)), .initialized U16, .arrayClass .byte, .methodLink U16 115 Cmp5.yN, .static Cmp5.yN, .code Cmp5.yN Cmp5.yB 7 (some .int), .code CodL.yN CodL.yB 2 (some .byte)]
theorem tab_of {a : Array Value} {s : State} (h : ∀ w ∈ words, w.before a s = true) : New1.tab.before a s = true := by
  have h5 : Cmp5.tab.before a s = true := unparts (wk h (.code Cmp5.yN Cmp5.yB 7 (some .int))) (wks h (.initialized Cmp5.yN.cls :: Cmp5.site))
  have hc : CodL.tab.before a s = true := unparts (wk h (.code CodL.yN CodL.yB 2 (some .byte))) (wks h (.initialized CodL.yN.cls :: CodL.site))
  have q5 : ∀ w ∈ Cmp5.tab :: words, w.before a s = true := fun w hw => (List.mem_cons.mp hw).elim (fun e => e ▸ h5) (h w)
  have h3 : Cmp3.tab.before a s = true := unparts (wk q5 (.code Cmp3.yN Cmp3.yB 6 (some (.array .byte)))) (wks q5 (.initialized Cmp3.yN.cls :: Cmp3.site))
  have q3 : ∀ w ∈ Cmp3.tab :: CodL.tab :: words, w.before a s = true := fun w hw => (List.mem_cons.mp hw).elim (fun e => e ▸ h3) fun hw => (List.mem_cons.mp hw).elim (fun e => e ▸ hc) (h w)
  have h4 : New4.tab.before a s = true := unparts (wk q3 (.code New4.yN New4.yB 6 none)) (wks q3 (.initialized New4.yN.cls :: New4.site))
  have q4 : ∀ w ∈ New4.tab :: words, w.before a s = true := fun w hw => (List.mem_cons.mp hw).elim (fun e => e ▸ h4) (h w)
  exact unparts (wk q4 (.code New1.yN New1.yB 2 none)) (wks q4 (.initialized New1.yN.cls :: New1.site))
/-- the words ride from the start Z to the walk's own state -/
theorem moved {Z s : State} {a0 args : Array Value} (hZ : Z.Warmed39 s.vm) (hw : ∀ d ∈ words, d.before a0 Z = true) : ∀ d ∈ words, d.before args s = true := fun d hd => by
  have q := hw d hd
  have t : ∀ d ∈ words, d = .arrayClass .byte ∨ (d.onTables && d.keepsFace) = true := by decide +kernel
  rcases t d hd with rfl | t
  · exact RoadKit.mvA hZ q
  · exact RoadKit.mv hZ q t
/-- WHAT COMES BACK, over the tables of the start Z: h the heap at the call, h' behind it -/
def Q (Z : State) (x : Addr) (A : Cell) (h : Heap) (v : Option Value) (h' : Heap) (L : List Loc) : Prop := v = none ∧ (∀ y ∈ L, y.base = x) ∧ RoadKit.Keep h h' [x] ∧ h'.size = h.size + 1 ∧ RoadKit.Exa Z h' x ST ∧ RoadKit.Fld Z h' x ST "value" "[B" (.ref h.size) ∧ RoadKit.Fld Z h' x ST "coder" "B" (.int 0) ∧
  (∃ V : Cell, RoadKit.Arr Z h' h.size V .byte ∧ V.vm = .none ∧ Z.vm.findClass "[B" = some V.cls ∧ V.slots.size = A.slots.size ∧ ∀ j, j < A.slots.size → V.slots[j]? = some (.int (lo8 (cv A j)))) ∧
  ∀ (O n d : String) (w : Value), RoadKit.Fld Z h x O n d w → RoadKit.slotOf Z O n d ≠ RoadKit.slotOf Z ST "value" "[B" → RoadKit.slotOf Z O n d ≠ RoadKit.slotOf Z ST "coder" "B" → RoadKit.Fld Z h' x O n d w
/-- **new String(chars) AT A CALL, IN THE ROAD'S FORM**: for specialBack behind newO: x the fresh String, b the char[] with the cell A -/
theorem back {p : Program} {l : Launch} {e : Env} {R : Room} {s : State} {args : Array Value} {below : List Frame} {len W : Nat} {Z : State} {a0 : Array Value} {h : Heap} (hZ : Z.Warmed39 s.vm) (hw : ∀ d ∈ words, d.before a0 Z = true) {kI : Nat} (wi : (Jvm.Cond.instantiable ST kI).before a0 Z = true)
    {x b : Addr} {A : Cell} {z : Int32} {v0 c0 : Value} (E : RoadKit.Exa Z h x ST) (V : RoadKit.Fld Z h x ST "value" "[B" v0) (C : RoadKit.Fld Z h x ST "coder" "B" c0) (K : RoadKit.Arr Z h b A .char) (hty : Typed .char A) (S : RoadKit.Sta Z h ST "COMPACT_STRINGS" "Z" (.int z)) (hz : ¬ z = 0)
    (l0 : 0 < A.slots.size) (l2 : A.slots.size ≤ 536870912) (hp : ∀ i, i < A.slots.size → ¬ 255 < cv A i) (hfr : 4 ≤ R.frames) (hlo : W + 65 ≤ R.locals) :
    Back l R p e below s args New1.yN len W (fun P a => a = #[.ref x, .ref b] ∧ P.U.heap = h ∧ P.cells + 1 ≤ R.cells ∧ P.slots + A.slots.size ≤ R.slots)
      (fun P _ v B => ∃ L, Q Z x A h v B.U.heap L ∧ B.locs = P.locs ++ L ∧ B.cells = P.cells + 1 ∧ B.slots = P.slots + A.slots.size) := by
  intro m meth c P g ig mk a X hg hsize hdg hW hn hp'
  obtain ⟨rfl, rfl, r1, r2⟩ := hp'
  have al : Z.vm.Alike P.U.vm := hZ.alike.trans X.warmed.alike
  obtain ⟨D, cfV, kV, iV, fV, hD, gV, stV, knV, obV, asV, slV⟩ := id V
  obtain ⟨D', cfC, kC, iC, fC, hD', gC, stC, -, -, asC, slC⟩ := id C
  cases hD.symm.trans hD'
  obtain ⟨D2, kD, e1, e2, e3, e4, e5⟩ := id E
  cases hD.symm.trans e1
  obtain ⟨c2, k2, i1, i2, i3, -⟩ := Cond.instantiable_spec wi
  cases e2.symm.trans i1
  cases e3.symm.trans i2
  obtain ⟨kU, u1, u2⟩ := al.2.2 _ _ e3
  have hB : Blank ST x D P.U := ⟨hD, ⟨knV, fun q hq => by rw [hq] at obV; cases obV⟩, by rw [al.findClass]; exact e2, kU, u1, by rw [u2]; exact i3, by rw [u2]; exact e5 i3⟩
  have F1 : Found ST "value" "[B" fV P.U := ⟨SBG.found_only al ⟨cfV, kV, iV, gV⟩, stV⟩
  have F2 : Found ST "coder" "B" fC P.U := ⟨SBG.found_only al ⟨cfC, kC, iC, gC⟩, stC⟩
  have hA : Ch b A P.U := ⟨⟨K.1, State.isArrayOf_alike al K.2.1, K.2.2, by omega⟩, hty⟩
  have hS : StaticIs P.U ST "COMPACT_STRINGS" "Z" (.int z) := by
    obtain ⟨cfS, iS, kS, fS, st, cS, t1, t2, t3, t4, t5, t6, t7⟩ := S
    exact StaticIs.there (s := { Z with heap := P.U.heap }) ⟨cfS, iS, kS, fS, st, cS, t1, t2, t3, t4, t5, (fun q => by rw [q] at t6; cases t6), t7⟩ al rfl
  obtain ⟨v, B, X', ⟨⟨hv, E', V', q1, q2, q3, q4, q5, q6, q7, q8, q9, q10, q11⟩, hl, hc, hs⟩, st⟩ := New1.pays x D fV fC b A z (tab_of (moved hZ hw)) hfr hlo m meth c P g ig mk _ X hg hsize hdg hW hn ⟨r1, r2, rfl, hB, F1, F2, hA, hS, hz, l0, l2, hp⟩
  have al' : Z.vm.Alike B.U.vm := hZ.alike.trans X'.warmed.alike
  have hsz : E'.slots.size = D.slots.size := by
    obtain ⟨-, -, -, kB, w1, w2, w3⟩ := q1
    obtain ⟨kB', y1, y2⟩ := al'.2.2 _ _ e3
    rw [q2.2.1] at w1
    cases w1.symm.trans y1
    rw [w3, e5 i3, y2]
  refine ⟨v, B, X', ⟨_, ⟨hv, ?_, ⟨by omega, fun y cy hy hn' => q10 y cy (by simpa using hn') hy, fun y cy hy => ?_⟩, q11, ⟨E', _, q1.1, by rw [q2.2.1]; exact e2, by rw [q2.2.1]; exact e3, by rw [q2.1]; exact obV, fun _ => by rw [hsz]; exact e5 i3⟩,
    ⟨E', cfV, kV, iV, fV, q1.1, gV, stV, by rw [q2.1]; exact knV, by rw [q2.1]; exact obV, by rw [q2.2.1]; exact asV, q3⟩, ⟨E', cfC, kC, iC, fC, q1.1, gC, stC, by rw [q2.1]; exact knV, by rw [q2.1]; exact obV, by rw [q2.2.1]; exact asC, q4⟩,
    ⟨V', ⟨q5.1, State.isArrayOf_alike al'.symm q5.2.1, q5.2.2.1⟩, q6, by rw [← al'.findClass]; exact q7, q8, fun j hj => by have := q9 j hj; rwa [Nat.zero_add] at this⟩, fun O n d w F n1 n2 => ?_⟩, hl, hc, hs⟩, st⟩
  · intro y hy
    simp only [List.mem_cons, List.not_mem_nil, or_false] at hy
    rcases hy with rfl | rfl <;> rfl
  · by_cases q : y = x
    · subst q
      cases hD.symm.trans hy
      exact ⟨E', q1.1, q2.2.1, q2.1, hsz⟩
    · exact ⟨cy, q10 y cy q hy, rfl, rfl, rfl⟩
  · obtain ⟨D3, cf, k, i, f, g1, g2, g3, g4, g5, g6, g7⟩ := F
    cases hD.symm.trans g1
    simp only [RoadKit.slotOf, g2, gV, gC, Option.map_some, Option.getD_some] at n1 n2
    exact ⟨E', cf, k, i, f, q1.1, g2, g3, by rw [q2.1]; exact g4, by rw [q2.1]; exact g5, by rw [q2.2.1]; exact g6, by rw [q2.2.2 f.slot (by simp [n1, n2])]; exact g7⟩
end StrChars.Road
namespace StrChars.Road
open Jvm Sem ClassFile Op Lib Jvm.Stand Jvm.Free Jvm.Free.XT
/-- WHAT COMES BACK, the byte[] as a list of values -/
def QA (Z : State) (x : Addr) (zn : Int32) (cs : List Int32) (h : Heap) (v : Option Value) (h' : Heap) (L : List Loc) : Prop := v = none ∧ (∀ y ∈ L, y.base = x) ∧ RoadKit.Keep h h' [x] ∧ h'.size = h.size + 1 ∧ RoadKit.Exa Z h' x ST ∧ RoadKit.Fld Z h' x ST "value" "[B" (.ref h.size) ∧ RoadKit.Fld Z h' x ST "coder" "B" (.int 0) ∧
  (∃ kb, Z.vm.findClass "[B" = some kb ∧ RoadKit.Arv Z h' h.size kb .byte zn (cs.map fun c => .int (lo8 c)) (.int 0)) ∧
  ∀ (O n d : String) (w : Value), RoadKit.Fld Z h x O n d w → RoadKit.slotOf Z O n d ≠ RoadKit.slotOf Z ST "value" "[B" → RoadKit.slotOf Z O n d ≠ RoadKit.slotOf Z ST "coder" "B" → RoadKit.Fld Z h' x O n d w
/-- **new String(chars) AT A CALL, THE ARRAYS AS LISTS**: the char[] at b holds cs, not empty, no char above 255 -/
theorem backArv {p : Program} {l : Launch} {e : Env} {R : Room} {s : State} {args : Array Value} {below : List Frame} {len W : Nat} {Z : State} {a0 : Array Value} {h : Heap} (hZ : Z.Warmed39 s.vm) (hw : ∀ d ∈ words, d.before a0 Z = true) {kI : Nat} (wi : (Jvm.Cond.instantiable ST kI).before a0 Z = true)
    {x b : Addr} {k : ClassId} {zn z : Int32} {cs : List Int32} {dv v0 c0 : Value} (E : RoadKit.Exa Z h x ST) (V : RoadKit.Fld Z h x ST "value" "[B" v0) (C : RoadKit.Fld Z h x ST "coder" "B" c0) (K : RoadKit.Arv Z h b k .char zn (cs.map Value.int) dv) (S : RoadKit.Sta Z h ST "COMPACT_STRINGS" "Z" (.int z)) (hz : ¬ z = 0)
    (hlen : zn.toNatClampNeg = cs.length) (h0 : 0 < cs.length) (hbig : cs.length ≤ 536870912) (hall : ∀ c ∈ cs, ¬ 255 < c) (hfr : 4 ≤ R.frames) (hlo : W + 65 ≤ R.locals) :
    Back l R p e below s args New1.yN len W (fun P a => a = #[.ref x, .ref b] ∧ P.U.heap = h ∧ P.cells + 1 ≤ R.cells ∧ P.slots + cs.length ≤ R.slots)
      (fun P _ v B => ∃ L, QA Z x zn cs h v B.U.heap L ∧ B.locs = P.locs ++ L ∧ B.cells = P.cells + 1 ∧ B.slots = P.slots + cs.length) := by
  obtain ⟨A, K1, K2, K3, K4, K5, K6⟩ := K
  have e : A.slots.size = cs.length := K3.trans hlen
  have hat : ∀ (i : Nat) (hi : i < cs.length), A.slots[i]? = some (.int cs[i]) := fun i hi => by rw [K5 i (by omega)]; simp [List.getD_eq_getElem?_getD, hi]
  have hcv : ∀ (i : Nat) (hi : i < cs.length), cv A i = cs[i] := fun i hi => by unfold cv; rw [hat i hi]
  have hty : Typed .char A := fun i v hv => by
    have hi : i < A.slots.size := (Array.getElem?_eq_some_iff.mp hv).1
    have q := K5 i hi
    rw [hv] at q
    rw [Option.some.inj q]
    exact K6 i hi
  refine Back.mono (back hZ hw wi E V C K1 hty S hz (by omega) (by omega) (fun i hi => by rw [hcv i (by omega)]; exact hall _ (List.getElem_mem _)) hfr hlo) (fun P a hp => ⟨hp.1, hp.2.1, hp.2.2.1, by rw [e]; exact hp.2.2.2⟩) (fun P a v B hp hq => ?_)
  obtain ⟨L, ⟨q1, q2, q3, q4, q5, q6, q7, ⟨V', v1, v2, v3, v4, v5⟩, q9⟩, hl, hc, hs⟩ := hq
  refine ⟨L, ⟨q1, q2, q3, q4, q5, q6, q7, ⟨V'.cls, v3, V', v1, rfl, by rw [v4, e, hlen], K4, fun i hi => ?_, fun i hi => ?_⟩, q9⟩, hl, hc, by rw [hs, e]⟩
  · have hi' : i < cs.length := by omega
    rw [v5 i (by omega), hcv i hi']; simp [List.getD_eq_getElem?_getD, hi']
  · have hi' : i < cs.length := by omega
    simp only [List.getD_eq_getElem?_getD, List.getElem?_map, List.getElem?_eq_getElem hi', Option.map_some, Option.getD_some]
    exact fits_lo8 _
end StrChars.Road
namespace StrChars.Road
open Jvm Sem ClassFile Op Lib Jvm.Stand Jvm.Free Jvm.Free.XT
/-- WHAT COMES BACK, in the writer's own shape -/
def QV (Z : State) (x : Addr) (N : Int32) (bs : List Int32) (h : Heap) (n0 : Nat) (v : Option Value) (h' : Heap) (L : List Loc) : Prop := v = none ∧ RoadKit.Fr n0 L ∧ RoadKit.Keep h h' [x] ∧ RoadKit.Exa Z h' x ST ∧ RoadKit.Fld Z h' x ST "coder" "B" (.int 0) ∧
  ∃ (t : Addr) (kb : ClassId), n0 ≤ t ∧ h.size ≤ t ∧ ¬ t = x ∧ RoadKit.Fld Z h' x ST "value" "[B" (.ref t) ∧ RoadKit.Arv Z h' t kb .byte N (bs.map Value.int) (.int 0)
/-- **new String(chars) AT A CALL, FOR THE WRITER**: a char[] of n known ints, each 0 to 255 -/
theorem backV {p : Program} {l : Launch} {e : Env} {R : Room} {s : State} {args : Array Value} {below : List Frame} {len W : Nat} {Z : State} {a0 : Array Value} {h : Heap} (hZ : Z.Warmed39 s.vm) (hw : ∀ d ∈ words, d.before a0 Z = true) {kI : Nat} (wi : (Jvm.Cond.instantiable ST kI).before a0 Z = true)
    {x b : Addr} {kC : ClassId} {cs bs : List Int32} {d v0 c0 : Value} {z N : Int32} {n n0 : Nat} (hx0 : n0 ≤ x) (hh0 : n0 ≤ h.size) (E : RoadKit.Exa Z h x ST) (V : RoadKit.Fld Z h x ST "value" "[B" v0) (C : RoadKit.Fld Z h x ST "coder" "B" c0) (K : RoadKit.Arv Z h b kC .char N (cs.map Value.int) d) (S : RoadKit.Sta Z h ST "COMPACT_STRINGS" "Z" (.int z)) (hz : ¬ z = 0)
    (hn : cs.length = n) (hN : N = Int32.ofNat n) (l0 : 0 < n) (l2 : n ≤ 4000) (hp : ∀ c ∈ cs, ¬ c < 0 ∧ ¬ (255 : Int32) < c) (hb : bs = cs.map (fun c => c.toInt8.toInt32)) (hfr : 4 ≤ R.frames) (hlo : W + 65 ≤ R.locals) :
    Back l R p e below s args (⟨"java/lang/String", "<init>", "([C)V"⟩ : MethodName) len W (fun P a => a = #[.ref x, .ref b] ∧ P.U.heap = h ∧ P.cells + 1 ≤ R.cells ∧ P.slots + n ≤ R.slots)
      (fun P _ v B => ∃ L, QV Z x N bs h n0 v B.U.heap L ∧ B.locs = P.locs ++ L ∧ B.cells = P.cells + 1 ∧ B.slots = P.slots + n) := by
  subst hn hN hb
  refine Back.mono (backArv hZ hw wi E V C K S hz (n32 (by omega)) l0 (by omega) (fun c hc => (hp c hc).2) hfr hlo) (fun P a hp => hp) (fun P a v B hp hq => ?_)
  obtain ⟨L, ⟨q1, q2, q3, q4, q5, q6, q7, ⟨kb, v1, v2⟩, q9⟩, hl, hc, hs⟩ := hq
  exact ⟨L, ⟨q1, fun y hy => by rw [q2 y hy]; exact hx0, q3, q5, q7, h.size, kb, hh0, Nat.le_refl _, Nat.ne_of_gt E.lt, q6, by rw [List.map_map]; exact v2⟩, hl, hc, hs⟩
end StrChars.Road
namespace StrChars
open Jvm Sem ClassFile Op Lib Jvm.Stand Jvm.Free.XT Jvm.Free.ALB Jvm.Free.JM Jvm.Free
open Jvm.Lib.Cold (StaticIs)
def hi8 (x : Int32) : Int32 := lo8 (x >>> ((8 : Int32) &&& 31))
/-- what StringUTF16.getChar makes of two bytes -/
def pairCh (u v : Int32) : Int32 := (((u &&& 255) <<< ((0 : Int32) &&& 31)) ||| ((v &&& 255) <<< ((8 : Int32) &&& 31))).toUInt32.toUInt16.toUInt32.toInt32
theorem lo8_and (x : Int32) : (lo8 x &&& 255).toBitVec.toNat = x.toBitVec.toNat % 256 := by
  have h : (lo8 x).toBitVec = (x.toBitVec.signExtend 8).signExtend 32 := by rw [lo8, Int8.toBitVec_toInt32, Int32.toBitVec_toInt8]
  rw [Int32.toBitVec_and, BitVec.toNat_and, h]
  have e : ((x.toBitVec.signExtend 8).signExtend 32).toNat % 256 = x.toBitVec.toNat % 256 := by
    rw [BitVec.toNat_signExtend]
    have hlt := x.toBitVec.isLt
    simp only [BitVec.toNat_setWidth, BitVec.toNat_signExtend]
    split <;> split <;> omega
  rw [← e]
  exact Nat.and_two_pow_sub_one_eq_mod _ 8
theorem pair_says {c : Int32} (h0 : ¬ c < 0) (h1 : ¬ 65535 < c) : pairCh (lo8 c) (hi8 c) = c := by
  rw [Int32.lt_iff_toInt_lt] at h0 h1
  have e0 : (0 : Int32).toInt = 0 := rfl
  have e1 : (65535 : Int32).toInt = 65535 := rfl
  have hc : c.toInt = c.toBitVec.toNat := by
    have := c.toBitVec.isLt
    have e : c.toInt = c.toBitVec.toInt := rfl
    rw [e] at h0 h1
    rw [e]
    rw [BitVec.toInt_eq_toNat_cond] at h0 h1 ⊢
    split at h0 <;> split <;> omega
  have hn : c.toBitVec.toNat < 65536 := by omega
  have a1 := lo8_and c
  have a2 : (hi8 c &&& 255).toBitVec.toNat = c.toBitVec.toNat / 256 := by
    rw [hi8, lo8_and]
    have e : ((8 : Int32) &&& 31) = 8 := by decide
    rw [e, Int32.toBitVec_shiftRight]
    have e2 : ((8 : Int32).toBitVec.smod 32) = 8#32 := by decide
    rw [e2, BitVec.sshiftRight_eq', BitVec.toNat_sshiftRight_of_msb_false (by rw [BitVec.msb_eq_false_iff_two_mul_lt]; omega)]
    show c.toBitVec.toNat >>> 8 % 256 = _
    rw [Nat.shiftRight_eq_div_pow]
    omega
  unfold pairCh
  apply Int32.toBitVec_inj.mp
  apply BitVec.eq_of_toNat_eq
  have f0 : ((0 : Int32) &&& 31) = 0 := by decide
  have f8 : ((8 : Int32) &&& 31) = 8 := by decide
  rw [f0, f8]
  have g : (((lo8 c &&& 255) <<< (0 : Int32)) ||| ((hi8 c &&& 255) <<< (8 : Int32))).toBitVec.toNat = c.toBitVec.toNat := by
    rw [Int32.toBitVec_or, Int32.toBitVec_shiftLeft, Int32.toBitVec_shiftLeft]
    have s0 : ((0 : Int32).toBitVec.smod 32) = 0#32 := by decide
    have s8 : ((8 : Int32).toBitVec.smod 32) = 8#32 := by decide
    rw [s0, s8, BitVec.toNat_or]
    simp only [BitVec.shiftLeft_eq', BitVec.toNat_shiftLeft, a1, a2]
    show (c.toBitVec.toNat % 256) <<< 0 % 2 ^ 32 ||| (c.toBitVec.toNat / 256) <<< 8 % 2 ^ 32 = _
    rw [Nat.shiftLeft_zero, Nat.mod_eq_of_lt (show c.toBitVec.toNat % 256 < 2 ^ 32 by omega), Nat.mod_eq_of_lt (show (c.toBitVec.toNat / 256) <<< 8 < 2 ^ 32 by rw [Nat.shiftLeft_eq]; omega), Nat.or_comm, ← Nat.shiftLeft_add_eq_or_of_lt (by omega), Nat.shiftLeft_eq]
    omega
  show BitVec.toNat (((((lo8 c &&& 255) <<< (0 : Int32)) ||| ((hi8 c &&& 255) <<< (8 : Int32))).toBitVec.setWidth 16).setWidth 32) = _
  rw [BitVec.toNat_setWidth, BitVec.toNat_setWidth, g]
  omega
end StrChars
namespace StrChars
open Jvm Sem ClassFile Op Lib Jvm.Stand Jvm.Free.XT Jvm.Free.ALB Jvm.Free.JM Jvm.Free
open Jvm.Lib.Cold (StaticIs)
/-- the array's cell V codes the n chars f 0 .. f (n - 1) by the coder cd, as the JDK does: coder 1 just where some char is above 255 -/
def Cod (cd : Int32) (n : Nat) (f : Nat → Int32) (V : Cell) : Prop := (cd = 0 ∧ V.slots.size = n ∧ ∀ j, j < n → V.slots[j]? = some (.int (lo8 (f j))) ∧ ¬ 255 < f j) ∨ (cd = 1 ∧ V.slots.size = 2 * n ∧ (∀ j, j < n → V.slots[2 * j]? = some (.int (lo8 (f j))) ∧ V.slots[2 * j + 1]? = some (.int (hi8 (f j)))) ∧ ∃ j, j < n ∧ 255 < f j)
/-- **x is a String of the n chars f 0 .. f (n - 1)**, Latin-1 or UTF-16; its array at t has the cell V -/
def Txt (x t : Addr) (V : Cell) (cd : Int32) (n : Nat) (f : Nat → Int32) (U : State) : Prop := Exact "java/lang/String" x U ∧ Has x "java/lang/String" "value" "[B" (.ref t) U ∧ Has x "java/lang/String" "coder" "B" (.int cd) U ∧ XT.Arr .byte t V U ∧ Cod cd n f V ∧ ∀ j, j < n → ¬ f j < 0 ∧ ¬ 65535 < f j
theorem Txt.mv {x t : Addr} {V : Cell} {cd : Int32} {n : Nat} {f : Nat → Int32} {U U' : State} (h : Txt x t V cd n f U) (hal : U.vm.Alike U'.vm) (hh : U'.heap = U.heap) : Txt x t V cd n f U' := ⟨h.1.mv hal hh, h.2.1.mv hal hh, h.2.2.1.mv hal hh, h.2.2.2.1.mv hal hh, h.2.2.2.2⟩
end StrChars
namespace StrChars.Road
open Jvm Sem ClassFile Op Lib Jvm.Stand Jvm.Free Jvm.Free.XT
open Jvm.Lib.Cold (StaticIs)
theorem consq {a : Array Value} {s : State} {c : Jvm.Cond} {L : List Jvm.Cond} (h0 : c.before a s = true) (h : ∀ w ∈ L, w.before a s = true) : ∀ w ∈ c :: L, w.before a s = true := fun w hw => (List.mem_cons.mp hw).elim (fun e => e ▸ h0) (h w)
/-- the bytes of the chars cs, low before high -/
def wideBytes : List Int32 → List Value
  | [] => []
  | c :: cs => .int (lo8 c) :: .int (hi8 c) :: wideBytes cs
theorem wide_lo (d : Value) : ∀ (cs : List Int32) (j : Nat), j < cs.length → (wideBytes cs).getD (2 * j) d = .int (lo8 (cs.getD j 0))
  | [], j, h => absurd h (Nat.not_lt_zero j)
  | c :: cs, 0, _ => rfl
  | c :: cs, j + 1, h => by
    have q := wide_lo d cs j (by simpa using h)
    rw [show 2 * (j + 1) = 2 * j + 1 + 1 from by omega]
    simpa [wideBytes] using q
theorem wide_hi (d : Value) : ∀ (cs : List Int32) (j : Nat), j < cs.length → (wideBytes cs).getD (2 * j + 1) d = .int (hi8 (cs.getD j 0))
  | [], j, h => absurd h (Nat.not_lt_zero j)
  | c :: cs, 0, _ => rfl
  | c :: cs, j + 1, h => by
    have q := wide_hi d cs j (by simpa using h)
    rw [show 2 * (j + 1) + 1 = 2 * j + 1 + 1 + 1 from by omega]
    simpa [wideBytes] using q
theorem low_at (d : Value) (cs : List Int32) (j : Nat) (h : j < cs.length) : (cs.map fun c => Value.int (lo8 c)).getD j d = .int (lo8 (cs.getD j 0)) := by
  simp [List.getD_eq_getElem?_getD, h]
/-- an array of N2 bytes vs codes the chars cs by the coder cd -/
def CodA (cs : List Int32) (cd N2 : Int32) (vs : List Value) : Prop := (cd = 0 ∧ N2 = Int32.ofNat cs.length ∧ vs = (cs.map fun c => Value.int (lo8 c)) ∧ ∀ c ∈ cs, ¬ 255 < c) ∨ (cd = 1 ∧ N2 = Int32.ofNat (2 * cs.length) ∧ vs = wideBytes cs ∧ ∃ c ∈ cs, 255 < c)
theorem CodA.cod {cs : List Int32} {cd N2 : Int32} {vs : List Value} {V : Cell} (h : CodA cs cd N2 vs) (hn : 2 * cs.length < 2 ^ 31) (hs : V.slots.size = N2.toNatClampNeg) (hv : RoadKit.Has V vs (.int 0)) : Cod cd cs.length (fun j => cs.getD j 0) V := by
  rcases h with ⟨rfl, rfl, rfl, h⟩ | ⟨rfl, rfl, rfl, c, hc, hw⟩
  · rw [n32 (by omega)] at hs
    exact Or.inl ⟨rfl, hs, fun j hj => ⟨by rw [hv j (by omega), low_at _ _ _ hj], by
      have e : cs.getD j 0 = cs[j] := by simp [List.getD_eq_getElem?_getD, hj]
      show ¬ 255 < cs.getD j 0
      rw [e]; exact h _ (List.getElem_mem _)⟩⟩
  · rw [n32 (by omega)] at hs
    obtain ⟨j, hj, rfl⟩ := List.getElem_of_mem hc
    exact Or.inr ⟨rfl, hs, fun j hj => ⟨by rw [hv _ (by omega), wide_lo _ _ _ hj], by rw [hv _ (by omega), wide_hi _ _ _ hj]⟩, j, hj, by
      have e : cs.getD j 0 = cs[j] := by simp [List.getD_eq_getElem?_getD, hj]
      show 255 < cs.getD j 0
      rw [e]; exact hw⟩
/-- an object of exactly java/lang/String, its two fields found: as the laws ask it -/
theorem strObj {Z U : State} {a0 : Array Value} {kI : Nat} (wi : (Jvm.Cond.instantiable ST kI).before a0 Z = true) (al : Z.vm.Alike U.vm) {x : Addr} {v0 c0 : Value} (E : RoadKit.Exa Z U.heap x ST) (V : RoadKit.Fld Z U.heap x ST "value" "[B" v0) (C : RoadKit.Fld Z U.heap x ST "coder" "B" c0) :
    ∃ (D : Cell) (fV fC : Field), Blank ST x D U ∧ Found ST "value" "[B" fV U ∧ Found ST "coder" "B" fC U ∧ D.slots[fV.slot]? = some v0 ∧ D.slots[fC.slot]? = some c0 ∧ RoadKit.slotOf Z ST "value" "[B" = fV.slot ∧ RoadKit.slotOf Z ST "coder" "B" = fC.slot := by
  obtain ⟨D, cfV, kV, iV, fV, hD, gV, stV, knV, obV, asV, slV⟩ := V
  obtain ⟨D', cfC, kC, iC, fC, hD', gC, stC, -, -, asC, slC⟩ := C
  cases hD.symm.trans hD'
  obtain ⟨D2, kD, e1, e2, e3, e4, e5⟩ := E
  cases hD.symm.trans e1
  obtain ⟨c2, k2, i1, i2, i3, -⟩ := Cond.instantiable_spec wi
  cases e2.symm.trans i1
  cases e3.symm.trans i2
  obtain ⟨kU, u1, u2⟩ := al.2.2 _ _ e3
  exact ⟨D, fV, fC, ⟨hD, ⟨knV, fun q hq => by rw [hq] at obV; cases obV⟩, by rw [al.findClass]; exact e2, kU, u1, by rw [u2]; exact i3, by rw [u2]; exact e5 i3⟩, ⟨SBG.found_only al ⟨cfV, kV, iV, gV⟩, stV⟩, ⟨SBG.found_only al ⟨cfC, kC, iC, gC⟩, stC⟩, slV, slC, by simp [RoadKit.slotOf, gV], by simp [RoadKit.slotOf, gC]⟩
theorem sta_is {Z U : State} (al : Z.vm.Alike U.vm) {C n d : String} {v : Value} (S : RoadKit.Sta Z U.heap C n d v) : StaticIs U C n d v := by
  obtain ⟨cfS, iS, kS, fS, st, cS, t1, t2, t3, t4, t5, t6, t7⟩ := S
  exact StaticIs.there (s := { Z with heap := U.heap }) ⟨cfS, iS, kS, fS, st, cS, t1, t2, t3, t4, t5, (fun q => by rw [q] at t6; cases t6), t7⟩ al rfl
end StrChars.Road
namespace StrChars
open Jvm Sem ClassFile Op Lib Jvm.Stand Jvm.Free.XT Jvm.Free.ALB Jvm.Free.JM Jvm.Free
open Jvm.Lib.Cold (StaticIs)
/-- what place i of a byte[]'s cell holds -/
def yv (A : Cell) (i : Nat) : Int32 := match A.slots[i]? with | some (.int x) => x | _ => 0
theorem yv_get {a : Addr} {A : Cell} {U : State} (h : XT.Arr .byte a A U) (ht : Typed .byte A) {i : Nat} (hi : i < A.slots.size) : A.slots[i]? = some (.int (yv A i)) := by
  have e := Array.getElem?_eq_getElem hi
  have f := ht i _ e
  unfold yv; rw [e]
  generalize A.slots[i] = v at f
  cases v <;> simp [fits] at f ⊢
/-- the two arrays are equal, place for place -/
def EqC (A B : Cell) : Prop := A.slots.size = B.slots.size ∧ ∀ i, i < A.slots.size → yv A i = yv B i
/-- a boolean that says whether p -/
def Says01 (q : Prop) (r : Option Value) (s u : State) : Prop := ∃ v : Int32, r = some (.int v) ∧ u.heap = s.heap ∧ ((v = 1 ∧ q) ∨ (v = 0 ∧ ¬ q))
theorem Says01.mv {q : Prop} : ∀ r (U U' V V' : State), U'.heap = U.heap → V.vm.Alike V'.vm → V'.heap = V.heap → Says01 q r U V → Says01 q r U' V' :=
  fun r U U' V V' h1 _ h2 ⟨v, a, b, c⟩ => ⟨v, a, by rw [h1, h2]; exact b, c⟩
namespace LEq
def yN : MethodName := ⟨"java/lang/StringLatin1", "equals", "([B[B)Z"⟩
abbrev yB : ByteArray := jdk_43_method_13_code
theorem d0 : decode yB 0 = .ok (.aload_n 0, 1) := by decide +kernel
theorem d1 : decode yB 1 = .ok (.arraylength, 1) := by decide +kernel
theorem d2 : decode yB 2 = .ok (.aload_n 1, 1) := by decide +kernel
theorem d3 : decode yB 3 = .ok (.arraylength, 1) := by decide +kernel
theorem d4 : decode yB 4 = .ok (.if_icmp (.ne) 30, 3) := by decide +kernel
theorem d7 : decode yB 7 = .ok (.iconst 0, 1) := by decide +kernel
theorem d8 : decode yB 8 = .ok (.istore_n 2, 1) := by decide +kernel
theorem d9 : decode yB 9 = .ok (.iload_n 2, 1) := by decide +kernel
theorem d10 : decode yB 10 = .ok (.aload_n 0, 1) := by decide +kernel
theorem d11 : decode yB 11 = .ok (.arraylength, 1) := by decide +kernel
theorem d12 : decode yB 12 = .ok (.if_icmp (.ge) 20, 3) := by decide +kernel
theorem d15 : decode yB 15 = .ok (.aload_n 0, 1) := by decide +kernel
theorem d16 : decode yB 16 = .ok (.iload_n 2, 1) := by decide +kernel
theorem d17 : decode yB 17 = .ok (.baload, 1) := by decide +kernel
theorem d18 : decode yB 18 = .ok (.aload_n 1, 1) := by decide +kernel
theorem d19 : decode yB 19 = .ok (.iload_n 2, 1) := by decide +kernel
theorem d20 : decode yB 20 = .ok (.baload, 1) := by decide +kernel
theorem d21 : decode yB 21 = .ok (.if_icmp (.eq) 5, 3) := by decide +kernel
theorem d24 : decode yB 24 = .ok (.iconst 0, 1) := by decide +kernel
theorem d25 : decode yB 25 = .ok (.ireturn, 1) := by decide +kernel
theorem d26 : decode yB 26 = .ok (.iinc 2 1, 3) := by decide +kernel
theorem d29 : decode yB 29 = .ok (.goto (-20), 3) := by decide +kernel
theorem d32 : decode yB 32 = .ok (.iconst 1, 1) := by decide +kernel
theorem d33 : decode yB 33 = .ok (.ireturn, 1) := by decide +kernel
theorem d34 : decode yB 34 = .ok (.iconst 0, 1) := by decide +kernel
theorem d35 : decode yB 35 = .ok (.ireturn, 1) := by decide +kernel
def site : List Cond := []
def tab : Cond := tabOf yN yB 3 (some .boolean) site
def P (a : Addr) (A : Cell) (b : Addr) (B : Cell) (args : Array Value) (s : State) : Prop := args = #[.ref a, .ref b] ∧ XT.Arr .byte a A s ∧ Typed .byte A ∧ XT.Arr .byte b B s ∧ Typed .byte B
/-- whether two byte[] are equal, place for place -/
theorem law (l : Launch) (a : Addr) (A : Cell) (b : Addr) (B : Cell) : Law l yN 2 2 0 0 yB 3 (some .boolean) site (P a A b B) (Says01 (EqC A B)) [] 0 0 := by
  refine Law.of_walk (plainFor_of_name (by decide +kernel)) (by decide +kernel) (by decide +kernel) (by decide) (fun _ _ h => by rw [h.1]; rfl) (fun _ U U' hal hh h => ⟨h.1, h.2.1.mv hal hh, h.2.2.1, h.2.2.2.1.mv hal hh, h.2.2.2.2⟩) (fun r U U' V V' h1 hal h2 h => Says01.mv r U U' V V' h1 hal h2 h) ?_
  intro p e s m args below meth c s₁ X0 hexec hbytes hml hret hlk hnm hown hh0 W hP
  obtain ⟨rfl, hA, tA, hB, tB⟩ := hP
  have a31 := hA.2.2.2
  have b31 := hB.2.2.2
  have hA0 := hA.mv X0.warmed.alike hh0
  have hB0 := hB.mv X0.warmed.alike hh0
  have c1 : Steps p.tables e below (s₁.setTop (entryFrame m #[.ref a, .ref b] 3)) (s₁.setTop (mkF m 0 #[.val (.ref a), .val (.ref b), .unset] [])) := entry rfl
  have c2 : Steps p.tables e below (s₁.setTop (entryFrame m #[.ref a, .ref b] 3)) (s₁.setTop (mkF m 4 #[.val (.ref a), .val (.ref b), .unset] [.int (Int32.ofNat B.slots.size), .int (Int32.ofNat A.slots.size)])) := c1.trans (by
    refine XS.aloadN X0.here hexec rfl (hb hbytes d0) rfl rfl ?_
    refine X0.alen hexec hA0 rfl rfl (hb hbytes d1) ?_
    refine XS.aloadN X0.here hexec rfl (hb hbytes d2) rfl rfl ?_
    refine X0.alen hexec hB0 rfl rfl (hb hbytes d3) ?_
    exact Steps.refl _)
  by_cases hs : A.slots.size = B.slots.size
  · have c3 : Steps p.tables e below (s₁.setTop (entryFrame m #[.ref a, .ref b] 3)) (s₁.setTop (mkF m 9 #[.val (.ref a), .val (.ref b), .val (.int 0)] [])) := c2.trans (by
      refine XS.icmpNo X0.here hexec rfl (hb hbytes d4) rfl (ii_ne_f (by rw [hs])) ?_
      refine iconstV X0.here hexec rfl 0 (hb hbytes d7) (by decide) ?_
      refine XS.istoreN X0.here hexec rfl (hb hbytes d8) rfl rfl ?_
      exact Steps.refl _)
    have loop : ∀ (r i : Nat), i + r = A.slots.size → (∀ j, j < i → yv A j = yv B j) → Steps p.tables e below (s₁.setTop (entryFrame m #[.ref a, .ref b] 3)) (s₁.setTop (mkF m 9 #[.val (.ref a), .val (.ref b), .val (.int (Int32.ofNat i))] [])) → ∃ (pc : Nat) (Ls : Array Slot) (v : Int32), (pc = 25 ∨ pc = 33) ∧ ((v = 1 ∧ EqC A B) ∨ (v = 0 ∧ ¬ EqC A B)) ∧ Steps p.tables e below (s₁.setTop (entryFrame m #[.ref a, .ref b] 3)) (s₁.setTop (mkF m pc Ls [.int v])) := by
      intro r
      induction r with
      | zero =>
        intro i hi he cl
        exact ⟨33, _, 1, Or.inr rfl, Or.inl ⟨rfl, hs, fun j hj => he j (by omega)⟩, cl.trans (by
          refine XS.iloadN X0.here hexec rfl (hb hbytes d9) rfl ?_
          refine XS.aloadN X0.here hexec rfl (hb hbytes d10) rfl rfl ?_
          refine X0.alen hexec hA0 rfl rfl (hb hbytes d11) ?_
          refine XS.icmpYes X0.here hexec rfl (pc0 := 12) rfl (hb hbytes d12) rfl (ii_ge_t (nlt32 (by omega) (by omega))) (by decide) rfl ?_
          refine iconstV X0.here hexec rfl 1 (hb hbytes d32) (by decide) ?_
          exact Steps.refl _)⟩
      | succ r ih =>
        intro i hi he cl
        have c4 : Steps p.tables e below (s₁.setTop (entryFrame m #[.ref a, .ref b] 3)) (s₁.setTop (mkF m 21 #[.val (.ref a), .val (.ref b), .val (.int (Int32.ofNat i))] [.int (yv B i), .int (yv A i)])) := cl.trans (by
          refine XS.iloadN X0.here hexec rfl (hb hbytes d9) rfl ?_
          refine XS.aloadN X0.here hexec rfl (hb hbytes d10) rfl rfl ?_
          refine X0.alen hexec hA0 rfl rfl (hb hbytes d11) ?_
          refine XS.icmpNo X0.here hexec rfl (hb hbytes d12) rfl (ii_ge_f (lt32 (by omega) (by omega))) ?_
          refine XS.aloadN X0.here hexec rfl (hb hbytes d15) rfl rfl ?_
          refine XS.iloadN X0.here hexec rfl (hb hbytes d16) rfl ?_
          refine X0.aget hexec hA0 rfl (yv_get hA tA (i := i) (by omega)) rfl rfl (hb hbytes d17) ?_
          refine XS.aloadN X0.here hexec rfl (hb hbytes d18) rfl rfl ?_
          refine XS.iloadN X0.here hexec rfl (hb hbytes d19) rfl ?_
          refine X0.aget hexec hB0 rfl (yv_get hB tB (i := i) (by omega)) rfl rfl (hb hbytes d20) ?_
          exact Steps.refl _)
        by_cases hv : yv A i = yv B i
        · have c5 : Steps p.tables e below (s₁.setTop (entryFrame m #[.ref a, .ref b] 3)) (s₁.setTop (mkF m 9 #[.val (.ref a), .val (.ref b), .val (.int (Int32.ofNat i + 1))] [])) := c4.trans (by
            refine XS.icmpYes X0.here hexec rfl (pc0 := 21) rfl (hb hbytes d21) rfl (ii_eq_t hv) (by decide) rfl ?_
            refine iincV X0.here hexec rfl 1 (hb hbytes d26) (by decide) rfl rfl ?_
            refine XS.goto X0.here hexec rfl (pc0 := 29) rfl (hb hbytes d29) (by decide) rfl ?_
            exact Steps.refl _)
          rw [succ32] at c5
          exact ih (i + 1) (by omega) (fun j hj => by
            by_cases e : j = i
            · rw [e]; exact hv
            · exact he j (by omega)) c5
        · exact ⟨25, _, 0, Or.inl rfl, Or.inr ⟨rfl, fun q => hv (q.2 i (by omega))⟩, c4.trans (by
            refine XS.icmpNo X0.here hexec rfl (hb hbytes d21) rfl (ii_eq_f hv) ?_
            refine iconstV X0.here hexec rfl 0 (hb hbytes d24) (by decide) ?_
            exact Steps.refl _)⟩
    obtain ⟨pc, Ls, v, hpc, hv, cz⟩ := loop A.slots.size 0 (by omega) (fun j hj => absurd hj (Nat.not_lt_zero j)) c3
    have nv : narrow .boolean (.int v) = .int v := by rcases hv with ⟨rfl, -⟩ | ⟨rfl, -⟩ <;> rfl
    rcases hpc with rfl | rfl
    · exact ⟨s₁, some (.int v), _, _, _, X0, rfl, rfl, rfl, (fun h => by cases h), ⟨v, rfl, hh0, hv⟩, fun fs hl => cz.trans (X0.ireturnOut hexec hret nv (Or.inr (Or.inl rfl)) (hb hbytes d25) hl)⟩
    · exact ⟨s₁, some (.int v), _, _, _, X0, rfl, rfl, rfl, (fun h => by cases h), ⟨v, rfl, hh0, hv⟩, fun fs hl => cz.trans (X0.ireturnOut hexec hret nv (Or.inr (Or.inl rfl)) (hb hbytes d33) hl)⟩
  · have c3 : Steps p.tables e below (s₁.setTop (entryFrame m #[.ref a, .ref b] 3)) (s₁.setTop (mkF m 35 #[.val (.ref a), .val (.ref b), .unset] [.int 0])) := c2.trans (by
      refine XS.icmpYes X0.here hexec rfl (pc0 := 4) rfl (hb hbytes d4) rfl (ii_ne_t (ne32 a31 b31 hs)) (by decide) rfl ?_
      refine iconstV X0.here hexec rfl 0 (hb hbytes d34) (by decide) ?_
      exact Steps.refl _)
    exact ⟨s₁, some (.int 0), _, _, _, X0, rfl, rfl, rfl, (fun h => by cases h), ⟨0, rfl, hh0, Or.inr ⟨rfl, fun q => hs q.1⟩⟩, fun fs hl => c3.trans (X0.ireturnOut hexec hret rfl (Or.inr (Or.inl rfl)) (hb hbytes d35) hl)⟩
end LEq
theorem Cod.ty {cd : Int32} {n : Nat} {f : Nat → Int32} {V : Cell} (h : Cod cd n f V) : Typed .byte V := fun i v hv => by
  have hi : i < V.slots.size := (Array.getElem?_eq_some_iff.mp hv).1
  rcases h with ⟨-, k1, k2⟩ | ⟨-, k1, k2, -⟩
  · rw [(k2 i (by omega)).1] at hv; cases hv; exact fits_lo8 _
  · rcases Nat.mod_two_eq_zero_or_one i with e | e
    · obtain ⟨j, rfl⟩ : ∃ j, i = 2 * j := ⟨i / 2, by omega⟩
      rw [(k2 j (by omega)).1] at hv; cases hv; exact fits_lo8 _
    · obtain ⟨j, rfl⟩ : ∃ j, i = 2 * j + 1 := ⟨i / 2, by omega⟩
      rw [(k2 j (by omega)).2] at hv; cases hv; exact fits_lo8 _
/-- the same text -/
def SameT (n : Nat) (f : Nat → Int32) (k : Nat) (g : Nat → Int32) : Prop := n = k ∧ ∀ j, j < n → f j = g j
theorem lo8_inj {x y : Int32} (h0 : ¬ x < 0) (h1 : ¬ 255 < x) (k0 : ¬ y < 0) (k1 : ¬ 255 < y) (h : lo8 x = lo8 y) : x = y := by
  rw [← lo8_mask h0 h1, ← lo8_mask k0 k1, h]
/-- arrays coded by one coder are equal just where the texts are -/
theorem Cod.eqv {cd : Int32} {n k : Nat} {f g : Nat → Int32} {V V' : Cell} (h : Cod cd n f V) (h' : Cod cd k g V') (hf : ∀ j, j < n → ¬ f j < 0 ∧ ¬ 65535 < f j) (hg : ∀ j, j < k → ¬ g j < 0 ∧ ¬ 65535 < g j) : EqC V V' ↔ SameT n f k g := by
  have yvv : ∀ {W : Cell} {i : Nat} {x : Int32}, W.slots[i]? = some (.int x) → yv W i = x := fun q => by unfold yv; rw [q]
  rcases h with ⟨rfl, k1, k2⟩ | ⟨rfl, k1, k2, -⟩
  · rcases h' with ⟨-, m1, m2⟩ | ⟨e, -⟩
    · constructor
      · rintro ⟨e1, e2⟩
        refine ⟨by omega, fun j hj => ?_⟩
        have q := e2 j (by omega)
        rw [yvv (k2 j hj).1, yvv (m2 j (by omega)).1] at q
        exact lo8_inj (hf j hj).1 (k2 j hj).2 (hg j (by omega)).1 (m2 j (by omega)).2 q
      · rintro ⟨rfl, e2⟩
        refine ⟨by omega, fun j hj => ?_⟩
        rw [yvv (k2 j (by omega)).1, yvv (m2 j (by omega)).1, e2 j (by omega)]
    · exact absurd e (by decide)
  · rcases h' with ⟨e, -⟩ | ⟨-, m1, m2, -⟩
    · exact absurd e (by decide)
    · constructor
      · rintro ⟨e1, e2⟩
        refine ⟨by omega, fun j hj => ?_⟩
        have q1 := e2 (2 * j) (by omega)
        have q2 := e2 (2 * j + 1) (by omega)
        rw [yvv (k2 j hj).1, yvv (m2 j (by omega)).1] at q1
        rw [yvv (k2 j hj).2, yvv (m2 j (by omega)).2] at q2
        rw [← pair_says (hf j hj).1 (hf j hj).2, ← pair_says (hg j (by omega)).1 (hg j (by omega)).2, q1, q2]
      · rintro ⟨rfl, e2⟩
        refine ⟨by omega, fun i hi => ?_⟩
        rcases Nat.mod_two_eq_zero_or_one i with e | e
        · obtain ⟨j, rfl⟩ : ∃ j, i = 2 * j := ⟨i / 2, by omega⟩
          rw [yvv (k2 j (by omega)).1, yvv (m2 j (by omega)).1, e2 j (by omega)]
        · obtain ⟨j, rfl⟩ : ∃ j, i = 2 * j + 1 := ⟨i / 2, by omega⟩
          rw [yvv (k2 j (by omega)).2, yvv (m2 j (by omega)).2, e2 j (by omega)]
/-- two codings differ: so do the texts -/
theorem Cod.dif {cd cd' : Int32} {n k : Nat} {f g : Nat → Int32} {V V' : Cell} (h : Cod cd n f V) (h' : Cod cd' k g V') (hne : ¬ cd = cd') : ¬ SameT n f k g := by
  rintro ⟨rfl, e⟩
  rcases h with ⟨rfl, -, k2⟩ | ⟨rfl, -, -, j, hj, hw⟩
  · rcases h' with ⟨rfl, -⟩ | ⟨-, -, -, j, hj, hw⟩
    · exact hne rfl
    · exact (k2 j hj).2 (by rw [e j hj]; exact hw)
  · rcases h' with ⟨-, -, m2⟩ | ⟨rfl, -⟩
    · exact (m2 j hj).2 (by rw [← e j hj]; exact hw)
    · exact hne rfl
/-- an object of exactly C is an instance of C -/
theorem cinst {p : Program} {l : Launch} {e : Env} {R : Room} {s : State} {m : MethodId} {args : Array Value} {below : List Frame} {meth : Method} {c : Code} {T : State} {locs : List Loc} {cells slots : Nat} (X : Stand p l e R s m args below meth c T locs cells slots) (hexec : p.tables.exec = Jvm.exec) {own C : String} {index : Nat} (hown : s.vm.findClass own = some m.cls) (hlink : (Cond.classLink own index C).before args s = true) {a : Addr} (hE : Exact C a T)
    {g : JFrame} (hg : g.method = m) {rest : List Value} (hstack : g.stack = .ref a :: rest) (hdg : decode c.code g.pc = .ok (.instanceof index, 3)) :
    ∃ T', Stand p l e R s m args below meth c T' locs cells slots ∧ T'.heap = T.heap ∧ ∀ target, Steps p.tables e below (T'.setTop { g with pc := g.pc + 3, stack := .int 1 :: rest }) target → Steps p.tables e below (T.setTop g) target := by
  obtain ⟨cB, h1, D, h2, h3, h4⟩ := hE
  have h1' : s.vm.findClass C = some cB := by rw [← X.warmed.alike.findClass]; exact h1
  obtain ⟨vm', X', st⟩ := X.instanceofYes hexec hown hlink h2 h4 h1' (by rw [h3]; exact Jvm.Free.SB.assignable_self _ _) hg hstack hdg
  exact ⟨_, X', rfl, st⟩
theorem cself {p : Program} {l : Launch} {e : Env} {R : Room} {s : State} {m : MethodId} {args : Array Value} {below : List Frame} {meth : Method} {c : Code} {T : State} {locs : List Loc} {cells slots : Nat} (X : Stand p l e R s m args below meth c T locs cells slots) (hexec : p.tables.exec = Jvm.exec) {own C : String} {index : Nat} (hown : s.vm.findClass own = some m.cls) (hlink : (Cond.classLink own index C).before args s = true) {a : Addr} (hE : Exact C a T)
    {g : JFrame} (hg : g.method = m) {rest : List Value} (hstack : g.stack = .ref a :: rest) (hdg : decode c.code g.pc = .ok (.checkcast index, 3)) :
    ∃ T', Stand p l e R s m args below meth c T' locs cells slots ∧ T'.heap = T.heap ∧ ∀ target, Steps p.tables e below (T'.setTop { g with pc := g.pc + 3, stack := .ref a :: rest }) target → Steps p.tables e below (T.setTop g) target := by
  obtain ⟨cB, h1, D, h2, h3, h4⟩ := hE
  have h1' : s.vm.findClass C = some cB := by rw [← X.warmed.alike.findClass]; exact h1
  obtain ⟨vm', X', st⟩ := X.checkcastYes hexec hown hlink h2 h4 h1' (by rw [h3]; exact Jvm.Free.SB.assignable_self _ _) hg hstack hdg
  exact ⟨_, X', rfl, fun t h => st t (by rw [← hstack] at h; exact h)⟩
namespace SEq
def yN : MethodName := ⟨"java/lang/String", "equals", "(Ljava/lang/Object;)Z"⟩
abbrev yB : ByteArray := jdk_42_method_66_code
theorem d0 : decode yB 0 = .ok (.aload_n 0, 1) := by decide +kernel
theorem d1 : decode yB 1 = .ok (.aload_n 1, 1) := by decide +kernel
theorem d2 : decode yB 2 = .ok (.if_acmp (.ne) 5, 3) := by decide +kernel
theorem d5 : decode yB 5 = .ok (.iconst 1, 1) := by decide +kernel
theorem d6 : decode yB 6 = .ok (.ireturn, 1) := by decide +kernel
theorem d7 : decode yB 7 = .ok (.aload_n 1, 1) := by decide +kernel
theorem d8 : decode yB 8 = .ok (.instanceof 10, 3) := by decide +kernel
theorem d11 : decode yB 11 = .ok (.ifCond (.eq) 43, 3) := by decide +kernel
theorem d14 : decode yB 14 = .ok (.aload_n 1, 1) := by decide +kernel
theorem d15 : decode yB 15 = .ok (.checkcast 10, 3) := by decide +kernel
theorem d18 : decode yB 18 = .ok (.astore_n 2, 1) := by decide +kernel
theorem d19 : decode yB 19 = .ok (.getstatic 38, 3) := by decide +kernel
theorem d22 : decode yB 22 = .ok (.ifCond (.eq) 14, 3) := by decide +kernel
theorem d25 : decode yB 25 = .ok (.aload_n 0, 1) := by decide +kernel
theorem d26 : decode yB 26 = .ok (.getfield 15, 3) := by decide +kernel
theorem d29 : decode yB 29 = .ok (.aload_n 2, 1) := by decide +kernel
theorem d30 : decode yB 30 = .ok (.getfield 15, 3) := by decide +kernel
theorem d33 : decode yB 33 = .ok (.if_icmp (.ne) 21, 3) := by decide +kernel
theorem d36 : decode yB 36 = .ok (.aload_n 0, 1) := by decide +kernel
theorem d37 : decode yB 37 = .ok (.getfield 9, 3) := by decide +kernel
theorem d40 : decode yB 40 = .ok (.aload_n 2, 1) := by decide +kernel
theorem d41 : decode yB 41 = .ok (.getfield 9, 3) := by decide +kernel
theorem d44 : decode yB 44 = .ok (.invokestatic 541, 3) := by decide +kernel
theorem d47 : decode yB 47 = .ok (.ifCond (.eq) 7, 3) := by decide +kernel
theorem d50 : decode yB 50 = .ok (.iconst 1, 1) := by decide +kernel
theorem d51 : decode yB 51 = .ok (.goto 4, 3) := by decide +kernel
theorem d54 : decode yB 54 = .ok (.iconst 0, 1) := by decide +kernel
theorem d55 : decode yB 55 = .ok (.ireturn, 1) := by decide +kernel
def site : List Cond := [.classLink "java/lang/String" 10 "java/lang/String", .fieldLink "java/lang/String" 38 "java/lang/String" "COMPACT_STRINGS" "Z", .fieldLink "java/lang/String" 15 "java/lang/String" "coder" "B", .fieldLink "java/lang/String" 9 "java/lang/String" "value" "[B", LEq.tab] ++ staticW "java/lang/String" 541 LEq.yN
def tab : Cond := tabOf yN yB 3 (some .boolean) site
def P (x t : Addr) (V : Cell) (cd : Int32) (n : Nat) (f : Nat → Int32) (y t' : Addr) (V' : Cell) (cd' : Int32) (k : Nat) (g : Nat → Int32) (z : Int32) (args : Array Value) (s : State) : Prop := args = #[.ref x, .ref y] ∧ Txt x t V cd n f s ∧ Txt y t' V' cd' k g s ∧ StaticIs s "java/lang/String" "COMPACT_STRINGS" "Z" (.int z) ∧ ¬ z = 0
/-- equals(Object) of two Strings: whether the texts are the same -/
theorem law (l : Launch) (x t : Addr) (V : Cell) (cd : Int32) (n : Nat) (f : Nat → Int32) (y t' : Addr) (V' : Cell) (cd' : Int32) (k : Nat) (g : Nat → Int32) (z : Int32) : Law l yN 2 1 1 14 yB 3 (some .boolean) site (P x t V cd n f y t' V' cd' k g z) (Says01 (SameT n f k g)) [] 0 0 := by
  refine Law.of_walk (plainFor_of_name (by decide +kernel)) (by decide +kernel) (by decide +kernel) (by decide) (fun _ _ h => by rw [h.1]; rfl) (fun _ U U' hal hh h => ⟨h.1, h.2.1.mv hal hh, h.2.2.1.mv hal hh, h.2.2.2.1.there hal hh, h.2.2.2.2⟩) (fun r U U' V V' h1 hal h2 h => Says01.mv r U U' V V' h1 hal h2 h) ?_
  intro p e s m args below meth c s₁ X0 hexec hbytes hml hret hlk hnm hown hh0 W hP
  obtain ⟨rfl, hx, hy, s1, hz⟩ := hP
  have c1 : Steps p.tables e below (s₁.setTop (entryFrame m #[.ref x, .ref y] 3)) (s₁.setTop (mkF m 2 #[.val (.ref x), .val (.ref y), .unset] [.ref y, .ref x])) := Steps.trans (entry rfl) (by
    show Steps p.tables e below (s₁.setTop (mkF m 0 #[.val (.ref x), .val (.ref y), .unset] [])) _
    refine XS.aloadN X0.here hexec rfl (hb hbytes d0) rfl rfl ?_
    refine XS.aloadN X0.here hexec rfl (hb hbytes d1) rfl rfl ?_
    exact Steps.refl _)
  by_cases hxy : x = y
  · have c2 : Steps p.tables e below (s₁.setTop (entryFrame m #[.ref x, .ref y] 3)) (s₁.setTop (mkF m 6 #[.val (.ref x), .val (.ref y), .unset] [.int 1])) := c1.trans (by
      refine acmpNo X0.here hexec rfl (hb hbytes d2) rfl rfl rfl (by simp [acmp, hxy]) ?_
      refine iconstV X0.here hexec rfl 1 (hb hbytes d5) (by decide) ?_
      exact Steps.refl _)
    subst hxy
    have ec : cd = cd' := by
      obtain ⟨D, fd, a1, a2, a3⟩ := hx.2.2.1
      obtain ⟨D', fd', b1, b2, b3⟩ := hy.2.2.1
      cases a1.symm.trans b1
      obtain ⟨q1, q2, q3, q4⟩ := a2.1
      obtain ⟨r1, r2, r3, r4⟩ := b2.1
      cases q4.symm.trans r4
      cases a3.symm.trans b3; rfl
    have et : t = t' := by
      obtain ⟨D, fd, a1, a2, a3⟩ := hx.2.1
      obtain ⟨D', fd', b1, b2, b3⟩ := hy.2.1
      cases a1.symm.trans b1
      obtain ⟨q1, q2, q3, q4⟩ := a2.1
      obtain ⟨r1, r2, r3, r4⟩ := b2.1
      cases q4.symm.trans r4
      cases a3.symm.trans b3; rfl
    subst ec et
    have ev : V = V' := by cases hx.2.2.2.1.1.symm.trans hy.2.2.2.1.1; rfl
    subst ev
    have hs : SameT n f k g := (Cod.eqv hx.2.2.2.2.1 hy.2.2.2.2.1 hx.2.2.2.2.2 hy.2.2.2.2.2).mp ⟨rfl, fun _ _ => rfl⟩
    exact ⟨s₁, some (.int 1), _, _, _, X0, rfl, rfl, rfl, (fun h => by cases h), ⟨1, rfl, hh0, Or.inl ⟨rfl, hs⟩⟩, fun fs hl => c2.trans (X0.ireturnOut hexec hret rfl (Or.inr (Or.inl rfl)) (hb hbytes d6) hl)⟩
  · have c2 : Steps p.tables e below (s₁.setTop (entryFrame m #[.ref x, .ref y] 3)) (s₁.setTop (mkF m 8 #[.val (.ref x), .val (.ref y), .unset] [.ref y])) := c1.trans (by
      refine acmpYes X0.here hexec rfl (pc0 := 2) rfl (hb hbytes d2) rfl rfl rfl (by simp [acmp, hxy]) (by decide) rfl ?_
      refine XS.aloadN X0.here hexec rfl (hb hbytes d7) rfl rfl ?_
      exact Steps.refl _)
    obtain ⟨T3, X3, q3, st3⟩ := cinst X0 hexec hown (wk W (.classLink "java/lang/String" 10 "java/lang/String")) (hy.mv X0.warmed.alike hh0).1 (g := (mkF m 8 #[.val (.ref x), .val (.ref y), .unset] [.ref y])) rfl (rest := []) rfl (hb hbytes d8)
    have hh3 := q3.trans hh0
    have c4 : Steps p.tables e below (s₁.setTop (entryFrame m #[.ref x, .ref y] 3)) (T3.setTop (mkF m 15 #[.val (.ref x), .val (.ref y), .unset] [.ref y])) := (c2.trans (st3 _ (Steps.refl _))).trans (by
      refine XS.ifNo X3.here hexec rfl (hb hbytes d11) rfl (i0_eq_f (by decide)) ?_
      refine XS.aloadN X3.here hexec rfl (hb hbytes d14) rfl rfl ?_
      exact Steps.refl _)
    obtain ⟨T5, X5, q5, st5⟩ := cself X3 hexec hown (wk W (.classLink "java/lang/String" 10 "java/lang/String")) (hy.mv X3.warmed.alike hh3).1 (g := (mkF m 15 #[.val (.ref x), .val (.ref y), .unset] [.ref y])) rfl (rest := []) rfl (hb hbytes d15)
    have hh5 := q5.trans hh3
    have c6 : Steps p.tables e below (s₁.setTop (entryFrame m #[.ref x, .ref y] 3)) (T5.setTop (mkF m 19 #[.val (.ref x), .val (.ref y), .val (.ref y)] [])) := (c4.trans (st5 _ (Steps.refl _))).trans (by
      refine XS.astoreN X5.here hexec rfl (hb hbytes d18) rfl rfl rfl ?_
      exact Steps.refl _)
    obtain ⟨T7, X7, q7, st7⟩ := X5.sget hexec hown (wk W (.fieldLink "java/lang/String" 38 "java/lang/String" "COMPACT_STRINGS" "Z")) s1 (fun _ _ h => by rw [hh5]; exact h) (g := (mkF m 19 #[.val (.ref x), .val (.ref y), .val (.ref y)] [])) rfl (hb hbytes d19)
    have hh7 := q7.trans hh5
    have c8 : Steps p.tables e below (s₁.setTop (entryFrame m #[.ref x, .ref y] 3)) (T7.setTop (mkF m 26 #[.val (.ref x), .val (.ref y), .val (.ref y)] [.ref x])) := (c6.trans (st7 _ (Steps.refl _))).trans (by
      refine XS.ifNo X7.here hexec rfl (hb hbytes d22) rfl (i0_eq_f hz) ?_
      refine XS.aloadN X7.here hexec rfl (hb hbytes d25) rfl rfl ?_
      exact Steps.refl _)
    obtain ⟨T9, X9, q9, st9⟩ := X7.hget hexec hown (wk W (.fieldLink "java/lang/String" 15 "java/lang/String" "coder" "B")) (hx.mv X7.warmed.alike hh7).2.2.1 (g := (mkF m 26 #[.val (.ref x), .val (.ref y), .val (.ref y)] [.ref x])) rfl (rest := []) rfl (hb hbytes d26)
    have hh9 := q9.trans hh7
    have c10 : Steps p.tables e below (s₁.setTop (entryFrame m #[.ref x, .ref y] 3)) (T9.setTop (mkF m 30 #[.val (.ref x), .val (.ref y), .val (.ref y)] [.ref y, .int cd])) := (c8.trans (st9 _ (Steps.refl _))).trans (by
      refine XS.aloadN X9.here hexec rfl (hb hbytes d29) rfl rfl ?_
      exact Steps.refl _)
    obtain ⟨T11, X11, q11, st11⟩ := X9.hget hexec hown (wk W (.fieldLink "java/lang/String" 15 "java/lang/String" "coder" "B")) (hy.mv X9.warmed.alike hh9).2.2.1 (g := (mkF m 30 #[.val (.ref x), .val (.ref y), .val (.ref y)] [.ref y, .int cd])) rfl (rest := [.int cd]) rfl (hb hbytes d30)
    have hh11 := q11.trans hh9
    have c12 : Steps p.tables e below (s₁.setTop (entryFrame m #[.ref x, .ref y] 3)) (T11.setTop (mkF m 33 #[.val (.ref x), .val (.ref y), .val (.ref y)] [.int cd', .int cd])) := c10.trans (st11 _ (Steps.refl _))
    by_cases hcd : cd = cd'
    · subst hcd
      have c13 : Steps p.tables e below (s₁.setTop (entryFrame m #[.ref x, .ref y] 3)) (T11.setTop (mkF m 37 #[.val (.ref x), .val (.ref y), .val (.ref y)] [.ref x])) := c12.trans (by
        refine XS.icmpNo X11.here hexec rfl (hb hbytes d33) rfl (ii_ne_f rfl) ?_
        refine XS.aloadN X11.here hexec rfl (hb hbytes d36) rfl rfl ?_
        exact Steps.refl _)
      obtain ⟨T14, X14, q14, st14⟩ := X11.hget hexec hown (wk W (.fieldLink "java/lang/String" 9 "java/lang/String" "value" "[B")) (hx.mv X11.warmed.alike hh11).2.1 (g := (mkF m 37 #[.val (.ref x), .val (.ref y), .val (.ref y)] [.ref x])) rfl (rest := []) rfl (hb hbytes d37)
      have hh14 := q14.trans hh11
      have c15 : Steps p.tables e below (s₁.setTop (entryFrame m #[.ref x, .ref y] 3)) (T14.setTop (mkF m 41 #[.val (.ref x), .val (.ref y), .val (.ref y)] [.ref y, .ref t])) := (c13.trans (st14 _ (Steps.refl _))).trans (by
        refine XS.aloadN X14.here hexec rfl (hb hbytes d40) rfl rfl ?_
        exact Steps.refl _)
      obtain ⟨T16, X16, q16, st16⟩ := X14.hget hexec hown (wk W (.fieldLink "java/lang/String" 9 "java/lang/String" "value" "[B")) (hy.mv X14.warmed.alike hh14).2.1 (g := (mkF m 41 #[.val (.ref x), .val (.ref y), .val (.ref y)] [.ref y, .ref t])) rfl (rest := [.ref t]) rfl (hb hbytes d41)
      have hh16 := q16.trans hh14
      have c17 : Steps p.tables e below (s₁.setTop (entryFrame m #[.ref x, .ref y] 3)) (T16.setTop (mkF m 44 #[.val (.ref x), .val (.ref y), .val (.ref y)] [.ref t', .ref t])) := c15.trans (st16 _ (Steps.refl _))
      obtain ⟨v18, T18, X18, E18, g18⟩ := X16.callS hexec (LEq.law l t V t' V') hown (wks W (staticW "java/lang/String" 541 LEq.yN)) (wk W LEq.tab) (W := 0) (Nat.le_of_ble_eq_true rfl) (Nat.le_of_ble_eq_true rfl) (Nat.le_refl _) (Nat.le_refl _) (g := (mkF m 44 #[.val (.ref x), .val (.ref y), .val (.ref y)] [.ref t', .ref t])) rfl (by rw [hml]; rfl) c17 (argsL := [.ref t, .ref t']) (rest := []) rfl rfl (by show 2 * 0 + 0 ≤ _; decide) (hb hbytes d44) (⟨rfl, hx.2.2.2.1.mv X16.warmed.alike hh16, hx.2.2.2.2.1.ty, hy.2.2.2.1.mv X16.warmed.alike hh16, hy.2.2.2.2.1.ty⟩)
      obtain ⟨v, rfl, q18, hv⟩ := E18
      have iff := Cod.eqv hx.2.2.2.2.1 hy.2.2.2.2.1 hx.2.2.2.2.2 hy.2.2.2.2.2
      rcases hv with ⟨rfl, he⟩ | ⟨rfl, he⟩
      · have c19 : Steps p.tables e below (s₁.setTop (entryFrame m #[.ref x, .ref y] 3)) (T18.setTop (mkF m 55 #[.val (.ref x), .val (.ref y), .val (.ref y)] [.int 1])) := Steps.trans g18 (by
          refine XS.ifNo X18.here hexec rfl (hb hbytes d47) rfl (i0_eq_f (by decide)) ?_
          refine iconstV X18.here hexec rfl 1 (hb hbytes d50) (by decide) ?_
          refine XS.goto X18.here hexec rfl (pc0 := 51) rfl (hb hbytes d51) (by decide) rfl ?_
          exact Steps.refl _)
        exact ⟨T18, some (.int 1), _, _, _, X18, rfl, rfl, rfl, (fun h => by cases h), ⟨1, rfl, q18.trans hh16, Or.inl ⟨rfl, iff.mp he⟩⟩, fun fs hl => c19.trans (X18.ireturnOut hexec hret rfl (Or.inr (Or.inl rfl)) (hb hbytes d55) hl)⟩
      · have c19 : Steps p.tables e below (s₁.setTop (entryFrame m #[.ref x, .ref y] 3)) (T18.setTop (mkF m 55 #[.val (.ref x), .val (.ref y), .val (.ref y)] [.int 0])) := Steps.trans g18 (by
          refine XS.ifYes X18.here hexec rfl (pc0 := 47) rfl (hb hbytes d47) rfl (i0_eq_t rfl) (by decide) rfl ?_
          refine iconstV X18.here hexec rfl 0 (hb hbytes d54) (by decide) ?_
          exact Steps.refl _)
        exact ⟨T18, some (.int 0), _, _, _, X18, rfl, rfl, rfl, (fun h => by cases h), ⟨0, rfl, q18.trans hh16, Or.inr ⟨rfl, fun q => he (iff.mpr q)⟩⟩, fun fs hl => c19.trans (X18.ireturnOut hexec hret rfl (Or.inr (Or.inl rfl)) (hb hbytes d55) hl)⟩
    · have c13 : Steps p.tables e below (s₁.setTop (entryFrame m #[.ref x, .ref y] 3)) (T11.setTop (mkF m 55 #[.val (.ref x), .val (.ref y), .val (.ref y)] [.int 0])) := c12.trans (by
        refine XS.icmpYes X11.here hexec rfl (pc0 := 33) rfl (hb hbytes d33) rfl (ii_ne_t hcd) (by decide) rfl ?_
        refine iconstV X11.here hexec rfl 0 (hb hbytes d54) (by decide) ?_
        exact Steps.refl _)
      exact ⟨T11, some (.int 0), _, _, _, X11, rfl, rfl, rfl, (fun h => by cases h), ⟨0, rfl, hh11, Or.inr ⟨rfl, Cod.dif hx.2.2.2.2.1 hy.2.2.2.2.1 hcd⟩⟩, fun fs hl => c13.trans (X11.ireturnOut hexec hret rfl (Or.inr (Or.inl rfl)) (hb hbytes d55) hl)⟩
theorem pays {l : Launch} {R : Room} {p : Program} {e : Env} {below : List Frame} {s : State} {sargs : Array Value} {len W : Nat} (x t : Addr) (V : Cell) (cd : Int32) (n : Nat) (f : Nat → Int32) (y t' : Addr) (V' : Cell) (cd' : Int32) (k : Nat) (g : Nat → Int32) (z : Int32) (htab : tab.before sargs s = true) (hfr : 2 ≤ R.frames) (hlo : W + 28 ≤ R.locals) :
    Back l R p e below s sargs yN len W (fun A₁ a₁ => A₁.cells + 0 ≤ R.cells ∧ A₁.slots + 0 ≤ R.slots ∧ P x t V cd n f y t' V' cd' k g z a₁ A₁.U) (fun A₁ _ v₁ B₁ => Says01 (SameT n f k g) v₁ A₁.U B₁.U ∧ B₁.locs = A₁.locs ++ [] ∧ B₁.cells = A₁.cells + 0 ∧ B₁.slots = A₁.slots + 0) :=
  (law l x t V cd n f y t' V' cd' k g z).pays htab hfr (by omega)
end SEq
end StrChars
namespace StrChars.Road
open Jvm Sem ClassFile Op Lib Jvm.Stand Jvm.Free Jvm.Free.XT
open Jvm.Lib.Cold (StaticIs)
/-- the words of String.equals(Object) -/
abbrev wordsEq : List Jvm.Cond := [.code SEq.yN SEq.yB 3 (some .boolean), .initialized ST, .classLink ST 10 ST, .fieldLink ST 38 ST "COMPACT_STRINGS" "Z", .fieldLink ST 15 ST "coder" "B", .fieldLink ST 9 ST "value" "[B", .methodLink ST 541 LEq.yN, .static LEq.yN, .code LEq.yN LEq.yB 3 (some .boolean), .initialized "java/lang/StringLatin1"]
theorem tabEq_of {a : Array Value} {s : State} (h : ∀ w ∈ wordsEq, w.before a s = true) : SEq.tab.before a s = true := by
  have hl : LEq.tab.before a s = true := unparts (wk h (.code LEq.yN LEq.yB 3 (some .boolean))) (wks h (.initialized LEq.yN.cls :: LEq.site))
  have q := consq hl h
  exact unparts (wk q (.code SEq.yN SEq.yB 3 (some .boolean))) (wks q (.initialized SEq.yN.cls :: SEq.site))
theorem movedEq {Z s : State} {a0 args : Array Value} (hZ : Z.Warmed39 s.vm) (hw : ∀ d ∈ wordsEq, d.before a0 Z = true) : ∀ d ∈ wordsEq, d.before args s = true := fun d hd => by
  have t : ∀ d ∈ wordsEq, (d.onTables && d.keepsFace) = true := by decide +kernel
  exact RoadKit.mv hZ (hw d hd) (t d hd)
/-- the road's facts of a String, as the laws ask it -/
theorem txt_of {Z U : State} {a0 : Array Value} {kI : Nat} (wi : (Jvm.Cond.instantiable ST kI).before a0 Z = true) (al : Z.vm.Alike U.vm) {x t : Addr} {kb : ClassId} {cs : List Int32} {cd N2 : Int32} {vs : List Value} (E : RoadKit.Exa Z U.heap x ST) (V : RoadKit.Fld Z U.heap x ST "value" "[B" (.ref t)) (C : RoadKit.Fld Z U.heap x ST "coder" "B" (.int cd)) (K : RoadKit.Arv Z U.heap t kb .byte N2 vs (.int 0)) (hc : CodA cs cd N2 vs) (hb : ∀ c ∈ cs, ¬ c < 0 ∧ ¬ (65535 : Int32) < c) (l2 : cs.length ≤ 4000) :
    ∃ A, Txt x t A cd cs.length (fun j => cs.getD j 0) U := by
  obtain ⟨A, K1, K2, K3, K4, K5, K6⟩ := K
  have hcod := hc.cod (by omega) K3 K5
  obtain ⟨D, fV, fC, hB, F1, F2, g1, g2, -, -⟩ := strObj wi al E V C
  exact ⟨A, ⟨_, hB.2.2.1, D, hB.1, rfl, by cases q : D.vm <;> first | rfl | exact absurd q (hB.2.1.2 _)⟩, Has.of hB F1 g1, Has.of hB F2 g2, ⟨K1.1, State.isArrayOf_alike al K1.2.1, K1.2.2, by rcases hcod with ⟨-, q, -⟩ | ⟨-, q, -⟩ <;> omega⟩, hcod, fun j hj => by
    have e : cs.getD j 0 = cs[j] := by simp [List.getD_eq_getElem?_getD, hj]
    show ¬ cs.getD j 0 < 0 ∧ ¬ 65535 < cs.getD j 0
    rw [e]; exact hb _ (List.getElem_mem _)⟩
theorem same_list (cs ds : List Int32) : SameT cs.length (fun j => cs.getD j 0) ds.length (fun j => ds.getD j 0) ↔ cs = ds := by
  constructor
  · rintro ⟨e, q⟩
    refine List.ext_getElem e fun j h1 h2 => ?_
    have := q j h1
    simpa [List.getD_eq_getElem?_getD, h1, h2] using this
  · rintro rfl
    exact ⟨rfl, fun _ _ => rfl⟩
/-- **equals(Object) OF TWO SUCH STRINGS**: 1 just where the chars are the same -/
theorem eqW {p : Program} {l : Launch} {e : Env} {R : Room} {s : State} {args : Array Value} {below : List Frame} {len W : Nat} {Z : State} {a0 : Array Value} {h : Heap} (hZ : Z.Warmed39 s.vm) (hw : ∀ d ∈ wordsEq, d.before a0 Z = true) {kI : Nat} (wi : (Jvm.Cond.instantiable ST kI).before a0 Z = true)
    {x t : Addr} {kb : ClassId} {cs : List Int32} {cd N2 : Int32} {vs : List Value} (E : RoadKit.Exa Z h x ST) (V : RoadKit.Fld Z h x ST "value" "[B" (.ref t)) (C : RoadKit.Fld Z h x ST "coder" "B" (.int cd)) (K : RoadKit.Arv Z h t kb .byte N2 vs (.int 0)) (hc : CodA cs cd N2 vs) (hb : ∀ c ∈ cs, ¬ c < 0 ∧ ¬ (65535 : Int32) < c) (l2 : cs.length ≤ 4000)
    {y t' : Addr} {kb' : ClassId} {ds : List Int32} {cd' N2' : Int32} {vs' : List Value} (E' : RoadKit.Exa Z h y ST) (V' : RoadKit.Fld Z h y ST "value" "[B" (.ref t')) (C' : RoadKit.Fld Z h y ST "coder" "B" (.int cd')) (K' : RoadKit.Arv Z h t' kb' .byte N2' vs' (.int 0)) (hc' : CodA ds cd' N2' vs') (hb' : ∀ c ∈ ds, ¬ c < 0 ∧ ¬ (65535 : Int32) < c) (l2' : ds.length ≤ 4000)
    {z : Int32} (S : RoadKit.Sta Z h ST "COMPACT_STRINGS" "Z" (.int z)) (hz : ¬ z = 0) (hfr : 2 ≤ R.frames) (hlo : W + 28 ≤ R.locals) :
    Back l R p e below s args (⟨"java/lang/String", "equals", "(Ljava/lang/Object;)Z"⟩ : MethodName) len W (fun P a => a = #[.ref x, .ref y] ∧ P.U.heap = h ∧ P.cells + 0 ≤ R.cells ∧ P.slots + 0 ≤ R.slots)
      (fun P _ v B => ∃ L, (((v = some (.int 1) ∧ cs = ds) ∨ (v = some (.int 0) ∧ ¬ cs = ds)) ∧ L = [] ∧ B.U.heap = h) ∧ B.locs = P.locs ++ L ∧ B.cells = P.cells + 0 ∧ B.slots = P.slots + 0) := by
  intro m meth c P g ig mk a X hg hsize hdg hW hn hp'
  obtain ⟨rfl, rfl, r1, r2⟩ := hp'
  have al : Z.vm.Alike P.U.vm := hZ.alike.trans X.warmed.alike
  obtain ⟨A, hx⟩ := txt_of wi al E V C K hc hb l2
  obtain ⟨A', hy⟩ := txt_of wi al E' V' C' K' hc' hb' l2'
  obtain ⟨v, B, X', ⟨⟨w, hv, hh, hq⟩, hl, hk, hs⟩, st⟩ := SEq.pays x t A cd cs.length (fun j => cs.getD j 0) y t' A' cd' ds.length (fun j => ds.getD j 0) z (tabEq_of (movedEq hZ hw)) hfr hlo m meth c P g ig mk _ X hg hsize hdg hW hn ⟨r1, r2, rfl, hx, hy, sta_is al S, hz⟩
  refine ⟨v, B, X', ⟨[], ⟨?_, rfl, hh⟩, hl, hk, hs⟩, st⟩
  rcases hq with ⟨rfl, q⟩ | ⟨rfl, q⟩
  · exact Or.inl ⟨hv, (same_list cs ds).mp q⟩
  · exact Or.inr ⟨hv, fun e => q ((same_list cs ds).mpr e)⟩
end StrChars.Road
namespace StrChars.Road
open Jvm Sem ClassFile Op Lib Jvm.Stand Jvm.Free Jvm.Free.XT
open Jvm.Lib.Cold (StaticIs)
/-- what backV says of its String, as the contracts of this text ask it: cs's low bytes, coder 0 -/
theorem codOf {cs : List Int32} {n : Nat} (hn : cs.length = n) (hb : ∀ c ∈ cs, ¬ 255 < c) : CodA cs 0 (Int32.ofNat n) ((cs.map lo8).map Value.int) := Or.inl ⟨rfl, by rw [hn], by simp [List.map_map, Function.comp_def], hb⟩
end StrChars.Road
end Jvm.Pilot.@@N@@

namespace Jvm.RoadKit
open Sem ClassFile Op Lib Jvm.Stand Jvm.Free Jvm.LawKit
section New
variable {p : Program} {l : Launch} {e : Env} {R : Room} {s : State} {m : MethodId} {args : Array Value} {below : List Frame} {meth : Method} {c : Code} {T : State} {locs : List Loc} {cells slots : Nat}
theorem retI (X : Stand p l e R s m args below meth c T locs cells slots) (hx : p.tables.exec = Jvm.exec) {pc : Nat} {Ls : Array Slot} {z : Int32} {rest : List Value} (hret : meth.sig.returnType = some .int) (hd : decode c.code pc = .ok (.ireturn, 1)) {fs : List Frame}
    (hl : ∀ (f : JFrame) (acts : List Action), f.method = m → f.locked = none → f.entered = [] → (doReturn e (T.setTop f) acts (some (.int z))).1 = T.setFrames fs) : Steps p.tables e below (T.setTop (mkF m pc Ls (.int z :: rest))) (T.setFrames fs) := by
  have hm' : T.vm.method? m = some meth := X.method'
  have hn : narrow .int (.int z) = .int z := rfl
  show Steps p.tables e below (T.setTop { method := m, pc := pc, locals := Ls, stack := _ :: rest, locked := none }) _
  jvm_step X.here [X.here.top, hx, hd, hm', hret, hn]
  first | (intro acts; rw [hl _ acts rfl rfl rfl]) | rw [hl _ _ rfl rfl rfl]
  exact Steps.refl _
end New
end Jvm.RoadKit
namespace Jvm.Pilot.@@N@@
open Jvm Jvm.ClassFile Sem Op Lib Jvm.Free Jvm.Stand Jvm.LawKit Jvm.RoadKit Bundle Jvm.Pilot.@@N@@.Jvm.D
def EL : List (String × Nat) := consts_1
theorem hEL {Z : State} {a0 : Array Value} (hw : ∀ d ∈ tables_1, d.before a0 Z = true) : EW Z a0 EL := (EW.cons (hw _ (List.mem_of_getElem? (i := 71) rfl)) (by decide +kernel) (EW.cons (hw _ (List.mem_of_getElem? (i := 33) rfl)) (by decide +kernel) (EW.cons (hw _ (List.mem_of_getElem? (i := 18) rfl)) (by decide +kernel) EW.nil)))
theorem own_since (s : State) : s.Since s.vm s.heap.size := (State.WarmedH.refl s).since _
theorem own_monoW {s t : State} {o : Outcome} {L : List Loc} {k n k' n' : Nat} (h : ReturnedEndW s o t L k n) (h1 : k ≤ k') (h2 : n ≤ n') : ReturnedEndW s o t L k' n' := ⟨h.1, h.2.1, h.2.2.1, h.2.2.2.mono h1 h2⟩
theorem Safe.fresh {Z : State} {vm : Vm} {h : Heap} {x : Addr} (hal : Z.vm.Alike vm) (E : Exa Z h x "java/lang/String") (V : Fld Z h x "java/lang/String" "value" "[B" .null) : Safe Z EL vm h x := fun B => by
  obtain ⟨p, -, u, a, -, q, -, F, rfl | rfl⟩ := B
  · obtain ⟨cell, cf, k, i, f, v1, v2, v3, v4, v5, v6, v7⟩ := V
    cases (show h[q.sa]? = some q.sC from F.ha).symm.trans v1
    obtain ⟨cS, ⟨⟨s1, s2, s3, ⟨cv, kv, iv, s4, s4'⟩, ⟨cc, kc, ic, s5, s5'⟩, s6, s7, s8, s9, s10, s11, s12, s13, s14, s15, s16⟩, hfS, hcS⟩, -⟩ := F
    obtain ⟨kv', z4⟩ := ff_back (U := Wst Z vm h) hal s4
    cases v2.symm.trans z4
    cases s8.symm.trans v7
  · obtain ⟨cell, k, e1, e2, e3, -, -⟩ := E
    cases (show h[q.sd]? = some q.SA from F.hd).symm.trans e1
    obtain ⟨cS, -, -, f, -⟩ := F
    have f' : vm.findClass "[B" = some q.SA.cls := f
    rw [hal.findClass] at f'
    obtain ⟨k1, q1, q2⟩ := Vm.findClass_spec f'
    obtain ⟨k2, q3, q4⟩ := Vm.findClass_spec e2
    cases q1.symm.trans q3
    exact absurd (q2.symm.trans q4) (by decide)
theorem own_up (cs : List Int32) (h : ∀ c ∈ cs, ¬ c < 0 ∧ ¬ (255 : Int32) < c) : ∀ c ∈ cs, ¬ c < 0 ∧ ¬ (65535 : Int32) < c := fun c hc => ⟨(h c hc).1, fun q => (h c hc).2 (by rw [Int32.lt_iff_toInt_lt] at q ⊢; have e1 : (65535 : Int32).toInt = 65535 := rfl; have e2 : (255 : Int32).toInt = 255 := rfl; omega)⟩
theorem own_ch (x : Int32) : ¬ nar .char ((x &&& (255 : Int32)).toUInt32.toUInt16.toUInt32.toInt32) < 0 ∧ ¬ (255 : Int32) < nar .char ((x &&& (255 : Int32)).toUInt32.toUInt16.toUInt32.toInt32) := by
  have t : ∀ k : Fin 256, ¬ nar .char ((Int32.ofNat k.val).toUInt32.toUInt16.toUInt32.toInt32) < 0 ∧ ¬ (255 : Int32) < nar .char ((Int32.ofNat k.val).toUInt32.toUInt16.toUInt32.toInt32) := by decide +kernel
  have h : (x &&& 255).toBitVec.toNat < 256 := by
    simp only [Int32.toBitVec_and, BitVec.toNat_and]
    exact Nat.lt_succ_of_le Nat.and_le_right
  have e : (x &&& 255) = Int32.ofNat (x &&& 255).toBitVec.toNat := by
    apply Int32.toBitVec_inj.mp
    show _ = BitVec.ofNat 32 _
    rw [BitVec.ofNat_toNat]; simp
  rw [e]
  exact t ⟨_, h⟩
theorem own_cs0 {P : Int32 → Prop} : ∀ c ∈ ([] : List Int32), P c := fun _ q => nomatch q
theorem own_csS {P : Int32 → Prop} {y : Int32} {L : List Int32} (q : P y) (r : ∀ x ∈ L, P x) : ∀ x ∈ y :: L, P x := fun x z => (List.mem_cons.mp z).elim (fun u => u ▸ q) (r x)
def isC (u : Int32) : Prop := nar .char u = u ∧ ¬ nar .char u < 0 ∧ ¬ (255 : Int32) < nar .char u
theorem own_isC (x : Int32) : isC ((x &&& (255 : Int32)).toUInt32.toUInt16.toUInt32.toInt32) := by
  refine ⟨?_, own_ch x⟩
  have t : ∀ k : Fin 256, nar .char ((Int32.ofNat k.val).toUInt32.toUInt16.toUInt32.toInt32) = ((Int32.ofNat k.val).toUInt32.toUInt16.toUInt32.toInt32) := by decide +kernel
  have h : (x &&& 255).toBitVec.toNat < 256 := by
    simp only [Int32.toBitVec_and, BitVec.toNat_and]
    exact Nat.lt_succ_of_le Nat.and_le_right
  have e : (x &&& 255) = Int32.ofNat (x &&& 255).toBitVec.toNat := by
    apply Int32.toBitVec_inj.mp
    show _ = BitVec.ofNat 32 _
    rw [BitVec.ofNat_toNat]; simp
  rw [e]
  exact t ⟨_, h⟩
theorem own_isC_ite {P : Prop} [Decidable P] {a b : Int32} (ha : isC a) (hb : isC b) : isC (if P then a else b) := by split <;> assumption
def csOf (n a b : Int32) : List Int32 := if n = 0 then [] else if n = 1 then [nar .char a] else [nar .char a, nar .char b]
def eqI (cs ds : List Int32) : Int32 := if cs = ds then 1 else 0
theorem own_cs (n : Int32) {a b : Int32} (ha : isC a) (hb : isC b) : ∀ c ∈ csOf n a b, ¬ c < 0 ∧ ¬ (255 : Int32) < c := by
  unfold csOf
  repeat' split
  · exact own_cs0
  · exact own_csS (P := fun c => ¬ c < 0 ∧ ¬ (255 : Int32) < c) ha.2 own_cs0
  · exact own_csS (P := fun c => ¬ c < 0 ∧ ¬ (255 : Int32) < c) ha.2 (own_csS (P := fun c => ¬ c < 0 ∧ ¬ (255 : Int32) < c) hb.2 own_cs0)
theorem own_len (n a b : Int32) : (csOf n a b).length ≤ 4000 := by
  unfold csOf
  repeat' split
  all_goals simp
theorem own_noIri {Z : State} {a0 : Array Value} {K C : String} {c t : ClassId} {k k' : Class} (n : NS Z C K) (h0 : Z.vm.findClass C = some c) (h2 : Z.vm.classes[c]? = some k) (h5 : k.kind = .ordinary) (g0 : Z.vm.findClass K = some t) (g2 : Z.vm.classes[t]? = some k') (g5 : k'.kind = .ordinary) (g7 : k'.isInterface = false) (hn : C ≠ K) : ∃ c t, Z.vm.findClass C = some c ∧ Z.vm.findClass K = some t ∧ Z.vm.assignable c t = false := by
  obtain ⟨c', t', n1, n2, n3⟩ := n
  cases n1.symm.trans h0
  cases n2.symm.trans g0
  have ne := ids_ne h0 g0 hn
  refine ⟨c, t, h0, g0, ?_⟩
  show Z.vm.assignableAux (255 + 1) c t = false
  simp [Vm.assignableAux, ne, h2, g2, h5, g5, g7, Vm.isSubclass, n3]
theorem own_nsroot {Z : State} {a0 : Array Value} {O K : String} {t : ClassId} (w : (Cond.noSuperclass O).before a0 Z = true) (g1 : Z.vm.findClass K = some t) (hn : O ≠ K) : NS Z O K := by
  obtain ⟨c, k, h1, h2, h3, -, -⟩ := Cond.noSuperclass_spec w
  have ne := ids_ne h1 g1 hn
  refine ⟨c, t, h1, g1, fun fuel => ?_⟩
  cases fuel with
  | zero => rfl
  | succ f => simp [Vm.isSubclassAux, ne, h2, h3]
theorem own_noB {Z : State} {a0 : Array Value} (hw : ∀ d ∈ tables_1, d.before a0 Z = true) : ∃ c t, Z.vm.findClass "com/example/triplewright/triplewright/rdf/BlankNode" = some c ∧ Z.vm.findClass "com/example/triplewright/triplewright/rdf/Iri" = some t ∧ Z.vm.assignable c t = false := by
  obtain ⟨t, k', g0, g2, g5, g7, -, -⟩ := Cond.instantiable_spec (hw _ (List.mem_of_getElem? (i := 27) rfl))
  obtain ⟨c, k, h0, h2, h5, -, -, -⟩ := Cond.instantiable_spec (hw _ (List.mem_of_getElem? (i := 60) rfl))
  have r := own_nsroot (K := "com/example/triplewright/triplewright/rdf/Iri") (hw _ (List.mem_of_getElem? (i := 77) rfl)) g0 (by decide)
  exact own_noIri (a0 := a0) (NS.step (hw _ (List.mem_of_getElem? (i := 75) rfl)) (NS.step (hw _ (List.mem_of_getElem? (i := 76) rfl)) r (by decide)) (by decide)) h0 h2 h5 g0 g2 g5 (by simpa using (Bool.or_eq_false_iff.mp g7).1) (by decide)
theorem own_noS {Z : State} {a0 : Array Value} (hw : ∀ d ∈ tables_1, d.before a0 Z = true) : ∃ c t, Z.vm.findClass "java/lang/String" = some c ∧ Z.vm.findClass "com/example/triplewright/triplewright/rdf/Iri" = some t ∧ Z.vm.assignable c t = false := by
  obtain ⟨t, k', g0, g2, g5, g7, -, -⟩ := Cond.instantiable_spec (hw _ (List.mem_of_getElem? (i := 27) rfl))
  obtain ⟨c, k, h0, h2, h5, -, -, -⟩ := Cond.instantiable_spec (hw _ (List.mem_of_getElem? (i := 5) rfl))
  have r := own_nsroot (K := "com/example/triplewright/triplewright/rdf/Iri") (hw _ (List.mem_of_getElem? (i := 77) rfl)) g0 (by decide)
  exact own_noIri (a0 := a0) (NS.step (hw _ (List.mem_of_getElem? (i := 88) rfl)) r (by decide)) h0 h2 h5 g0 g2 g5 (by simpa using (Bool.or_eq_false_iff.mp g7).1) (by decide)
theorem d3_0 : decode jdk_42_method_149_code 0 = .ok (.aload_n 0, 1) := by decide +kernel
theorem d3_1 : decode jdk_42_method_149_code 1 = .ok (.invokespecial 1, 3) := by decide +kernel
theorem d3_4 : decode jdk_42_method_149_code 4 = .ok (.iload_n 3, 1) := by decide +kernel
theorem d3_5 : decode jdk_42_method_149_code 5 = .ok (.ifCond .ne 22, 3) := by decide +kernel
theorem d3_8 : decode jdk_42_method_149_code 8 = .ok (.aload_n 0, 1) := by decide +kernel
theorem d3_9 : decode jdk_42_method_149_code 9 = .ok (.ldc 7, 2) := by decide +kernel
theorem d3_11 : decode jdk_42_method_149_code 11 = .ok (.getfield 9, 3) := by decide +kernel
theorem d3_14 : decode jdk_42_method_149_code 14 = .ok (.putfield 9, 3) := by decide +kernel
theorem d3_17 : decode jdk_42_method_149_code 17 = .ok (.aload_n 0, 1) := by decide +kernel
theorem d3_18 : decode jdk_42_method_149_code 18 = .ok (.ldc 7, 2) := by decide +kernel
theorem d3_20 : decode jdk_42_method_149_code 20 = .ok (.getfield 15, 3) := by decide +kernel
theorem d3_23 : decode jdk_42_method_149_code 23 = .ok (.putfield 15, 3) := by decide +kernel
theorem d3_26 : decode jdk_42_method_149_code 26 = .ok (.return_, 1) := by decide +kernel
theorem pn_java_lang_String : plainName "java/lang/String" = true := by first | (simp [plainName, overriddenIn]; done) | decide +kernel
theorem ef_E2 (m : MethodId) (u0 : Addr) (u1 : Addr) : entryFrame m #[(.ref u0), (.ref u1), (.int (0 : Int32)), (.int (0 : Int32)), .null] 6 = mkF m 0 #[.val (.ref u0), .val (.ref u1), .val (.int (0 : Int32)), .val (.int (0 : Int32)), .val .null, .unset] [] := by first | (simp [entryFrame, mkF, argsToLocals, Value.category]; done) | rfl
def QE2 (Z : State) (u0 : Addr) (u1 : Addr) (h0 : Heap) (n0 : Nat) (v : Option Value) (h : Heap) (L : List Loc) : Prop := ∃ (sd : Addr) (kc : ClassId), v = none ∧ Fr n0 L ∧ Keep h0 h [u0] ∧ Exa Z h u0 "java/lang/String" ∧ Fld Z h u0 "java/lang/String" "coder" "B" (.int 0) ∧ Fld Z h u0 "java/lang/String" "value" "[B" (.ref sd) ∧ Arv Z h sd kc .byte (0 : Int32) [] (.int 0)
set_option maxRecDepth 65536 in
set_option maxHeartbeats 40000000 in
theorem rmE2 (l : Launch) (Z : State) (a0 : Array Value) (hw : ∀ d ∈ tables_1, d.before a0 Z = true) (ws : List Jvm.Cond) (u0 : Addr) (u1 : Addr) (h0 : Heap) (n0 : Nat) (Z0 : n0 ≤ h0.size) (g_u0 : n0 ≤ u0) (E_u0 : Exa Z h0 u0 "java/lang/String") (F_value_u0 : Fld Z h0 u0 "java/lang/String" "value" "[B" .null) (F_coder_u0 : Fld Z h0 u0 "java/lang/String" "coder" "B" (.int (0 : Int32))) :
    MetFree l (⟨"java/lang/String", "<init>", "([CIILjava/lang/Void;)V"⟩ : MethodName) (head1 (Jvm.Cond.code (⟨"java/lang/String", "<init>", "([CIILjava/lang/Void;)V"⟩ : MethodName) jdk_42_method_149_code 6 none :: ws) ({ frames := 1, cells := 4, slots := 8, locals := 12 } : Room)) (fun a U => a = #[(.ref u0), (.ref u1), (.int (0 : Int32)), (.int (0 : Int32)), .null] ∧ Z.Warmed39 U.vm ∧ U.heap = h0 ∧ CHv Z EL U.vm h0) (fun _ _ _ _ _ => True) (fun _ U o U' => ∃ v L, o = .returned v ∧ QE2 Z u0 u1 h0 n0 v U'.heap L ∧ CHr Z EL U.vm U.heap U'.vm U'.heap ∧ ReturnedEndW U o U' L ({ frames := 1, cells := 4, slots := 8, locals := 12 } : Room).cells ({ frames := 1, cells := 4, slots := 8, locals := 12 } : Room).slots) := by
  refine MetFree.of_bodySF (plainFor_of_name pn_java_lang_String) hisR ?_
  intro p e s m args below meth c s₁ Bd hml0 hP hK
  obtain ⟨rfl, hZ, hh, hC0⟩ := hP
  replace hZ : Z.Warmed39 (s.setVm s.vm).vm := hZ
  have hx := Bd.exec
  have hby := Bd.bytes
  have hml : c.maxLocals = 6 := hml0
  have hown : (s.setVm s.vm).vm.findClass "java/lang/String" = some m.cls := findClass_of_methodNamed Bd.named
  have hnm := (name_of_methodNamed Bd.named Bd.method).1
  have X0 : Stand p l e ({ frames := 1, cells := 4, slots := 8, locals := 12 } : Room) (s.setVm s.vm) m #[(.ref u0), (.ref u1), (.int (0 : Int32)), (.int (0 : Int32)), .null] below meth c s₁ [] 0 0 := Stand.of_body Bd
  have e0 : s₁.heap = h0 := by rw [← hh, Bd.state]; rfl
  have N0 := Fr.nil n0
  have pre0 : ∀ t, Steps p.tables e below (s₁.setTop (mkF m 0 #[.val (.ref u0), .val (.ref u1), .val (.int (0 : Int32)), .val (.int (0 : Int32)), .val .null, .unset] [])) t → Steps p.tables e below (s₁.setTop (entryFrame m #[(.ref u0), (.ref u1), (.int (0 : Int32)), (.int (0 : Int32)), .null] 6)) t := fun t k => castTop (ef_E2 m u0 u1) k
  have hS0 : s.Since s.vm s.heap.size := own_since s
  have hk0 : s.heap.size ≤ h0.size := Nat.le_of_eq (congrArg Array.size hh)
  have C0 : CHr Z EL s.vm h0 s.vm h0 := CHr.refl hC0
  have wS : ∀ d ∈ Bundle.stringAtoms, d.before a0 Z = true := fun d hd => hw d ((by decide +kernel : ∀ d ∈ Bundle.stringAtoms, d ∈ tables_1) d hd)
  have Sf0_u0 : Safe Z EL s.vm h0 u0 := (Safe.fresh hZ.alike E_u0 F_value_u0)
  obtain ⟨T1, X1, e1, st1⟩ := initO X0 hx hZ hown (hw _ (List.mem_of_getElem? (i := 15) rfl)) (hw _ (List.mem_of_getElem? (i := 16) rfl)) (hw _ (List.mem_of_getElem? (i := 17) rfl)) e0 (g := (mkF m 1 #[.val (.ref u0), .val (.ref u1), .val (.int (0 : Int32)), .val (.int (0 : Int32)), .val .null, .unset] [(.ref u0)])) rfl (by rw [hml]; rfl) rfl (hb hby d3_1) (by decide) (W := 0) (by show 2 * 0 + _ ≤ _; exact Nat.le_of_eq rfl) (by decide)
  obtain ⟨s2, T2, h2, q2, d2, kc2, X2, e2, E2, hS2, hk2, hZ, hown, A2, F2_coder, F2_value, V2, ls2, ld2, Cq2, Lt2, sf2, st2⟩ := ldcCH X1 hx hZ hown (hw _ (List.mem_of_getElem? (i := 18) rfl)) wS e1 hS0 hk0 (hEL hw) (List.mem_of_getElem? (i := 2) rfl) C0.1 (vs := ((([] : List Int32).map (fun c => c.toInt8.toInt32)).map Value.int)) (z := (0 : Int32)) (by constructor <;> decide +kernel) (by decide) (by decide +kernel) (g := (mkF m 9 #[.val (.ref u0), .val (.ref u1), .val (.int (0 : Int32)), .val (.int (0 : Int32)), .val .null, .unset] [(.ref u0)])) rfl (hb hby d3_9) (n := 0) (by decide +kernel) (by decide) (by decide) (by decide)
  have Z2 : n0 ≤ h2.size := Nat.le_trans Z0 E2.1
  have KK2 := (Keep.refl h0 [u0]).ext E2
  have Sf2_u0 := Cq2.safe E_u0.lt Sf0_u0
  have C2 := C0.trans Cq2
  have ns2_u0 := sf2 u0 Sf2_u0
  obtain ⟨T3, X3, e3, st3⟩ := getF X2 hx hZ hown (host := "") (Or.inl (hw _ (List.mem_of_getElem? (i := 24) rfl))) Via.refl e2 F2_value (g := (mkF m 11 #[.val (.ref u0), .val (.ref u1), .val (.int (0 : Int32)), .val (.int (0 : Int32)), .val .null, .unset] [(.ref s2), (.ref u0)])) rfl rfl (hb hby d3_11)
  obtain ⟨T4, h4, X4, e4, W4, st4⟩ := putF X3 hx hZ hown (host := "") (Or.inl (hw _ (List.mem_of_getElem? (i := 24) rfl))) Via.refl e3 (F_value_u0.ext E2) (E_u0.ext E2) (Or.inr ⟨(hw _ (List.mem_of_getElem? (i := 20) rfl)), rfl, hnm⟩) (hw _ (List.mem_of_getElem? (i := 5) rfl)) (ty := (.array .byte)) (by decide) rfl rfl (g := (mkF m 14 #[.val (.ref u0), .val (.ref u1), .val (.int (0 : Int32)), .val (.int (0 : Int32)), .val .null, .unset] [(.ref d2), (.ref u0)])) rfl rfl (hb hby d3_14)
  have Fw4 := (F_value_u0.ext E2).same W4
  have N4 := Fr.snoc X4 N0 g_u0
  have Z4 : n0 ≤ h4.size := Nat.le_trans Z2 (Keep.of_wr W4).1
  have KK4 := KK2.wr W4 (Or.inl (List.mem_of_getElem? (i := 0) rfl))
  have Sf4_u0 := Safe.wr W4 Sf2_u0 C2.1 Sf2_u0
  have C4 := C2.trans (CHr.wr W4 Sf2_u0 C2.1)
  have hk4 := Nat.le_trans hk2 (Keep.of_wr W4).1
  obtain ⟨s5, T5, h5, q5, d5, kc5, X5, e5, E5, hS5, hk5, hZ, hown, A5, F5_coder, F5_value, V5, ls5, ld5, Cq5, Lt5, sf5, st5⟩ := ldcCH X4 hx hZ hown (hw _ (List.mem_of_getElem? (i := 18) rfl)) wS e4 hS2 hk4 (hEL hw) (List.mem_of_getElem? (i := 2) rfl) C4.1 (vs := ((([] : List Int32).map (fun c => c.toInt8.toInt32)).map Value.int)) (z := (0 : Int32)) (by constructor <;> decide +kernel) (by decide) (by decide +kernel) (g := (mkF m 18 #[.val (.ref u0), .val (.ref u1), .val (.int (0 : Int32)), .val (.int (0 : Int32)), .val .null, .unset] [(.ref u0)])) rfl (hb hby d3_18) (n := 0) (by decide +kernel) (by decide) (by decide) (by decide)
  have Z5 : n0 ≤ h5.size := Nat.le_trans Z4 E5.1
  have KK5 := KK4.ext E5
  have Sf5_u0 := Cq5.safe ((E_u0.ext E2).wr W4).lt Sf4_u0
  have C5 := C4.trans Cq5
  have ns5_u0 := sf5 u0 Sf5_u0
  obtain ⟨T6, X6, e6, st6⟩ := getF X5 hx hZ hown (host := "") (Or.inl (hw _ (List.mem_of_getElem? (i := 25) rfl))) Via.refl e5 F5_coder (g := (mkF m 20 #[.val (.ref u0), .val (.ref u1), .val (.int (0 : Int32)), .val (.int (0 : Int32)), .val .null, .unset] [(.ref s5), (.ref u0)])) rfl rfl (hb hby d3_20)
  obtain ⟨T7, h7, X7, e7, W7, st7⟩ := putFN X6 hx hZ hown (hw _ (List.mem_of_getElem? (i := 25) rfl)) Via.refl e6 (((F_coder_u0.ext E2).other W4 (Or.inr (slot_ne (Or.inr (hw _ (List.mem_of_getElem? (i := 21) rfl))) (Or.inr (hw _ (List.mem_of_getElem? (i := 20) rfl))) (by decide) (t := .byte) (t' := (.array .byte)) (by decide) (by decide)))).ext E5) (((E_u0.ext E2).wr W4).ext E5) (Or.inr ⟨(hw _ (List.mem_of_getElem? (i := 21) rfl)), rfl, hnm⟩) (hw _ (List.mem_of_getElem? (i := 5) rfl)) (ty := .byte) (v' := (.int (nar .byte (0 : Int32)))) (by decide) rfl (fits_nar_byte _) (g := (mkF m 23 #[.val (.ref u0), .val (.ref u1), .val (.int (0 : Int32)), .val (.int (0 : Int32)), .val .null, .unset] [(.int (0 : Int32)), (.ref u0)])) rfl rfl (hb hby d3_23)
  have Fw7 := (((F_coder_u0.ext E2).other W4 (Or.inr (slot_ne (Or.inr (hw _ (List.mem_of_getElem? (i := 21) rfl))) (Or.inr (hw _ (List.mem_of_getElem? (i := 20) rfl))) (by decide) (t := .byte) (t' := (.array .byte)) (by decide) (by decide)))).ext E5).same W7
  have N7 := Fr.snoc X7 N4 g_u0
  have Z7 : n0 ≤ h7.size := Nat.le_trans Z5 (Keep.of_wr W7).1
  have KK7 := KK5.wr W7 (Or.inl (List.mem_of_getElem? (i := 0) rfl))
  have Sf7_u0 := Safe.wr W7 Sf5_u0 C5.1 Sf5_u0
  have C7 := C5.trans (CHr.wr W7 Sf5_u0 C5.1)
  have hk7 := Nat.le_trans hk5 (Keep.of_wr W7).1
  obtain ⟨fs, hr, hrun, hended, hE⟩ := X7.leaveW hS5 (Nat.le_trans hk7 (Nat.le_of_eq (congrArg Array.size e7).symm)) (v := none) (fun _ => rfl)
  refine ⟨_, _, pre0 _ ?_, hrun, hended, _, _, rfl, ?_, ?_, own_monoW hE (by decide) (by decide)⟩
  · show Steps p.tables e below (s₁.setTop (mkF m 0 #[.val (.ref u0), .val (.ref u1), .val (.int (0 : Int32)), .val (.int (0 : Int32)), .val .null, .unset] [])) _
    refine XS.aloadN X0.here hx rfl (hb hby d3_0) rfl rfl ?_
    show Steps p.tables e below (s₁.setTop (mkF m 1 #[.val (.ref u0), .val (.ref u1), .val (.int (0 : Int32)), .val (.int (0 : Int32)), .val .null, .unset] [(.ref u0)])) _
    refine st1 _ ?_
    show Steps p.tables e below (T1.setTop (mkF m 4 #[.val (.ref u0), .val (.ref u1), .val (.int (0 : Int32)), .val (.int (0 : Int32)), .val .null, .unset] [])) _
    refine XS.iloadN X1.here hx rfl (hb hby d3_4) rfl ?_
    show Steps p.tables e below (T1.setTop (mkF m 5 #[.val (.ref u0), .val (.ref u1), .val (.int (0 : Int32)), .val (.int (0 : Int32)), .val .null, .unset] [(.int (0 : Int32))])) _
    refine XS.ifNo X1.here hx rfl (hb hby d3_5) rfl ((if0 _ _).trans (teq (by decide)).2) ?_
    show Steps p.tables e below (T1.setTop (mkF m 8 #[.val (.ref u0), .val (.ref u1), .val (.int (0 : Int32)), .val (.int (0 : Int32)), .val .null, .unset] [])) _
    refine XS.aloadN X1.here hx rfl (hb hby d3_8) rfl rfl ?_
    show Steps p.tables e below (T1.setTop (mkF m 9 #[.val (.ref u0), .val (.ref u1), .val (.int (0 : Int32)), .val (.int (0 : Int32)), .val .null, .unset] [(.ref u0)])) _
    refine st2 _ ?_
    show Steps p.tables e below (T2.setTop (mkF m 11 #[.val (.ref u0), .val (.ref u1), .val (.int (0 : Int32)), .val (.int (0 : Int32)), .val .null, .unset] [(.ref s2), (.ref u0)])) _
    refine st3 _ ?_
    show Steps p.tables e below (T3.setTop (mkF m 14 #[.val (.ref u0), .val (.ref u1), .val (.int (0 : Int32)), .val (.int (0 : Int32)), .val .null, .unset] [(.ref d2), (.ref u0)])) _
    refine st4 _ ?_
    show Steps p.tables e below (T4.setTop (mkF m 17 #[.val (.ref u0), .val (.ref u1), .val (.int (0 : Int32)), .val (.int (0 : Int32)), .val .null, .unset] [])) _
    refine XS.aloadN X4.here hx rfl (hb hby d3_17) rfl rfl ?_
    show Steps p.tables e below (T4.setTop (mkF m 18 #[.val (.ref u0), .val (.ref u1), .val (.int (0 : Int32)), .val (.int (0 : Int32)), .val .null, .unset] [(.ref u0)])) _
    refine st5 _ ?_
    show Steps p.tables e below (T5.setTop (mkF m 20 #[.val (.ref u0), .val (.ref u1), .val (.int (0 : Int32)), .val (.int (0 : Int32)), .val .null, .unset] [(.ref s5), (.ref u0)])) _
    refine st6 _ ?_
    show Steps p.tables e below (T6.setTop (mkF m 23 #[.val (.ref u0), .val (.ref u1), .val (.int (0 : Int32)), .val (.int (0 : Int32)), .val .null, .unset] [(.int (0 : Int32)), (.ref u0)])) _
    refine st7 _ ?_
    show Steps p.tables e below (T7.setTop (mkF m 26 #[.val (.ref u0), .val (.ref u1), .val (.int (0 : Int32)), .val (.int (0 : Int32)), .val .null, .unset] [])) _
    exact X7.returnOut hx Bd.returns (hb hby d3_26) hr
  · show QE2 Z u0 u1 h0 n0 _ T7.heap _
    rw [e7]
    exact ⟨d2, _, rfl, N7, KK7, ((((E_u0.ext E2).wr W4).ext E5).wr W7), Fw7, ((Fw4.ext E5).other W7 (Or.inr (slot_ne (Or.inr (hw _ (List.mem_of_getElem? (i := 20) rfl))) (Or.inr (hw _ (List.mem_of_getElem? (i := 21) rfl))) (by decide) (t := (.array .byte)) (t' := .byte) (by decide) (by decide)))), (((V2.other W4 (Ne.symm ns2_u0.2)).ext E5).other W7 (Ne.symm ns2_u0.2))⟩
  · show CHr Z EL s.vm s.heap T7.vm T7.heap
    rw [e7]
    rw [hh]
    exact C7.trans (CHv.at X7 hZ (hEL hw) C7.1)
theorem pd_9 : parseMethodDescriptor "([CIILjava/lang/Void;)V" = some ⟨[(.array .char), .int, .int, (.object "java/lang/Void")], none⟩ := by decide +kernel
theorem d2_0 : decode jdk_42_method_3_code 0 = .ok (.aload_n 0, 1) := by decide +kernel
theorem d2_1 : decode jdk_42_method_3_code 1 = .ok (.aload_n 1, 1) := by decide +kernel
theorem d2_2 : decode jdk_42_method_3_code 2 = .ok (.iconst 0, 1) := by decide +kernel
theorem d2_3 : decode jdk_42_method_3_code 3 = .ok (.aload_n 1, 1) := by decide +kernel
theorem d2_4 : decode jdk_42_method_3_code 4 = .ok (.arraylength, 1) := by decide +kernel
theorem d2_5 : decode jdk_42_method_3_code 5 = .ok (.aconst_null, 1) := by decide +kernel
theorem d2_6 : decode jdk_42_method_3_code 6 = .ok (.invokespecial 27, 3) := by decide +kernel
theorem d2_9 : decode jdk_42_method_3_code 9 = .ok (.return_, 1) := by decide +kernel
theorem ef_E1 (m : MethodId) (u0 : Addr) (u1 : Addr) : entryFrame m #[(.ref u0), (.ref u1)] 2 = mkF m 0 #[.val (.ref u0), .val (.ref u1)] [] := by first | (simp [entryFrame, mkF, argsToLocals, Value.category]; done) | rfl
def QE1 (Z : State) (u0 : Addr) (u1 : Addr) (k_u1 : ClassId) (h0 : Heap) (n0 : Nat) (v : Option Value) (h : Heap) (L : List Loc) : Prop := ∃ (sd : Addr) (kc : ClassId), v = none ∧ Fr n0 L ∧ Keep h0 h [u0] ∧ Exa Z h u0 "java/lang/String" ∧ Fld Z h u0 "java/lang/String" "coder" "B" (.int 0) ∧ Fld Z h u0 "java/lang/String" "value" "[B" (.ref sd) ∧ Arv Z h sd kc .byte (0 : Int32) [] (.int 0)
set_option maxRecDepth 65536 in
set_option maxHeartbeats 40000000 in
theorem rmE1 (l : Launch) (Z : State) (a0 : Array Value) (hw : ∀ d ∈ tables_1, d.before a0 Z = true) (ws : List Jvm.Cond) (u0 : Addr) (u1 : Addr) (k_u1 : ClassId) (h0 : Heap) (n0 : Nat) (Z0 : n0 ≤ h0.size) (g_u0 : n0 ≤ u0) (E_u0 : Exa Z h0 u0 "java/lang/String") (F_value_u0 : Fld Z h0 u0 "java/lang/String" "value" "[B" .null) (F_coder_u0 : Fld Z h0 u0 "java/lang/String" "coder" "B" (.int (0 : Int32))) (V_u1 : Arv Z h0 u1 k_u1 .char (0 : Int32) [] (.int (0 : Int32))) :
    MetFree l (⟨"java/lang/String", "<init>", "([C)V"⟩ : MethodName) (head1 (Jvm.Cond.code (⟨"java/lang/String", "<init>", "([C)V"⟩ : MethodName) jdk_42_method_3_code 2 none :: ws) ({ frames := 2, cells := 4, slots := 8, locals := 29 } : Room)) (fun a U => a = #[(.ref u0), (.ref u1)] ∧ Z.Warmed39 U.vm ∧ U.heap = h0 ∧ CHv Z EL U.vm h0) (fun _ _ _ _ _ => True) (fun _ U o U' => ∃ v L, o = .returned v ∧ QE1 Z u0 u1 k_u1 h0 n0 v U'.heap L ∧ CHr Z EL U.vm U.heap U'.vm U'.heap ∧ ReturnedEndW U o U' L ({ frames := 2, cells := 4, slots := 8, locals := 29 } : Room).cells ({ frames := 2, cells := 4, slots := 8, locals := 29 } : Room).slots) := by
  refine MetFree.of_bodySF (plainFor_of_name pn_java_lang_String) hisR ?_
  intro p e s m args below meth c s₁ Bd hml0 hP hK
  obtain ⟨rfl, hZ, hh, hC0⟩ := hP
  replace hZ : Z.Warmed39 (s.setVm s.vm).vm := hZ
  have hx := Bd.exec
  have hby := Bd.bytes
  have hml : c.maxLocals = 2 := hml0
  have hown : (s.setVm s.vm).vm.findClass "java/lang/String" = some m.cls := findClass_of_methodNamed Bd.named
  have hnm := (name_of_methodNamed Bd.named Bd.method).1
  have X0 : Stand p l e ({ frames := 2, cells := 4, slots := 8, locals := 29 } : Room) (s.setVm s.vm) m #[(.ref u0), (.ref u1)] below meth c s₁ [] 0 0 := Stand.of_body Bd
  have e0 : s₁.heap = h0 := by rw [← hh, Bd.state]; rfl
  have N0 := Fr.nil n0
  have pre0 : ∀ t, Steps p.tables e below (s₁.setTop (mkF m 0 #[.val (.ref u0), .val (.ref u1)] [])) t → Steps p.tables e below (s₁.setTop (entryFrame m #[(.ref u0), (.ref u1)] 2)) t := fun t k => castTop (ef_E1 m u0 u1) k
  have hS0 : s.Since s.vm s.heap.size := own_since s
  have hk0 : s.heap.size ≤ h0.size := Nat.le_of_eq (congrArg Array.size hh)
  have C0 : CHr Z EL s.vm h0 s.vm h0 := CHr.refl hC0
  have wS : ∀ d ∈ Bundle.stringAtoms, d.before a0 Z = true := fun d hd => hw d ((by decide +kernel : ∀ d ∈ Bundle.stringAtoms, d ∈ tables_1) d hd)
  obtain ⟨cl1, Ar1, qa1, Sa1, Na1, Ha1, Ga1⟩ := id V_u1
  have st1 := X0.arraylength hx (by rw [e0]; exact Ar1.1) (State.isArrayOf_alike hZ.alike Ar1.2.1) (g := (mkF m 4 #[.val (.ref u0), .val (.ref u1)] [(.ref u1), (.int (0 : Int32)), (.ref u1), (.ref u0)])) rfl rfl (hb hby d2_4)
  rw [len_of Sa1 Na1] at st1
  obtain ⟨_, _, ⟨T2, L2, k2, n2⟩, -, X2, hS2, gr2, ⟨Lc2, hQ2, l2, y2, z2, Cq2⟩, st2⟩ := X0.specialBackS hx (y := (⟨"java/lang/String", "<init>", "([CIILjava/lang/Void;)V"⟩ : MethodName)) rfl hown (mvT hZ (hw _ (List.mem_of_getElem? (i := 11) rfl))) (mvT hZ (hw _ (List.mem_of_getElem? (i := 12) rfl))) (mvT hZ (hw _ (List.mem_of_getElem? (i := 14) rfl))) (by decide) (backOfSH (W := 0) (rmE2 l Z a0 hw [] u0 u1 h0 n0 Z0 g_u0 E_u0 F_value_u0 F_coder_u0) hZ (hw _ (List.mem_of_getElem? (i := 14) rfl)) (hw _ (List.mem_of_getElem? (i := 6) rfl)) (by decide) (by decide) (hEL hw) C0.1) (g := (mkF m 6 #[.val (.ref u0), .val (.ref u1)] [.null, (.int (0 : Int32)), (.int (0 : Int32)), (.ref u1), (.ref u0)])) rfl (by rw [hml]; rfl) (Steps.refl _) (a := u0) (argsL := [(.ref u1), (.int (0 : Int32)), (.int (0 : Int32)), .null]) (rest := []) (lenOf pd_9 rfl) rfl (by show 2 * 0 + _ ≤ _; exact Nat.le_of_eq rfl) (hb hby d2_6) (fun _ _ => ⟨rfl, e0, (by decide : 0 + 4 ≤ _), (by decide : 0 + 8 ≤ _)⟩)
  dsimp only [Pt.U, Pt.locs, Pt.cells, Pt.slots] at X2 l2 y2 z2 st2 hQ2 hS2 gr2 Cq2
  subst l2 y2 z2
  obtain ⟨X2, hS2, hZ, hown⟩ := rebS hS0 (Nat.le_trans hk0 (Nat.le_of_eq (congrArg Array.size e0).symm)) X2 hS2 gr2 hZ hown
  have hk2 := Nat.le_refl T2.heap.size
  obtain ⟨d2, kc2, rfl, N2q, K2, A2, F2_coder, F2_value, V2⟩ := hQ2
  have N2 := Fr.app N0 N2q
  have Z2 : n0 ≤ T2.heap.size := Nat.le_trans Z0 K2.1
  have KK2 := (Keep.refl h0 [u0]).trans K2 (allS (P := fun x => x ∈ [u0] ∨ h0.size ≤ x) (Or.inl (List.mem_of_getElem? (i := 0) rfl)) all0)
  have C2 := C0.trans Cq2
  obtain ⟨fs, hr, hrun, hended, hE⟩ := X2.leaveW hS2 (Nat.le_trans hk2 (Nat.le_of_eq (congrArg Array.size rfl).symm)) (v := none) (fun _ => rfl)
  refine ⟨_, _, pre0 _ ?_, hrun, hended, _, _, rfl, ?_, ?_, own_monoW hE (by decide) (by decide)⟩
  · show Steps p.tables e below (s₁.setTop (mkF m 0 #[.val (.ref u0), .val (.ref u1)] [])) _
    refine XS.aloadN X0.here hx rfl (hb hby d2_0) rfl rfl ?_
    show Steps p.tables e below (s₁.setTop (mkF m 1 #[.val (.ref u0), .val (.ref u1)] [(.ref u0)])) _
    refine XS.aloadN X0.here hx rfl (hb hby d2_1) rfl rfl ?_
    show Steps p.tables e below (s₁.setTop (mkF m 2 #[.val (.ref u0), .val (.ref u1)] [(.ref u1), (.ref u0)])) _
    refine XS.iconst X0.here hx rfl (hb hby d2_2) ?_
    show Steps p.tables e below (s₁.setTop (mkF m 3 #[.val (.ref u0), .val (.ref u1)] [(.int (0 : Int32)), (.ref u1), (.ref u0)])) _
    refine XS.aloadN X0.here hx rfl (hb hby d2_3) rfl rfl ?_
    show Steps p.tables e below (s₁.setTop (mkF m 4 #[.val (.ref u0), .val (.ref u1)] [(.ref u1), (.int (0 : Int32)), (.ref u1), (.ref u0)])) _
    refine st1 _ ?_
    show Steps p.tables e below (s₁.setTop (mkF m 5 #[.val (.ref u0), .val (.ref u1)] [(.int (0 : Int32)), (.int (0 : Int32)), (.ref u1), (.ref u0)])) _
    refine XS.aconstNull X0.here hx rfl (hb hby d2_5) ?_
    show Steps p.tables e below (s₁.setTop (mkF m 6 #[.val (.ref u0), .val (.ref u1)] [.null, (.int (0 : Int32)), (.int (0 : Int32)), (.ref u1), (.ref u0)])) _
    refine st2.trans ?_
    show Steps p.tables e below (T2.setTop (mkF m 9 #[.val (.ref u0), .val (.ref u1)] [])) _
    exact X2.returnOut hx Bd.returns (hb hby d2_9) hr
  · show QE1 Z u0 u1 k_u1 h0 n0 _ T2.heap _
    exact ⟨d2, _, rfl, N2, KK2, A2, F2_coder, F2_value, V2⟩
  · show CHr Z EL s.vm s.heap T2.vm T2.heap
    rw [hh]
    exact C2.trans (CHv.at X2 hZ (hEL hw) C2.1)
theorem pd_7 : parseMethodDescriptor "([C)V" = some ⟨[(.array .char)], none⟩ := by decide +kernel
theorem d1_0 : decode method_2_code 0 = .ok (.iload_n 0, 1) := by decide +kernel
theorem d1_1 : decode method_2_code 1 = .ok (.ifCond .ne 14, 3) := by decide +kernel
theorem d1_4 : decode method_2_code 4 = .ok (.new 7, 3) := by decide +kernel
theorem d1_7 : decode method_2_code 7 = .ok (.dup, 1) := by decide +kernel
theorem d1_8 : decode method_2_code 8 = .ok (.iconst 0, 1) := by decide +kernel
theorem d1_9 : decode method_2_code 9 = .ok (.newarray .char, 2) := by decide +kernel
theorem d1_11 : decode method_2_code 11 = .ok (.invokespecial 9, 3) := by decide +kernel
theorem d1_14 : decode method_2_code 14 = .ok (.areturn, 1) := by decide +kernel
theorem d1_15 : decode method_2_code 15 = .ok (.iload_n 0, 1) := by decide +kernel
theorem d1_16 : decode method_2_code 16 = .ok (.iconst 1, 1) := by decide +kernel
theorem d1_17 : decode method_2_code 17 = .ok (.if_icmp .ne 18, 3) := by decide +kernel
theorem d1_20 : decode method_2_code 20 = .ok (.new 7, 3) := by decide +kernel
theorem d1_23 : decode method_2_code 23 = .ok (.dup, 1) := by decide +kernel
theorem d1_24 : decode method_2_code 24 = .ok (.iconst 1, 1) := by decide +kernel
theorem d1_25 : decode method_2_code 25 = .ok (.newarray .char, 2) := by decide +kernel
theorem d1_27 : decode method_2_code 27 = .ok (.dup, 1) := by decide +kernel
theorem d1_28 : decode method_2_code 28 = .ok (.iconst 0, 1) := by decide +kernel
theorem d1_29 : decode method_2_code 29 = .ok (.iload_n 1, 1) := by decide +kernel
theorem d1_30 : decode method_2_code 30 = .ok (.castore, 1) := by decide +kernel
theorem d1_31 : decode method_2_code 31 = .ok (.invokespecial 9, 3) := by decide +kernel
theorem d1_34 : decode method_2_code 34 = .ok (.areturn, 1) := by decide +kernel
theorem d1_35 : decode method_2_code 35 = .ok (.new 7, 3) := by decide +kernel
theorem d1_38 : decode method_2_code 38 = .ok (.dup, 1) := by decide +kernel
theorem d1_39 : decode method_2_code 39 = .ok (.iconst 2, 1) := by decide +kernel
theorem d1_40 : decode method_2_code 40 = .ok (.newarray .char, 2) := by decide +kernel
theorem d1_42 : decode method_2_code 42 = .ok (.dup, 1) := by decide +kernel
theorem d1_43 : decode method_2_code 43 = .ok (.iconst 0, 1) := by decide +kernel
theorem d1_44 : decode method_2_code 44 = .ok (.iload_n 1, 1) := by decide +kernel
theorem d1_45 : decode method_2_code 45 = .ok (.castore, 1) := by decide +kernel
theorem d1_46 : decode method_2_code 46 = .ok (.dup, 1) := by decide +kernel
theorem d1_47 : decode method_2_code 47 = .ok (.iconst 1, 1) := by decide +kernel
theorem d1_48 : decode method_2_code 48 = .ok (.iload_n 2, 1) := by decide +kernel
theorem d1_49 : decode method_2_code 49 = .ok (.castore, 1) := by decide +kernel
theorem d1_50 : decode method_2_code 50 = .ok (.invokespecial 9, 3) := by decide +kernel
theorem d1_53 : decode method_2_code 53 = .ok (.areturn, 1) := by decide +kernel
theorem pn_com_example_triplewright_triplewright_rdf_IriEqualsPinLaw : plainName "com/example/triplewright/triplewright/rdf/IriEqualsPinLaw" = true := by first | (simp [plainName, overriddenIn]; done) | decide +kernel
theorem ef_1 (m : MethodId) (u0 : Int32) (u1 : Int32) (u2 : Int32) : entryFrame m #[(.int u0), (.int u1), (.int u2)] 3 = mkF m 0 #[.val (.int u0), .val (.int u1), .val (.int u2)] [] := by first | (simp [entryFrame, mkF, argsToLocals, Value.category]; done) | rfl
def Q1 (Z : State) (u0 : Int32) (u1 : Int32) (u2 : Int32) (G_COMPACT : Int32) (h0 : Heap) (n0 : Nat) (v : Option Value) (h : Heap) (L : List Loc) : Prop := ∃ (sa sd : Addr) (kc : ClassId), v = some (.ref sa) ∧ Fr n0 L ∧ Keep h0 h [] ∧ Exa Z h sa "java/lang/String" ∧ Fld Z h sa "java/lang/String" "coder" "B" (.int 0) ∧ Fld Z h sa "java/lang/String" "value" "[B" (.ref sd) ∧ Arv Z h sd kc .byte (Int32.ofNat (csOf u0 u1 u2).length) (((csOf u0 u1 u2).map (fun c => c.toInt8.toInt32)).map Value.int) (.int 0)
set_option maxRecDepth 65536 in
set_option maxHeartbeats 40000000 in
theorem rm1 (l : Launch) (Z : State) (a0 : Array Value) (hw : ∀ d ∈ tables_1, d.before a0 Z = true) (ws : List Jvm.Cond) (u0 : Int32) (u1 : Int32) (u2 : Int32) (G_COMPACT : Int32) (h0 : Heap) (n0 : Nat) (Z0 : n0 ≤ h0.size) (O0 : Old Z n0 h0) (S_COMPACT : Sta Z Z.heap "java/lang/String" "COMPACT_STRINGS" "Z" (.int G_COMPACT)) (P_COMPACT : ¬ G_COMPACT = 0) (hC1 : isC u1) (hC2 : isC u2) :
    MetFree l (⟨"com/example/triplewright/triplewright/rdf/IriEqualsPinLaw", "make", "(ICC)Ljava/lang/String;"⟩ : MethodName) (head1 (Jvm.Cond.code (⟨"com/example/triplewright/triplewright/rdf/IriEqualsPinLaw", "make", "(ICC)Ljava/lang/String;"⟩ : MethodName) method_2_code 3 (some (.object "java/lang/String")) :: ws) ({ frames := 4, cells := 6, slots := 12, locals := 66 } : Room)) (fun a U => a = #[(.int u0), (.int u1), (.int u2)] ∧ Z.Warmed39 U.vm ∧ U.heap = h0 ∧ CHv Z EL U.vm h0) (fun _ _ _ _ _ => True) (fun _ U o U' => ∃ v L, o = .returned v ∧ Q1 Z u0 u1 u2 G_COMPACT h0 n0 v U'.heap L ∧ CHr Z EL U.vm U.heap U'.vm U'.heap ∧ ReturnedEndW U o U' L ({ frames := 4, cells := 6, slots := 12, locals := 66 } : Room).cells ({ frames := 4, cells := 6, slots := 12, locals := 66 } : Room).slots) := by
  refine MetFree.of_bodySF (plainFor_of_name pn_com_example_triplewright_triplewright_rdf_IriEqualsPinLaw) hisR ?_
  intro p e s m args below meth c s₁ Bd hml0 hP hK
  obtain ⟨rfl, hZ, hh, hC0⟩ := hP
  replace hZ : Z.Warmed39 (s.setVm s.vm).vm := hZ
  have hx := Bd.exec
  have hby := Bd.bytes
  have hml : c.maxLocals = 3 := hml0
  have hown : (s.setVm s.vm).vm.findClass "com/example/triplewright/triplewright/rdf/IriEqualsPinLaw" = some m.cls := findClass_of_methodNamed Bd.named
  have hnm := (name_of_methodNamed Bd.named Bd.method).1
  have X0 : Stand p l e ({ frames := 4, cells := 6, slots := 12, locals := 66 } : Room) (s.setVm s.vm) m #[(.int u0), (.int u1), (.int u2)] below meth c s₁ [] 0 0 := Stand.of_body Bd
  have e0 : s₁.heap = h0 := by rw [← hh, Bd.state]; rfl
  have N0 := Fr.nil n0
  have pre0 : ∀ t, Steps p.tables e below (s₁.setTop (mkF m 0 #[.val (.int u0), .val (.int u1), .val (.int u2)] [])) t → Steps p.tables e below (s₁.setTop (entryFrame m #[(.int u0), (.int u1), (.int u2)] 3)) t := fun t k => castTop (ef_1 m u0 u1 u2) k
  have hS0 : s.Since s.vm s.heap.size := own_since s
  have hk0 : s.heap.size ≤ h0.size := Nat.le_of_eq (congrArg Array.size hh)
  have C0 : CHr Z EL s.vm h0 s.vm h0 := CHr.refl hC0
  have wS : ∀ d ∈ Bundle.stringAtoms, d.before a0 Z = true := fun d hd => hw d ((by decide +kernel : ∀ d ∈ Bundle.stringAtoms, d ∈ tables_1) d hd)
  by_cases hc1 : u0 = (0 : Int32)
  · obtain ⟨T1, h1, X1, e1, E1, A1, D1, -, st1⟩ := newO X0 hx hZ hown (hw _ (List.mem_of_getElem? (i := 4) rfl)) (hw _ (List.mem_of_getElem? (i := 5) rfl)) (hw _ (List.mem_of_getElem? (i := 6) rfl)) e0 (g := (mkF m 4 #[.val (.int u0), .val (.int u1), .val (.int u2)] [])) rfl (hb hby d1_4) (by decide) (by decide)
    obtain ⟨b1, g1⟩ : ∃ z, z = h0.size := ⟨_, rfl⟩
    rw [← g1] at A1 D1 st1
    have g_b1 : n0 ≤ b1 := Nat.le_trans Z0 (Nat.le_of_eq g1.symm)
    have sz_b1 : h0.size ≤ b1 := Nat.le_trans (Keep.refl h0 []).1 (Nat.le_of_eq g1.symm)
    have Z1 : n0 ≤ h1.size := Nat.le_trans Z0 E1.1
    have KK1 := (Keep.refl h0 []).ext E1
    have O1 := O0.ext E1
    have C1 := C0.trans (CHr.ext E1 C0.1)
    have hk1 := Nat.le_trans hk0 E1.1
    have F1_value : Fld Z h1 b1 "java/lang/String" "value" "[B" .null := D1 (Or.inr (hw _ (List.mem_of_getElem? (i := 20) rfl))) (ty := (.array .byte)) (by decide)
    have F1_coder : Fld Z h1 b1 "java/lang/String" "coder" "B" (.int (0 : Int32)) := D1 (Or.inr (hw _ (List.mem_of_getElem? (i := 21) rfl))) (ty := .byte) (by decide)
    obtain ⟨T2, h2, k2, X2, e2, E2, A2, st2⟩ := newP X1 hx hZ (hw _ (List.mem_of_getElem? (i := 7) rfl)) e1 (g := (mkF m 9 #[.val (.int u0), .val (.int u1), .val (.int u2)] [(.int (0 : Int32)), (.ref b1), (.ref b1)])) rfl (hb hby d1_9) rfl (by decide) (cap := 0) (by decide) (by decide) (by decide) (by decide)
    obtain ⟨b2, g2⟩ : ∃ z, z = h1.size := ⟨_, rfl⟩
    rw [← g2] at A2 st2
    have g_b2 : n0 ≤ b2 := Nat.le_trans Z1 (Nat.le_of_eq g2.symm)
    have sz_b2 : h0.size ≤ b2 := Nat.le_trans KK1.1 (Nat.le_of_eq g2.symm)
    have V2 : Arv Z h2 b2 k2 .char (0 : Int32) [] (.int (0 : Int32)) := (Arv.new A2 (by decide))
    have Z2 : n0 ≤ h2.size := Nat.le_trans Z1 E2.1
    have KK2 := KK1.ext E2
    have O2 := O1.ext E2
    have C2 := C1.trans (CHr.ext E2 C1.1)
    have hk2 := Nat.le_trans hk1 E2.1
    obtain ⟨_, _, ⟨T3, L3, k3, n3⟩, -, X3, hS3, gr3, ⟨Lc3, hQ3, l3, y3, z3, Cq3⟩, st3⟩ := X2.specialBackS hx (y := (⟨"java/lang/String", "<init>", "([C)V"⟩ : MethodName)) rfl hown (mvT hZ (hw _ (List.mem_of_getElem? (i := 8) rfl))) (mvT hZ (hw _ (List.mem_of_getElem? (i := 9) rfl))) (mvT hZ (hw _ (List.mem_of_getElem? (i := 10) rfl))) (by decide) (backOfSH (W := 1) (rmE1 l Z a0 hw [] b1 b2 k2 h2 n0 Z2 g_b1 (A1.ext E2) (F1_value.ext E2) (F1_coder.ext E2) V2) hZ (hw _ (List.mem_of_getElem? (i := 10) rfl)) (hw _ (List.mem_of_getElem? (i := 6) rfl)) (by decide) (by decide) (hEL hw) C2.1) (g := (mkF m 11 #[.val (.int u0), .val (.int u1), .val (.int u2)] [(.ref b2), (.ref b1), (.ref b1)])) rfl (by rw [hml]; rfl) (Steps.refl _) (a := b1) (argsL := [(.ref b2)]) (rest := [(.ref b1)]) (lenOf pd_7 rfl) rfl (by show 2 * 0 + _ ≤ _; exact Nat.le_of_eq rfl) (hb hby d1_11) (fun _ _ => ⟨rfl, e2, (by decide : 2 + 4 ≤ _), (by decide : 4 + 8 ≤ _)⟩)
    dsimp only [Pt.U, Pt.locs, Pt.cells, Pt.slots] at X3 l3 y3 z3 st3 hQ3 hS3 gr3 Cq3
    subst l3 y3 z3
    obtain ⟨X3, hS3, hZ, hown⟩ := rebS hS0 (Nat.le_trans hk2 (Nat.le_of_eq (congrArg Array.size e2).symm)) X3 hS3 gr3 hZ hown
    have hk3 := Nat.le_refl T3.heap.size
    obtain ⟨d3, kc3, rfl, N3q, K3, A3, F3_coder, F3_value, V3⟩ := hQ3
    have N3 := Fr.app N0 N3q
    have Z3 : n0 ≤ T3.heap.size := Nat.le_trans Z2 K3.1
    have KK3 := KK2.trans K3 (allS (P := fun x => x ∈ [] ∨ h0.size ≤ x) (Or.inr sz_b1) all0)
    have O3 := O2.keep K3 (allS g_b1 all0)
    have C3 := C2.trans Cq3
    have hcs : csOf u0 u1 u2 = [] := by simp [csOf, hc1]
    obtain ⟨fs, hr, hrun, hended, hE⟩ := X3.leaveW hS3 (Nat.le_trans hk3 (Nat.le_of_eq (congrArg Array.size rfl).symm)) (v := some (.ref b1)) (fun h => by rw [Bd.returns] at h; cases h)
    refine ⟨_, _, pre0 _ ?_, hrun, hended, _, _, rfl, ?_, ?_, own_monoW hE (by decide) (by decide)⟩
    · show Steps p.tables e below (s₁.setTop (mkF m 0 #[.val (.int u0), .val (.int u1), .val (.int u2)] [])) _
      refine XS.iloadN X0.here hx rfl (hb hby d1_0) rfl ?_
      show Steps p.tables e below (s₁.setTop (mkF m 1 #[.val (.int u0), .val (.int u1), .val (.int u2)] [(.int u0)])) _
      refine XS.ifNo X0.here hx rfl (hb hby d1_1) rfl ((if0 _ _).trans (teq hc1).2) ?_
      show Steps p.tables e below (s₁.setTop (mkF m 4 #[.val (.int u0), .val (.int u1), .val (.int u2)] [])) _
      refine st1 _ ?_
      show Steps p.tables e below (T1.setTop (mkF m 7 #[.val (.int u0), .val (.int u1), .val (.int u2)] [(.ref b1)])) _
      refine XS.dup X1.here hx rfl (hb hby d1_7) rfl rfl ?_
      show Steps p.tables e below (T1.setTop (mkF m 8 #[.val (.int u0), .val (.int u1), .val (.int u2)] [(.ref b1), (.ref b1)])) _
      refine XS.iconst X1.here hx rfl (hb hby d1_8) ?_
      show Steps p.tables e below (T1.setTop (mkF m 9 #[.val (.int u0), .val (.int u1), .val (.int u2)] [(.int (0 : Int32)), (.ref b1), (.ref b1)])) _
      refine st2 _ ?_
      show Steps p.tables e below (T2.setTop (mkF m 11 #[.val (.int u0), .val (.int u1), .val (.int u2)] [(.ref b2), (.ref b1), (.ref b1)])) _
      refine st3.trans ?_
      show Steps p.tables e below (T3.setTop (mkF m 14 #[.val (.int u0), .val (.int u1), .val (.int u2)] [(.ref b1)])) _
      jvm_step X3.here [X3.here.top, hx, (hb hby d1_14), X3.method', Bd.returns, Value.isRef, FieldType.isReference]
      first | (intro acts; rw [hr _ acts rfl rfl rfl]) | rw [hr _ _ rfl rfl rfl]
      exact Steps.refl _
    · show Q1 Z u0 u1 u2 G_COMPACT h0 n0 _ T3.heap _
      exact ⟨b1, d3, _, rfl, N3, KK3, A3, F3_coder, F3_value, (by rw [hcs]; exact V3)⟩
    · show CHr Z EL s.vm s.heap T3.vm T3.heap
      rw [hh]
      exact C3.trans (CHv.at X3 hZ (hEL hw) C3.1)
  · by_cases hc17 : u0 = (1 : Int32)
    · obtain ⟨T4, h4, X4, e4, E4, A4, D4, -, st4⟩ := newO X0 hx hZ hown (hw _ (List.mem_of_getElem? (i := 4) rfl)) (hw _ (List.mem_of_getElem? (i := 5) rfl)) (hw _ (List.mem_of_getElem? (i := 6) rfl)) e0 (g := (mkF m 20 #[.val (.int u0), .val (.int u1), .val (.int u2)] [])) rfl (hb hby d1_20) (by decide) (by decide)
      obtain ⟨b4, g4⟩ : ∃ z, z = h0.size := ⟨_, rfl⟩
      rw [← g4] at A4 D4 st4
      have g_b4 : n0 ≤ b4 := Nat.le_trans Z0 (Nat.le_of_eq g4.symm)
      have sz_b4 : h0.size ≤ b4 := Nat.le_trans (Keep.refl h0 []).1 (Nat.le_of_eq g4.symm)
      have Z4 : n0 ≤ h4.size := Nat.le_trans Z0 E4.1
      have KK4 := (Keep.refl h0 []).ext E4
      have O4 := O0.ext E4
      have C4 := C0.trans (CHr.ext E4 C0.1)
      have hk4 := Nat.le_trans hk0 E4.1
      have F4_value : Fld Z h4 b4 "java/lang/String" "value" "[B" .null := D4 (Or.inr (hw _ (List.mem_of_getElem? (i := 20) rfl))) (ty := (.array .byte)) (by decide)
      have F4_coder : Fld Z h4 b4 "java/lang/String" "coder" "B" (.int (0 : Int32)) := D4 (Or.inr (hw _ (List.mem_of_getElem? (i := 21) rfl))) (ty := .byte) (by decide)
      obtain ⟨T5, h5, k5, X5, e5, E5, A5, st5⟩ := newP X4 hx hZ (hw _ (List.mem_of_getElem? (i := 7) rfl)) e4 (g := (mkF m 25 #[.val (.int u0), .val (.int u1), .val (.int u2)] [(.int (1 : Int32)), (.ref b4), (.ref b4)])) rfl (hb hby d1_25) rfl (by decide) (cap := 1) (by decide) (by decide) (by decide) (by decide)
      obtain ⟨b5, g5⟩ : ∃ z, z = h4.size := ⟨_, rfl⟩
      rw [← g5] at A5 st5
      have g_b5 : n0 ≤ b5 := Nat.le_trans Z4 (Nat.le_of_eq g5.symm)
      have sz_b5 : h0.size ≤ b5 := Nat.le_trans KK4.1 (Nat.le_of_eq g5.symm)
      have V5 : Arv Z h5 b5 k5 .char (1 : Int32) [(.int (0 : Int32))] (.int (0 : Int32)) := (Arv.new A5 (by decide)).pad (pad_rep [] (.int (0 : Int32)) 1)
      have Z5 : n0 ≤ h5.size := Nat.le_trans Z4 E5.1
      have KK5 := KK4.ext E5
      have O5 := O4.ext E5
      have C5 := C4.trans (CHr.ext E5 C4.1)
      have hk5 := Nat.le_trans hk4 E5.1
      obtain ⟨cl6, Ar6, qa6, Sa6, Na6, Ha6, Ga6⟩ := id V5
      obtain ⟨T7, h7, X7, e7, W7, st7⟩ := stC X5 hx hZ e5 Ar6 (j := (0 : Int32)) (inb_of Sa6 ⟨by decide, by decide⟩) (g := (mkF m 30 #[.val (.int u0), .val (.int u1), .val (.int u2)] [(.int u1), (.int (0 : Int32)), (.ref b5), (.ref b5), (.ref b4), (.ref b4)])) rfl rfl (hb hby d1_30)
      have V7 : Arv Z h7 b5 k5 .char (1 : Int32) [(.int (nar .char u1))] (.int (0 : Int32)) := Arv.set Ar6 qa6 Sa6 Na6 Ha6 Ga6 (fits_nar_char _) W7 0 rfl (Nat.le_of_ble_eq_true rfl)
      have N7 := Fr.snoc X7 N0 g_b5
      have Z7 : n0 ≤ h7.size := Nat.le_trans Z5 (Keep.of_wr W7).1
      have KK7 := KK5.wr W7 (Or.inr sz_b5)
      have O7 := O5.wr W7 g_b5
      have C7 := C5.trans (CHr.wr W7 (Safe.arv hZ.alike V5 (by decide)) C5.1)
      have hk7 := Nat.le_trans hk5 (Keep.of_wr W7).1
      obtain ⟨vv8, _, ⟨T8, L8, k8, n8⟩, -, X8, ⟨Lc8, hQ8, l8, y8, z8⟩, st8⟩ := X7.specialBack hx (y := (⟨"java/lang/String", "<init>", "([C)V"⟩ : MethodName)) rfl hown (mvT hZ (hw _ (List.mem_of_getElem? (i := 8) rfl))) (mvT hZ (hw _ (List.mem_of_getElem? (i := 9) rfl))) (mvT hZ (hw _ (List.mem_of_getElem? (i := 10) rfl))) (by decide) (StrChars.Road.backV (W := 1) hZ (fun d hd => hw d ((by decide +kernel : ∀ d ∈ StrChars.Road.words, d ∈ tables_1) d hd)) (kI := 4) (hw _ (List.mem_of_getElem? (i := 5) rfl)) (cs := ([(nar .char u1)] : List Int32)) (bs := (([(nar .char u1)] : List Int32)).map (fun c => c.toInt8.toInt32)) (n := 1) g_b4 Z7 ((A4.ext E5).wr W7) ((F4_value.ext E5).other W7 (Or.inl (Nat.ne_of_lt (Nat.lt_of_lt_of_le A4.lt (Nat.le_of_eq g5.symm))))) ((F4_coder.ext E5).other W7 (Or.inl (Nat.ne_of_lt (Nat.lt_of_lt_of_le A4.lt (Nat.le_of_eq g5.symm))))) V7 (S_COMPACT.ext O7.2) P_COMPACT rfl rfl (by decide) (by decide) (own_csS (P := fun c => ¬ c < 0 ∧ ¬ (255 : Int32) < c) hC1.2 own_cs0) rfl (by decide) (by decide)) (g := (mkF m 31 #[.val (.int u0), .val (.int u1), .val (.int u2)] [(.ref b5), (.ref b4), (.ref b4)])) rfl (by rw [hml]; rfl) (Steps.refl _) (a := b4) (argsL := [(.ref b5)]) (rest := [(.ref b4)]) (lenOf pd_7 rfl) rfl (by show 2 * 0 + _ ≤ _; exact Nat.le_of_eq rfl) (hb hby d1_31) (fun _ _ => ⟨rfl, e7, (by decide : 2 + 1 ≤ _), (by decide : 5 + 1 ≤ _)⟩)
      dsimp only [Pt.U, Pt.locs, Pt.cells, Pt.slots] at X8 l8 y8 z8 st8 hQ8
      subst l8 y8 z8
      obtain ⟨rfl, N8q, K8, A8, F8_coder, t8, kb8, g_t8, ge8, ne8, F8_value, V8⟩ := hQ8
      have N8 := Fr.app N7 N8q
      have sz_t8 : h0.size ≤ t8 := Nat.le_trans KK7.1 ge8
      have Z8 : n0 ≤ T8.heap.size := Nat.le_trans Z7 K8.1
      have KK8 := KK7.trans K8 (allS (P := fun x => x ∈ [] ∨ h0.size ≤ x) (Or.inr sz_b4) all0)
      have O8 := O7.keep K8 (allS g_b4 all0)
      have C8 := C7.trans (CHr.keep K8 (sfS (Safe.fresh hZ.alike ((A4.ext E5).wr W7) ((F4_value.ext E5).other W7 (Or.inl (Nat.ne_of_lt (Nat.lt_of_lt_of_le A4.lt (Nat.le_of_eq g5.symm)))))) sf0) C7.1)
      have hk8 := Nat.le_trans hk7 K8.1
      have hcs : csOf u0 u1 u2 = [(nar .char u1)] := by simp [csOf, hc1, hc17]
      obtain ⟨fs, hr, hrun, hended, hE⟩ := X8.leaveW hS0 (Nat.le_trans hk8 (Nat.le_of_eq (congrArg Array.size rfl).symm)) (v := some (.ref b4)) (fun h => by rw [Bd.returns] at h; cases h)
      refine ⟨_, _, pre0 _ ?_, hrun, hended, _, _, rfl, ?_, ?_, own_monoW hE (by decide) (by decide)⟩
      · show Steps p.tables e below (s₁.setTop (mkF m 0 #[.val (.int u0), .val (.int u1), .val (.int u2)] [])) _
        refine XS.iloadN X0.here hx rfl (hb hby d1_0) rfl ?_
        show Steps p.tables e below (s₁.setTop (mkF m 1 #[.val (.int u0), .val (.int u1), .val (.int u2)] [(.int u0)])) _
        refine XS.ifYes X0.here hx rfl (pc0 := 1) (pc' := 15) rfl (hb hby d1_1) rfl ((if0 _ _).trans (feq hc1).2) (by decide) (by decide) ?_
        show Steps p.tables e below (s₁.setTop (mkF m 15 #[.val (.int u0), .val (.int u1), .val (.int u2)] [])) _
        refine XS.iloadN X0.here hx rfl (hb hby d1_15) rfl ?_
        show Steps p.tables e below (s₁.setTop (mkF m 16 #[.val (.int u0), .val (.int u1), .val (.int u2)] [(.int u0)])) _
        refine XS.iconst X0.here hx rfl (hb hby d1_16) ?_
        show Steps p.tables e below (s₁.setTop (mkF m 17 #[.val (.int u0), .val (.int u1), .val (.int u2)] [(.int (1 : Int32)), (.int u0)])) _
        refine XS.icmpNo X0.here hx rfl (hb hby d1_17) rfl (teq hc17).2 ?_
        show Steps p.tables e below (s₁.setTop (mkF m 20 #[.val (.int u0), .val (.int u1), .val (.int u2)] [])) _
        refine st4 _ ?_
        show Steps p.tables e below (T4.setTop (mkF m 23 #[.val (.int u0), .val (.int u1), .val (.int u2)] [(.ref b4)])) _
        refine XS.dup X4.here hx rfl (hb hby d1_23) rfl rfl ?_
        show Steps p.tables e below (T4.setTop (mkF m 24 #[.val (.int u0), .val (.int u1), .val (.int u2)] [(.ref b4), (.ref b4)])) _
        refine XS.iconst X4.here hx rfl (hb hby d1_24) ?_
        show Steps p.tables e below (T4.setTop (mkF m 25 #[.val (.int u0), .val (.int u1), .val (.int u2)] [(.int (1 : Int32)), (.ref b4), (.ref b4)])) _
        refine st5 _ ?_
        show Steps p.tables e below (T5.setTop (mkF m 27 #[.val (.int u0), .val (.int u1), .val (.int u2)] [(.ref b5), (.ref b4), (.ref b4)])) _
        refine XS.dup X5.here hx rfl (hb hby d1_27) rfl rfl ?_
        show Steps p.tables e below (T5.setTop (mkF m 28 #[.val (.int u0), .val (.int u1), .val (.int u2)] [(.ref b5), (.ref b5), (.ref b4), (.ref b4)])) _
        refine XS.iconst X5.here hx rfl (hb hby d1_28) ?_
        show Steps p.tables e below (T5.setTop (mkF m 29 #[.val (.int u0), .val (.int u1), .val (.int u2)] [(.int (0 : Int32)), (.ref b5), (.ref b5), (.ref b4), (.ref b4)])) _
        refine XS.iloadN X5.here hx rfl (hb hby d1_29) rfl ?_
        show Steps p.tables e below (T5.setTop (mkF m 30 #[.val (.int u0), .val (.int u1), .val (.int u2)] [(.int u1), (.int (0 : Int32)), (.ref b5), (.ref b5), (.ref b4), (.ref b4)])) _
        refine st7 _ ?_
        show Steps p.tables e below (T7.setTop (mkF m 31 #[.val (.int u0), .val (.int u1), .val (.int u2)] [(.ref b5), (.ref b4), (.ref b4)])) _
        refine st8.trans ?_
        show Steps p.tables e below (T8.setTop (mkF m 34 #[.val (.int u0), .val (.int u1), .val (.int u2)] [(.ref b4)])) _
        jvm_step X8.here [X8.here.top, hx, (hb hby d1_34), X8.method', Bd.returns, Value.isRef, FieldType.isReference]
        first | (intro acts; rw [hr _ acts rfl rfl rfl]) | rw [hr _ _ rfl rfl rfl]
        exact Steps.refl _
      · show Q1 Z u0 u1 u2 G_COMPACT h0 n0 _ T8.heap _
        exact ⟨b4, t8, _, rfl, N8, KK8, A8, F8_coder, F8_value, (by rw [hcs]; exact V8)⟩
      · show CHr Z EL s.vm s.heap T8.vm T8.heap
        rw [hh]
        exact C8.trans (CHv.at X8 hZ (hEL hw) C8.1)
    · obtain ⟨T9, h9, X9, e9, E9, A9, D9, -, st9⟩ := newO X0 hx hZ hown (hw _ (List.mem_of_getElem? (i := 4) rfl)) (hw _ (List.mem_of_getElem? (i := 5) rfl)) (hw _ (List.mem_of_getElem? (i := 6) rfl)) e0 (g := (mkF m 35 #[.val (.int u0), .val (.int u1), .val (.int u2)] [])) rfl (hb hby d1_35) (by decide) (by decide)
      obtain ⟨b9, g9⟩ : ∃ z, z = h0.size := ⟨_, rfl⟩
      rw [← g9] at A9 D9 st9
      have g_b9 : n0 ≤ b9 := Nat.le_trans Z0 (Nat.le_of_eq g9.symm)
      have sz_b9 : h0.size ≤ b9 := Nat.le_trans (Keep.refl h0 []).1 (Nat.le_of_eq g9.symm)
      have Z9 : n0 ≤ h9.size := Nat.le_trans Z0 E9.1
      have KK9 := (Keep.refl h0 []).ext E9
      have O9 := O0.ext E9
      have C9 := C0.trans (CHr.ext E9 C0.1)
      have hk9 := Nat.le_trans hk0 E9.1
      have F9_value : Fld Z h9 b9 "java/lang/String" "value" "[B" .null := D9 (Or.inr (hw _ (List.mem_of_getElem? (i := 20) rfl))) (ty := (.array .byte)) (by decide)
      have F9_coder : Fld Z h9 b9 "java/lang/String" "coder" "B" (.int (0 : Int32)) := D9 (Or.inr (hw _ (List.mem_of_getElem? (i := 21) rfl))) (ty := .byte) (by decide)
      obtain ⟨T10, h10, k10, X10, e10, E10, A10, st10⟩ := newP X9 hx hZ (hw _ (List.mem_of_getElem? (i := 7) rfl)) e9 (g := (mkF m 40 #[.val (.int u0), .val (.int u1), .val (.int u2)] [(.int (2 : Int32)), (.ref b9), (.ref b9)])) rfl (hb hby d1_40) rfl (by decide) (cap := 2) (by decide) (by decide) (by decide) (by decide)
      obtain ⟨b10, g10⟩ : ∃ z, z = h9.size := ⟨_, rfl⟩
      rw [← g10] at A10 st10
      have g_b10 : n0 ≤ b10 := Nat.le_trans Z9 (Nat.le_of_eq g10.symm)
      have sz_b10 : h0.size ≤ b10 := Nat.le_trans KK9.1 (Nat.le_of_eq g10.symm)
      have V10 : Arv Z h10 b10 k10 .char (2 : Int32) [(.int (0 : Int32)), (.int (0 : Int32))] (.int (0 : Int32)) := (Arv.new A10 (by decide)).pad (pad_rep [] (.int (0 : Int32)) 2)
      have Z10 : n0 ≤ h10.size := Nat.le_trans Z9 E10.1
      have KK10 := KK9.ext E10
      have O10 := O9.ext E10
      have C10 := C9.trans (CHr.ext E10 C9.1)
      have hk10 := Nat.le_trans hk9 E10.1
      obtain ⟨cl11, Ar11, qa11, Sa11, Na11, Ha11, Ga11⟩ := id V10
      obtain ⟨T12, h12, X12, e12, W12, st12⟩ := stC X10 hx hZ e10 Ar11 (j := (0 : Int32)) (inb_of Sa11 ⟨by decide, by decide⟩) (g := (mkF m 45 #[.val (.int u0), .val (.int u1), .val (.int u2)] [(.int u1), (.int (0 : Int32)), (.ref b10), (.ref b10), (.ref b9), (.ref b9)])) rfl rfl (hb hby d1_45)
      have V12 : Arv Z h12 b10 k10 .char (2 : Int32) [(.int (nar .char u1)), (.int (0 : Int32))] (.int (0 : Int32)) := Arv.set Ar11 qa11 Sa11 Na11 Ha11 Ga11 (fits_nar_char _) W12 0 rfl (Nat.le_of_ble_eq_true rfl)
      have N12 := Fr.snoc X12 N0 g_b10
      have Z12 : n0 ≤ h12.size := Nat.le_trans Z10 (Keep.of_wr W12).1
      have KK12 := KK10.wr W12 (Or.inr sz_b10)
      have O12 := O10.wr W12 g_b10
      have C12 := C10.trans (CHr.wr W12 (Safe.arv hZ.alike V10 (by decide)) C10.1)
      have hk12 := Nat.le_trans hk10 (Keep.of_wr W12).1
      obtain ⟨cl13, Ar13, qa13, Sa13, Na13, Ha13, Ga13⟩ := id V12
      obtain ⟨T14, h14, X14, e14, W14, st14⟩ := stC X12 hx hZ e12 Ar13 (j := (1 : Int32)) (inb_of Sa13 ⟨by decide, by decide⟩) (g := (mkF m 49 #[.val (.int u0), .val (.int u1), .val (.int u2)] [(.int u2), (.int (1 : Int32)), (.ref b10), (.ref b10), (.ref b9), (.ref b9)])) rfl rfl (hb hby d1_49)
      have V14 : Arv Z h14 b10 k10 .char (2 : Int32) [(.int (nar .char u1)), (.int (nar .char u2))] (.int (0 : Int32)) := Arv.set Ar13 qa13 Sa13 Na13 Ha13 Ga13 (fits_nar_char _) W14 1 rfl (Nat.le_of_ble_eq_true rfl)
      have N14 := Fr.snoc X14 N12 g_b10
      have Z14 : n0 ≤ h14.size := Nat.le_trans Z12 (Keep.of_wr W14).1
      have KK14 := KK12.wr W14 (Or.inr sz_b10)
      have O14 := O12.wr W14 g_b10
      have C14 := C12.trans (CHr.wr W14 (Safe.arv hZ.alike V12 (by decide)) C12.1)
      have hk14 := Nat.le_trans hk12 (Keep.of_wr W14).1
      obtain ⟨vv15, _, ⟨T15, L15, k15, n15⟩, -, X15, ⟨Lc15, hQ15, l15, y15, z15⟩, st15⟩ := X14.specialBack hx (y := (⟨"java/lang/String", "<init>", "([C)V"⟩ : MethodName)) rfl hown (mvT hZ (hw _ (List.mem_of_getElem? (i := 8) rfl))) (mvT hZ (hw _ (List.mem_of_getElem? (i := 9) rfl))) (mvT hZ (hw _ (List.mem_of_getElem? (i := 10) rfl))) (by decide) (StrChars.Road.backV (W := 1) hZ (fun d hd => hw d ((by decide +kernel : ∀ d ∈ StrChars.Road.words, d ∈ tables_1) d hd)) (kI := 4) (hw _ (List.mem_of_getElem? (i := 5) rfl)) (cs := ([(nar .char u1), (nar .char u2)] : List Int32)) (bs := (([(nar .char u1), (nar .char u2)] : List Int32)).map (fun c => c.toInt8.toInt32)) (n := 2) g_b9 Z14 (((A9.ext E10).wr W12).wr W14) (((F9_value.ext E10).other W12 (Or.inl (Nat.ne_of_lt (Nat.lt_of_lt_of_le A9.lt (Nat.le_of_eq g10.symm))))).other W14 (Or.inl (Nat.ne_of_lt (Nat.lt_of_lt_of_le A9.lt (Nat.le_of_eq g10.symm))))) (((F9_coder.ext E10).other W12 (Or.inl (Nat.ne_of_lt (Nat.lt_of_lt_of_le A9.lt (Nat.le_of_eq g10.symm))))).other W14 (Or.inl (Nat.ne_of_lt (Nat.lt_of_lt_of_le A9.lt (Nat.le_of_eq g10.symm))))) V14 (S_COMPACT.ext O14.2) P_COMPACT rfl rfl (by decide) (by decide) (own_csS (P := fun c => ¬ c < 0 ∧ ¬ (255 : Int32) < c) hC1.2 (own_csS (P := fun c => ¬ c < 0 ∧ ¬ (255 : Int32) < c) hC2.2 own_cs0)) rfl (by decide) (by decide)) (g := (mkF m 50 #[.val (.int u0), .val (.int u1), .val (.int u2)] [(.ref b10), (.ref b9), (.ref b9)])) rfl (by rw [hml]; rfl) (Steps.refl _) (a := b9) (argsL := [(.ref b10)]) (rest := [(.ref b9)]) (lenOf pd_7 rfl) rfl (by show 2 * 0 + _ ≤ _; exact Nat.le_of_eq rfl) (hb hby d1_50) (fun _ _ => ⟨rfl, e14, (by decide : 2 + 1 ≤ _), (by decide : 6 + 2 ≤ _)⟩)
      dsimp only [Pt.U, Pt.locs, Pt.cells, Pt.slots] at X15 l15 y15 z15 st15 hQ15
      subst l15 y15 z15
      obtain ⟨rfl, N15q, K15, A15, F15_coder, t15, kb15, g_t15, ge15, ne15, F15_value, V15⟩ := hQ15
      have N15 := Fr.app N14 N15q
      have sz_t15 : h0.size ≤ t15 := Nat.le_trans KK14.1 ge15
      have Z15 : n0 ≤ T15.heap.size := Nat.le_trans Z14 K15.1
      have KK15 := KK14.trans K15 (allS (P := fun x => x ∈ [] ∨ h0.size ≤ x) (Or.inr sz_b9) all0)
      have O15 := O14.keep K15 (allS g_b9 all0)
      have C15 := C14.trans (CHr.keep K15 (sfS (Safe.fresh hZ.alike (((A9.ext E10).wr W12).wr W14) (((F9_value.ext E10).other W12 (Or.inl (Nat.ne_of_lt (Nat.lt_of_lt_of_le A9.lt (Nat.le_of_eq g10.symm))))).other W14 (Or.inl (Nat.ne_of_lt (Nat.lt_of_lt_of_le A9.lt (Nat.le_of_eq g10.symm)))))) sf0) C14.1)
      have hk15 := Nat.le_trans hk14 K15.1
      have hcs : csOf u0 u1 u2 = [(nar .char u1), (nar .char u2)] := by simp [csOf, hc1, hc17]
      obtain ⟨fs, hr, hrun, hended, hE⟩ := X15.leaveW hS0 (Nat.le_trans hk15 (Nat.le_of_eq (congrArg Array.size rfl).symm)) (v := some (.ref b9)) (fun h => by rw [Bd.returns] at h; cases h)
      refine ⟨_, _, pre0 _ ?_, hrun, hended, _, _, rfl, ?_, ?_, own_monoW hE (by decide) (by decide)⟩
      · show Steps p.tables e below (s₁.setTop (mkF m 0 #[.val (.int u0), .val (.int u1), .val (.int u2)] [])) _
        refine XS.iloadN X0.here hx rfl (hb hby d1_0) rfl ?_
        show Steps p.tables e below (s₁.setTop (mkF m 1 #[.val (.int u0), .val (.int u1), .val (.int u2)] [(.int u0)])) _
        refine XS.ifYes X0.here hx rfl (pc0 := 1) (pc' := 15) rfl (hb hby d1_1) rfl ((if0 _ _).trans (feq hc1).2) (by decide) (by decide) ?_
        show Steps p.tables e below (s₁.setTop (mkF m 15 #[.val (.int u0), .val (.int u1), .val (.int u2)] [])) _
        refine XS.iloadN X0.here hx rfl (hb hby d1_15) rfl ?_
        show Steps p.tables e below (s₁.setTop (mkF m 16 #[.val (.int u0), .val (.int u1), .val (.int u2)] [(.int u0)])) _
        refine XS.iconst X0.here hx rfl (hb hby d1_16) ?_
        show Steps p.tables e below (s₁.setTop (mkF m 17 #[.val (.int u0), .val (.int u1), .val (.int u2)] [(.int (1 : Int32)), (.int u0)])) _
        refine XS.icmpYes X0.here hx rfl (pc0 := 17) (pc' := 35) rfl (hb hby d1_17) rfl (feq hc17).2 (by decide) (by decide) ?_
        show Steps p.tables e below (s₁.setTop (mkF m 35 #[.val (.int u0), .val (.int u1), .val (.int u2)] [])) _
        refine st9 _ ?_
        show Steps p.tables e below (T9.setTop (mkF m 38 #[.val (.int u0), .val (.int u1), .val (.int u2)] [(.ref b9)])) _
        refine XS.dup X9.here hx rfl (hb hby d1_38) rfl rfl ?_
        show Steps p.tables e below (T9.setTop (mkF m 39 #[.val (.int u0), .val (.int u1), .val (.int u2)] [(.ref b9), (.ref b9)])) _
        refine XS.iconst X9.here hx rfl (hb hby d1_39) ?_
        show Steps p.tables e below (T9.setTop (mkF m 40 #[.val (.int u0), .val (.int u1), .val (.int u2)] [(.int (2 : Int32)), (.ref b9), (.ref b9)])) _
        refine st10 _ ?_
        show Steps p.tables e below (T10.setTop (mkF m 42 #[.val (.int u0), .val (.int u1), .val (.int u2)] [(.ref b10), (.ref b9), (.ref b9)])) _
        refine XS.dup X10.here hx rfl (hb hby d1_42) rfl rfl ?_
        show Steps p.tables e below (T10.setTop (mkF m 43 #[.val (.int u0), .val (.int u1), .val (.int u2)] [(.ref b10), (.ref b10), (.ref b9), (.ref b9)])) _
        refine XS.iconst X10.here hx rfl (hb hby d1_43) ?_
        show Steps p.tables e below (T10.setTop (mkF m 44 #[.val (.int u0), .val (.int u1), .val (.int u2)] [(.int (0 : Int32)), (.ref b10), (.ref b10), (.ref b9), (.ref b9)])) _
        refine XS.iloadN X10.here hx rfl (hb hby d1_44) rfl ?_
        show Steps p.tables e below (T10.setTop (mkF m 45 #[.val (.int u0), .val (.int u1), .val (.int u2)] [(.int u1), (.int (0 : Int32)), (.ref b10), (.ref b10), (.ref b9), (.ref b9)])) _
        refine st12 _ ?_
        show Steps p.tables e below (T12.setTop (mkF m 46 #[.val (.int u0), .val (.int u1), .val (.int u2)] [(.ref b10), (.ref b9), (.ref b9)])) _
        refine XS.dup X12.here hx rfl (hb hby d1_46) rfl rfl ?_
        show Steps p.tables e below (T12.setTop (mkF m 47 #[.val (.int u0), .val (.int u1), .val (.int u2)] [(.ref b10), (.ref b10), (.ref b9), (.ref b9)])) _
        refine XS.iconst X12.here hx rfl (hb hby d1_47) ?_
        show Steps p.tables e below (T12.setTop (mkF m 48 #[.val (.int u0), .val (.int u1), .val (.int u2)] [(.int (1 : Int32)), (.ref b10), (.ref b10), (.ref b9), (.ref b9)])) _
        refine XS.iloadN X12.here hx rfl (hb hby d1_48) rfl ?_
        show Steps p.tables e below (T12.setTop (mkF m 49 #[.val (.int u0), .val (.int u1), .val (.int u2)] [(.int u2), (.int (1 : Int32)), (.ref b10), (.ref b10), (.ref b9), (.ref b9)])) _
        refine st14 _ ?_
        show Steps p.tables e below (T14.setTop (mkF m 50 #[.val (.int u0), .val (.int u1), .val (.int u2)] [(.ref b10), (.ref b9), (.ref b9)])) _
        refine st15.trans ?_
        show Steps p.tables e below (T15.setTop (mkF m 53 #[.val (.int u0), .val (.int u1), .val (.int u2)] [(.ref b9)])) _
        jvm_step X15.here [X15.here.top, hx, (hb hby d1_53), X15.method', Bd.returns, Value.isRef, FieldType.isReference]
        first | (intro acts; rw [hr _ acts rfl rfl rfl]) | rw [hr _ _ rfl rfl rfl]
        exact Steps.refl _
      · show Q1 Z u0 u1 u2 G_COMPACT h0 n0 _ T15.heap _
        exact ⟨b9, t15, _, rfl, N15, KK15, A15, F15_coder, F15_value, (by rw [hcs]; exact V15)⟩
      · show CHr Z EL s.vm s.heap T15.vm T15.heap
        rw [hh]
        exact C15.trans (CHv.at X15 hZ (hEL hw) C15.1)
theorem d6_0 : decode jdk_31_method_11_code 0 = .ok (.aload_n 0, 1) := by decide +kernel
theorem d6_1 : decode jdk_31_method_11_code 1 = .ok (.ifnonnull 12, 3) := by decide +kernel
theorem d6_13 : decode jdk_31_method_11_code 13 = .ok (.aload_n 0, 1) := by decide +kernel
theorem d6_14 : decode jdk_31_method_11_code 14 = .ok (.areturn, 1) := by decide +kernel
theorem pn_java_util_Objects : plainName "java/util/Objects" = true := by first | (simp [plainName, overriddenIn]; done) | decide +kernel
theorem ef_6 (m : MethodId) (u0 : Addr) (u1 : Addr) : entryFrame m #[(.ref u0), (.ref u1)] 2 = mkF m 0 #[.val (.ref u0), .val (.ref u1)] [] := by first | (simp [entryFrame, mkF, argsToLocals, Value.category]; done) | rfl
def Q6 (Z : State) (u0 : Addr) (u1 : Addr) (h0 : Heap) (n0 : Nat) (v : Option Value) (h : Heap) (L : List Loc) : Prop := v = some (.ref u0) ∧ Fr n0 L ∧ h = h0
set_option maxRecDepth 65536 in
set_option maxHeartbeats 40000000 in
theorem rm6 (l : Launch) (Z : State) (a0 : Array Value) (hw : ∀ d ∈ tables_1, d.before a0 Z = true) (ws : List Jvm.Cond) (u0 : Addr) (u1 : Addr) (h0 : Heap) (n0 : Nat) (Z0 : n0 ≤ h0.size) :
    MetFree l (⟨"java/util/Objects", "requireNonNull", "(Ljava/lang/Object;Ljava/lang/String;)Ljava/lang/Object;"⟩ : MethodName) (head1 (Jvm.Cond.code (⟨"java/util/Objects", "requireNonNull", "(Ljava/lang/Object;Ljava/lang/String;)Ljava/lang/Object;"⟩ : MethodName) jdk_31_method_11_code 2 (some (.object "java/lang/Object")) :: ws) ({ frames := 0, cells := 0, slots := 0, locals := 0 } : Room)) (fun a U => a = #[(.ref u0), (.ref u1)] ∧ Z.Warmed39 U.vm ∧ U.heap = h0) (fun _ _ _ _ _ => True) (fun _ U o U' => ∃ v L, o = .returned v ∧ Q6 Z u0 u1 h0 n0 v U'.heap L ∧ FrameEnd U o U' L ({ frames := 0, cells := 0, slots := 0, locals := 0 } : Room).cells ({ frames := 0, cells := 0, slots := 0, locals := 0 } : Room).slots) := by
  refine MetFree.of_bodySF (plainFor_of_name pn_java_util_Objects) hisR ?_
  intro p e s m args below meth c s₁ Bd hml0 hP hK
  obtain ⟨rfl, hZ, hh⟩ := hP
  have hx := Bd.exec
  have hby := Bd.bytes
  have hml : c.maxLocals = 2 := hml0
  have hown : s.vm.findClass "java/util/Objects" = some m.cls := findClass_of_methodNamed Bd.named
  have hnm := (name_of_methodNamed Bd.named Bd.method).1
  have X0 : Stand p l e ({ frames := 0, cells := 0, slots := 0, locals := 0 } : Room) s m #[(.ref u0), (.ref u1)] below meth c s₁ [] 0 0 := Stand.of_body Bd
  have e0 : s₁.heap = h0 := by rw [← hh, Bd.state]; rfl
  have N0 := Fr.nil n0
  have pre0 : ∀ t, Steps p.tables e below (s₁.setTop (mkF m 0 #[.val (.ref u0), .val (.ref u1)] [])) t → Steps p.tables e below (s₁.setTop (entryFrame m #[(.ref u0), (.ref u1)] 2)) t := fun t k => castTop (ef_6 m u0 u1) k
  obtain ⟨fs, hr, hrun, hended, hW, hsame⟩ := X0.leave (v := some (.ref u0)) (fun h => by rw [Bd.returns] at h; cases h)
  refine ⟨_, _, pre0 _ ?_, hrun, hended, _, _, rfl, ?_, ⟨_, rfl⟩, hW, hsame.mono (by decide) (by decide)⟩
  · show Steps p.tables e below (s₁.setTop (mkF m 0 #[.val (.ref u0), .val (.ref u1)] [])) _
    refine XS.aloadN X0.here hx rfl (hb hby d6_0) rfl rfl ?_
    show Steps p.tables e below (s₁.setTop (mkF m 1 #[.val (.ref u0), .val (.ref u1)] [(.ref u0)])) _
    refine XS.ifnonnullYes X0.here hx rfl (pc0 := 1) (pc' := 13) rfl (hb hby d6_1) rfl (by decide) (by decide) ?_
    show Steps p.tables e below (s₁.setTop (mkF m 13 #[.val (.ref u0), .val (.ref u1)] [])) _
    refine XS.aloadN X0.here hx rfl (hb hby d6_13) rfl rfl ?_
    show Steps p.tables e below (s₁.setTop (mkF m 14 #[.val (.ref u0), .val (.ref u1)] [(.ref u0)])) _
    jvm_step X0.here [X0.here.top, hx, (hb hby d6_14), X0.method', Bd.returns, Value.isRef, FieldType.isReference]
    first | (intro acts; rw [hr _ acts rfl rfl rfl]) | rw [hr _ _ rfl rfl rfl]
    exact Steps.refl _
  · show Q6 Z u0 u1 h0 n0 _ s₁.heap _
    rw [e0]
    exact ⟨rfl, N0, rfl⟩
theorem d11_0 : decode jdk_30_method_1_code 0 = .ok (.aload_n 0, 1) := by decide +kernel
theorem d11_1 : decode jdk_30_method_1_code 1 = .ok (.invokespecial 1, 3) := by decide +kernel
theorem d11_4 : decode jdk_30_method_1_code 4 = .ok (.return_, 1) := by decide +kernel
theorem pn_java_lang_Record : plainName "java/lang/Record" = true := by first | (simp [plainName, overriddenIn]; done) | decide +kernel
theorem ef_11 (m : MethodId) (u0 : Addr) : entryFrame m #[(.ref u0)] 1 = mkF m 0 #[.val (.ref u0)] [] := by first | (simp [entryFrame, mkF, argsToLocals, Value.category]; done) | rfl
def Q11 (Z : State) (u0 : Addr) (h0 : Heap) (n0 : Nat) (v : Option Value) (h : Heap) (L : List Loc) : Prop := v = none ∧ Fr n0 L ∧ h = h0
set_option maxRecDepth 65536 in
set_option maxHeartbeats 40000000 in
theorem rm11 (l : Launch) (Z : State) (a0 : Array Value) (hw : ∀ d ∈ tables_1, d.before a0 Z = true) (ws : List Jvm.Cond) (u0 : Addr) (h0 : Heap) (n0 : Nat) (Z0 : n0 ≤ h0.size) :
    MetFree l (⟨"java/lang/Record", "<init>", "()V"⟩ : MethodName) (head1 (Jvm.Cond.code (⟨"java/lang/Record", "<init>", "()V"⟩ : MethodName) jdk_30_method_1_code 1 none :: ws) ({ frames := 1, cells := 0, slots := 0, locals := 12 } : Room)) (fun a U => a = #[(.ref u0)] ∧ Z.Warmed39 U.vm ∧ U.heap = h0) (fun _ _ _ _ _ => True) (fun _ U o U' => ∃ v L, o = .returned v ∧ Q11 Z u0 h0 n0 v U'.heap L ∧ FrameEnd U o U' L ({ frames := 1, cells := 0, slots := 0, locals := 12 } : Room).cells ({ frames := 1, cells := 0, slots := 0, locals := 12 } : Room).slots) := by
  refine MetFree.of_bodySF (plainFor_of_name pn_java_lang_Record) hisR ?_
  intro p e s m args below meth c s₁ Bd hml0 hP hK
  obtain ⟨rfl, hZ, hh⟩ := hP
  have hx := Bd.exec
  have hby := Bd.bytes
  have hml : c.maxLocals = 1 := hml0
  have hown : s.vm.findClass "java/lang/Record" = some m.cls := findClass_of_methodNamed Bd.named
  have hnm := (name_of_methodNamed Bd.named Bd.method).1
  have X0 : Stand p l e ({ frames := 1, cells := 0, slots := 0, locals := 12 } : Room) s m #[(.ref u0)] below meth c s₁ [] 0 0 := Stand.of_body Bd
  have e0 : s₁.heap = h0 := by rw [← hh, Bd.state]; rfl
  have N0 := Fr.nil n0
  have pre0 : ∀ t, Steps p.tables e below (s₁.setTop (mkF m 0 #[.val (.ref u0)] [])) t → Steps p.tables e below (s₁.setTop (entryFrame m #[(.ref u0)] 1)) t := fun t k => castTop (ef_11 m u0) k
  obtain ⟨T1, X1, e1, st1⟩ := initO X0 hx hZ hown (hw _ (List.mem_of_getElem? (i := 70) rfl)) (hw _ (List.mem_of_getElem? (i := 16) rfl)) (hw _ (List.mem_of_getElem? (i := 17) rfl)) e0 (g := (mkF m 1 #[.val (.ref u0)] [(.ref u0)])) rfl (by rw [hml]; rfl) rfl (hb hby d11_1) (by decide) (W := 0) (by show 2 * 0 + _ ≤ _; exact Nat.le_of_eq rfl) (by decide)
  obtain ⟨fs, hr, hrun, hended, hW, hsame⟩ := X1.leave (v := none) (fun _ => rfl)
  refine ⟨_, _, pre0 _ ?_, hrun, hended, _, _, rfl, ?_, ⟨_, rfl⟩, hW, hsame.mono (by decide) (by decide)⟩
  · show Steps p.tables e below (s₁.setTop (mkF m 0 #[.val (.ref u0)] [])) _
    refine XS.aloadN X0.here hx rfl (hb hby d11_0) rfl rfl ?_
    show Steps p.tables e below (s₁.setTop (mkF m 1 #[.val (.ref u0)] [(.ref u0)])) _
    refine st1 _ ?_
    show Steps p.tables e below (T1.setTop (mkF m 4 #[.val (.ref u0)] [])) _
    exact X1.returnOut hx Bd.returns (hb hby d11_4) hr
  · show Q11 Z u0 h0 n0 _ T1.heap _
    rw [e1]
    exact ⟨rfl, N0, rfl⟩
theorem pd_3 : parseMethodDescriptor "(Ljava/lang/Object;Ljava/lang/String;)Ljava/lang/Object;" = some ⟨[(.object "java/lang/Object"), (.object "java/lang/String")], some (.object "java/lang/Object")⟩ := by decide +kernel
theorem d5_0 : decode prog_45_method_1_code 0 = .ok (.aload_n 0, 1) := by decide +kernel
theorem d5_1 : decode prog_45_method_1_code 1 = .ok (.invokespecial 1, 3) := by decide +kernel
theorem d5_4 : decode prog_45_method_1_code 4 = .ok (.aload_n 0, 1) := by decide +kernel
theorem d5_5 : decode prog_45_method_1_code 5 = .ok (.aload_n 1, 1) := by decide +kernel
theorem d5_6 : decode prog_45_method_1_code 6 = .ok (.ldc 7, 2) := by decide +kernel
theorem d5_8 : decode prog_45_method_1_code 8 = .ok (.invokestatic 9, 3) := by decide +kernel
theorem d5_11 : decode prog_45_method_1_code 11 = .ok (.checkcast 15, 3) := by decide +kernel
theorem d5_14 : decode prog_45_method_1_code 14 = .ok (.putfield 17, 3) := by decide +kernel
theorem d5_17 : decode prog_45_method_1_code 17 = .ok (.return_, 1) := by decide +kernel
theorem pn_com_example_triplewright_triplewright_rdf_Iri : plainName "com/example/triplewright/triplewright/rdf/Iri" = true := by first | (simp [plainName, overriddenIn]; done) | decide +kernel
theorem ef_5 (m : MethodId) (u0 : Addr) (u1 : Addr) : entryFrame m #[(.ref u0), (.ref u1)] 2 = mkF m 0 #[.val (.ref u0), .val (.ref u1)] [] := by first | (simp [entryFrame, mkF, argsToLocals, Value.category]; done) | rfl
def Q5 (Z : State) (u0 : Addr) (u1 : Addr) (h0 : Heap) (n0 : Nat) (v : Option Value) (h : Heap) (L : List Loc) : Prop := v = none ∧ Fr n0 L ∧ Keep h0 h [u0] ∧ Exa Z h u0 "com/example/triplewright/triplewright/rdf/Iri" ∧ Fld Z h u0 "com/example/triplewright/triplewright/rdf/Iri" "value" "Ljava/lang/String;" (.ref u1)
set_option maxRecDepth 65536 in
set_option maxHeartbeats 40000000 in
theorem rm5 (l : Launch) (Z : State) (a0 : Array Value) (hw : ∀ d ∈ tables_1, d.before a0 Z = true) (ws : List Jvm.Cond) (u0 : Addr) (u1 : Addr) (h0 : Heap) (n0 : Nat) (Z0 : n0 ≤ h0.size) (g_u0 : n0 ≤ u0) (E_u0 : Exa Z h0 u0 "com/example/triplewright/triplewright/rdf/Iri") (F_value_u0 : Fld Z h0 u0 "com/example/triplewright/triplewright/rdf/Iri" "value" "Ljava/lang/String;" .null) (E_u1 : Exa Z h0 u1 "java/lang/String") :
    MetFree l (⟨"com/example/triplewright/triplewright/rdf/Iri", "<init>", "(Ljava/lang/String;)V"⟩ : MethodName) (head1 (Jvm.Cond.code (⟨"com/example/triplewright/triplewright/rdf/Iri", "<init>", "(Ljava/lang/String;)V"⟩ : MethodName) prog_45_method_1_code 2 none :: ws) ({ frames := 1, cells := 2, slots := 24, locals := 14 } : Room)) (fun a U => a = #[(.ref u0), (.ref u1)] ∧ Z.Warmed39 U.vm ∧ U.heap = h0 ∧ CHv Z EL U.vm h0) (fun _ _ _ _ _ => True) (fun _ U o U' => ∃ v L, o = .returned v ∧ Q5 Z u0 u1 h0 n0 v U'.heap L ∧ CHr Z EL U.vm U.heap U'.vm U'.heap ∧ ReturnedEndW U o U' L ({ frames := 1, cells := 2, slots := 24, locals := 14 } : Room).cells ({ frames := 1, cells := 2, slots := 24, locals := 14 } : Room).slots) := by
  refine MetFree.of_bodySF (plainFor_of_name pn_com_example_triplewright_triplewright_rdf_Iri) hisR ?_
  intro p e s m args below meth c s₁ Bd hml0 hP hK
  obtain ⟨rfl, hZ, hh, hC0⟩ := hP
  replace hZ : Z.Warmed39 (s.setVm s.vm).vm := hZ
  have hx := Bd.exec
  have hby := Bd.bytes
  have hml : c.maxLocals = 2 := hml0
  have hown : (s.setVm s.vm).vm.findClass "com/example/triplewright/triplewright/rdf/Iri" = some m.cls := findClass_of_methodNamed Bd.named
  have hnm := (name_of_methodNamed Bd.named Bd.method).1
  have X0 : Stand p l e ({ frames := 1, cells := 2, slots := 24, locals := 14 } : Room) (s.setVm s.vm) m #[(.ref u0), (.ref u1)] below meth c s₁ [] 0 0 := Stand.of_body Bd
  have e0 : s₁.heap = h0 := by rw [← hh, Bd.state]; rfl
  have N0 := Fr.nil n0
  have pre0 : ∀ t, Steps p.tables e below (s₁.setTop (mkF m 0 #[.val (.ref u0), .val (.ref u1)] [])) t → Steps p.tables e below (s₁.setTop (entryFrame m #[(.ref u0), (.ref u1)] 2)) t := fun t k => castTop (ef_5 m u0 u1) k
  have hS0 : s.Since s.vm s.heap.size := own_since s
  have hk0 : s.heap.size ≤ h0.size := Nat.le_of_eq (congrArg Array.size hh)
  have C0 : CHr Z EL s.vm h0 s.vm h0 := CHr.refl hC0
  have wS : ∀ d ∈ Bundle.stringAtoms, d.before a0 Z = true := fun d hd => hw d ((by decide +kernel : ∀ d ∈ Bundle.stringAtoms, d ∈ tables_1) d hd)
  obtain ⟨T1, X1, e1, st1⟩ := initO X0 hx hZ hown (hw _ (List.mem_of_getElem? (i := 32) rfl)) (hw _ (List.mem_of_getElem? (i := 16) rfl)) (hw _ (List.mem_of_getElem? (i := 17) rfl)) e0 (g := (mkF m 1 #[.val (.ref u0), .val (.ref u1)] [(.ref u0)])) rfl (by rw [hml]; rfl) rfl (hb hby d5_1) (by decide) (W := 0) (by show 2 * 0 + _ ≤ _; exact Nat.le_of_eq rfl) (by decide)
  obtain ⟨s2, T2, h2, q2, d2, kc2, X2, e2, E2, hS2, hk2, hZ, hown, A2, F2_coder, F2_value, V2, ls2, ld2, Cq2, Lt2, sf2, st2⟩ := ldcCH X1 hx hZ hown (hw _ (List.mem_of_getElem? (i := 33) rfl)) wS e1 hS0 hk0 (hEL hw) (List.mem_of_getElem? (i := 1) rfl) C0.1 (vs := ((([118, 97, 108, 117, 101] : List Int32).map (fun c => c.toInt8.toInt32)).map Value.int)) (z := (5 : Int32)) (by constructor <;> decide +kernel) (by decide) (by decide +kernel) (g := (mkF m 6 #[.val (.ref u0), .val (.ref u1)] [(.ref u1), (.ref u0)])) rfl (hb hby d5_6) (n := 20) (by decide +kernel) (by decide) (by decide) (by decide)
  have Z2 : n0 ≤ h2.size := Nat.le_trans Z0 E2.1
  have KK2 := (Keep.refl h0 [u0]).ext E2
  have C2 := C0.trans Cq2
  have ns2_u0 := sf2 u0 (Safe.exa hZ.alike (E_u0.ext E2) (by decide) (by decide))
  obtain ⟨_, _, ⟨T3, L3, k3, n3⟩, -, X3, ⟨Lc3, hQ3, l3, y3, z3⟩, st3⟩ := Jvm.LawKit.callS X2 hx (y := (⟨"java/util/Objects", "requireNonNull", "(Ljava/lang/Object;Ljava/lang/String;)Ljava/lang/Object;"⟩ : MethodName)) hown (mvT hZ (hw _ (List.mem_of_getElem? (i := 34) rfl))) (mvT hZ (hw _ (List.mem_of_getElem? (i := 35) rfl))) (mvT hZ (hw _ (List.mem_of_getElem? (i := 36) rfl))) (mvT hZ (hw _ (List.mem_of_getElem? (i := 37) rfl))) (by decide) (backOf (W := 1) (rm6 l Z a0 hw [] u1 s2 h2 n0 Z2 ) hZ (hw _ (List.mem_of_getElem? (i := 37) rfl)) (hw _ (List.mem_of_getElem? (i := 36) rfl)) (by decide) (by decide)) (g := (mkF m 8 #[.val (.ref u0), .val (.ref u1)] [(.ref s2), (.ref u1), (.ref u0)])) rfl (by rw [hml]; rfl) (argsL := [(.ref u1), (.ref s2)]) (rest := [(.ref u0)]) (lenOf pd_3 rfl) rfl (by show 2 * 0 + _ ≤ _; exact Nat.le_of_eq rfl) (hb hby d5_8) (fun _ _ => ⟨rfl, e2, (by decide : 2 + 0 ≤ _), (by decide : 24 + 0 ≤ _)⟩)
  dsimp only [Pt.U, Pt.locs, Pt.cells, Pt.slots] at X3 l3 y3 z3 st3 hQ3
  subst l3 y3 z3
  obtain ⟨rfl, N3q, e3⟩ := hQ3
  have N3 := Fr.app N0 N3q
  obtain ⟨T4, X4, e4, st4⟩ := castY X3 hx hZ hown (hw _ (List.mem_of_getElem? (i := 38) rfl)) e3 (Ins.self (E_u1.ext E2)) (g := (mkF m 11 #[.val (.ref u0), .val (.ref u1)] [(.ref u1), (.ref u0)])) rfl rfl (hb hby d5_11)
  obtain ⟨T5, h5, X5, e5, W5, st5⟩ := putF X4 hx hZ hown (host := "") (Or.inl (hw _ (List.mem_of_getElem? (i := 39) rfl))) Via.refl e4 (F_value_u0.ext E2) (E_u0.ext E2) (Or.inr ⟨(hw _ (List.mem_of_getElem? (i := 40) rfl)), rfl, hnm⟩) (hw _ (List.mem_of_getElem? (i := 27) rfl)) (ty := (.object "java/lang/String")) (by decide) rfl rfl (g := (mkF m 14 #[.val (.ref u0), .val (.ref u1)] [(.ref u1), (.ref u0)])) rfl rfl (hb hby d5_14)
  have Fw5 := (F_value_u0.ext E2).same W5
  have N5 := Fr.snoc X5 N3 g_u0
  have Z5 : n0 ≤ h5.size := Nat.le_trans Z2 (Keep.of_wr W5).1
  have KK5 := KK2.wr W5 (Or.inl (List.mem_of_getElem? (i := 0) rfl))
  have C5 := C2.trans (CHr.wr W5 (Safe.exa hZ.alike (E_u0.ext E2) (by decide) (by decide)) C2.1)
  have hk5 := Nat.le_trans hk2 (Keep.of_wr W5).1
  obtain ⟨fs, hr, hrun, hended, hE⟩ := X5.leaveW hS2 (Nat.le_trans hk5 (Nat.le_of_eq (congrArg Array.size e5).symm)) (v := none) (fun _ => rfl)
  refine ⟨_, _, pre0 _ ?_, hrun, hended, _, _, rfl, ?_, ?_, own_monoW hE (by decide) (by decide)⟩
  · show Steps p.tables e below (s₁.setTop (mkF m 0 #[.val (.ref u0), .val (.ref u1)] [])) _
    refine XS.aloadN X0.here hx rfl (hb hby d5_0) rfl rfl ?_
    show Steps p.tables e below (s₁.setTop (mkF m 1 #[.val (.ref u0), .val (.ref u1)] [(.ref u0)])) _
    refine st1 _ ?_
    show Steps p.tables e below (T1.setTop (mkF m 4 #[.val (.ref u0), .val (.ref u1)] [])) _
    refine XS.aloadN X1.here hx rfl (hb hby d5_4) rfl rfl ?_
    show Steps p.tables e below (T1.setTop (mkF m 5 #[.val (.ref u0), .val (.ref u1)] [(.ref u0)])) _
    refine XS.aloadN X1.here hx rfl (hb hby d5_5) rfl rfl ?_
    show Steps p.tables e below (T1.setTop (mkF m 6 #[.val (.ref u0), .val (.ref u1)] [(.ref u1), (.ref u0)])) _
    refine st2 _ ?_
    show Steps p.tables e below (T2.setTop (mkF m 8 #[.val (.ref u0), .val (.ref u1)] [(.ref s2), (.ref u1), (.ref u0)])) _
    refine st3 _ ?_
    show Steps p.tables e below (T3.setTop (mkF m 11 #[.val (.ref u0), .val (.ref u1)] [(.ref u1), (.ref u0)])) _
    refine st4 _ ?_
    show Steps p.tables e below (T4.setTop (mkF m 14 #[.val (.ref u0), .val (.ref u1)] [(.ref u1), (.ref u0)])) _
    refine st5 _ ?_
    show Steps p.tables e below (T5.setTop (mkF m 17 #[.val (.ref u0), .val (.ref u1)] [])) _
    exact X5.returnOut hx Bd.returns (hb hby d5_17) hr
  · show Q5 Z u0 u1 h0 n0 _ T5.heap _
    rw [e5]
    exact ⟨rfl, N5, KK5, ((E_u0.ext E2).wr W5), Fw5⟩
  · show CHr Z EL s.vm s.heap T5.vm T5.heap
    rw [e5]
    rw [hh]
    exact C5.trans (CHv.at X5 hZ (hEL hw) C5.1)
theorem pd_0 : parseMethodDescriptor "()V" = some ⟨[], none⟩ := by decide +kernel
theorem d10_0 : decode prog_42_method_1_code 0 = .ok (.aload_n 0, 1) := by decide +kernel
theorem d10_1 : decode prog_42_method_1_code 1 = .ok (.invokespecial 1, 3) := by decide +kernel
theorem d10_4 : decode prog_42_method_1_code 4 = .ok (.aload_n 1, 1) := by decide +kernel
theorem d10_5 : decode prog_42_method_1_code 5 = .ok (.ldc 7, 2) := by decide +kernel
theorem d10_7 : decode prog_42_method_1_code 7 = .ok (.invokestatic 9, 3) := by decide +kernel
theorem d10_10 : decode prog_42_method_1_code 10 = .ok (.pop, 1) := by decide +kernel
theorem d10_11 : decode prog_42_method_1_code 11 = .ok (.aload_n 0, 1) := by decide +kernel
theorem d10_12 : decode prog_42_method_1_code 12 = .ok (.aload_n 1, 1) := by decide +kernel
theorem d10_13 : decode prog_42_method_1_code 13 = .ok (.putfield 15, 3) := by decide +kernel
theorem d10_16 : decode prog_42_method_1_code 16 = .ok (.return_, 1) := by decide +kernel
theorem pn_com_example_triplewright_triplewright_rdf_BlankNode : plainName "com/example/triplewright/triplewright/rdf/BlankNode" = true := by first | (simp [plainName, overriddenIn]; done) | decide +kernel
theorem ef_10 (m : MethodId) (u0 : Addr) (u1 : Addr) : entryFrame m #[(.ref u0), (.ref u1)] 2 = mkF m 0 #[.val (.ref u0), .val (.ref u1)] [] := by first | (simp [entryFrame, mkF, argsToLocals, Value.category]; done) | rfl
def Q10 (Z : State) (u0 : Addr) (u1 : Addr) (h0 : Heap) (n0 : Nat) (v : Option Value) (h : Heap) (L : List Loc) : Prop := v = none ∧ Fr n0 L ∧ Keep h0 h [u0] ∧ Exa Z h u0 "com/example/triplewright/triplewright/rdf/BlankNode" ∧ Fld Z h u0 "com/example/triplewright/triplewright/rdf/BlankNode" "label" "Ljava/lang/String;" (.ref u1)
set_option maxRecDepth 65536 in
set_option maxHeartbeats 40000000 in
theorem rm10 (l : Launch) (Z : State) (a0 : Array Value) (hw : ∀ d ∈ tables_1, d.before a0 Z = true) (ws : List Jvm.Cond) (u0 : Addr) (u1 : Addr) (h0 : Heap) (n0 : Nat) (Z0 : n0 ≤ h0.size) (g_u0 : n0 ≤ u0) (E_u0 : Exa Z h0 u0 "com/example/triplewright/triplewright/rdf/BlankNode") (F_label_u0 : Fld Z h0 u0 "com/example/triplewright/triplewright/rdf/BlankNode" "label" "Ljava/lang/String;" .null) (E_u1 : Exa Z h0 u1 "java/lang/String") :
    MetFree l (⟨"com/example/triplewright/triplewright/rdf/BlankNode", "<init>", "(Ljava/lang/String;)V"⟩ : MethodName) (head1 (Jvm.Cond.code (⟨"com/example/triplewright/triplewright/rdf/BlankNode", "<init>", "(Ljava/lang/String;)V"⟩ : MethodName) prog_42_method_1_code 2 none :: ws) ({ frames := 2, cells := 2, slots := 24, locals := 24 } : Room)) (fun a U => a = #[(.ref u0), (.ref u1)] ∧ Z.Warmed39 U.vm ∧ U.heap = h0 ∧ CHv Z EL U.vm h0) (fun _ _ _ _ _ => True) (fun _ U o U' => ∃ v L, o = .returned v ∧ Q10 Z u0 u1 h0 n0 v U'.heap L ∧ CHr Z EL U.vm U.heap U'.vm U'.heap ∧ ReturnedEndW U o U' L ({ frames := 2, cells := 2, slots := 24, locals := 24 } : Room).cells ({ frames := 2, cells := 2, slots := 24, locals := 24 } : Room).slots) := by
  refine MetFree.of_bodySF (plainFor_of_name pn_com_example_triplewright_triplewright_rdf_BlankNode) hisR ?_
  intro p e s m args below meth c s₁ Bd hml0 hP hK
  obtain ⟨rfl, hZ, hh, hC0⟩ := hP
  replace hZ : Z.Warmed39 (s.setVm s.vm).vm := hZ
  have hx := Bd.exec
  have hby := Bd.bytes
  have hml : c.maxLocals = 2 := hml0
  have hown : (s.setVm s.vm).vm.findClass "com/example/triplewright/triplewright/rdf/BlankNode" = some m.cls := findClass_of_methodNamed Bd.named
  have hnm := (name_of_methodNamed Bd.named Bd.method).1
  have X0 : Stand p l e ({ frames := 2, cells := 2, slots := 24, locals := 24 } : Room) (s.setVm s.vm) m #[(.ref u0), (.ref u1)] below meth c s₁ [] 0 0 := Stand.of_body Bd
  have e0 : s₁.heap = h0 := by rw [← hh, Bd.state]; rfl
  have N0 := Fr.nil n0
  have pre0 : ∀ t, Steps p.tables e below (s₁.setTop (mkF m 0 #[.val (.ref u0), .val (.ref u1)] [])) t → Steps p.tables e below (s₁.setTop (entryFrame m #[(.ref u0), (.ref u1)] 2)) t := fun t k => castTop (ef_10 m u0 u1) k
  have hS0 : s.Since s.vm s.heap.size := own_since s
  have hk0 : s.heap.size ≤ h0.size := Nat.le_of_eq (congrArg Array.size hh)
  have C0 : CHr Z EL s.vm h0 s.vm h0 := CHr.refl hC0
  have wS : ∀ d ∈ Bundle.stringAtoms, d.before a0 Z = true := fun d hd => hw d ((by decide +kernel : ∀ d ∈ Bundle.stringAtoms, d ∈ tables_1) d hd)
  obtain ⟨_, _, ⟨T1, L1, k1, n1⟩, -, X1, ⟨Lc1, hQ1, l1, y1, z1⟩, st1⟩ := X0.specialBack hx (y := (⟨"java/lang/Record", "<init>", "()V"⟩ : MethodName)) rfl hown (mvT hZ (hw _ (List.mem_of_getElem? (i := 65) rfl))) (mvT hZ (hw _ (List.mem_of_getElem? (i := 66) rfl))) (mvT hZ (hw _ (List.mem_of_getElem? (i := 69) rfl))) (by decide) (backOf (W := 0) (rm11 l Z a0 hw [] u0 h0 n0 Z0 ) hZ (hw _ (List.mem_of_getElem? (i := 69) rfl)) (hw _ (List.mem_of_getElem? (i := 68) rfl)) (by decide) (by decide)) (g := (mkF m 1 #[.val (.ref u0), .val (.ref u1)] [(.ref u0)])) rfl (by rw [hml]; rfl) (Steps.refl _) (a := u0) (argsL := []) (rest := []) (lenOf pd_0 rfl) rfl (by show 2 * 0 + _ ≤ _; exact Nat.le_of_eq rfl) (hb hby d10_1) (fun _ _ => ⟨rfl, e0, (by decide : 0 + 0 ≤ _), (by decide : 0 + 0 ≤ _)⟩)
  dsimp only [Pt.U, Pt.locs, Pt.cells, Pt.slots] at X1 l1 y1 z1 st1 hQ1
  subst l1 y1 z1
  obtain ⟨rfl, N1q, e1⟩ := hQ1
  have N1 := Fr.app N0 N1q
  obtain ⟨s2, T2, h2, q2, d2, kc2, X2, e2, E2, hS2, hk2, hZ, hown, A2, F2_coder, F2_value, V2, ls2, ld2, Cq2, Lt2, sf2, st2⟩ := ldcCH X1 hx hZ hown (hw _ (List.mem_of_getElem? (i := 71) rfl)) wS e1 hS0 hk0 (hEL hw) (List.mem_of_getElem? (i := 0) rfl) C0.1 (vs := ((([108, 97, 98, 101, 108] : List Int32).map (fun c => c.toInt8.toInt32)).map Value.int)) (z := (5 : Int32)) (by constructor <;> decide +kernel) (by decide) (by decide +kernel) (g := (mkF m 5 #[.val (.ref u0), .val (.ref u1)] [(.ref u1)])) rfl (hb hby d10_5) (n := 20) (by decide +kernel) (by decide) (by decide) (by decide)
  have Z2 : n0 ≤ h2.size := Nat.le_trans Z0 E2.1
  have KK2 := (Keep.refl h0 [u0]).ext E2
  have C2 := C0.trans Cq2
  have ns2_u0 := sf2 u0 (Safe.exa hZ.alike (E_u0.ext E2) (by decide) (by decide))
  obtain ⟨_, _, ⟨T3, L3, k3, n3⟩, -, X3, ⟨Lc3, hQ3, l3, y3, z3⟩, st3⟩ := Jvm.LawKit.callS X2 hx (y := (⟨"java/util/Objects", "requireNonNull", "(Ljava/lang/Object;Ljava/lang/String;)Ljava/lang/Object;"⟩ : MethodName)) hown (mvT hZ (hw _ (List.mem_of_getElem? (i := 72) rfl))) (mvT hZ (hw _ (List.mem_of_getElem? (i := 35) rfl))) (mvT hZ (hw _ (List.mem_of_getElem? (i := 36) rfl))) (mvT hZ (hw _ (List.mem_of_getElem? (i := 37) rfl))) (by decide) (backOf (W := 0) (rm6 l Z a0 hw [] u1 s2 h2 n0 Z2 ) hZ (hw _ (List.mem_of_getElem? (i := 37) rfl)) (hw _ (List.mem_of_getElem? (i := 36) rfl)) (by decide) (by decide)) (g := (mkF m 7 #[.val (.ref u0), .val (.ref u1)] [(.ref s2), (.ref u1)])) rfl (by rw [hml]; rfl) (argsL := [(.ref u1), (.ref s2)]) (rest := []) (lenOf pd_3 rfl) rfl (by show 2 * 0 + _ ≤ _; exact Nat.le_of_eq rfl) (hb hby d10_7) (fun _ _ => ⟨rfl, e2, (by decide : 2 + 0 ≤ _), (by decide : 24 + 0 ≤ _)⟩)
  dsimp only [Pt.U, Pt.locs, Pt.cells, Pt.slots] at X3 l3 y3 z3 st3 hQ3
  subst l3 y3 z3
  obtain ⟨rfl, N3q, e3⟩ := hQ3
  have N3 := Fr.app N1 N3q
  obtain ⟨T4, h4, X4, e4, W4, st4⟩ := putF X3 hx hZ hown (host := "") (Or.inl (hw _ (List.mem_of_getElem? (i := 73) rfl))) Via.refl e3 (F_label_u0.ext E2) (E_u0.ext E2) (Or.inr ⟨(hw _ (List.mem_of_getElem? (i := 74) rfl)), rfl, hnm⟩) (hw _ (List.mem_of_getElem? (i := 60) rfl)) (ty := (.object "java/lang/String")) (by decide) rfl rfl (g := (mkF m 13 #[.val (.ref u0), .val (.ref u1)] [(.ref u1), (.ref u0)])) rfl rfl (hb hby d10_13)
  have Fw4 := (F_label_u0.ext E2).same W4
  have N4 := Fr.snoc X4 N3 g_u0
  have Z4 : n0 ≤ h4.size := Nat.le_trans Z2 (Keep.of_wr W4).1
  have KK4 := KK2.wr W4 (Or.inl (List.mem_of_getElem? (i := 0) rfl))
  have C4 := C2.trans (CHr.wr W4 (Safe.exa hZ.alike (E_u0.ext E2) (by decide) (by decide)) C2.1)
  have hk4 := Nat.le_trans hk2 (Keep.of_wr W4).1
  obtain ⟨fs, hr, hrun, hended, hE⟩ := X4.leaveW hS2 (Nat.le_trans hk4 (Nat.le_of_eq (congrArg Array.size e4).symm)) (v := none) (fun _ => rfl)
  refine ⟨_, _, pre0 _ ?_, hrun, hended, _, _, rfl, ?_, ?_, own_monoW hE (by decide) (by decide)⟩
  · show Steps p.tables e below (s₁.setTop (mkF m 0 #[.val (.ref u0), .val (.ref u1)] [])) _
    refine XS.aloadN X0.here hx rfl (hb hby d10_0) rfl rfl ?_
    show Steps p.tables e below (s₁.setTop (mkF m 1 #[.val (.ref u0), .val (.ref u1)] [(.ref u0)])) _
    refine st1.trans ?_
    show Steps p.tables e below (T1.setTop (mkF m 4 #[.val (.ref u0), .val (.ref u1)] [])) _
    refine XS.aloadN X1.here hx rfl (hb hby d10_4) rfl rfl ?_
    show Steps p.tables e below (T1.setTop (mkF m 5 #[.val (.ref u0), .val (.ref u1)] [(.ref u1)])) _
    refine st2 _ ?_
    show Steps p.tables e below (T2.setTop (mkF m 7 #[.val (.ref u0), .val (.ref u1)] [(.ref s2), (.ref u1)])) _
    refine st3 _ ?_
    show Steps p.tables e below (T3.setTop (mkF m 10 #[.val (.ref u0), .val (.ref u1)] [(.ref u1)])) _
    refine XS.pop X3.here hx rfl (hb hby d10_10) rfl rfl ?_
    show Steps p.tables e below (T3.setTop (mkF m 11 #[.val (.ref u0), .val (.ref u1)] [])) _
    refine XS.aloadN X3.here hx rfl (hb hby d10_11) rfl rfl ?_
    show Steps p.tables e below (T3.setTop (mkF m 12 #[.val (.ref u0), .val (.ref u1)] [(.ref u0)])) _
    refine XS.aloadN X3.here hx rfl (hb hby d10_12) rfl rfl ?_
    show Steps p.tables e below (T3.setTop (mkF m 13 #[.val (.ref u0), .val (.ref u1)] [(.ref u1), (.ref u0)])) _
    refine st4 _ ?_
    show Steps p.tables e below (T4.setTop (mkF m 16 #[.val (.ref u0), .val (.ref u1)] [])) _
    exact X4.returnOut hx Bd.returns (hb hby d10_16) hr
  · show Q10 Z u0 u1 h0 n0 _ T4.heap _
    rw [e4]
    exact ⟨rfl, N4, KK4, ((E_u0.ext E2).wr W4), Fw4⟩
  · show CHr Z EL s.vm s.heap T4.vm T4.heap
    rw [e4]
    rw [hh]
    exact C4.trans (CHv.at X4 hZ (hEL hw) C4.1)
theorem pd_2 : parseMethodDescriptor "(Ljava/lang/Object;)Z" = some ⟨[(.object "java/lang/Object")], some .boolean⟩ := by decide +kernel
theorem d7_0 : decode prog_45_method_4_code 0 = .ok (.aload_n 1, 1) := by decide +kernel
theorem d7_1 : decode prog_45_method_4_code 1 = .ok (.instanceof 18, 3) := by decide +kernel
theorem d7_4 : decode prog_45_method_4_code 4 = .ok (.ifCond .eq 26, 3) := by decide +kernel
theorem d7_7 : decode prog_45_method_4_code 7 = .ok (.aload_n 1, 1) := by decide +kernel
theorem d7_8 : decode prog_45_method_4_code 8 = .ok (.checkcast 18, 3) := by decide +kernel
theorem d7_11 : decode prog_45_method_4_code 11 = .ok (.astore_n 2, 1) := by decide +kernel
theorem d7_12 : decode prog_45_method_4_code 12 = .ok (.aload_n 0, 1) := by decide +kernel
theorem d7_13 : decode prog_45_method_4_code 13 = .ok (.getfield 17, 3) := by decide +kernel
theorem d7_16 : decode prog_45_method_4_code 16 = .ok (.aload_n 2, 1) := by decide +kernel
theorem d7_17 : decode prog_45_method_4_code 17 = .ok (.getfield 17, 3) := by decide +kernel
theorem d7_20 : decode prog_45_method_4_code 20 = .ok (.invokevirtual 40, 3) := by decide +kernel
theorem d7_23 : decode prog_45_method_4_code 23 = .ok (.ifCond .eq 7, 3) := by decide +kernel
theorem d7_26 : decode prog_45_method_4_code 26 = .ok (.iconst 1, 1) := by decide +kernel
theorem d7_27 : decode prog_45_method_4_code 27 = .ok (.goto 4, 3) := by decide +kernel
theorem d7_30 : decode prog_45_method_4_code 30 = .ok (.iconst 0, 1) := by decide +kernel
theorem d7_31 : decode prog_45_method_4_code 31 = .ok (.ireturn, 1) := by decide +kernel
theorem ef_7 (m : MethodId) (u0 : Addr) (u1 : Addr) : entryFrame m #[(.ref u0), (.ref u1)] 3 = mkF m 0 #[.val (.ref u0), .val (.ref u1), .unset] [] := by first | (simp [entryFrame, mkF, argsToLocals, Value.category]; done) | rfl
def Q7 (Z : State) (u0 : Addr) (u1 : Addr) (x0 : Addr) (y0 : Addr) (d0 : Addr) (d1 : Addr) (k0 : ClassId) (k1 : ClassId) (cs : List Int32) (ds : List Int32) (G_COMPACT : Int32) (h0 : Heap) (n0 : Nat) (v : Option Value) (h : Heap) (L : List Loc) : Prop := v = some (.int (eqI cs ds)) ∧ Fr n0 L ∧ h = h0
set_option maxRecDepth 65536 in
set_option maxHeartbeats 40000000 in
theorem rm7 (l : Launch) (Z : State) (a0 : Array Value) (hw : ∀ d ∈ tables_1, d.before a0 Z = true) (ws : List Jvm.Cond) (u0 : Addr) (u1 : Addr) (x0 : Addr) (y0 : Addr) (d0 : Addr) (d1 : Addr) (k0 : ClassId) (k1 : ClassId) (cs : List Int32) (ds : List Int32) (G_COMPACT : Int32) (h0 : Heap) (n0 : Nat) (Z0 : n0 ≤ h0.size) (O0 : Old Z n0 h0) (E_u1 : Exa Z h0 u1 "com/example/triplewright/triplewright/rdf/Iri") (F_u0 : Fld Z h0 u0 "com/example/triplewright/triplewright/rdf/Iri" "value" "Ljava/lang/String;" (.ref x0)) (F_u1 : Fld Z h0 u1 "com/example/triplewright/triplewright/rdf/Iri" "value" "Ljava/lang/String;" (.ref y0)) (E_x0 : Exa Z h0 x0 "java/lang/String") (F_coder_x0 : Fld Z h0 x0 "java/lang/String" "coder" "B" (.int 0)) (F_value_x0 : Fld Z h0 x0 "java/lang/String" "value" "[B" (.ref d0)) (V_d0 : Arv Z h0 d0 k0 .byte (Int32.ofNat (cs).length) (((cs).map (fun c => c.toInt8.toInt32)).map Value.int) (.int 0)) (hb_x0 : ∀ c ∈ cs, ¬ c < 0 ∧ ¬ (255 : Int32) < c) (hl_x0 : (cs).length ≤ 4000) (E_y0 : Exa Z h0 y0 "java/lang/String") (F_coder_y0 : Fld Z h0 y0 "java/lang/String" "coder" "B" (.int 0)) (F_value_y0 : Fld Z h0 y0 "java/lang/String" "value" "[B" (.ref d1)) (V_d1 : Arv Z h0 d1 k1 .byte (Int32.ofNat (ds).length) (((ds).map (fun c => c.toInt8.toInt32)).map Value.int) (.int 0)) (hb_y0 : ∀ c ∈ ds, ¬ c < 0 ∧ ¬ (255 : Int32) < c) (hl_y0 : (ds).length ≤ 4000) (S_COMPACT : Sta Z Z.heap "java/lang/String" "COMPACT_STRINGS" "Z" (.int G_COMPACT)) (P_COMPACT : ¬ G_COMPACT = 0) :
    MetFree l (⟨"com/example/triplewright/triplewright/rdf/Iri", "equals", "(Ljava/lang/Object;)Z"⟩ : MethodName) (head1 (Jvm.Cond.code (⟨"com/example/triplewright/triplewright/rdf/Iri", "equals", "(Ljava/lang/Object;)Z"⟩ : MethodName) prog_45_method_4_code 3 (some .boolean) :: ws) ({ frames := 2, cells := 0, slots := 0, locals := 29 } : Room)) (fun a U => a = #[(.ref u0), (.ref u1)] ∧ Z.Warmed39 U.vm ∧ U.heap = h0) (fun _ _ _ _ _ => True) (fun _ U o U' => ∃ v L, o = .returned v ∧ Q7 Z u0 u1 x0 y0 d0 d1 k0 k1 cs ds G_COMPACT h0 n0 v U'.heap L ∧ FrameEnd U o U' L ({ frames := 2, cells := 0, slots := 0, locals := 29 } : Room).cells ({ frames := 2, cells := 0, slots := 0, locals := 29 } : Room).slots) := by
  refine MetFree.of_bodySF (plainFor_of_name pn_com_example_triplewright_triplewright_rdf_Iri) hisR ?_
  intro p e s m args below meth c s₁ Bd hml0 hP hK
  obtain ⟨rfl, hZ, hh⟩ := hP
  have hx := Bd.exec
  have hby := Bd.bytes
  have hml : c.maxLocals = 3 := hml0
  have hown : s.vm.findClass "com/example/triplewright/triplewright/rdf/Iri" = some m.cls := findClass_of_methodNamed Bd.named
  have hnm := (name_of_methodNamed Bd.named Bd.method).1
  have X0 : Stand p l e ({ frames := 2, cells := 0, slots := 0, locals := 29 } : Room) s m #[(.ref u0), (.ref u1)] below meth c s₁ [] 0 0 := Stand.of_body Bd
  have e0 : s₁.heap = h0 := by rw [← hh, Bd.state]; rfl
  have N0 := Fr.nil n0
  have pre0 : ∀ t, Steps p.tables e below (s₁.setTop (mkF m 0 #[.val (.ref u0), .val (.ref u1), .unset] [])) t → Steps p.tables e below (s₁.setTop (entryFrame m #[(.ref u0), (.ref u1)] 3)) t := fun t k => castTop (ef_7 m u0 u1) k
  obtain ⟨T1, X1, e1, st1⟩ := instY X0 hx hZ hown (hw _ (List.mem_of_getElem? (i := 46) rfl)) e0 (Ins.self E_u1) (g := (mkF m 1 #[.val (.ref u0), .val (.ref u1), .unset] [(.ref u1)])) rfl rfl (hb hby d7_1)
  obtain ⟨T2, X2, e2, st2⟩ := castY X1 hx hZ hown (hw _ (List.mem_of_getElem? (i := 46) rfl)) e1 (Ins.self E_u1) (g := (mkF m 8 #[.val (.ref u0), .val (.ref u1), .unset] [(.ref u1)])) rfl rfl (hb hby d7_8)
  obtain ⟨T3, X3, e3, st3⟩ := getF X2 hx hZ hown (host := "") (Or.inl (hw _ (List.mem_of_getElem? (i := 39) rfl))) Via.refl e2 F_u0 (g := (mkF m 13 #[.val (.ref u0), .val (.ref u1), .val (.ref u1)] [(.ref u0)])) rfl rfl (hb hby d7_13)
  obtain ⟨T4, X4, e4, st4⟩ := getF X3 hx hZ hown (host := "") (Or.inl (hw _ (List.mem_of_getElem? (i := 39) rfl))) Via.refl e3 F_u1 (g := (mkF m 17 #[.val (.ref u0), .val (.ref u1), .val (.ref u1)] [(.ref u1), (.ref x0)])) rfl rfl (hb hby d7_17)
  obtain ⟨cq5, kq5, q5a, q5b, q5c⟩ := isOf hZ e4 E_x0
  obtain ⟨vv5, _, ⟨T5, L5, k5, n5⟩, -, X5, ⟨Lc5, hQ5, l5, y5, z5⟩, st5⟩ := X4.virtualBack hx (y := (⟨"java/lang/String", "equals", "(Ljava/lang/Object;)Z"⟩ : MethodName)) (z := (⟨"java/lang/String", "equals", "(Ljava/lang/Object;)Z"⟩ : MethodName)) hown (mvT hZ (hw _ (List.mem_of_getElem? (i := 48) rfl))) (mvT hZ (hw _ (List.mem_of_getElem? (i := 49) rfl))) (notFace_of_selects (args := #[]) (mvT hZ (hw _ (List.mem_of_getElem? (i := 51) rfl)))) (mvT hZ (hw _ (List.mem_of_getElem? (i := 51) rfl))) (mvT hZ (hw _ (List.mem_of_getElem? (i := 50) rfl))) (by decide) (StrChars.Road.eqW (W := 0) hZ (fun d hd => hw d ((by decide +kernel : ∀ d ∈ StrChars.Road.wordsEq, d ∈ tables_1) d hd)) (kI := 4) (hw _ (List.mem_of_getElem? (i := 5) rfl)) (cs := cs) (ds := ds) E_x0 F_value_x0 F_coder_x0 V_d0 (StrChars.Road.codOf rfl (fun c hc => (hb_x0 c hc).2)) (own_up _ hb_x0) hl_x0 E_y0 F_value_y0 F_coder_y0 V_d1 (StrChars.Road.codOf rfl (fun c hc => (hb_y0 c hc).2)) (own_up _ hb_y0) hl_y0 (S_COMPACT.ext O0.2) P_COMPACT (by decide) (by decide)) q5a q5c (g := (mkF m 20 #[.val (.ref u0), .val (.ref u1), .val (.ref u1)] [(.ref y0), (.ref x0)])) rfl (by rw [hml]; rfl) (Steps.refl _) (argsL := [(.ref y0)]) (rest := []) (lenOf pd_2 rfl) rfl (by show 2 * 0 + _ ≤ _; exact Nat.le_of_eq rfl) (hb hby d7_20) (fun _ _ => ⟨rfl, e4, (by decide : 0 + 0 ≤ _), (by decide : 0 + 0 ≤ _)⟩)
  dsimp only [Pt.U, Pt.locs, Pt.cells, Pt.slots] at X5 l5 y5 z5 st5 hQ5
  subst l5 y5 z5
  obtain ⟨hv5, rfl, e5⟩ := hQ5
  obtain rfl : vv5 = some (Value.int (eqI cs ds)) := hv5.elim (fun q => by rw [q.1, show eqI cs ds = 1 from if_pos q.2]) (fun q => by rw [q.1, show eqI cs ds = 0 from if_neg q.2])
  have N5 := Fr.app N0 (Fr.nil n0)
  by_cases hc23 : (eqI cs ds) = (0 : Int32)
  · obtain ⟨fs, hr, hrun, hended, hW, hsame⟩ := X5.leave (v := some (.int (0 : Int32))) (fun h => by rw [Bd.returns] at h; cases h)
    refine ⟨_, _, pre0 _ ?_, hrun, hended, _, _, rfl, ?_, ⟨_, rfl⟩, hW, hsame.mono (by decide) (by decide)⟩
    · show Steps p.tables e below (s₁.setTop (mkF m 0 #[.val (.ref u0), .val (.ref u1), .unset] [])) _
      refine XS.aloadN X0.here hx rfl (hb hby d7_0) rfl rfl ?_
      show Steps p.tables e below (s₁.setTop (mkF m 1 #[.val (.ref u0), .val (.ref u1), .unset] [(.ref u1)])) _
      refine st1 _ ?_
      show Steps p.tables e below (T1.setTop (mkF m 4 #[.val (.ref u0), .val (.ref u1), .unset] [(.int (1 : Int32))])) _
      refine XS.ifNo X1.here hx rfl (hb hby d7_4) rfl ((if0 _ _).trans (feq (by decide)).1) ?_
      show Steps p.tables e below (T1.setTop (mkF m 7 #[.val (.ref u0), .val (.ref u1), .unset] [])) _
      refine XS.aloadN X1.here hx rfl (hb hby d7_7) rfl rfl ?_
      show Steps p.tables e below (T1.setTop (mkF m 8 #[.val (.ref u0), .val (.ref u1), .unset] [(.ref u1)])) _
      refine st2 _ ?_
      show Steps p.tables e below (T2.setTop (mkF m 11 #[.val (.ref u0), .val (.ref u1), .unset] [(.ref u1)])) _
      refine XS.astoreN X2.here hx rfl (hb hby d7_11) rfl rfl (l' := #[.val (.ref u0), .val (.ref u1), .val (.ref u1)]) rfl ?_
      show Steps p.tables e below (T2.setTop (mkF m 12 #[.val (.ref u0), .val (.ref u1), .val (.ref u1)] [])) _
      refine XS.aloadN X2.here hx rfl (hb hby d7_12) rfl rfl ?_
      show Steps p.tables e below (T2.setTop (mkF m 13 #[.val (.ref u0), .val (.ref u1), .val (.ref u1)] [(.ref u0)])) _
      refine st3 _ ?_
      show Steps p.tables e below (T3.setTop (mkF m 16 #[.val (.ref u0), .val (.ref u1), .val (.ref u1)] [(.ref x0)])) _
      refine XS.aloadN X3.here hx rfl (hb hby d7_16) rfl rfl ?_
      show Steps p.tables e below (T3.setTop (mkF m 17 #[.val (.ref u0), .val (.ref u1), .val (.ref u1)] [(.ref u1), (.ref x0)])) _
      refine st4 _ ?_
      show Steps p.tables e below (T4.setTop (mkF m 20 #[.val (.ref u0), .val (.ref u1), .val (.ref u1)] [(.ref y0), (.ref x0)])) _
      refine st5.trans ?_
      show Steps p.tables e below (T5.setTop (mkF m 23 #[.val (.ref u0), .val (.ref u1), .val (.ref u1)] [(.int (eqI cs ds))])) _
      refine XS.ifYes X5.here hx rfl (pc0 := 23) (pc' := 30) rfl (hb hby d7_23) rfl ((if0 _ _).trans (teq hc23).1) (by decide) (by decide) ?_
      show Steps p.tables e below (T5.setTop (mkF m 30 #[.val (.ref u0), .val (.ref u1), .val (.ref u1)] [])) _
      refine XS.iconst X5.here hx rfl (hb hby d7_30) ?_
      show Steps p.tables e below (T5.setTop (mkF m 31 #[.val (.ref u0), .val (.ref u1), .val (.ref u1)] [(.int (0 : Int32))])) _
      exact retN X5 hx (t := .boolean) Bd.returns (by simp) (hb hby d7_31) hr
    · show Q7 Z u0 u1 x0 y0 d0 d1 k0 k1 cs ds G_COMPACT h0 n0 _ T5.heap _
      rw [e5]
      exact ⟨(by rw [hc23]), N5, rfl⟩
  · have hv : eqI cs ds = 1 := by unfold eqI at *; split at hc23 <;> simp_all
    obtain ⟨fs, hr, hrun, hended, hW, hsame⟩ := X5.leave (v := some (.int (1 : Int32))) (fun h => by rw [Bd.returns] at h; cases h)
    refine ⟨_, _, pre0 _ ?_, hrun, hended, _, _, rfl, ?_, ⟨_, rfl⟩, hW, hsame.mono (by decide) (by decide)⟩
    · show Steps p.tables e below (s₁.setTop (mkF m 0 #[.val (.ref u0), .val (.ref u1), .unset] [])) _
      refine XS.aloadN X0.here hx rfl (hb hby d7_0) rfl rfl ?_
      show Steps p.tables e below (s₁.setTop (mkF m 1 #[.val (.ref u0), .val (.ref u1), .unset] [(.ref u1)])) _
      refine st1 _ ?_
      show Steps p.tables e below (T1.setTop (mkF m 4 #[.val (.ref u0), .val (.ref u1), .unset] [(.int (1 : Int32))])) _
      refine XS.ifNo X1.here hx rfl (hb hby d7_4) rfl ((if0 _ _).trans (feq (by decide)).1) ?_
      show Steps p.tables e below (T1.setTop (mkF m 7 #[.val (.ref u0), .val (.ref u1), .unset] [])) _
      refine XS.aloadN X1.here hx rfl (hb hby d7_7) rfl rfl ?_
      show Steps p.tables e below (T1.setTop (mkF m 8 #[.val (.ref u0), .val (.ref u1), .unset] [(.ref u1)])) _
      refine st2 _ ?_
      show Steps p.tables e below (T2.setTop (mkF m 11 #[.val (.ref u0), .val (.ref u1), .unset] [(.ref u1)])) _
      refine XS.astoreN X2.here hx rfl (hb hby d7_11) rfl rfl (l' := #[.val (.ref u0), .val (.ref u1), .val (.ref u1)]) rfl ?_
      show Steps p.tables e below (T2.setTop (mkF m 12 #[.val (.ref u0), .val (.ref u1), .val (.ref u1)] [])) _
      refine XS.aloadN X2.here hx rfl (hb hby d7_12) rfl rfl ?_
      show Steps p.tables e below (T2.setTop (mkF m 13 #[.val (.ref u0), .val (.ref u1), .val (.ref u1)] [(.ref u0)])) _
      refine st3 _ ?_
      show Steps p.tables e below (T3.setTop (mkF m 16 #[.val (.ref u0), .val (.ref u1), .val (.ref u1)] [(.ref x0)])) _
      refine XS.aloadN X3.here hx rfl (hb hby d7_16) rfl rfl ?_
      show Steps p.tables e below (T3.setTop (mkF m 17 #[.val (.ref u0), .val (.ref u1), .val (.ref u1)] [(.ref u1), (.ref x0)])) _
      refine st4 _ ?_
      show Steps p.tables e below (T4.setTop (mkF m 20 #[.val (.ref u0), .val (.ref u1), .val (.ref u1)] [(.ref y0), (.ref x0)])) _
      refine st5.trans ?_
      show Steps p.tables e below (T5.setTop (mkF m 23 #[.val (.ref u0), .val (.ref u1), .val (.ref u1)] [(.int (eqI cs ds))])) _
      refine XS.ifNo X5.here hx rfl (hb hby d7_23) rfl ((if0 _ _).trans (feq hc23).1) ?_
      show Steps p.tables e below (T5.setTop (mkF m 26 #[.val (.ref u0), .val (.ref u1), .val (.ref u1)] [])) _
      refine XS.iconst X5.here hx rfl (hb hby d7_26) ?_
      show Steps p.tables e below (T5.setTop (mkF m 27 #[.val (.ref u0), .val (.ref u1), .val (.ref u1)] [(.int (1 : Int32))])) _
      refine XS.goto X5.here hx rfl (pc0 := 27) (pc' := 31) rfl (hb hby d7_27) (by decide) (by decide) ?_
      show Steps p.tables e below (T5.setTop (mkF m 31 #[.val (.ref u0), .val (.ref u1), .val (.ref u1)] [(.int (1 : Int32))])) _
      exact retN X5 hx (t := .boolean) Bd.returns (by simp) (hb hby d7_31) hr
    · show Q7 Z u0 u1 x0 y0 d0 d1 k0 k1 cs ds G_COMPACT h0 n0 _ T5.heap _
      rw [e5]
      exact ⟨(by rw [hv]), N5, rfl⟩
theorem ef_EqN (m : MethodId) (u0 : Addr) : entryFrame m #[(.ref u0), .null] 3 = mkF m 0 #[.val (.ref u0), .val .null, .unset] [] := by first | (simp [entryFrame, mkF, argsToLocals, Value.category]; done) | rfl
def QEqN (Z : State) (u0 : Addr) (h0 : Heap) (n0 : Nat) (v : Option Value) (h : Heap) (L : List Loc) : Prop := v = some (.int (0 : Int32)) ∧ Fr n0 L ∧ h = h0
set_option maxRecDepth 65536 in
set_option maxHeartbeats 40000000 in
theorem rmEqN (l : Launch) (Z : State) (a0 : Array Value) (hw : ∀ d ∈ tables_1, d.before a0 Z = true) (ws : List Jvm.Cond) (u0 : Addr) (h0 : Heap) (n0 : Nat) (Z0 : n0 ≤ h0.size) :
    MetFree l (⟨"com/example/triplewright/triplewright/rdf/Iri", "equals", "(Ljava/lang/Object;)Z"⟩ : MethodName) (head1 (Jvm.Cond.code (⟨"com/example/triplewright/triplewright/rdf/Iri", "equals", "(Ljava/lang/Object;)Z"⟩ : MethodName) prog_45_method_4_code 3 (some .boolean) :: ws) ({ frames := 0, cells := 0, slots := 0, locals := 0 } : Room)) (fun a U => a = #[(.ref u0), .null] ∧ Z.Warmed39 U.vm ∧ U.heap = h0) (fun _ _ _ _ _ => True) (fun _ U o U' => ∃ v L, o = .returned v ∧ QEqN Z u0 h0 n0 v U'.heap L ∧ FrameEnd U o U' L ({ frames := 0, cells := 0, slots := 0, locals := 0 } : Room).cells ({ frames := 0, cells := 0, slots := 0, locals := 0 } : Room).slots) := by
  refine MetFree.of_bodySF (plainFor_of_name pn_com_example_triplewright_triplewright_rdf_Iri) hisR ?_
  intro p e s m args below meth c s₁ Bd hml0 hP hK
  obtain ⟨rfl, hZ, hh⟩ := hP
  have hx := Bd.exec
  have hby := Bd.bytes
  have hml : c.maxLocals = 3 := hml0
  have hown : s.vm.findClass "com/example/triplewright/triplewright/rdf/Iri" = some m.cls := findClass_of_methodNamed Bd.named
  have hnm := (name_of_methodNamed Bd.named Bd.method).1
  have X0 : Stand p l e ({ frames := 0, cells := 0, slots := 0, locals := 0 } : Room) s m #[(.ref u0), .null] below meth c s₁ [] 0 0 := Stand.of_body Bd
  have e0 : s₁.heap = h0 := by rw [← hh, Bd.state]; rfl
  have N0 := Fr.nil n0
  have pre0 : ∀ t, Steps p.tables e below (s₁.setTop (mkF m 0 #[.val (.ref u0), .val .null, .unset] [])) t → Steps p.tables e below (s₁.setTop (entryFrame m #[(.ref u0), .null] 3)) t := fun t k => castTop (ef_EqN m u0) k
  obtain ⟨fs, hr, hrun, hended, hW, hsame⟩ := X0.leave (v := some (.int (0 : Int32))) (fun h => by rw [Bd.returns] at h; cases h)
  refine ⟨_, _, pre0 _ ?_, hrun, hended, _, _, rfl, ?_, ⟨_, rfl⟩, hW, hsame.mono (by decide) (by decide)⟩
  · show Steps p.tables e below (s₁.setTop (mkF m 0 #[.val (.ref u0), .val .null, .unset] [])) _
    refine XS.aloadN X0.here hx rfl (hb hby d7_0) rfl rfl ?_
    show Steps p.tables e below (s₁.setTop (mkF m 1 #[.val (.ref u0), .val .null, .unset] [.null])) _
    refine X0.instanceofNull hx (g := (mkF m 1 #[.val (.ref u0), .val .null, .unset] [.null])) rfl rfl (hb hby d7_1) _ ?_
    show Steps p.tables e below (s₁.setTop (mkF m 4 #[.val (.ref u0), .val .null, .unset] [(.int (0 : Int32))])) _
    refine XS.ifYes X0.here hx rfl (pc0 := 4) (pc' := 30) rfl (hb hby d7_4) rfl ((if0 _ _).trans (teq (by decide)).1) (by decide) (by decide) ?_
    show Steps p.tables e below (s₁.setTop (mkF m 30 #[.val (.ref u0), .val .null, .unset] [])) _
    refine XS.iconst X0.here hx rfl (hb hby d7_30) ?_
    show Steps p.tables e below (s₁.setTop (mkF m 31 #[.val (.ref u0), .val .null, .unset] [(.int (0 : Int32))])) _
    exact retN X0 hx (t := .boolean) Bd.returns (by simp) (hb hby d7_31) hr
  · show QEqN Z u0 h0 n0 _ s₁.heap _
    rw [e0]
    exact ⟨rfl, N0, rfl⟩
theorem ef_EqB (m : MethodId) (u0 : Addr) (u1 : Addr) : entryFrame m #[(.ref u0), (.ref u1)] 3 = mkF m 0 #[.val (.ref u0), .val (.ref u1), .unset] [] := by first | (simp [entryFrame, mkF, argsToLocals, Value.category]; done) | rfl
def QEqB (Z : State) (u0 : Addr) (u1 : Addr) (h0 : Heap) (n0 : Nat) (v : Option Value) (h : Heap) (L : List Loc) : Prop := v = some (.int (0 : Int32)) ∧ Fr n0 L ∧ h = h0
set_option maxRecDepth 65536 in
set_option maxHeartbeats 40000000 in
theorem rmEqB (l : Launch) (Z : State) (a0 : Array Value) (hw : ∀ d ∈ tables_1, d.before a0 Z = true) (ws : List Jvm.Cond) (u0 : Addr) (u1 : Addr) (h0 : Heap) (n0 : Nat) (Z0 : n0 ≤ h0.size) (E_u1 : Exa Z h0 u1 "com/example/triplewright/triplewright/rdf/BlankNode") :
    MetFree l (⟨"com/example/triplewright/triplewright/rdf/Iri", "equals", "(Ljava/lang/Object;)Z"⟩ : MethodName) (head1 (Jvm.Cond.code (⟨"com/example/triplewright/triplewright/rdf/Iri", "equals", "(Ljava/lang/Object;)Z"⟩ : MethodName) prog_45_method_4_code 3 (some .boolean) :: ws) ({ frames := 0, cells := 0, slots := 0, locals := 0 } : Room)) (fun a U => a = #[(.ref u0), (.ref u1)] ∧ Z.Warmed39 U.vm ∧ U.heap = h0) (fun _ _ _ _ _ => True) (fun _ U o U' => ∃ v L, o = .returned v ∧ QEqB Z u0 u1 h0 n0 v U'.heap L ∧ FrameEnd U o U' L ({ frames := 0, cells := 0, slots := 0, locals := 0 } : Room).cells ({ frames := 0, cells := 0, slots := 0, locals := 0 } : Room).slots) := by
  refine MetFree.of_bodySF (plainFor_of_name pn_com_example_triplewright_triplewright_rdf_Iri) hisR ?_
  intro p e s m args below meth c s₁ Bd hml0 hP hK
  obtain ⟨rfl, hZ, hh⟩ := hP
  have hx := Bd.exec
  have hby := Bd.bytes
  have hml : c.maxLocals = 3 := hml0
  have hown : s.vm.findClass "com/example/triplewright/triplewright/rdf/Iri" = some m.cls := findClass_of_methodNamed Bd.named
  have hnm := (name_of_methodNamed Bd.named Bd.method).1
  have X0 : Stand p l e ({ frames := 0, cells := 0, slots := 0, locals := 0 } : Room) s m #[(.ref u0), (.ref u1)] below meth c s₁ [] 0 0 := Stand.of_body Bd
  have e0 : s₁.heap = h0 := by rw [← hh, Bd.state]; rfl
  have N0 := Fr.nil n0
  have pre0 : ∀ t, Steps p.tables e below (s₁.setTop (mkF m 0 #[.val (.ref u0), .val (.ref u1), .unset] [])) t → Steps p.tables e below (s₁.setTop (entryFrame m #[(.ref u0), (.ref u1)] 3)) t := fun t k => castTop (ef_EqB m u0 u1) k
  obtain ⟨T1, X1, e1, st1⟩ := instNo X0 hx hZ hown (hw _ (List.mem_of_getElem? (i := 46) rfl)) e0 E_u1 (own_noB hw) (g := (mkF m 1 #[.val (.ref u0), .val (.ref u1), .unset] [(.ref u1)])) rfl rfl (hb hby d7_1)
  obtain ⟨fs, hr, hrun, hended, hW, hsame⟩ := X1.leave (v := some (.int (0 : Int32))) (fun h => by rw [Bd.returns] at h; cases h)
  refine ⟨_, _, pre0 _ ?_, hrun, hended, _, _, rfl, ?_, ⟨_, rfl⟩, hW, hsame.mono (by decide) (by decide)⟩
  · show Steps p.tables e below (s₁.setTop (mkF m 0 #[.val (.ref u0), .val (.ref u1), .unset] [])) _
    refine XS.aloadN X0.here hx rfl (hb hby d7_0) rfl rfl ?_
    show Steps p.tables e below (s₁.setTop (mkF m 1 #[.val (.ref u0), .val (.ref u1), .unset] [(.ref u1)])) _
    refine st1 _ ?_
    show Steps p.tables e below (T1.setTop (mkF m 4 #[.val (.ref u0), .val (.ref u1), .unset] [(.int (0 : Int32))])) _
    refine XS.ifYes X1.here hx rfl (pc0 := 4) (pc' := 30) rfl (hb hby d7_4) rfl ((if0 _ _).trans (teq (by decide)).1) (by decide) (by decide) ?_
    show Steps p.tables e below (T1.setTop (mkF m 30 #[.val (.ref u0), .val (.ref u1), .unset] [])) _
    refine XS.iconst X1.here hx rfl (hb hby d7_30) ?_
    show Steps p.tables e below (T1.setTop (mkF m 31 #[.val (.ref u0), .val (.ref u1), .unset] [(.int (0 : Int32))])) _
    exact retN X1 hx (t := .boolean) Bd.returns (by simp) (hb hby d7_31) hr
  · show QEqB Z u0 u1 h0 n0 _ T1.heap _
    rw [e1]
    exact ⟨rfl, N0, rfl⟩
theorem ef_EqS (m : MethodId) (u0 : Addr) (u1 : Addr) : entryFrame m #[(.ref u0), (.ref u1)] 3 = mkF m 0 #[.val (.ref u0), .val (.ref u1), .unset] [] := by first | (simp [entryFrame, mkF, argsToLocals, Value.category]; done) | rfl
def QEqS (Z : State) (u0 : Addr) (u1 : Addr) (h0 : Heap) (n0 : Nat) (v : Option Value) (h : Heap) (L : List Loc) : Prop := v = some (.int (0 : Int32)) ∧ Fr n0 L ∧ h = h0
set_option maxRecDepth 65536 in
set_option maxHeartbeats 40000000 in
theorem rmEqS (l : Launch) (Z : State) (a0 : Array Value) (hw : ∀ d ∈ tables_1, d.before a0 Z = true) (ws : List Jvm.Cond) (u0 : Addr) (u1 : Addr) (h0 : Heap) (n0 : Nat) (Z0 : n0 ≤ h0.size) (E_u1 : Exa Z h0 u1 "java/lang/String") :
    MetFree l (⟨"com/example/triplewright/triplewright/rdf/Iri", "equals", "(Ljava/lang/Object;)Z"⟩ : MethodName) (head1 (Jvm.Cond.code (⟨"com/example/triplewright/triplewright/rdf/Iri", "equals", "(Ljava/lang/Object;)Z"⟩ : MethodName) prog_45_method_4_code 3 (some .boolean) :: ws) ({ frames := 0, cells := 0, slots := 0, locals := 0 } : Room)) (fun a U => a = #[(.ref u0), (.ref u1)] ∧ Z.Warmed39 U.vm ∧ U.heap = h0) (fun _ _ _ _ _ => True) (fun _ U o U' => ∃ v L, o = .returned v ∧ QEqS Z u0 u1 h0 n0 v U'.heap L ∧ FrameEnd U o U' L ({ frames := 0, cells := 0, slots := 0, locals := 0 } : Room).cells ({ frames := 0, cells := 0, slots := 0, locals := 0 } : Room).slots) := by
  refine MetFree.of_bodySF (plainFor_of_name pn_com_example_triplewright_triplewright_rdf_Iri) hisR ?_
  intro p e s m args below meth c s₁ Bd hml0 hP hK
  obtain ⟨rfl, hZ, hh⟩ := hP
  have hx := Bd.exec
  have hby := Bd.bytes
  have hml : c.maxLocals = 3 := hml0
  have hown : s.vm.findClass "com/example/triplewright/triplewright/rdf/Iri" = some m.cls := findClass_of_methodNamed Bd.named
  have hnm := (name_of_methodNamed Bd.named Bd.method).1
  have X0 : Stand p l e ({ frames := 0, cells := 0, slots := 0, locals := 0 } : Room) s m #[(.ref u0), (.ref u1)] below meth c s₁ [] 0 0 := Stand.of_body Bd
  have e0 : s₁.heap = h0 := by rw [← hh, Bd.state]; rfl
  have N0 := Fr.nil n0
  have pre0 : ∀ t, Steps p.tables e below (s₁.setTop (mkF m 0 #[.val (.ref u0), .val (.ref u1), .unset] [])) t → Steps p.tables e below (s₁.setTop (entryFrame m #[(.ref u0), (.ref u1)] 3)) t := fun t k => castTop (ef_EqS m u0 u1) k
  obtain ⟨T1, X1, e1, st1⟩ := instNo X0 hx hZ hown (hw _ (List.mem_of_getElem? (i := 46) rfl)) e0 E_u1 (own_noS hw) (g := (mkF m 1 #[.val (.ref u0), .val (.ref u1), .unset] [(.ref u1)])) rfl rfl (hb hby d7_1)
  obtain ⟨fs, hr, hrun, hended, hW, hsame⟩ := X1.leave (v := some (.int (0 : Int32))) (fun h => by rw [Bd.returns] at h; cases h)
  refine ⟨_, _, pre0 _ ?_, hrun, hended, _, _, rfl, ?_, ⟨_, rfl⟩, hW, hsame.mono (by decide) (by decide)⟩
  · show Steps p.tables e below (s₁.setTop (mkF m 0 #[.val (.ref u0), .val (.ref u1), .unset] [])) _
    refine XS.aloadN X0.here hx rfl (hb hby d7_0) rfl rfl ?_
    show Steps p.tables e below (s₁.setTop (mkF m 1 #[.val (.ref u0), .val (.ref u1), .unset] [(.ref u1)])) _
    refine st1 _ ?_
    show Steps p.tables e below (T1.setTop (mkF m 4 #[.val (.ref u0), .val (.ref u1), .unset] [(.int (0 : Int32))])) _
    refine XS.ifYes X1.here hx rfl (pc0 := 4) (pc' := 30) rfl (hb hby d7_4) rfl ((if0 _ _).trans (teq (by decide)).1) (by decide) (by decide) ?_
    show Steps p.tables e below (T1.setTop (mkF m 30 #[.val (.ref u0), .val (.ref u1), .unset] [])) _
    refine XS.iconst X1.here hx rfl (hb hby d7_30) ?_
    show Steps p.tables e below (T1.setTop (mkF m 31 #[.val (.ref u0), .val (.ref u1), .unset] [(.int (0 : Int32))])) _
    exact retN X1 hx (t := .boolean) Bd.returns (by simp) (hb hby d7_31) hr
  · show QEqS Z u0 u1 h0 n0 _ T1.heap _
    rw [e1]
    exact ⟨rfl, N0, rfl⟩
theorem own_nnA (x : Int32) : 0 ≤ (x &&& (32767 : Int32)).toInt := (c_and x 32767 (by decide)).1
theorem own_nnB (x : Int32) : 0 ≤ (x &&& (127 : Int32)).toInt := (c_and x 127 (by decide)).1
theorem own_rem3 (x : Int32) (h : 0 ≤ x.toInt) : 0 ≤ (x % (3 : Int32)).toInt ∧ (x % (3 : Int32)).toInt ≤ 2 := by
  have q := (c_irem x 3 3 (by decide)).1 h
  rw [q]; omega
theorem own_012 {n : Int32} (h : 0 ≤ n.toInt ∧ n.toInt ≤ 2) : n = 0 ∨ n = 1 ∨ n = 2 := by
  have q : n.toInt = 0 ∨ n.toInt = 1 ∨ n.toInt = 2 := by omega
  rcases q with q | q | q
  · exact Or.inl (Int32.toInt_inj.mp q)
  · exact Or.inr (Or.inl (Int32.toInt_inj.mp q))
  · exact Or.inr (Or.inr (Int32.toInt_inj.mp q))
theorem own_same {la lb a0 a1 b0 b1 : Int32} (hla : 0 ≤ la.toInt ∧ la.toInt ≤ 2) (hlb : 0 ≤ lb.toInt ∧ lb.toInt ≤ 2) (ha0 : isC a0) (ha1 : isC a1) (hb0 : isC b0) (hb1 : isC b1) :
    eqI (csOf la a0 a1) (csOf lb b0 b1) = (if la = lb then (if la < (1 : Int32) then (if la < (2 : Int32) then 1 else (if a1 = b1 then 1 else 0)) else (if a0 = b0 then (if la < (2 : Int32) then 1 else (if a1 = b1 then 1 else 0)) else 0)) else 0) := by
  rcases own_012 hla with rfl | rfl | rfl <;> rcases own_012 hlb with rfl | rfl | rfl <;> simp +decide [eqI, csOf, ha0.1, ha1.1, hb0.1, hb1.1]
  all_goals (by_cases p : a0 = b0 <;> by_cases q : a1 = b1 <;> simp +decide [p, q])
theorem pd_1 : parseMethodDescriptor "(ICC)Ljava/lang/String;" = some ⟨[.int, .char, .char], some (.object "java/lang/String")⟩ := by decide +kernel
theorem pd_4 : parseMethodDescriptor "(Ljava/lang/String;)V" = some ⟨[(.object "java/lang/String")], none⟩ := by decide +kernel
theorem ef_0 (m : MethodId) (u0 : Int32) (u1 : Int32) (u2 : Int32) : entryFrame m #[(.int u0), (.int u1), (.int u2)] maxLocals = mkF m 0 #[.val (.int u0), .val (.int u1), .val (.int u2), .unset, .unset, .unset, .unset, .unset, .unset, .unset, .unset, .unset, .unset, .unset] [] := by first | (simp [entryFrame, mkF, argsToLocals, Value.category, maxLocals]; done) | rfl
def Q0 (Z : State) (u0 : Int32) (u1 : Int32) (u2 : Int32) (G_COMPACT : Int32) (h0 : Heap) (n0 : Nat) (v : Option Value) (h : Heap) (L : List Loc) : Prop := v = some (.int (1 : Int32)) ∧ Fr n0 L
set_option maxRecDepth 65536 in
set_option maxHeartbeats 40000000 in
theorem rm0 (l : Launch) (Z : State) (a0 : Array Value) (hw : ∀ d ∈ tables_1, d.before a0 Z = true) (ws : List Jvm.Cond) (u0 : Int32) (u1 : Int32) (u2 : Int32) (G_COMPACT : Int32) (h0 : Heap) (n0 : Nat) (Z0 : n0 ≤ h0.size) (O0 : Old Z n0 h0) (S_COMPACT : Sta Z Z.heap "java/lang/String" "COMPACT_STRINGS" "Z" (.int G_COMPACT)) (P_COMPACT : ¬ G_COMPACT = 0) :
    MetFree l x (head1 (Jvm.Cond.code x code maxLocals ret :: ws) room_1) (fun a U => a = #[(.int u0), (.int u1), (.int u2)] ∧ Z.Warmed39 U.vm ∧ U.heap = h0 ∧ CHv Z EL U.vm h0) (fun _ _ _ _ _ => True) (fun _ U o U' => ∃ v L, o = .returned v ∧ Q0 Z u0 u1 u2 G_COMPACT h0 n0 v U'.heap L ∧ CHr Z EL U.vm U.heap U'.vm U'.heap ∧ ReturnedEndW U o U' L room_1.cells room_1.slots) := by
  refine MetFree.of_bodySF (plainFor_of_name pn_com_example_triplewright_triplewright_rdf_IriEqualsPinLaw) hisR ?_
  intro p e s m args below meth c s₁ Bd hml0 hP hK
  obtain ⟨rfl, hZ, hh, hC0⟩ := hP
  replace hZ : Z.Warmed39 (s.setVm s.vm).vm := hZ
  have hx := Bd.exec
  have hby := Bd.bytes
  have hml : c.maxLocals = 14 := hml0
  have hown : (s.setVm s.vm).vm.findClass "com/example/triplewright/triplewright/rdf/IriEqualsPinLaw" = some m.cls := findClass_of_methodNamed Bd.named
  have hnm := (name_of_methodNamed Bd.named Bd.method).1
  have X0 : Stand p l e room_1 (s.setVm s.vm) m #[(.int u0), (.int u1), (.int u2)] below meth c s₁ [] 0 0 := Stand.of_body Bd
  have e0 : s₁.heap = h0 := by rw [← hh, Bd.state]; rfl
  have N0 := Fr.nil n0
  have pre0 : ∀ t, Steps p.tables e below (s₁.setTop (mkF m 0 #[.val (.int u0), .val (.int u1), .val (.int u2), .unset, .unset, .unset, .unset, .unset, .unset, .unset, .unset, .unset, .unset, .unset] [])) t → Steps p.tables e below (s₁.setTop (entryFrame m #[(.int u0), (.int u1), (.int u2)] maxLocals)) t := fun t k => castTop (ef_0 m u0 u1 u2) k
  have hS0 : s.Since s.vm s.heap.size := own_since s
  have hk0 : s.heap.size ≤ h0.size := Nat.le_of_eq (congrArg Array.size hh)
  have C0 : CHr Z EL s.vm h0 s.vm h0 := CHr.refl hC0
  have wS : ∀ d ∈ Bundle.stringAtoms, d.before a0 Z = true := fun d hd => hw d ((by decide +kernel : ∀ d ∈ Bundle.stringAtoms, d ∈ tables_1) d hd)
  obtain ⟨mv1_0, me1_0⟩ : ∃ z : Int32, z = (if (u1 &&& (1 : Int32)) = (0 : Int32) then ((u0 &&& (255 : Int32)).toUInt32.toUInt16.toUInt32.toInt32) else ((((u1.toUInt32 >>> ((8 : Int32) &&& 31).toUInt32).toInt32) &&& (255 : Int32)).toUInt32.toUInt16.toUInt32.toInt32)) := ⟨_, rfl⟩
  have st1 : ∀ target, Steps p.tables e below (s₁.setTop (mkF m 49 #[.val (.int u0), .val (.int u1), .val (.int u2), .val (.int ((u0 &&& (255 : Int32)).toUInt32.toUInt16.toUInt32.toInt32)), .val (.int ((((u0.toUInt32 >>> ((8 : Int32) &&& 31).toUInt32).toInt32) &&& (255 : Int32)).toUInt32.toUInt16.toUInt32.toInt32)), .val (.int ((((u0.toUInt32 >>> ((16 : Int32) &&& 31).toUInt32).toInt32) &&& (32767 : Int32)) % (3 : Int32))), .unset, .unset, .unset, .unset, .unset, .unset, .unset, .unset] [(.int mv1_0)])) target → Steps p.tables e below (s₁.setTop (mkF m 33 #[.val (.int u0), .val (.int u1), .val (.int u2), .val (.int ((u0 &&& (255 : Int32)).toUInt32.toUInt16.toUInt32.toInt32)), .val (.int ((((u0.toUInt32 >>> ((8 : Int32) &&& 31).toUInt32).toInt32) &&& (255 : Int32)).toUInt32.toUInt16.toUInt32.toInt32)), .val (.int ((((u0.toUInt32 >>> ((16 : Int32) &&& 31).toUInt32).toInt32) &&& (32767 : Int32)) % (3 : Int32))), .unset, .unset, .unset, .unset, .unset, .unset, .unset, .unset] [(.int (u1 &&& (1 : Int32)))])) target := by
    intro target kt
    rw [me1_0] at kt
    by_cases hc33 : (u1 &&& (1 : Int32)) = (0 : Int32)
    · simp only [if_pos hc33] at kt
      show Steps p.tables e below (s₁.setTop (mkF m 33 #[.val (.int u0), .val (.int u1), .val (.int u2), .val (.int ((u0 &&& (255 : Int32)).toUInt32.toUInt16.toUInt32.toInt32)), .val (.int ((((u0.toUInt32 >>> ((8 : Int32) &&& 31).toUInt32).toInt32) &&& (255 : Int32)).toUInt32.toUInt16.toUInt32.toInt32)), .val (.int ((((u0.toUInt32 >>> ((16 : Int32) &&& 31).toUInt32).toInt32) &&& (32767 : Int32)) % (3 : Int32))), .unset, .unset, .unset, .unset, .unset, .unset, .unset, .unset] [(.int (u1 &&& (1 : Int32)))])) _
      refine XS.ifNo X0.here hx rfl (hb hby at_33) rfl ((if0 _ _).trans (teq hc33).2) ?_
      show Steps p.tables e below (s₁.setTop (mkF m 36 #[.val (.int u0), .val (.int u1), .val (.int u2), .val (.int ((u0 &&& (255 : Int32)).toUInt32.toUInt16.toUInt32.toInt32)), .val (.int ((((u0.toUInt32 >>> ((8 : Int32) &&& 31).toUInt32).toInt32) &&& (255 : Int32)).toUInt32.toUInt16.toUInt32.toInt32)), .val (.int ((((u0.toUInt32 >>> ((16 : Int32) &&& 31).toUInt32).toInt32) &&& (32767 : Int32)) % (3 : Int32))), .unset, .unset, .unset, .unset, .unset, .unset, .unset, .unset] [])) _
      refine XS.iloadN X0.here hx rfl (hb hby at_36) rfl ?_
      show Steps p.tables e below (s₁.setTop (mkF m 37 #[.val (.int u0), .val (.int u1), .val (.int u2), .val (.int ((u0 &&& (255 : Int32)).toUInt32.toUInt16.toUInt32.toInt32)), .val (.int ((((u0.toUInt32 >>> ((8 : Int32) &&& 31).toUInt32).toInt32) &&& (255 : Int32)).toUInt32.toUInt16.toUInt32.toInt32)), .val (.int ((((u0.toUInt32 >>> ((16 : Int32) &&& 31).toUInt32).toInt32) &&& (32767 : Int32)) % (3 : Int32))), .unset, .unset, .unset, .unset, .unset, .unset, .unset, .unset] [(.int ((u0 &&& (255 : Int32)).toUInt32.toUInt16.toUInt32.toInt32))])) _
      refine XS.goto X0.here hx rfl (pc0 := 37) (pc' := 49) rfl (hb hby at_37) (by decide) (by decide) ?_
      exact kt
    · simp only [if_neg hc33] at kt
      show Steps p.tables e below (s₁.setTop (mkF m 33 #[.val (.int u0), .val (.int u1), .val (.int u2), .val (.int ((u0 &&& (255 : Int32)).toUInt32.toUInt16.toUInt32.toInt32)), .val (.int ((((u0.toUInt32 >>> ((8 : Int32) &&& 31).toUInt32).toInt32) &&& (255 : Int32)).toUInt32.toUInt16.toUInt32.toInt32)), .val (.int ((((u0.toUInt32 >>> ((16 : Int32) &&& 31).toUInt32).toInt32) &&& (32767 : Int32)) % (3 : Int32))), .unset, .unset, .unset, .unset, .unset, .unset, .unset, .unset] [(.int (u1 &&& (1 : Int32)))])) _
      refine XS.ifYes X0.here hx rfl (pc0 := 33) (pc' := 40) rfl (hb hby at_33) rfl ((if0 _ _).trans (feq hc33).2) (by decide) (by decide) ?_
      show Steps p.tables e below (s₁.setTop (mkF m 40 #[.val (.int u0), .val (.int u1), .val (.int u2), .val (.int ((u0 &&& (255 : Int32)).toUInt32.toUInt16.toUInt32.toInt32)), .val (.int ((((u0.toUInt32 >>> ((8 : Int32) &&& 31).toUInt32).toInt32) &&& (255 : Int32)).toUInt32.toUInt16.toUInt32.toInt32)), .val (.int ((((u0.toUInt32 >>> ((16 : Int32) &&& 31).toUInt32).toInt32) &&& (32767 : Int32)) % (3 : Int32))), .unset, .unset, .unset, .unset, .unset, .unset, .unset, .unset] [])) _
      refine XS.iloadN X0.here hx rfl (hb hby at_40) rfl ?_
      show Steps p.tables e below (s₁.setTop (mkF m 41 #[.val (.int u0), .val (.int u1), .val (.int u2), .val (.int ((u0 &&& (255 : Int32)).toUInt32.toUInt16.toUInt32.toInt32)), .val (.int ((((u0.toUInt32 >>> ((8 : Int32) &&& 31).toUInt32).toInt32) &&& (255 : Int32)).toUInt32.toUInt16.toUInt32.toInt32)), .val (.int ((((u0.toUInt32 >>> ((16 : Int32) &&& 31).toUInt32).toInt32) &&& (32767 : Int32)) % (3 : Int32))), .unset, .unset, .unset, .unset, .unset, .unset, .unset, .unset] [(.int u1)])) _
      refine XS.bipush X0.here hx rfl (hb hby at_41) ?_
      show Steps p.tables e below (s₁.setTop (mkF m 43 #[.val (.int u0), .val (.int u1), .val (.int u2), .val (.int ((u0 &&& (255 : Int32)).toUInt32.toUInt16.toUInt32.toInt32)), .val (.int ((((u0.toUInt32 >>> ((8 : Int32) &&& 31).toUInt32).toInt32) &&& (255 : Int32)).toUInt32.toUInt16.toUInt32.toInt32)), .val (.int ((((u0.toUInt32 >>> ((16 : Int32) &&& 31).toUInt32).toInt32) &&& (32767 : Int32)) % (3 : Int32))), .unset, .unset, .unset, .unset, .unset, .unset, .unset, .unset] [(.int (8 : Int32)), (.int u1)])) _
      refine XS.iushr X0.here hx rfl (hb hby at_43) rfl ?_
      show Steps p.tables e below (s₁.setTop (mkF m 44 #[.val (.int u0), .val (.int u1), .val (.int u2), .val (.int ((u0 &&& (255 : Int32)).toUInt32.toUInt16.toUInt32.toInt32)), .val (.int ((((u0.toUInt32 >>> ((8 : Int32) &&& 31).toUInt32).toInt32) &&& (255 : Int32)).toUInt32.toUInt16.toUInt32.toInt32)), .val (.int ((((u0.toUInt32 >>> ((16 : Int32) &&& 31).toUInt32).toInt32) &&& (32767 : Int32)) % (3 : Int32))), .unset, .unset, .unset, .unset, .unset, .unset, .unset, .unset] [(.int ((u1.toUInt32 >>> ((8 : Int32) &&& 31).toUInt32).toInt32))])) _
      refine XS.sipush X0.here hx rfl (hb hby at_44) ?_
      show Steps p.tables e below (s₁.setTop (mkF m 47 #[.val (.int u0), .val (.int u1), .val (.int u2), .val (.int ((u0 &&& (255 : Int32)).toUInt32.toUInt16.toUInt32.toInt32)), .val (.int ((((u0.toUInt32 >>> ((8 : Int32) &&& 31).toUInt32).toInt32) &&& (255 : Int32)).toUInt32.toUInt16.toUInt32.toInt32)), .val (.int ((((u0.toUInt32 >>> ((16 : Int32) &&& 31).toUInt32).toInt32) &&& (32767 : Int32)) % (3 : Int32))), .unset, .unset, .unset, .unset, .unset, .unset, .unset, .unset] [(.int (255 : Int32)), (.int ((u1.toUInt32 >>> ((8 : Int32) &&& 31).toUInt32).toInt32))])) _
      refine XS.iand X0.here hx rfl (hb hby at_47) rfl ?_
      show Steps p.tables e below (s₁.setTop (mkF m 48 #[.val (.int u0), .val (.int u1), .val (.int u2), .val (.int ((u0 &&& (255 : Int32)).toUInt32.toUInt16.toUInt32.toInt32)), .val (.int ((((u0.toUInt32 >>> ((8 : Int32) &&& 31).toUInt32).toInt32) &&& (255 : Int32)).toUInt32.toUInt16.toUInt32.toInt32)), .val (.int ((((u0.toUInt32 >>> ((16 : Int32) &&& 31).toUInt32).toInt32) &&& (32767 : Int32)) % (3 : Int32))), .unset, .unset, .unset, .unset, .unset, .unset, .unset, .unset] [(.int (((u1.toUInt32 >>> ((8 : Int32) &&& 31).toUInt32).toInt32) &&& (255 : Int32)))])) _
      refine XS.i2c X0.here hx rfl (hb hby at_48) rfl ?_
      exact kt
  obtain ⟨mv2_0, me2_0⟩ : ∃ z : Int32, z = (if (u1 &&& (2 : Int32)) = (0 : Int32) then ((((u0.toUInt32 >>> ((8 : Int32) &&& 31).toUInt32).toInt32) &&& (255 : Int32)).toUInt32.toUInt16.toUInt32.toInt32) else ((((u1.toUInt32 >>> ((16 : Int32) &&& 31).toUInt32).toInt32) &&& (255 : Int32)).toUInt32.toUInt16.toUInt32.toInt32)) := ⟨_, rfl⟩
  have st2 : ∀ target, Steps p.tables e below (s₁.setTop (mkF m 71 #[.val (.int u0), .val (.int u1), .val (.int u2), .val (.int ((u0 &&& (255 : Int32)).toUInt32.toUInt16.toUInt32.toInt32)), .val (.int ((((u0.toUInt32 >>> ((8 : Int32) &&& 31).toUInt32).toInt32) &&& (255 : Int32)).toUInt32.toUInt16.toUInt32.toInt32)), .val (.int ((((u0.toUInt32 >>> ((16 : Int32) &&& 31).toUInt32).toInt32) &&& (32767 : Int32)) % (3 : Int32))), .val (.int mv1_0), .unset, .unset, .unset, .unset, .unset, .unset, .unset] [(.int mv2_0)])) target → Steps p.tables e below (s₁.setTop (mkF m 54 #[.val (.int u0), .val (.int u1), .val (.int u2), .val (.int ((u0 &&& (255 : Int32)).toUInt32.toUInt16.toUInt32.toInt32)), .val (.int ((((u0.toUInt32 >>> ((8 : Int32) &&& 31).toUInt32).toInt32) &&& (255 : Int32)).toUInt32.toUInt16.toUInt32.toInt32)), .val (.int ((((u0.toUInt32 >>> ((16 : Int32) &&& 31).toUInt32).toInt32) &&& (32767 : Int32)) % (3 : Int32))), .val (.int mv1_0), .unset, .unset, .unset, .unset, .unset, .unset, .unset] [(.int (u1 &&& (2 : Int32)))])) target := by
    intro target kt
    rw [me2_0] at kt
    by_cases hc54 : (u1 &&& (2 : Int32)) = (0 : Int32)
    · simp only [if_pos hc54] at kt
      show Steps p.tables e below (s₁.setTop (mkF m 54 #[.val (.int u0), .val (.int u1), .val (.int u2), .val (.int ((u0 &&& (255 : Int32)).toUInt32.toUInt16.toUInt32.toInt32)), .val (.int ((((u0.toUInt32 >>> ((8 : Int32) &&& 31).toUInt32).toInt32) &&& (255 : Int32)).toUInt32.toUInt16.toUInt32.toInt32)), .val (.int ((((u0.toUInt32 >>> ((16 : Int32) &&& 31).toUInt32).toInt32) &&& (32767 : Int32)) % (3 : Int32))), .val (.int mv1_0), .unset, .unset, .unset, .unset, .unset, .unset, .unset] [(.int (u1 &&& (2 : Int32)))])) _
      refine XS.ifNo X0.here hx rfl (hb hby at_54) rfl ((if0 _ _).trans (teq hc54).2) ?_
      show Steps p.tables e below (s₁.setTop (mkF m 57 #[.val (.int u0), .val (.int u1), .val (.int u2), .val (.int ((u0 &&& (255 : Int32)).toUInt32.toUInt16.toUInt32.toInt32)), .val (.int ((((u0.toUInt32 >>> ((8 : Int32) &&& 31).toUInt32).toInt32) &&& (255 : Int32)).toUInt32.toUInt16.toUInt32.toInt32)), .val (.int ((((u0.toUInt32 >>> ((16 : Int32) &&& 31).toUInt32).toInt32) &&& (32767 : Int32)) % (3 : Int32))), .val (.int mv1_0), .unset, .unset, .unset, .unset, .unset, .unset, .unset] [])) _
      refine XS.iload X0.here hx rfl (hb hby at_57) rfl ?_
      show Steps p.tables e below (s₁.setTop (mkF m 59 #[.val (.int u0), .val (.int u1), .val (.int u2), .val (.int ((u0 &&& (255 : Int32)).toUInt32.toUInt16.toUInt32.toInt32)), .val (.int ((((u0.toUInt32 >>> ((8 : Int32) &&& 31).toUInt32).toInt32) &&& (255 : Int32)).toUInt32.toUInt16.toUInt32.toInt32)), .val (.int ((((u0.toUInt32 >>> ((16 : Int32) &&& 31).toUInt32).toInt32) &&& (32767 : Int32)) % (3 : Int32))), .val (.int mv1_0), .unset, .unset, .unset, .unset, .unset, .unset, .unset] [(.int ((((u0.toUInt32 >>> ((8 : Int32) &&& 31).toUInt32).toInt32) &&& (255 : Int32)).toUInt32.toUInt16.toUInt32.toInt32))])) _
      refine XS.goto X0.here hx rfl (pc0 := 59) (pc' := 71) rfl (hb hby at_59) (by decide) (by decide) ?_
      exact kt
    · simp only [if_neg hc54] at kt
      show Steps p.tables e below (s₁.setTop (mkF m 54 #[.val (.int u0), .val (.int u1), .val (.int u2), .val (.int ((u0 &&& (255 : Int32)).toUInt32.toUInt16.toUInt32.toInt32)), .val (.int ((((u0.toUInt32 >>> ((8 : Int32) &&& 31).toUInt32).toInt32) &&& (255 : Int32)).toUInt32.toUInt16.toUInt32.toInt32)), .val (.int ((((u0.toUInt32 >>> ((16 : Int32) &&& 31).toUInt32).toInt32) &&& (32767 : Int32)) % (3 : Int32))), .val (.int mv1_0), .unset, .unset, .unset, .unset, .unset, .unset, .unset] [(.int (u1 &&& (2 : Int32)))])) _
      refine XS.ifYes X0.here hx rfl (pc0 := 54) (pc' := 62) rfl (hb hby at_54) rfl ((if0 _ _).trans (feq hc54).2) (by decide) (by decide) ?_
      show Steps p.tables e below (s₁.setTop (mkF m 62 #[.val (.int u0), .val (.int u1), .val (.int u2), .val (.int ((u0 &&& (255 : Int32)).toUInt32.toUInt16.toUInt32.toInt32)), .val (.int ((((u0.toUInt32 >>> ((8 : Int32) &&& 31).toUInt32).toInt32) &&& (255 : Int32)).toUInt32.toUInt16.toUInt32.toInt32)), .val (.int ((((u0.toUInt32 >>> ((16 : Int32) &&& 31).toUInt32).toInt32) &&& (32767 : Int32)) % (3 : Int32))), .val (.int mv1_0), .unset, .unset, .unset, .unset, .unset, .unset, .unset] [])) _
      refine XS.iloadN X0.here hx rfl (hb hby at_62) rfl ?_
      show Steps p.tables e below (s₁.setTop (mkF m 63 #[.val (.int u0), .val (.int u1), .val (.int u2), .val (.int ((u0 &&& (255 : Int32)).toUInt32.toUInt16.toUInt32.toInt32)), .val (.int ((((u0.toUInt32 >>> ((8 : Int32) &&& 31).toUInt32).toInt32) &&& (255 : Int32)).toUInt32.toUInt16.toUInt32.toInt32)), .val (.int ((((u0.toUInt32 >>> ((16 : Int32) &&& 31).toUInt32).toInt32) &&& (32767 : Int32)) % (3 : Int32))), .val (.int mv1_0), .unset, .unset, .unset, .unset, .unset, .unset, .unset] [(.int u1)])) _
      refine XS.bipush X0.here hx rfl (hb hby at_63) ?_
      show Steps p.tables e below (s₁.setTop (mkF m 65 #[.val (.int u0), .val (.int u1), .val (.int u2), .val (.int ((u0 &&& (255 : Int32)).toUInt32.toUInt16.toUInt32.toInt32)), .val (.int ((((u0.toUInt32 >>> ((8 : Int32) &&& 31).toUInt32).toInt32) &&& (255 : Int32)).toUInt32.toUInt16.toUInt32.toInt32)), .val (.int ((((u0.toUInt32 >>> ((16 : Int32) &&& 31).toUInt32).toInt32) &&& (32767 : Int32)) % (3 : Int32))), .val (.int mv1_0), .unset, .unset, .unset, .unset, .unset, .unset, .unset] [(.int (16 : Int32)), (.int u1)])) _
      refine XS.iushr X0.here hx rfl (hb hby at_65) rfl ?_
      show Steps p.tables e below (s₁.setTop (mkF m 66 #[.val (.int u0), .val (.int u1), .val (.int u2), .val (.int ((u0 &&& (255 : Int32)).toUInt32.toUInt16.toUInt32.toInt32)), .val (.int ((((u0.toUInt32 >>> ((8 : Int32) &&& 31).toUInt32).toInt32) &&& (255 : Int32)).toUInt32.toUInt16.toUInt32.toInt32)), .val (.int ((((u0.toUInt32 >>> ((16 : Int32) &&& 31).toUInt32).toInt32) &&& (32767 : Int32)) % (3 : Int32))), .val (.int mv1_0), .unset, .unset, .unset, .unset, .unset, .unset, .unset] [(.int ((u1.toUInt32 >>> ((16 : Int32) &&& 31).toUInt32).toInt32))])) _
      refine XS.sipush X0.here hx rfl (hb hby at_66) ?_
      show Steps p.tables e below (s₁.setTop (mkF m 69 #[.val (.int u0), .val (.int u1), .val (.int u2), .val (.int ((u0 &&& (255 : Int32)).toUInt32.toUInt16.toUInt32.toInt32)), .val (.int ((((u0.toUInt32 >>> ((8 : Int32) &&& 31).toUInt32).toInt32) &&& (255 : Int32)).toUInt32.toUInt16.toUInt32.toInt32)), .val (.int ((((u0.toUInt32 >>> ((16 : Int32) &&& 31).toUInt32).toInt32) &&& (32767 : Int32)) % (3 : Int32))), .val (.int mv1_0), .unset, .unset, .unset, .unset, .unset, .unset, .unset] [(.int (255 : Int32)), (.int ((u1.toUInt32 >>> ((16 : Int32) &&& 31).toUInt32).toInt32))])) _
      refine XS.iand X0.here hx rfl (hb hby at_69) rfl ?_
      show Steps p.tables e below (s₁.setTop (mkF m 70 #[.val (.int u0), .val (.int u1), .val (.int u2), .val (.int ((u0 &&& (255 : Int32)).toUInt32.toUInt16.toUInt32.toInt32)), .val (.int ((((u0.toUInt32 >>> ((8 : Int32) &&& 31).toUInt32).toInt32) &&& (255 : Int32)).toUInt32.toUInt16.toUInt32.toInt32)), .val (.int ((((u0.toUInt32 >>> ((16 : Int32) &&& 31).toUInt32).toInt32) &&& (32767 : Int32)) % (3 : Int32))), .val (.int mv1_0), .unset, .unset, .unset, .unset, .unset, .unset, .unset] [(.int (((u1.toUInt32 >>> ((16 : Int32) &&& 31).toUInt32).toInt32) &&& (255 : Int32)))])) _
      refine XS.i2c X0.here hx rfl (hb hby at_70) rfl ?_
      exact kt
  obtain ⟨mv3_0, me3_0⟩ : ∃ z : Int32, z = (if (u1 &&& (4 : Int32)) = (0 : Int32) then ((((u0.toUInt32 >>> ((16 : Int32) &&& 31).toUInt32).toInt32) &&& (32767 : Int32)) % (3 : Int32)) else ((((u1.toUInt32 >>> ((24 : Int32) &&& 31).toUInt32).toInt32) &&& (127 : Int32)) % (3 : Int32))) := ⟨_, rfl⟩
  have st3 : ∀ target, Steps p.tables e below (s₁.setTop (mkF m 93 #[.val (.int u0), .val (.int u1), .val (.int u2), .val (.int ((u0 &&& (255 : Int32)).toUInt32.toUInt16.toUInt32.toInt32)), .val (.int ((((u0.toUInt32 >>> ((8 : Int32) &&& 31).toUInt32).toInt32) &&& (255 : Int32)).toUInt32.toUInt16.toUInt32.toInt32)), .val (.int ((((u0.toUInt32 >>> ((16 : Int32) &&& 31).toUInt32).toInt32) &&& (32767 : Int32)) % (3 : Int32))), .val (.int mv1_0), .val (.int mv2_0), .unset, .unset, .unset, .unset, .unset, .unset] [(.int mv3_0)])) target → Steps p.tables e below (s₁.setTop (mkF m 76 #[.val (.int u0), .val (.int u1), .val (.int u2), .val (.int ((u0 &&& (255 : Int32)).toUInt32.toUInt16.toUInt32.toInt32)), .val (.int ((((u0.toUInt32 >>> ((8 : Int32) &&& 31).toUInt32).toInt32) &&& (255 : Int32)).toUInt32.toUInt16.toUInt32.toInt32)), .val (.int ((((u0.toUInt32 >>> ((16 : Int32) &&& 31).toUInt32).toInt32) &&& (32767 : Int32)) % (3 : Int32))), .val (.int mv1_0), .val (.int mv2_0), .unset, .unset, .unset, .unset, .unset, .unset] [(.int (u1 &&& (4 : Int32)))])) target := by
    intro target kt
    rw [me3_0] at kt
    by_cases hc76 : (u1 &&& (4 : Int32)) = (0 : Int32)
    · simp only [if_pos hc76] at kt
      show Steps p.tables e below (s₁.setTop (mkF m 76 #[.val (.int u0), .val (.int u1), .val (.int u2), .val (.int ((u0 &&& (255 : Int32)).toUInt32.toUInt16.toUInt32.toInt32)), .val (.int ((((u0.toUInt32 >>> ((8 : Int32) &&& 31).toUInt32).toInt32) &&& (255 : Int32)).toUInt32.toUInt16.toUInt32.toInt32)), .val (.int ((((u0.toUInt32 >>> ((16 : Int32) &&& 31).toUInt32).toInt32) &&& (32767 : Int32)) % (3 : Int32))), .val (.int mv1_0), .val (.int mv2_0), .unset, .unset, .unset, .unset, .unset, .unset] [(.int (u1 &&& (4 : Int32)))])) _
      refine XS.ifNo X0.here hx rfl (hb hby at_76) rfl ((if0 _ _).trans (teq hc76).2) ?_
      show Steps p.tables e below (s₁.setTop (mkF m 79 #[.val (.int u0), .val (.int u1), .val (.int u2), .val (.int ((u0 &&& (255 : Int32)).toUInt32.toUInt16.toUInt32.toInt32)), .val (.int ((((u0.toUInt32 >>> ((8 : Int32) &&& 31).toUInt32).toInt32) &&& (255 : Int32)).toUInt32.toUInt16.toUInt32.toInt32)), .val (.int ((((u0.toUInt32 >>> ((16 : Int32) &&& 31).toUInt32).toInt32) &&& (32767 : Int32)) % (3 : Int32))), .val (.int mv1_0), .val (.int mv2_0), .unset, .unset, .unset, .unset, .unset, .unset] [])) _
      refine XS.iload X0.here hx rfl (hb hby at_79) rfl ?_
      show Steps p.tables e below (s₁.setTop (mkF m 81 #[.val (.int u0), .val (.int u1), .val (.int u2), .val (.int ((u0 &&& (255 : Int32)).toUInt32.toUInt16.toUInt32.toInt32)), .val (.int ((((u0.toUInt32 >>> ((8 : Int32) &&& 31).toUInt32).toInt32) &&& (255 : Int32)).toUInt32.toUInt16.toUInt32.toInt32)), .val (.int ((((u0.toUInt32 >>> ((16 : Int32) &&& 31).toUInt32).toInt32) &&& (32767 : Int32)) % (3 : Int32))), .val (.int mv1_0), .val (.int mv2_0), .unset, .unset, .unset, .unset, .unset, .unset] [(.int ((((u0.toUInt32 >>> ((16 : Int32) &&& 31).toUInt32).toInt32) &&& (32767 : Int32)) % (3 : Int32)))])) _
      refine XS.goto X0.here hx rfl (pc0 := 81) (pc' := 93) rfl (hb hby at_81) (by decide) (by decide) ?_
      exact kt
    · simp only [if_neg hc76] at kt
      show Steps p.tables e below (s₁.setTop (mkF m 76 #[.val (.int u0), .val (.int u1), .val (.int u2), .val (.int ((u0 &&& (255 : Int32)).toUInt32.toUInt16.toUInt32.toInt32)), .val (.int ((((u0.toUInt32 >>> ((8 : Int32) &&& 31).toUInt32).toInt32) &&& (255 : Int32)).toUInt32.toUInt16.toUInt32.toInt32)), .val (.int ((((u0.toUInt32 >>> ((16 : Int32) &&& 31).toUInt32).toInt32) &&& (32767 : Int32)) % (3 : Int32))), .val (.int mv1_0), .val (.int mv2_0), .unset, .unset, .unset, .unset, .unset, .unset] [(.int (u1 &&& (4 : Int32)))])) _
      refine XS.ifYes X0.here hx rfl (pc0 := 76) (pc' := 84) rfl (hb hby at_76) rfl ((if0 _ _).trans (feq hc76).2) (by decide) (by decide) ?_
      show Steps p.tables e below (s₁.setTop (mkF m 84 #[.val (.int u0), .val (.int u1), .val (.int u2), .val (.int ((u0 &&& (255 : Int32)).toUInt32.toUInt16.toUInt32.toInt32)), .val (.int ((((u0.toUInt32 >>> ((8 : Int32) &&& 31).toUInt32).toInt32) &&& (255 : Int32)).toUInt32.toUInt16.toUInt32.toInt32)), .val (.int ((((u0.toUInt32 >>> ((16 : Int32) &&& 31).toUInt32).toInt32) &&& (32767 : Int32)) % (3 : Int32))), .val (.int mv1_0), .val (.int mv2_0), .unset, .unset, .unset, .unset, .unset, .unset] [])) _
      refine XS.iloadN X0.here hx rfl (hb hby at_84) rfl ?_
      show Steps p.tables e below (s₁.setTop (mkF m 85 #[.val (.int u0), .val (.int u1), .val (.int u2), .val (.int ((u0 &&& (255 : Int32)).toUInt32.toUInt16.toUInt32.toInt32)), .val (.int ((((u0.toUInt32 >>> ((8 : Int32) &&& 31).toUInt32).toInt32) &&& (255 : Int32)).toUInt32.toUInt16.toUInt32.toInt32)), .val (.int ((((u0.toUInt32 >>> ((16 : Int32) &&& 31).toUInt32).toInt32) &&& (32767 : Int32)) % (3 : Int32))), .val (.int mv1_0), .val (.int mv2_0), .unset, .unset, .unset, .unset, .unset, .unset] [(.int u1)])) _
      refine XS.bipush X0.here hx rfl (hb hby at_85) ?_
      show Steps p.tables e below (s₁.setTop (mkF m 87 #[.val (.int u0), .val (.int u1), .val (.int u2), .val (.int ((u0 &&& (255 : Int32)).toUInt32.toUInt16.toUInt32.toInt32)), .val (.int ((((u0.toUInt32 >>> ((8 : Int32) &&& 31).toUInt32).toInt32) &&& (255 : Int32)).toUInt32.toUInt16.toUInt32.toInt32)), .val (.int ((((u0.toUInt32 >>> ((16 : Int32) &&& 31).toUInt32).toInt32) &&& (32767 : Int32)) % (3 : Int32))), .val (.int mv1_0), .val (.int mv2_0), .unset, .unset, .unset, .unset, .unset, .unset] [(.int (24 : Int32)), (.int u1)])) _
      refine XS.iushr X0.here hx rfl (hb hby at_87) rfl ?_
      show Steps p.tables e below (s₁.setTop (mkF m 88 #[.val (.int u0), .val (.int u1), .val (.int u2), .val (.int ((u0 &&& (255 : Int32)).toUInt32.toUInt16.toUInt32.toInt32)), .val (.int ((((u0.toUInt32 >>> ((8 : Int32) &&& 31).toUInt32).toInt32) &&& (255 : Int32)).toUInt32.toUInt16.toUInt32.toInt32)), .val (.int ((((u0.toUInt32 >>> ((16 : Int32) &&& 31).toUInt32).toInt32) &&& (32767 : Int32)) % (3 : Int32))), .val (.int mv1_0), .val (.int mv2_0), .unset, .unset, .unset, .unset, .unset, .unset] [(.int ((u1.toUInt32 >>> ((24 : Int32) &&& 31).toUInt32).toInt32))])) _
      refine XS.bipush X0.here hx rfl (hb hby at_88) ?_
      show Steps p.tables e below (s₁.setTop (mkF m 90 #[.val (.int u0), .val (.int u1), .val (.int u2), .val (.int ((u0 &&& (255 : Int32)).toUInt32.toUInt16.toUInt32.toInt32)), .val (.int ((((u0.toUInt32 >>> ((8 : Int32) &&& 31).toUInt32).toInt32) &&& (255 : Int32)).toUInt32.toUInt16.toUInt32.toInt32)), .val (.int ((((u0.toUInt32 >>> ((16 : Int32) &&& 31).toUInt32).toInt32) &&& (32767 : Int32)) % (3 : Int32))), .val (.int mv1_0), .val (.int mv2_0), .unset, .unset, .unset, .unset, .unset, .unset] [(.int (127 : Int32)), (.int ((u1.toUInt32 >>> ((24 : Int32) &&& 31).toUInt32).toInt32))])) _
      refine XS.iand X0.here hx rfl (hb hby at_90) rfl ?_
      show Steps p.tables e below (s₁.setTop (mkF m 91 #[.val (.int u0), .val (.int u1), .val (.int u2), .val (.int ((u0 &&& (255 : Int32)).toUInt32.toUInt16.toUInt32.toInt32)), .val (.int ((((u0.toUInt32 >>> ((8 : Int32) &&& 31).toUInt32).toInt32) &&& (255 : Int32)).toUInt32.toUInt16.toUInt32.toInt32)), .val (.int ((((u0.toUInt32 >>> ((16 : Int32) &&& 31).toUInt32).toInt32) &&& (32767 : Int32)) % (3 : Int32))), .val (.int mv1_0), .val (.int mv2_0), .unset, .unset, .unset, .unset, .unset, .unset] [(.int (((u1.toUInt32 >>> ((24 : Int32) &&& 31).toUInt32).toInt32) &&& (127 : Int32)))])) _
      refine XS.iconst X0.here hx rfl (hb hby at_91) ?_
      show Steps p.tables e below (s₁.setTop (mkF m 92 #[.val (.int u0), .val (.int u1), .val (.int u2), .val (.int ((u0 &&& (255 : Int32)).toUInt32.toUInt16.toUInt32.toInt32)), .val (.int ((((u0.toUInt32 >>> ((8 : Int32) &&& 31).toUInt32).toInt32) &&& (255 : Int32)).toUInt32.toUInt16.toUInt32.toInt32)), .val (.int ((((u0.toUInt32 >>> ((16 : Int32) &&& 31).toUInt32).toInt32) &&& (32767 : Int32)) % (3 : Int32))), .val (.int mv1_0), .val (.int mv2_0), .unset, .unset, .unset, .unset, .unset, .unset] [(.int (3 : Int32)), (.int (((u1.toUInt32 >>> ((24 : Int32) &&& 31).toUInt32).toInt32) &&& (127 : Int32)))])) _
      refine iremM X0 hx rfl (hb hby at_92) rfl (by decide) ?_
      exact kt
  have hCa0 : isC ((u0 &&& (255 : Int32)).toUInt32.toUInt16.toUInt32.toInt32) := own_isC _
  have hCa1 : isC ((((u0.toUInt32 >>> ((8 : Int32) &&& 31).toUInt32).toInt32) &&& (255 : Int32)).toUInt32.toUInt16.toUInt32.toInt32) := own_isC _
  have hCb0 : isC mv1_0 := by rw [me1_0]; exact own_isC_ite (own_isC _) (own_isC _)
  have hCb1 : isC mv2_0 := by rw [me2_0]; exact own_isC_ite (own_isC _) (own_isC _)
  have hla := own_rem3 (((u0.toUInt32 >>> ((16 : Int32) &&& 31).toUInt32).toInt32) &&& (32767 : Int32))
  have hlb : 0 ≤ mv3_0.toInt ∧ mv3_0.toInt ≤ 2 := by rw [me3_0]; split; exact own_rem3 _ (own_nnA _); exact own_rem3 _ (own_nnB _)
  replace hla := hla (own_nnA _)
  obtain ⟨_, _, ⟨T4, L4, k4, n4⟩, -, X4, hS4, gr4, ⟨Lc4, hQ4, l4, y4, z4, Cq4⟩, st4⟩ := callSS X0 hx (y := (⟨"com/example/triplewright/triplewright/rdf/IriEqualsPinLaw", "make", "(ICC)Ljava/lang/String;"⟩ : MethodName)) hown (mvT hZ (hw _ (List.mem_of_getElem? (i := 0) rfl))) (mvT hZ (hw _ (List.mem_of_getElem? (i := 1) rfl))) (mvT hZ (hw _ (List.mem_of_getElem? (i := 2) rfl))) (mvT hZ (hw _ (List.mem_of_getElem? (i := 3) rfl))) (by decide) (backOfSH (W := 0) (rm1 l Z a0 hw [] ((((u0.toUInt32 >>> ((16 : Int32) &&& 31).toUInt32).toInt32) &&& (32767 : Int32)) % (3 : Int32)) ((u0 &&& (255 : Int32)).toUInt32.toUInt16.toUInt32.toInt32) ((((u0.toUInt32 >>> ((8 : Int32) &&& 31).toUInt32).toInt32) &&& (255 : Int32)).toUInt32.toUInt16.toUInt32.toInt32) G_COMPACT h0 n0 Z0 O0 S_COMPACT P_COMPACT hCa0 hCa1) hZ (hw _ (List.mem_of_getElem? (i := 3) rfl)) (hw _ (List.mem_of_getElem? (i := 2) rfl)) (by decide) (by decide) (hEL hw) C0.1) (g := (mkF m 100 #[.val (.int u0), .val (.int u1), .val (.int u2), .val (.int ((u0 &&& (255 : Int32)).toUInt32.toUInt16.toUInt32.toInt32)), .val (.int ((((u0.toUInt32 >>> ((8 : Int32) &&& 31).toUInt32).toInt32) &&& (255 : Int32)).toUInt32.toUInt16.toUInt32.toInt32)), .val (.int ((((u0.toUInt32 >>> ((16 : Int32) &&& 31).toUInt32).toInt32) &&& (32767 : Int32)) % (3 : Int32))), .val (.int mv1_0), .val (.int mv2_0), .val (.int mv3_0), .unset, .unset, .unset, .unset, .unset] [(.int ((((u0.toUInt32 >>> ((8 : Int32) &&& 31).toUInt32).toInt32) &&& (255 : Int32)).toUInt32.toUInt16.toUInt32.toInt32)), (.int ((u0 &&& (255 : Int32)).toUInt32.toUInt16.toUInt32.toInt32)), (.int ((((u0.toUInt32 >>> ((16 : Int32) &&& 31).toUInt32).toInt32) &&& (32767 : Int32)) % (3 : Int32)))])) rfl (by rw [hml]; rfl) (argsL := [(.int ((((u0.toUInt32 >>> ((16 : Int32) &&& 31).toUInt32).toInt32) &&& (32767 : Int32)) % (3 : Int32))), (.int ((u0 &&& (255 : Int32)).toUInt32.toUInt16.toUInt32.toInt32)), (.int ((((u0.toUInt32 >>> ((8 : Int32) &&& 31).toUInt32).toInt32) &&& (255 : Int32)).toUInt32.toUInt16.toUInt32.toInt32))]) (rest := []) (lenOf pd_1 rfl) rfl (by show 2 * 0 + _ ≤ _; exact Nat.le_of_eq rfl) (hb hby at_100) (fun _ _ => ⟨rfl, e0, (by decide : 0 + 6 ≤ _), (by decide : 0 + 12 ≤ _)⟩)
  dsimp only [Pt.U, Pt.locs, Pt.cells, Pt.slots] at X4 l4 y4 z4 st4 hQ4 hS4 gr4 Cq4
  subst l4 y4 z4
  obtain ⟨X4, hS4, hZ, hown⟩ := rebS hS0 (Nat.le_trans hk0 (Nat.le_of_eq (congrArg Array.size e0).symm)) X4 hS4 gr4 hZ hown
  have hk4 := Nat.le_refl T4.heap.size
  obtain ⟨s4, d4, kc4, rfl, N4q, K4, A4, F4_coder, F4_value, V4⟩ := hQ4
  have N4 := Fr.app N0 N4q
  have Z4 : n0 ≤ T4.heap.size := Nat.le_trans Z0 K4.1
  have KK4 := (Keep.refl h0 []).trans K4 all0
  have O4 := O0.keep K4 all0
  have C4 := C0.trans Cq4
  obtain ⟨_, _, ⟨T5, L5, k5, n5⟩, -, X5, hS5, gr5, ⟨Lc5, hQ5, l5, y5, z5, Cq5⟩, st5⟩ := callSS X4 hx (y := (⟨"com/example/triplewright/triplewright/rdf/IriEqualsPinLaw", "make", "(ICC)Ljava/lang/String;"⟩ : MethodName)) hown (mvT hZ (hw _ (List.mem_of_getElem? (i := 0) rfl))) (mvT hZ (hw _ (List.mem_of_getElem? (i := 1) rfl))) (mvT hZ (hw _ (List.mem_of_getElem? (i := 2) rfl))) (mvT hZ (hw _ (List.mem_of_getElem? (i := 3) rfl))) (by decide) (backOfSH (W := 0) (rm1 l Z a0 hw [] mv3_0 mv1_0 mv2_0 G_COMPACT T4.heap n0 Z4 O4 S_COMPACT P_COMPACT hCb0 hCb1) hZ (hw _ (List.mem_of_getElem? (i := 3) rfl)) (hw _ (List.mem_of_getElem? (i := 2) rfl)) (by decide) (by decide) (hEL hw) C4.1) (g := (mkF m 111 #[.val (.int u0), .val (.int u1), .val (.int u2), .val (.int ((u0 &&& (255 : Int32)).toUInt32.toUInt16.toUInt32.toInt32)), .val (.int ((((u0.toUInt32 >>> ((8 : Int32) &&& 31).toUInt32).toInt32) &&& (255 : Int32)).toUInt32.toUInt16.toUInt32.toInt32)), .val (.int ((((u0.toUInt32 >>> ((16 : Int32) &&& 31).toUInt32).toInt32) &&& (32767 : Int32)) % (3 : Int32))), .val (.int mv1_0), .val (.int mv2_0), .val (.int mv3_0), .val (.ref s4), .unset, .unset, .unset, .unset] [(.int mv2_0), (.int mv1_0), (.int mv3_0)])) rfl (by rw [hml]; rfl) (argsL := [(.int mv3_0), (.int mv1_0), (.int mv2_0)]) (rest := []) (lenOf pd_1 rfl) rfl (by show 2 * 0 + _ ≤ _; exact Nat.le_of_eq rfl) (hb hby at_111) (fun _ _ => ⟨rfl, rfl, (by decide : 6 + 6 ≤ _), (by decide : 12 + 12 ≤ _)⟩)
  dsimp only [Pt.U, Pt.locs, Pt.cells, Pt.slots] at X5 l5 y5 z5 st5 hQ5 hS5 gr5 Cq5
  subst l5 y5 z5
  obtain ⟨X5, hS5, hZ, hown⟩ := rebS hS4 (Nat.le_trans hk4 (Nat.le_of_eq (congrArg Array.size rfl).symm)) X5 hS5 gr5 hZ hown
  have hk5 := Nat.le_refl T5.heap.size
  obtain ⟨s5, d5, kc5, rfl, N5q, K5, A5, F5_coder, F5_value, V5⟩ := hQ5
  have N5 := Fr.app N4 N5q
  have Z5 : n0 ≤ T5.heap.size := Nat.le_trans Z4 K5.1
  have KK5 := KK4.trans K5 all0
  have O5 := O4.keep K5 all0
  have C5 := C4.trans Cq5
  obtain ⟨T6, h6, X6, e6, E6, A6, D6, -, st6⟩ := newO X5 hx hZ hown (hw _ (List.mem_of_getElem? (i := 26) rfl)) (hw _ (List.mem_of_getElem? (i := 27) rfl)) (hw _ (List.mem_of_getElem? (i := 28) rfl)) rfl (g := (mkF m 116 #[.val (.int u0), .val (.int u1), .val (.int u2), .val (.int ((u0 &&& (255 : Int32)).toUInt32.toUInt16.toUInt32.toInt32)), .val (.int ((((u0.toUInt32 >>> ((8 : Int32) &&& 31).toUInt32).toInt32) &&& (255 : Int32)).toUInt32.toUInt16.toUInt32.toInt32)), .val (.int ((((u0.toUInt32 >>> ((16 : Int32) &&& 31).toUInt32).toInt32) &&& (32767 : Int32)) % (3 : Int32))), .val (.int mv1_0), .val (.int mv2_0), .val (.int mv3_0), .val (.ref s4), .val (.ref s5), .unset, .unset, .unset] [])) rfl (hb hby at_116) (by decide) (by decide)
  obtain ⟨b6, g6⟩ : ∃ z, z = T5.heap.size := ⟨_, rfl⟩
  rw [← g6] at A6 D6 st6
  have g_b6 : n0 ≤ b6 := Nat.le_trans Z5 (Nat.le_of_eq g6.symm)
  have sz_b6 : h0.size ≤ b6 := Nat.le_trans KK5.1 (Nat.le_of_eq g6.symm)
  have Z6 : n0 ≤ h6.size := Nat.le_trans Z5 E6.1
  have KK6 := KK5.ext E6
  have O6 := O5.ext E6
  have C6 := C5.trans (CHr.ext E6 C5.1)
  have hk6 := Nat.le_trans hk5 E6.1
  have F6_value : Fld Z h6 b6 "com/example/triplewright/triplewright/rdf/Iri" "value" "Ljava/lang/String;" .null := D6 (Or.inr (hw _ (List.mem_of_getElem? (i := 40) rfl))) (ty := (.object "java/lang/String")) (by decide)
  obtain ⟨_, _, ⟨T7, L7, k7, n7⟩, -, X7, hS7, gr7, ⟨Lc7, hQ7, l7, y7, z7, Cq7⟩, st7⟩ := X6.specialBackS hx (y := (⟨"com/example/triplewright/triplewright/rdf/Iri", "<init>", "(Ljava/lang/String;)V"⟩ : MethodName)) rfl hown (mvT hZ (hw _ (List.mem_of_getElem? (i := 29) rfl))) (mvT hZ (hw _ (List.mem_of_getElem? (i := 30) rfl))) (mvT hZ (hw _ (List.mem_of_getElem? (i := 31) rfl))) (by decide) (backOfSH (W := 1) (rm5 l Z a0 hw [] b6 s4 h6 n0 Z6 g_b6 A6 F6_value ((A4.keep K5).ext E6)) hZ (hw _ (List.mem_of_getElem? (i := 31) rfl)) (hw _ (List.mem_of_getElem? (i := 28) rfl)) (by decide) (by decide) (hEL hw) C6.1) (g := (mkF m 122 #[.val (.int u0), .val (.int u1), .val (.int u2), .val (.int ((u0 &&& (255 : Int32)).toUInt32.toUInt16.toUInt32.toInt32)), .val (.int ((((u0.toUInt32 >>> ((8 : Int32) &&& 31).toUInt32).toInt32) &&& (255 : Int32)).toUInt32.toUInt16.toUInt32.toInt32)), .val (.int ((((u0.toUInt32 >>> ((16 : Int32) &&& 31).toUInt32).toInt32) &&& (32767 : Int32)) % (3 : Int32))), .val (.int mv1_0), .val (.int mv2_0), .val (.int mv3_0), .val (.ref s4), .val (.ref s5), .unset, .unset, .unset] [(.ref s4), (.ref b6), (.ref b6)])) rfl (by rw [hml]; rfl) (Steps.refl _) (a := b6) (argsL := [(.ref s4)]) (rest := [(.ref b6)]) (lenOf pd_4 rfl) rfl (by show 2 * 0 + _ ≤ _; exact Nat.le_of_eq rfl) (hb hby at_122) (fun _ _ => ⟨rfl, e6, (by decide : 13 + 2 ≤ _), (by decide : 26 + 24 ≤ _)⟩)
  dsimp only [Pt.U, Pt.locs, Pt.cells, Pt.slots] at X7 l7 y7 z7 st7 hQ7 hS7 gr7 Cq7
  subst l7 y7 z7
  obtain ⟨X7, hS7, hZ, hown⟩ := rebS hS5 (Nat.le_trans hk6 (Nat.le_of_eq (congrArg Array.size e6).symm)) X7 hS7 gr7 hZ hown
  have hk7 := Nat.le_refl T7.heap.size
  obtain ⟨rfl, N7q, K7, A7, F7_value⟩ := hQ7
  have N7 := Fr.app N5 N7q
  have Z7 : n0 ≤ T7.heap.size := Nat.le_trans Z6 K7.1
  have KK7 := KK6.trans K7 (allS (P := fun x => x ∈ [] ∨ h0.size ≤ x) (Or.inr sz_b6) all0)
  have O7 := O6.keep K7 (allS g_b6 all0)
  have C7 := C6.trans Cq7
  obtain ⟨mv8_0, me8_0⟩ : ∃ z : Int32, z = (if ((((u0.toUInt32 >>> ((16 : Int32) &&& 31).toUInt32).toInt32) &&& (32767 : Int32)) % (3 : Int32)) = mv3_0 then (if ((((u0.toUInt32 >>> ((16 : Int32) &&& 31).toUInt32).toInt32) &&& (32767 : Int32)) % (3 : Int32)) < (1 : Int32) then (if ((((u0.toUInt32 >>> ((16 : Int32) &&& 31).toUInt32).toInt32) &&& (32767 : Int32)) % (3 : Int32)) < (2 : Int32) then (1 : Int32) else (if ((((u0.toUInt32 >>> ((8 : Int32) &&& 31).toUInt32).toInt32) &&& (255 : Int32)).toUInt32.toUInt16.toUInt32.toInt32) = mv2_0 then (1 : Int32) else (0 : Int32))) else (if ((u0 &&& (255 : Int32)).toUInt32.toUInt16.toUInt32.toInt32) = mv1_0 then (if ((((u0.toUInt32 >>> ((16 : Int32) &&& 31).toUInt32).toInt32) &&& (32767 : Int32)) % (3 : Int32)) < (2 : Int32) then (1 : Int32) else (if ((((u0.toUInt32 >>> ((8 : Int32) &&& 31).toUInt32).toInt32) &&& (255 : Int32)).toUInt32.toUInt16.toUInt32.toInt32) = mv2_0 then (1 : Int32) else (0 : Int32))) else (0 : Int32))) else (0 : Int32)) := ⟨_, rfl⟩
  have st8 : ∀ target, Steps p.tables e below (T7.setTop (mkF m 164 #[.val (.int u0), .val (.int u1), .val (.int u2), .val (.int ((u0 &&& (255 : Int32)).toUInt32.toUInt16.toUInt32.toInt32)), .val (.int ((((u0.toUInt32 >>> ((8 : Int32) &&& 31).toUInt32).toInt32) &&& (255 : Int32)).toUInt32.toUInt16.toUInt32.toInt32)), .val (.int ((((u0.toUInt32 >>> ((16 : Int32) &&& 31).toUInt32).toInt32) &&& (32767 : Int32)) % (3 : Int32))), .val (.int mv1_0), .val (.int mv2_0), .val (.int mv3_0), .val (.ref s4), .val (.ref s5), .val (.ref b6), .unset, .unset] [(.int mv8_0)])) target → Steps p.tables e below (T7.setTop (mkF m 131 #[.val (.int u0), .val (.int u1), .val (.int u2), .val (.int ((u0 &&& (255 : Int32)).toUInt32.toUInt16.toUInt32.toInt32)), .val (.int ((((u0.toUInt32 >>> ((8 : Int32) &&& 31).toUInt32).toInt32) &&& (255 : Int32)).toUInt32.toUInt16.toUInt32.toInt32)), .val (.int ((((u0.toUInt32 >>> ((16 : Int32) &&& 31).toUInt32).toInt32) &&& (32767 : Int32)) % (3 : Int32))), .val (.int mv1_0), .val (.int mv2_0), .val (.int mv3_0), .val (.ref s4), .val (.ref s5), .val (.ref b6), .unset, .unset] [(.int mv3_0), (.int ((((u0.toUInt32 >>> ((16 : Int32) &&& 31).toUInt32).toInt32) &&& (32767 : Int32)) % (3 : Int32)))])) target := by
    intro target kt
    rw [me8_0] at kt
    by_cases hc131 : ((((u0.toUInt32 >>> ((16 : Int32) &&& 31).toUInt32).toInt32) &&& (32767 : Int32)) % (3 : Int32)) = mv3_0
    · by_cases hc137 : ((((u0.toUInt32 >>> ((16 : Int32) &&& 31).toUInt32).toInt32) &&& (32767 : Int32)) % (3 : Int32)) < (1 : Int32)
      · by_cases hc149 : ((((u0.toUInt32 >>> ((16 : Int32) &&& 31).toUInt32).toInt32) &&& (32767 : Int32)) % (3 : Int32)) < (2 : Int32)
        · simp only [if_pos hc131, if_pos hc137, if_pos hc149] at kt
          show Steps p.tables e below (T7.setTop (mkF m 131 #[.val (.int u0), .val (.int u1), .val (.int u2), .val (.int ((u0 &&& (255 : Int32)).toUInt32.toUInt16.toUInt32.toInt32)), .val (.int ((((u0.toUInt32 >>> ((8 : Int32) &&& 31).toUInt32).toInt32) &&& (255 : Int32)).toUInt32.toUInt16.toUInt32.toInt32)), .val (.int ((((u0.toUInt32 >>> ((16 : Int32) &&& 31).toUInt32).toInt32) &&& (32767 : Int32)) % (3 : Int32))), .val (.int mv1_0), .val (.int mv2_0), .val (.int mv3_0), .val (.ref s4), .val (.ref s5), .val (.ref b6), .unset, .unset] [(.int mv3_0), (.int ((((u0.toUInt32 >>> ((16 : Int32) &&& 31).toUInt32).toInt32) &&& (32767 : Int32)) % (3 : Int32)))])) _
          refine XS.icmpNo X7.here hx rfl (hb hby at_131) rfl (teq hc131).2 ?_
          show Steps p.tables e below (T7.setTop (mkF m 134 #[.val (.int u0), .val (.int u1), .val (.int u2), .val (.int ((u0 &&& (255 : Int32)).toUInt32.toUInt16.toUInt32.toInt32)), .val (.int ((((u0.toUInt32 >>> ((8 : Int32) &&& 31).toUInt32).toInt32) &&& (255 : Int32)).toUInt32.toUInt16.toUInt32.toInt32)), .val (.int ((((u0.toUInt32 >>> ((16 : Int32) &&& 31).toUInt32).toInt32) &&& (32767 : Int32)) % (3 : Int32))), .val (.int mv1_0), .val (.int mv2_0), .val (.int mv3_0), .val (.ref s4), .val (.ref s5), .val (.ref b6), .unset, .unset] [])) _
          refine XS.iload X7.here hx rfl (hb hby at_134) rfl ?_
          show Steps p.tables e below (T7.setTop (mkF m 136 #[.val (.int u0), .val (.int u1), .val (.int u2), .val (.int ((u0 &&& (255 : Int32)).toUInt32.toUInt16.toUInt32.toInt32)), .val (.int ((((u0.toUInt32 >>> ((8 : Int32) &&& 31).toUInt32).toInt32) &&& (255 : Int32)).toUInt32.toUInt16.toUInt32.toInt32)), .val (.int ((((u0.toUInt32 >>> ((16 : Int32) &&& 31).toUInt32).toInt32) &&& (32767 : Int32)) % (3 : Int32))), .val (.int mv1_0), .val (.int mv2_0), .val (.int mv3_0), .val (.ref s4), .val (.ref s5), .val (.ref b6), .unset, .unset] [(.int ((((u0.toUInt32 >>> ((16 : Int32) &&& 31).toUInt32).toInt32) &&& (32767 : Int32)) % (3 : Int32)))])) _
          refine XS.iconst X7.here hx rfl (hb hby at_136) ?_
          show Steps p.tables e below (T7.setTop (mkF m 137 #[.val (.int u0), .val (.int u1), .val (.int u2), .val (.int ((u0 &&& (255 : Int32)).toUInt32.toUInt16.toUInt32.toInt32)), .val (.int ((((u0.toUInt32 >>> ((8 : Int32) &&& 31).toUInt32).toInt32) &&& (255 : Int32)).toUInt32.toUInt16.toUInt32.toInt32)), .val (.int ((((u0.toUInt32 >>> ((16 : Int32) &&& 31).toUInt32).toInt32) &&& (32767 : Int32)) % (3 : Int32))), .val (.int mv1_0), .val (.int mv2_0), .val (.int mv3_0), .val (.ref s4), .val (.ref s5), .val (.ref b6), .unset, .unset] [(.int (1 : Int32)), (.int ((((u0.toUInt32 >>> ((16 : Int32) &&& 31).toUInt32).toInt32) &&& (32767 : Int32)) % (3 : Int32)))])) _
          refine XS.icmpYes X7.here hx rfl (pc0 := 137) (pc' := 146) rfl (hb hby at_137) rfl (tlt hc137).1 (by decide) (by decide) ?_
          show Steps p.tables e below (T7.setTop (mkF m 146 #[.val (.int u0), .val (.int u1), .val (.int u2), .val (.int ((u0 &&& (255 : Int32)).toUInt32.toUInt16.toUInt32.toInt32)), .val (.int ((((u0.toUInt32 >>> ((8 : Int32) &&& 31).toUInt32).toInt32) &&& (255 : Int32)).toUInt32.toUInt16.toUInt32.toInt32)), .val (.int ((((u0.toUInt32 >>> ((16 : Int32) &&& 31).toUInt32).toInt32) &&& (32767 : Int32)) % (3 : Int32))), .val (.int mv1_0), .val (.int mv2_0), .val (.int mv3_0), .val (.ref s4), .val (.ref s5), .val (.ref b6), .unset, .unset] [])) _
          refine XS.iload X7.here hx rfl (hb hby at_146) rfl ?_
          show Steps p.tables e below (T7.setTop (mkF m 148 #[.val (.int u0), .val (.int u1), .val (.int u2), .val (.int ((u0 &&& (255 : Int32)).toUInt32.toUInt16.toUInt32.toInt32)), .val (.int ((((u0.toUInt32 >>> ((8 : Int32) &&& 31).toUInt32).toInt32) &&& (255 : Int32)).toUInt32.toUInt16.toUInt32.toInt32)), .val (.int ((((u0.toUInt32 >>> ((16 : Int32) &&& 31).toUInt32).toInt32) &&& (32767 : Int32)) % (3 : Int32))), .val (.int mv1_0), .val (.int mv2_0), .val (.int mv3_0), .val (.ref s4), .val (.ref s5), .val (.ref b6), .unset, .unset] [(.int ((((u0.toUInt32 >>> ((16 : Int32) &&& 31).toUInt32).toInt32) &&& (32767 : Int32)) % (3 : Int32)))])) _
          refine XS.iconst X7.here hx rfl (hb hby at_148) ?_
          show Steps p.tables e below (T7.setTop (mkF m 149 #[.val (.int u0), .val (.int u1), .val (.int u2), .val (.int ((u0 &&& (255 : Int32)).toUInt32.toUInt16.toUInt32.toInt32)), .val (.int ((((u0.toUInt32 >>> ((8 : Int32) &&& 31).toUInt32).toInt32) &&& (255 : Int32)).toUInt32.toUInt16.toUInt32.toInt32)), .val (.int ((((u0.toUInt32 >>> ((16 : Int32) &&& 31).toUInt32).toInt32) &&& (32767 : Int32)) % (3 : Int32))), .val (.int mv1_0), .val (.int mv2_0), .val (.int mv3_0), .val (.ref s4), .val (.ref s5), .val (.ref b6), .unset, .unset] [(.int (2 : Int32)), (.int ((((u0.toUInt32 >>> ((16 : Int32) &&& 31).toUInt32).toInt32) &&& (32767 : Int32)) % (3 : Int32)))])) _
          refine XS.icmpYes X7.here hx rfl (pc0 := 149) (pc' := 159) rfl (hb hby at_149) rfl (tlt hc149).1 (by decide) (by decide) ?_
          show Steps p.tables e below (T7.setTop (mkF m 159 #[.val (.int u0), .val (.int u1), .val (.int u2), .val (.int ((u0 &&& (255 : Int32)).toUInt32.toUInt16.toUInt32.toInt32)), .val (.int ((((u0.toUInt32 >>> ((8 : Int32) &&& 31).toUInt32).toInt32) &&& (255 : Int32)).toUInt32.toUInt16.toUInt32.toInt32)), .val (.int ((((u0.toUInt32 >>> ((16 : Int32) &&& 31).toUInt32).toInt32) &&& (32767 : Int32)) % (3 : Int32))), .val (.int mv1_0), .val (.int mv2_0), .val (.int mv3_0), .val (.ref s4), .val (.ref s5), .val (.ref b6), .unset, .unset] [])) _
          refine XS.iconst X7.here hx rfl (hb hby at_159) ?_
          show Steps p.tables e below (T7.setTop (mkF m 160 #[.val (.int u0), .val (.int u1), .val (.int u2), .val (.int ((u0 &&& (255 : Int32)).toUInt32.toUInt16.toUInt32.toInt32)), .val (.int ((((u0.toUInt32 >>> ((8 : Int32) &&& 31).toUInt32).toInt32) &&& (255 : Int32)).toUInt32.toUInt16.toUInt32.toInt32)), .val (.int ((((u0.toUInt32 >>> ((16 : Int32) &&& 31).toUInt32).toInt32) &&& (32767 : Int32)) % (3 : Int32))), .val (.int mv1_0), .val (.int mv2_0), .val (.int mv3_0), .val (.ref s4), .val (.ref s5), .val (.ref b6), .unset, .unset] [(.int (1 : Int32))])) _
          refine XS.goto X7.here hx rfl (pc0 := 160) (pc' := 164) rfl (hb hby at_160) (by decide) (by decide) ?_
          exact kt
        · by_cases hc156 : ((((u0.toUInt32 >>> ((8 : Int32) &&& 31).toUInt32).toInt32) &&& (255 : Int32)).toUInt32.toUInt16.toUInt32.toInt32) = mv2_0
          · simp only [if_pos hc131, if_pos hc137, if_neg hc149, if_pos hc156] at kt
            show Steps p.tables e below (T7.setTop (mkF m 131 #[.val (.int u0), .val (.int u1), .val (.int u2), .val (.int ((u0 &&& (255 : Int32)).toUInt32.toUInt16.toUInt32.toInt32)), .val (.int ((((u0.toUInt32 >>> ((8 : Int32) &&& 31).toUInt32).toInt32) &&& (255 : Int32)).toUInt32.toUInt16.toUInt32.toInt32)), .val (.int ((((u0.toUInt32 >>> ((16 : Int32) &&& 31).toUInt32).toInt32) &&& (32767 : Int32)) % (3 : Int32))), .val (.int mv1_0), .val (.int mv2_0), .val (.int mv3_0), .val (.ref s4), .val (.ref s5), .val (.ref b6), .unset, .unset] [(.int mv3_0), (.int ((((u0.toUInt32 >>> ((16 : Int32) &&& 31).toUInt32).toInt32) &&& (32767 : Int32)) % (3 : Int32)))])) _
            refine XS.icmpNo X7.here hx rfl (hb hby at_131) rfl (teq hc131).2 ?_
            show Steps p.tables e below (T7.setTop (mkF m 134 #[.val (.int u0), .val (.int u1), .val (.int u2), .val (.int ((u0 &&& (255 : Int32)).toUInt32.toUInt16.toUInt32.toInt32)), .val (.int ((((u0.toUInt32 >>> ((8 : Int32) &&& 31).toUInt32).toInt32) &&& (255 : Int32)).toUInt32.toUInt16.toUInt32.toInt32)), .val (.int ((((u0.toUInt32 >>> ((16 : Int32) &&& 31).toUInt32).toInt32) &&& (32767 : Int32)) % (3 : Int32))), .val (.int mv1_0), .val (.int mv2_0), .val (.int mv3_0), .val (.ref s4), .val (.ref s5), .val (.ref b6), .unset, .unset] [])) _
            refine XS.iload X7.here hx rfl (hb hby at_134) rfl ?_
            show Steps p.tables e below (T7.setTop (mkF m 136 #[.val (.int u0), .val (.int u1), .val (.int u2), .val (.int ((u0 &&& (255 : Int32)).toUInt32.toUInt16.toUInt32.toInt32)), .val (.int ((((u0.toUInt32 >>> ((8 : Int32) &&& 31).toUInt32).toInt32) &&& (255 : Int32)).toUInt32.toUInt16.toUInt32.toInt32)), .val (.int ((((u0.toUInt32 >>> ((16 : Int32) &&& 31).toUInt32).toInt32) &&& (32767 : Int32)) % (3 : Int32))), .val (.int mv1_0), .val (.int mv2_0), .val (.int mv3_0), .val (.ref s4), .val (.ref s5), .val (.ref b6), .unset, .unset] [(.int ((((u0.toUInt32 >>> ((16 : Int32) &&& 31).toUInt32).toInt32) &&& (32767 : Int32)) % (3 : Int32)))])) _
            refine XS.iconst X7.here hx rfl (hb hby at_136) ?_
            show Steps p.tables e below (T7.setTop (mkF m 137 #[.val (.int u0), .val (.int u1), .val (.int u2), .val (.int ((u0 &&& (255 : Int32)).toUInt32.toUInt16.toUInt32.toInt32)), .val (.int ((((u0.toUInt32 >>> ((8 : Int32) &&& 31).toUInt32).toInt32) &&& (255 : Int32)).toUInt32.toUInt16.toUInt32.toInt32)), .val (.int ((((u0.toUInt32 >>> ((16 : Int32) &&& 31).toUInt32).toInt32) &&& (32767 : Int32)) % (3 : Int32))), .val (.int mv1_0), .val (.int mv2_0), .val (.int mv3_0), .val (.ref s4), .val (.ref s5), .val (.ref b6), .unset, .unset] [(.int (1 : Int32)), (.int ((((u0.toUInt32 >>> ((16 : Int32) &&& 31).toUInt32).toInt32) &&& (32767 : Int32)) % (3 : Int32)))])) _
            refine XS.icmpYes X7.here hx rfl (pc0 := 137) (pc' := 146) rfl (hb hby at_137) rfl (tlt hc137).1 (by decide) (by decide) ?_
            show Steps p.tables e below (T7.setTop (mkF m 146 #[.val (.int u0), .val (.int u1), .val (.int u2), .val (.int ((u0 &&& (255 : Int32)).toUInt32.toUInt16.toUInt32.toInt32)), .val (.int ((((u0.toUInt32 >>> ((8 : Int32) &&& 31).toUInt32).toInt32) &&& (255 : Int32)).toUInt32.toUInt16.toUInt32.toInt32)), .val (.int ((((u0.toUInt32 >>> ((16 : Int32) &&& 31).toUInt32).toInt32) &&& (32767 : Int32)) % (3 : Int32))), .val (.int mv1_0), .val (.int mv2_0), .val (.int mv3_0), .val (.ref s4), .val (.ref s5), .val (.ref b6), .unset, .unset] [])) _
            refine XS.iload X7.here hx rfl (hb hby at_146) rfl ?_
            show Steps p.tables e below (T7.setTop (mkF m 148 #[.val (.int u0), .val (.int u1), .val (.int u2), .val (.int ((u0 &&& (255 : Int32)).toUInt32.toUInt16.toUInt32.toInt32)), .val (.int ((((u0.toUInt32 >>> ((8 : Int32) &&& 31).toUInt32).toInt32) &&& (255 : Int32)).toUInt32.toUInt16.toUInt32.toInt32)), .val (.int ((((u0.toUInt32 >>> ((16 : Int32) &&& 31).toUInt32).toInt32) &&& (32767 : Int32)) % (3 : Int32))), .val (.int mv1_0), .val (.int mv2_0), .val (.int mv3_0), .val (.ref s4), .val (.ref s5), .val (.ref b6), .unset, .unset] [(.int ((((u0.toUInt32 >>> ((16 : Int32) &&& 31).toUInt32).toInt32) &&& (32767 : Int32)) % (3 : Int32)))])) _
            refine XS.iconst X7.here hx rfl (hb hby at_148) ?_
            show Steps p.tables e below (T7.setTop (mkF m 149 #[.val (.int u0), .val (.int u1), .val (.int u2), .val (.int ((u0 &&& (255 : Int32)).toUInt32.toUInt16.toUInt32.toInt32)), .val (.int ((((u0.toUInt32 >>> ((8 : Int32) &&& 31).toUInt32).toInt32) &&& (255 : Int32)).toUInt32.toUInt16.toUInt32.toInt32)), .val (.int ((((u0.toUInt32 >>> ((16 : Int32) &&& 31).toUInt32).toInt32) &&& (32767 : Int32)) % (3 : Int32))), .val (.int mv1_0), .val (.int mv2_0), .val (.int mv3_0), .val (.ref s4), .val (.ref s5), .val (.ref b6), .unset, .unset] [(.int (2 : Int32)), (.int ((((u0.toUInt32 >>> ((16 : Int32) &&& 31).toUInt32).toInt32) &&& (32767 : Int32)) % (3 : Int32)))])) _
            refine XS.icmpNo X7.here hx rfl (hb hby at_149) rfl (flt hc149).1 ?_
            show Steps p.tables e below (T7.setTop (mkF m 152 #[.val (.int u0), .val (.int u1), .val (.int u2), .val (.int ((u0 &&& (255 : Int32)).toUInt32.toUInt16.toUInt32.toInt32)), .val (.int ((((u0.toUInt32 >>> ((8 : Int32) &&& 31).toUInt32).toInt32) &&& (255 : Int32)).toUInt32.toUInt16.toUInt32.toInt32)), .val (.int ((((u0.toUInt32 >>> ((16 : Int32) &&& 31).toUInt32).toInt32) &&& (32767 : Int32)) % (3 : Int32))), .val (.int mv1_0), .val (.int mv2_0), .val (.int mv3_0), .val (.ref s4), .val (.ref s5), .val (.ref b6), .unset, .unset] [])) _
            refine XS.iload X7.here hx rfl (hb hby at_152) rfl ?_
            show Steps p.tables e below (T7.setTop (mkF m 154 #[.val (.int u0), .val (.int u1), .val (.int u2), .val (.int ((u0 &&& (255 : Int32)).toUInt32.toUInt16.toUInt32.toInt32)), .val (.int ((((u0.toUInt32 >>> ((8 : Int32) &&& 31).toUInt32).toInt32) &&& (255 : Int32)).toUInt32.toUInt16.toUInt32.toInt32)), .val (.int ((((u0.toUInt32 >>> ((16 : Int32) &&& 31).toUInt32).toInt32) &&& (32767 : Int32)) % (3 : Int32))), .val (.int mv1_0), .val (.int mv2_0), .val (.int mv3_0), .val (.ref s4), .val (.ref s5), .val (.ref b6), .unset, .unset] [(.int ((((u0.toUInt32 >>> ((8 : Int32) &&& 31).toUInt32).toInt32) &&& (255 : Int32)).toUInt32.toUInt16.toUInt32.toInt32))])) _
            refine XS.iload X7.here hx rfl (hb hby at_154) rfl ?_
            show Steps p.tables e below (T7.setTop (mkF m 156 #[.val (.int u0), .val (.int u1), .val (.int u2), .val (.int ((u0 &&& (255 : Int32)).toUInt32.toUInt16.toUInt32.toInt32)), .val (.int ((((u0.toUInt32 >>> ((8 : Int32) &&& 31).toUInt32).toInt32) &&& (255 : Int32)).toUInt32.toUInt16.toUInt32.toInt32)), .val (.int ((((u0.toUInt32 >>> ((16 : Int32) &&& 31).toUInt32).toInt32) &&& (32767 : Int32)) % (3 : Int32))), .val (.int mv1_0), .val (.int mv2_0), .val (.int mv3_0), .val (.ref s4), .val (.ref s5), .val (.ref b6), .unset, .unset] [(.int mv2_0), (.int ((((u0.toUInt32 >>> ((8 : Int32) &&& 31).toUInt32).toInt32) &&& (255 : Int32)).toUInt32.toUInt16.toUInt32.toInt32))])) _
            refine XS.icmpNo X7.here hx rfl (hb hby at_156) rfl (teq hc156).2 ?_
            show Steps p.tables e below (T7.setTop (mkF m 159 #[.val (.int u0), .val (.int u1), .val (.int u2), .val (.int ((u0 &&& (255 : Int32)).toUInt32.toUInt16.toUInt32.toInt32)), .val (.int ((((u0.toUInt32 >>> ((8 : Int32) &&& 31).toUInt32).toInt32) &&& (255 : Int32)).toUInt32.toUInt16.toUInt32.toInt32)), .val (.int ((((u0.toUInt32 >>> ((16 : Int32) &&& 31).toUInt32).toInt32) &&& (32767 : Int32)) % (3 : Int32))), .val (.int mv1_0), .val (.int mv2_0), .val (.int mv3_0), .val (.ref s4), .val (.ref s5), .val (.ref b6), .unset, .unset] [])) _
            refine XS.iconst X7.here hx rfl (hb hby at_159) ?_
            show Steps p.tables e below (T7.setTop (mkF m 160 #[.val (.int u0), .val (.int u1), .val (.int u2), .val (.int ((u0 &&& (255 : Int32)).toUInt32.toUInt16.toUInt32.toInt32)), .val (.int ((((u0.toUInt32 >>> ((8 : Int32) &&& 31).toUInt32).toInt32) &&& (255 : Int32)).toUInt32.toUInt16.toUInt32.toInt32)), .val (.int ((((u0.toUInt32 >>> ((16 : Int32) &&& 31).toUInt32).toInt32) &&& (32767 : Int32)) % (3 : Int32))), .val (.int mv1_0), .val (.int mv2_0), .val (.int mv3_0), .val (.ref s4), .val (.ref s5), .val (.ref b6), .unset, .unset] [(.int (1 : Int32))])) _
            refine XS.goto X7.here hx rfl (pc0 := 160) (pc' := 164) rfl (hb hby at_160) (by decide) (by decide) ?_
            exact kt
          · simp only [if_pos hc131, if_pos hc137, if_neg hc149, if_neg hc156] at kt
            show Steps p.tables e below (T7.setTop (mkF m 131 #[.val (.int u0), .val (.int u1), .val (.int u2), .val (.int ((u0 &&& (255 : Int32)).toUInt32.toUInt16.toUInt32.toInt32)), .val (.int ((((u0.toUInt32 >>> ((8 : Int32) &&& 31).toUInt32).toInt32) &&& (255 : Int32)).toUInt32.toUInt16.toUInt32.toInt32)), .val (.int ((((u0.toUInt32 >>> ((16 : Int32) &&& 31).toUInt32).toInt32) &&& (32767 : Int32)) % (3 : Int32))), .val (.int mv1_0), .val (.int mv2_0), .val (.int mv3_0), .val (.ref s4), .val (.ref s5), .val (.ref b6), .unset, .unset] [(.int mv3_0), (.int ((((u0.toUInt32 >>> ((16 : Int32) &&& 31).toUInt32).toInt32) &&& (32767 : Int32)) % (3 : Int32)))])) _
            refine XS.icmpNo X7.here hx rfl (hb hby at_131) rfl (teq hc131).2 ?_
            show Steps p.tables e below (T7.setTop (mkF m 134 #[.val (.int u0), .val (.int u1), .val (.int u2), .val (.int ((u0 &&& (255 : Int32)).toUInt32.toUInt16.toUInt32.toInt32)), .val (.int ((((u0.toUInt32 >>> ((8 : Int32) &&& 31).toUInt32).toInt32) &&& (255 : Int32)).toUInt32.toUInt16.toUInt32.toInt32)), .val (.int ((((u0.toUInt32 >>> ((16 : Int32) &&& 31).toUInt32).toInt32) &&& (32767 : Int32)) % (3 : Int32))), .val (.int mv1_0), .val (.int mv2_0), .val (.int mv3_0), .val (.ref s4), .val (.ref s5), .val (.ref b6), .unset, .unset] [])) _
            refine XS.iload X7.here hx rfl (hb hby at_134) rfl ?_
            show Steps p.tables e below (T7.setTop (mkF m 136 #[.val (.int u0), .val (.int u1), .val (.int u2), .val (.int ((u0 &&& (255 : Int32)).toUInt32.toUInt16.toUInt32.toInt32)), .val (.int ((((u0.toUInt32 >>> ((8 : Int32) &&& 31).toUInt32).toInt32) &&& (255 : Int32)).toUInt32.toUInt16.toUInt32.toInt32)), .val (.int ((((u0.toUInt32 >>> ((16 : Int32) &&& 31).toUInt32).toInt32) &&& (32767 : Int32)) % (3 : Int32))), .val (.int mv1_0), .val (.int mv2_0), .val (.int mv3_0), .val (.ref s4), .val (.ref s5), .val (.ref b6), .unset, .unset] [(.int ((((u0.toUInt32 >>> ((16 : Int32) &&& 31).toUInt32).toInt32) &&& (32767 : Int32)) % (3 : Int32)))])) _
            refine XS.iconst X7.here hx rfl (hb hby at_136) ?_
            show Steps p.tables e below (T7.setTop (mkF m 137 #[.val (.int u0), .val (.int u1), .val (.int u2), .val (.int ((u0 &&& (255 : Int32)).toUInt32.toUInt16.toUInt32.toInt32)), .val (.int ((((u0.toUInt32 >>> ((8 : Int32) &&& 31).toUInt32).toInt32) &&& (255 : Int32)).toUInt32.toUInt16.toUInt32.toInt32)), .val (.int ((((u0.toUInt32 >>> ((16 : Int32) &&& 31).toUInt32).toInt32) &&& (32767 : Int32)) % (3 : Int32))), .val (.int mv1_0), .val (.int mv2_0), .val (.int mv3_0), .val (.ref s4), .val (.ref s5), .val (.ref b6), .unset, .unset] [(.int (1 : Int32)), (.int ((((u0.toUInt32 >>> ((16 : Int32) &&& 31).toUInt32).toInt32) &&& (32767 : Int32)) % (3 : Int32)))])) _
            refine XS.icmpYes X7.here hx rfl (pc0 := 137) (pc' := 146) rfl (hb hby at_137) rfl (tlt hc137).1 (by decide) (by decide) ?_
            show Steps p.tables e below (T7.setTop (mkF m 146 #[.val (.int u0), .val (.int u1), .val (.int u2), .val (.int ((u0 &&& (255 : Int32)).toUInt32.toUInt16.toUInt32.toInt32)), .val (.int ((((u0.toUInt32 >>> ((8 : Int32) &&& 31).toUInt32).toInt32) &&& (255 : Int32)).toUInt32.toUInt16.toUInt32.toInt32)), .val (.int ((((u0.toUInt32 >>> ((16 : Int32) &&& 31).toUInt32).toInt32) &&& (32767 : Int32)) % (3 : Int32))), .val (.int mv1_0), .val (.int mv2_0), .val (.int mv3_0), .val (.ref s4), .val (.ref s5), .val (.ref b6), .unset, .unset] [])) _
            refine XS.iload X7.here hx rfl (hb hby at_146) rfl ?_
            show Steps p.tables e below (T7.setTop (mkF m 148 #[.val (.int u0), .val (.int u1), .val (.int u2), .val (.int ((u0 &&& (255 : Int32)).toUInt32.toUInt16.toUInt32.toInt32)), .val (.int ((((u0.toUInt32 >>> ((8 : Int32) &&& 31).toUInt32).toInt32) &&& (255 : Int32)).toUInt32.toUInt16.toUInt32.toInt32)), .val (.int ((((u0.toUInt32 >>> ((16 : Int32) &&& 31).toUInt32).toInt32) &&& (32767 : Int32)) % (3 : Int32))), .val (.int mv1_0), .val (.int mv2_0), .val (.int mv3_0), .val (.ref s4), .val (.ref s5), .val (.ref b6), .unset, .unset] [(.int ((((u0.toUInt32 >>> ((16 : Int32) &&& 31).toUInt32).toInt32) &&& (32767 : Int32)) % (3 : Int32)))])) _
            refine XS.iconst X7.here hx rfl (hb hby at_148) ?_
            show Steps p.tables e below (T7.setTop (mkF m 149 #[.val (.int u0), .val (.int u1), .val (.int u2), .val (.int ((u0 &&& (255 : Int32)).toUInt32.toUInt16.toUInt32.toInt32)), .val (.int ((((u0.toUInt32 >>> ((8 : Int32) &&& 31).toUInt32).toInt32) &&& (255 : Int32)).toUInt32.toUInt16.toUInt32.toInt32)), .val (.int ((((u0.toUInt32 >>> ((16 : Int32) &&& 31).toUInt32).toInt32) &&& (32767 : Int32)) % (3 : Int32))), .val (.int mv1_0), .val (.int mv2_0), .val (.int mv3_0), .val (.ref s4), .val (.ref s5), .val (.ref b6), .unset, .unset] [(.int (2 : Int32)), (.int ((((u0.toUInt32 >>> ((16 : Int32) &&& 31).toUInt32).toInt32) &&& (32767 : Int32)) % (3 : Int32)))])) _
            refine XS.icmpNo X7.here hx rfl (hb hby at_149) rfl (flt hc149).1 ?_
            show Steps p.tables e below (T7.setTop (mkF m 152 #[.val (.int u0), .val (.int u1), .val (.int u2), .val (.int ((u0 &&& (255 : Int32)).toUInt32.toUInt16.toUInt32.toInt32)), .val (.int ((((u0.toUInt32 >>> ((8 : Int32) &&& 31).toUInt32).toInt32) &&& (255 : Int32)).toUInt32.toUInt16.toUInt32.toInt32)), .val (.int ((((u0.toUInt32 >>> ((16 : Int32) &&& 31).toUInt32).toInt32) &&& (32767 : Int32)) % (3 : Int32))), .val (.int mv1_0), .val (.int mv2_0), .val (.int mv3_0), .val (.ref s4), .val (.ref s5), .val (.ref b6), .unset, .unset] [])) _
            refine XS.iload X7.here hx rfl (hb hby at_152) rfl ?_
            show Steps p.tables e below (T7.setTop (mkF m 154 #[.val (.int u0), .val (.int u1), .val (.int u2), .val (.int ((u0 &&& (255 : Int32)).toUInt32.toUInt16.toUInt32.toInt32)), .val (.int ((((u0.toUInt32 >>> ((8 : Int32) &&& 31).toUInt32).toInt32) &&& (255 : Int32)).toUInt32.toUInt16.toUInt32.toInt32)), .val (.int ((((u0.toUInt32 >>> ((16 : Int32) &&& 31).toUInt32).toInt32) &&& (32767 : Int32)) % (3 : Int32))), .val (.int mv1_0), .val (.int mv2_0), .val (.int mv3_0), .val (.ref s4), .val (.ref s5), .val (.ref b6), .unset, .unset] [(.int ((((u0.toUInt32 >>> ((8 : Int32) &&& 31).toUInt32).toInt32) &&& (255 : Int32)).toUInt32.toUInt16.toUInt32.toInt32))])) _
            refine XS.iload X7.here hx rfl (hb hby at_154) rfl ?_
            show Steps p.tables e below (T7.setTop (mkF m 156 #[.val (.int u0), .val (.int u1), .val (.int u2), .val (.int ((u0 &&& (255 : Int32)).toUInt32.toUInt16.toUInt32.toInt32)), .val (.int ((((u0.toUInt32 >>> ((8 : Int32) &&& 31).toUInt32).toInt32) &&& (255 : Int32)).toUInt32.toUInt16.toUInt32.toInt32)), .val (.int ((((u0.toUInt32 >>> ((16 : Int32) &&& 31).toUInt32).toInt32) &&& (32767 : Int32)) % (3 : Int32))), .val (.int mv1_0), .val (.int mv2_0), .val (.int mv3_0), .val (.ref s4), .val (.ref s5), .val (.ref b6), .unset, .unset] [(.int mv2_0), (.int ((((u0.toUInt32 >>> ((8 : Int32) &&& 31).toUInt32).toInt32) &&& (255 : Int32)).toUInt32.toUInt16.toUInt32.toInt32))])) _
            refine XS.icmpYes X7.here hx rfl (pc0 := 156) (pc' := 163) rfl (hb hby at_156) rfl (feq hc156).2 (by decide) (by decide) ?_
            show Steps p.tables e below (T7.setTop (mkF m 163 #[.val (.int u0), .val (.int u1), .val (.int u2), .val (.int ((u0 &&& (255 : Int32)).toUInt32.toUInt16.toUInt32.toInt32)), .val (.int ((((u0.toUInt32 >>> ((8 : Int32) &&& 31).toUInt32).toInt32) &&& (255 : Int32)).toUInt32.toUInt16.toUInt32.toInt32)), .val (.int ((((u0.toUInt32 >>> ((16 : Int32) &&& 31).toUInt32).toInt32) &&& (32767 : Int32)) % (3 : Int32))), .val (.int mv1_0), .val (.int mv2_0), .val (.int mv3_0), .val (.ref s4), .val (.ref s5), .val (.ref b6), .unset, .unset] [])) _
            refine XS.iconst X7.here hx rfl (hb hby at_163) ?_
            exact kt
      · by_cases hc143 : ((u0 &&& (255 : Int32)).toUInt32.toUInt16.toUInt32.toInt32) = mv1_0
        · by_cases hc149 : ((((u0.toUInt32 >>> ((16 : Int32) &&& 31).toUInt32).toInt32) &&& (32767 : Int32)) % (3 : Int32)) < (2 : Int32)
          · simp only [if_pos hc131, if_neg hc137, if_pos hc143, if_pos hc149] at kt
            show Steps p.tables e below (T7.setTop (mkF m 131 #[.val (.int u0), .val (.int u1), .val (.int u2), .val (.int ((u0 &&& (255 : Int32)).toUInt32.toUInt16.toUInt32.toInt32)), .val (.int ((((u0.toUInt32 >>> ((8 : Int32) &&& 31).toUInt32).toInt32) &&& (255 : Int32)).toUInt32.toUInt16.toUInt32.toInt32)), .val (.int ((((u0.toUInt32 >>> ((16 : Int32) &&& 31).toUInt32).toInt32) &&& (32767 : Int32)) % (3 : Int32))), .val (.int mv1_0), .val (.int mv2_0), .val (.int mv3_0), .val (.ref s4), .val (.ref s5), .val (.ref b6), .unset, .unset] [(.int mv3_0), (.int ((((u0.toUInt32 >>> ((16 : Int32) &&& 31).toUInt32).toInt32) &&& (32767 : Int32)) % (3 : Int32)))])) _
            refine XS.icmpNo X7.here hx rfl (hb hby at_131) rfl (teq hc131).2 ?_
            show Steps p.tables e below (T7.setTop (mkF m 134 #[.val (.int u0), .val (.int u1), .val (.int u2), .val (.int ((u0 &&& (255 : Int32)).toUInt32.toUInt16.toUInt32.toInt32)), .val (.int ((((u0.toUInt32 >>> ((8 : Int32) &&& 31).toUInt32).toInt32) &&& (255 : Int32)).toUInt32.toUInt16.toUInt32.toInt32)), .val (.int ((((u0.toUInt32 >>> ((16 : Int32) &&& 31).toUInt32).toInt32) &&& (32767 : Int32)) % (3 : Int32))), .val (.int mv1_0), .val (.int mv2_0), .val (.int mv3_0), .val (.ref s4), .val (.ref s5), .val (.ref b6), .unset, .unset] [])) _
            refine XS.iload X7.here hx rfl (hb hby at_134) rfl ?_
            show Steps p.tables e below (T7.setTop (mkF m 136 #[.val (.int u0), .val (.int u1), .val (.int u2), .val (.int ((u0 &&& (255 : Int32)).toUInt32.toUInt16.toUInt32.toInt32)), .val (.int ((((u0.toUInt32 >>> ((8 : Int32) &&& 31).toUInt32).toInt32) &&& (255 : Int32)).toUInt32.toUInt16.toUInt32.toInt32)), .val (.int ((((u0.toUInt32 >>> ((16 : Int32) &&& 31).toUInt32).toInt32) &&& (32767 : Int32)) % (3 : Int32))), .val (.int mv1_0), .val (.int mv2_0), .val (.int mv3_0), .val (.ref s4), .val (.ref s5), .val (.ref b6), .unset, .unset] [(.int ((((u0.toUInt32 >>> ((16 : Int32) &&& 31).toUInt32).toInt32) &&& (32767 : Int32)) % (3 : Int32)))])) _
            refine XS.iconst X7.here hx rfl (hb hby at_136) ?_
            show Steps p.tables e below (T7.setTop (mkF m 137 #[.val (.int u0), .val (.int u1), .val (.int u2), .val (.int ((u0 &&& (255 : Int32)).toUInt32.toUInt16.toUInt32.toInt32)), .val (.int ((((u0.toUInt32 >>> ((8 : Int32) &&& 31).toUInt32).toInt32) &&& (255 : Int32)).toUInt32.toUInt16.toUInt32.toInt32)), .val (.int ((((u0.toUInt32 >>> ((16 : Int32) &&& 31).toUInt32).toInt32) &&& (32767 : Int32)) % (3 : Int32))), .val (.int mv1_0), .val (.int mv2_0), .val (.int mv3_0), .val (.ref s4), .val (.ref s5), .val (.ref b6), .unset, .unset] [(.int (1 : Int32)), (.int ((((u0.toUInt32 >>> ((16 : Int32) &&& 31).toUInt32).toInt32) &&& (32767 : Int32)) % (3 : Int32)))])) _
            refine XS.icmpNo X7.here hx rfl (hb hby at_137) rfl (flt hc137).1 ?_
            show Steps p.tables e below (T7.setTop (mkF m 140 #[.val (.int u0), .val (.int u1), .val (.int u2), .val (.int ((u0 &&& (255 : Int32)).toUInt32.toUInt16.toUInt32.toInt32)), .val (.int ((((u0.toUInt32 >>> ((8 : Int32) &&& 31).toUInt32).toInt32) &&& (255 : Int32)).toUInt32.toUInt16.toUInt32.toInt32)), .val (.int ((((u0.toUInt32 >>> ((16 : Int32) &&& 31).toUInt32).toInt32) &&& (32767 : Int32)) % (3 : Int32))), .val (.int mv1_0), .val (.int mv2_0), .val (.int mv3_0), .val (.ref s4), .val (.ref s5), .val (.ref b6), .unset, .unset] [])) _
            refine XS.iloadN X7.here hx rfl (hb hby at_140) rfl ?_
            show Steps p.tables e below (T7.setTop (mkF m 141 #[.val (.int u0), .val (.int u1), .val (.int u2), .val (.int ((u0 &&& (255 : Int32)).toUInt32.toUInt16.toUInt32.toInt32)), .val (.int ((((u0.toUInt32 >>> ((8 : Int32) &&& 31).toUInt32).toInt32) &&& (255 : Int32)).toUInt32.toUInt16.toUInt32.toInt32)), .val (.int ((((u0.toUInt32 >>> ((16 : Int32) &&& 31).toUInt32).toInt32) &&& (32767 : Int32)) % (3 : Int32))), .val (.int mv1_0), .val (.int mv2_0), .val (.int mv3_0), .val (.ref s4), .val (.ref s5), .val (.ref b6), .unset, .unset] [(.int ((u0 &&& (255 : Int32)).toUInt32.toUInt16.toUInt32.toInt32))])) _
            refine XS.iload X7.here hx rfl (hb hby at_141) rfl ?_
            show Steps p.tables e below (T7.setTop (mkF m 143 #[.val (.int u0), .val (.int u1), .val (.int u2), .val (.int ((u0 &&& (255 : Int32)).toUInt32.toUInt16.toUInt32.toInt32)), .val (.int ((((u0.toUInt32 >>> ((8 : Int32) &&& 31).toUInt32).toInt32) &&& (255 : Int32)).toUInt32.toUInt16.toUInt32.toInt32)), .val (.int ((((u0.toUInt32 >>> ((16 : Int32) &&& 31).toUInt32).toInt32) &&& (32767 : Int32)) % (3 : Int32))), .val (.int mv1_0), .val (.int mv2_0), .val (.int mv3_0), .val (.ref s4), .val (.ref s5), .val (.ref b6), .unset, .unset] [(.int mv1_0), (.int ((u0 &&& (255 : Int32)).toUInt32.toUInt16.toUInt32.toInt32))])) _
            refine XS.icmpNo X7.here hx rfl (hb hby at_143) rfl (teq hc143).2 ?_
            show Steps p.tables e below (T7.setTop (mkF m 146 #[.val (.int u0), .val (.int u1), .val (.int u2), .val (.int ((u0 &&& (255 : Int32)).toUInt32.toUInt16.toUInt32.toInt32)), .val (.int ((((u0.toUInt32 >>> ((8 : Int32) &&& 31).toUInt32).toInt32) &&& (255 : Int32)).toUInt32.toUInt16.toUInt32.toInt32)), .val (.int ((((u0.toUInt32 >>> ((16 : Int32) &&& 31).toUInt32).toInt32) &&& (32767 : Int32)) % (3 : Int32))), .val (.int mv1_0), .val (.int mv2_0), .val (.int mv3_0), .val (.ref s4), .val (.ref s5), .val (.ref b6), .unset, .unset] [])) _
            refine XS.iload X7.here hx rfl (hb hby at_146) rfl ?_
            show Steps p.tables e below (T7.setTop (mkF m 148 #[.val (.int u0), .val (.int u1), .val (.int u2), .val (.int ((u0 &&& (255 : Int32)).toUInt32.toUInt16.toUInt32.toInt32)), .val (.int ((((u0.toUInt32 >>> ((8 : Int32) &&& 31).toUInt32).toInt32) &&& (255 : Int32)).toUInt32.toUInt16.toUInt32.toInt32)), .val (.int ((((u0.toUInt32 >>> ((16 : Int32) &&& 31).toUInt32).toInt32) &&& (32767 : Int32)) % (3 : Int32))), .val (.int mv1_0), .val (.int mv2_0), .val (.int mv3_0), .val (.ref s4), .val (.ref s5), .val (.ref b6), .unset, .unset] [(.int ((((u0.toUInt32 >>> ((16 : Int32) &&& 31).toUInt32).toInt32) &&& (32767 : Int32)) % (3 : Int32)))])) _
            refine XS.iconst X7.here hx rfl (hb hby at_148) ?_
            show Steps p.tables e below (T7.setTop (mkF m 149 #[.val (.int u0), .val (.int u1), .val (.int u2), .val (.int ((u0 &&& (255 : Int32)).toUInt32.toUInt16.toUInt32.toInt32)), .val (.int ((((u0.toUInt32 >>> ((8 : Int32) &&& 31).toUInt32).toInt32) &&& (255 : Int32)).toUInt32.toUInt16.toUInt32.toInt32)), .val (.int ((((u0.toUInt32 >>> ((16 : Int32) &&& 31).toUInt32).toInt32) &&& (32767 : Int32)) % (3 : Int32))), .val (.int mv1_0), .val (.int mv2_0), .val (.int mv3_0), .val (.ref s4), .val (.ref s5), .val (.ref b6), .unset, .unset] [(.int (2 : Int32)), (.int ((((u0.toUInt32 >>> ((16 : Int32) &&& 31).toUInt32).toInt32) &&& (32767 : Int32)) % (3 : Int32)))])) _
            refine XS.icmpYes X7.here hx rfl (pc0 := 149) (pc' := 159) rfl (hb hby at_149) rfl (tlt hc149).1 (by decide) (by decide) ?_
            show Steps p.tables e below (T7.setTop (mkF m 159 #[.val (.int u0), .val (.int u1), .val (.int u2), .val (.int ((u0 &&& (255 : Int32)).toUInt32.toUInt16.toUInt32.toInt32)), .val (.int ((((u0.toUInt32 >>> ((8 : Int32) &&& 31).toUInt32).toInt32) &&& (255 : Int32)).toUInt32.toUInt16.toUInt32.toInt32)), .val (.int ((((u0.toUInt32 >>> ((16 : Int32) &&& 31).toUInt32).toInt32) &&& (32767 : Int32)) % (3 : Int32))), .val (.int mv1_0), .val (.int mv2_0), .val (.int mv3_0), .val (.ref s4), .val (.ref s5), .val (.ref b6), .unset, .unset] [])) _
            refine XS.iconst X7.here hx rfl (hb hby at_159) ?_
            show Steps p.tables e below (T7.setTop (mkF m 160 #[.val (.int u0), .val (.int u1), .val (.int u2), .val (.int ((u0 &&& (255 : Int32)).toUInt32.toUInt16.toUInt32.toInt32)), .val (.int ((((u0.toUInt32 >>> ((8 : Int32) &&& 31).toUInt32).toInt32) &&& (255 : Int32)).toUInt32.toUInt16.toUInt32.toInt32)), .val (.int ((((u0.toUInt32 >>> ((16 : Int32) &&& 31).toUInt32).toInt32) &&& (32767 : Int32)) % (3 : Int32))), .val (.int mv1_0), .val (.int mv2_0), .val (.int mv3_0), .val (.ref s4), .val (.ref s5), .val (.ref b6), .unset, .unset] [(.int (1 : Int32))])) _
            refine XS.goto X7.here hx rfl (pc0 := 160) (pc' := 164) rfl (hb hby at_160) (by decide) (by decide) ?_
            exact kt
          · by_cases hc156 : ((((u0.toUInt32 >>> ((8 : Int32) &&& 31).toUInt32).toInt32) &&& (255 : Int32)).toUInt32.toUInt16.toUInt32.toInt32) = mv2_0
            · simp only [if_pos hc131, if_neg hc137, if_pos hc143, if_neg hc149, if_pos hc156] at kt
              show Steps p.tables e below (T7.setTop (mkF m 131 #[.val (.int u0), .val (.int u1), .val (.int u2), .val (.int ((u0 &&& (255 : Int32)).toUInt32.toUInt16.toUInt32.toInt32)), .val (.int ((((u0.toUInt32 >>> ((8 : Int32) &&& 31).toUInt32).toInt32) &&& (255 : Int32)).toUInt32.toUInt16.toUInt32.toInt32)), .val (.int ((((u0.toUInt32 >>> ((16 : Int32) &&& 31).toUInt32).toInt32) &&& (32767 : Int32)) % (3 : Int32))), .val (.int mv1_0), .val (.int mv2_0), .val (.int mv3_0), .val (.ref s4), .val (.ref s5), .val (.ref b6), .unset, .unset] [(.int mv3_0), (.int ((((u0.toUInt32 >>> ((16 : Int32) &&& 31).toUInt32).toInt32) &&& (32767 : Int32)) % (3 : Int32)))])) _
              refine XS.icmpNo X7.here hx rfl (hb hby at_131) rfl (teq hc131).2 ?_
              show Steps p.tables e below (T7.setTop (mkF m 134 #[.val (.int u0), .val (.int u1), .val (.int u2), .val (.int ((u0 &&& (255 : Int32)).toUInt32.toUInt16.toUInt32.toInt32)), .val (.int ((((u0.toUInt32 >>> ((8 : Int32) &&& 31).toUInt32).toInt32) &&& (255 : Int32)).toUInt32.toUInt16.toUInt32.toInt32)), .val (.int ((((u0.toUInt32 >>> ((16 : Int32) &&& 31).toUInt32).toInt32) &&& (32767 : Int32)) % (3 : Int32))), .val (.int mv1_0), .val (.int mv2_0), .val (.int mv3_0), .val (.ref s4), .val (.ref s5), .val (.ref b6), .unset, .unset] [])) _
              refine XS.iload X7.here hx rfl (hb hby at_134) rfl ?_
              show Steps p.tables e below (T7.setTop (mkF m 136 #[.val (.int u0), .val (.int u1), .val (.int u2), .val (.int ((u0 &&& (255 : Int32)).toUInt32.toUInt16.toUInt32.toInt32)), .val (.int ((((u0.toUInt32 >>> ((8 : Int32) &&& 31).toUInt32).toInt32) &&& (255 : Int32)).toUInt32.toUInt16.toUInt32.toInt32)), .val (.int ((((u0.toUInt32 >>> ((16 : Int32) &&& 31).toUInt32).toInt32) &&& (32767 : Int32)) % (3 : Int32))), .val (.int mv1_0), .val (.int mv2_0), .val (.int mv3_0), .val (.ref s4), .val (.ref s5), .val (.ref b6), .unset, .unset] [(.int ((((u0.toUInt32 >>> ((16 : Int32) &&& 31).toUInt32).toInt32) &&& (32767 : Int32)) % (3 : Int32)))])) _
              refine XS.iconst X7.here hx rfl (hb hby at_136) ?_
              show Steps p.tables e below (T7.setTop (mkF m 137 #[.val (.int u0), .val (.int u1), .val (.int u2), .val (.int ((u0 &&& (255 : Int32)).toUInt32.toUInt16.toUInt32.toInt32)), .val (.int ((((u0.toUInt32 >>> ((8 : Int32) &&& 31).toUInt32).toInt32) &&& (255 : Int32)).toUInt32.toUInt16.toUInt32.toInt32)), .val (.int ((((u0.toUInt32 >>> ((16 : Int32) &&& 31).toUInt32).toInt32) &&& (32767 : Int32)) % (3 : Int32))), .val (.int mv1_0), .val (.int mv2_0), .val (.int mv3_0), .val (.ref s4), .val (.ref s5), .val (.ref b6), .unset, .unset] [(.int (1 : Int32)), (.int ((((u0.toUInt32 >>> ((16 : Int32) &&& 31).toUInt32).toInt32) &&& (32767 : Int32)) % (3 : Int32)))])) _
              refine XS.icmpNo X7.here hx rfl (hb hby at_137) rfl (flt hc137).1 ?_
              show Steps p.tables e below (T7.setTop (mkF m 140 #[.val (.int u0), .val (.int u1), .val (.int u2), .val (.int ((u0 &&& (255 : Int32)).toUInt32.toUInt16.toUInt32.toInt32)), .val (.int ((((u0.toUInt32 >>> ((8 : Int32) &&& 31).toUInt32).toInt32) &&& (255 : Int32)).toUInt32.toUInt16.toUInt32.toInt32)), .val (.int ((((u0.toUInt32 >>> ((16 : Int32) &&& 31).toUInt32).toInt32) &&& (32767 : Int32)) % (3 : Int32))), .val (.int mv1_0), .val (.int mv2_0), .val (.int mv3_0), .val (.ref s4), .val (.ref s5), .val (.ref b6), .unset, .unset] [])) _
              refine XS.iloadN X7.here hx rfl (hb hby at_140) rfl ?_
              show Steps p.tables e below (T7.setTop (mkF m 141 #[.val (.int u0), .val (.int u1), .val (.int u2), .val (.int ((u0 &&& (255 : Int32)).toUInt32.toUInt16.toUInt32.toInt32)), .val (.int ((((u0.toUInt32 >>> ((8 : Int32) &&& 31).toUInt32).toInt32) &&& (255 : Int32)).toUInt32.toUInt16.toUInt32.toInt32)), .val (.int ((((u0.toUInt32 >>> ((16 : Int32) &&& 31).toUInt32).toInt32) &&& (32767 : Int32)) % (3 : Int32))), .val (.int mv1_0), .val (.int mv2_0), .val (.int mv3_0), .val (.ref s4), .val (.ref s5), .val (.ref b6), .unset, .unset] [(.int ((u0 &&& (255 : Int32)).toUInt32.toUInt16.toUInt32.toInt32))])) _
              refine XS.iload X7.here hx rfl (hb hby at_141) rfl ?_
              show Steps p.tables e below (T7.setTop (mkF m 143 #[.val (.int u0), .val (.int u1), .val (.int u2), .val (.int ((u0 &&& (255 : Int32)).toUInt32.toUInt16.toUInt32.toInt32)), .val (.int ((((u0.toUInt32 >>> ((8 : Int32) &&& 31).toUInt32).toInt32) &&& (255 : Int32)).toUInt32.toUInt16.toUInt32.toInt32)), .val (.int ((((u0.toUInt32 >>> ((16 : Int32) &&& 31).toUInt32).toInt32) &&& (32767 : Int32)) % (3 : Int32))), .val (.int mv1_0), .val (.int mv2_0), .val (.int mv3_0), .val (.ref s4), .val (.ref s5), .val (.ref b6), .unset, .unset] [(.int mv1_0), (.int ((u0 &&& (255 : Int32)).toUInt32.toUInt16.toUInt32.toInt32))])) _
              refine XS.icmpNo X7.here hx rfl (hb hby at_143) rfl (teq hc143).2 ?_
              show Steps p.tables e below (T7.setTop (mkF m 146 #[.val (.int u0), .val (.int u1), .val (.int u2), .val (.int ((u0 &&& (255 : Int32)).toUInt32.toUInt16.toUInt32.toInt32)), .val (.int ((((u0.toUInt32 >>> ((8 : Int32) &&& 31).toUInt32).toInt32) &&& (255 : Int32)).toUInt32.toUInt16.toUInt32.toInt32)), .val (.int ((((u0.toUInt32 >>> ((16 : Int32) &&& 31).toUInt32).toInt32) &&& (32767 : Int32)) % (3 : Int32))), .val (.int mv1_0), .val (.int mv2_0), .val (.int mv3_0), .val (.ref s4), .val (.ref s5), .val (.ref b6), .unset, .unset] [])) _
              refine XS.iload X7.here hx rfl (hb hby at_146) rfl ?_
              show Steps p.tables e below (T7.setTop (mkF m 148 #[.val (.int u0), .val (.int u1), .val (.int u2), .val (.int ((u0 &&& (255 : Int32)).toUInt32.toUInt16.toUInt32.toInt32)), .val (.int ((((u0.toUInt32 >>> ((8 : Int32) &&& 31).toUInt32).toInt32) &&& (255 : Int32)).toUInt32.toUInt16.toUInt32.toInt32)), .val (.int ((((u0.toUInt32 >>> ((16 : Int32) &&& 31).toUInt32).toInt32) &&& (32767 : Int32)) % (3 : Int32))), .val (.int mv1_0), .val (.int mv2_0), .val (.int mv3_0), .val (.ref s4), .val (.ref s5), .val (.ref b6), .unset, .unset] [(.int ((((u0.toUInt32 >>> ((16 : Int32) &&& 31).toUInt32).toInt32) &&& (32767 : Int32)) % (3 : Int32)))])) _
              refine XS.iconst X7.here hx rfl (hb hby at_148) ?_
              show Steps p.tables e below (T7.setTop (mkF m 149 #[.val (.int u0), .val (.int u1), .val (.int u2), .val (.int ((u0 &&& (255 : Int32)).toUInt32.toUInt16.toUInt32.toInt32)), .val (.int ((((u0.toUInt32 >>> ((8 : Int32) &&& 31).toUInt32).toInt32) &&& (255 : Int32)).toUInt32.toUInt16.toUInt32.toInt32)), .val (.int ((((u0.toUInt32 >>> ((16 : Int32) &&& 31).toUInt32).toInt32) &&& (32767 : Int32)) % (3 : Int32))), .val (.int mv1_0), .val (.int mv2_0), .val (.int mv3_0), .val (.ref s4), .val (.ref s5), .val (.ref b6), .unset, .unset] [(.int (2 : Int32)), (.int ((((u0.toUInt32 >>> ((16 : Int32) &&& 31).toUInt32).toInt32) &&& (32767 : Int32)) % (3 : Int32)))])) _
              refine XS.icmpNo X7.here hx rfl (hb hby at_149) rfl (flt hc149).1 ?_
              show Steps p.tables e below (T7.setTop (mkF m 152 #[.val (.int u0), .val (.int u1), .val (.int u2), .val (.int ((u0 &&& (255 : Int32)).toUInt32.toUInt16.toUInt32.toInt32)), .val (.int ((((u0.toUInt32 >>> ((8 : Int32) &&& 31).toUInt32).toInt32) &&& (255 : Int32)).toUInt32.toUInt16.toUInt32.toInt32)), .val (.int ((((u0.toUInt32 >>> ((16 : Int32) &&& 31).toUInt32).toInt32) &&& (32767 : Int32)) % (3 : Int32))), .val (.int mv1_0), .val (.int mv2_0), .val (.int mv3_0), .val (.ref s4), .val (.ref s5), .val (.ref b6), .unset, .unset] [])) _
              refine XS.iload X7.here hx rfl (hb hby at_152) rfl ?_
              show Steps p.tables e below (T7.setTop (mkF m 154 #[.val (.int u0), .val (.int u1), .val (.int u2), .val (.int ((u0 &&& (255 : Int32)).toUInt32.toUInt16.toUInt32.toInt32)), .val (.int ((((u0.toUInt32 >>> ((8 : Int32) &&& 31).toUInt32).toInt32) &&& (255 : Int32)).toUInt32.toUInt16.toUInt32.toInt32)), .val (.int ((((u0.toUInt32 >>> ((16 : Int32) &&& 31).toUInt32).toInt32) &&& (32767 : Int32)) % (3 : Int32))), .val (.int mv1_0), .val (.int mv2_0), .val (.int mv3_0), .val (.ref s4), .val (.ref s5), .val (.ref b6), .unset, .unset] [(.int ((((u0.toUInt32 >>> ((8 : Int32) &&& 31).toUInt32).toInt32) &&& (255 : Int32)).toUInt32.toUInt16.toUInt32.toInt32))])) _
              refine XS.iload X7.here hx rfl (hb hby at_154) rfl ?_
              show Steps p.tables e below (T7.setTop (mkF m 156 #[.val (.int u0), .val (.int u1), .val (.int u2), .val (.int ((u0 &&& (255 : Int32)).toUInt32.toUInt16.toUInt32.toInt32)), .val (.int ((((u0.toUInt32 >>> ((8 : Int32) &&& 31).toUInt32).toInt32) &&& (255 : Int32)).toUInt32.toUInt16.toUInt32.toInt32)), .val (.int ((((u0.toUInt32 >>> ((16 : Int32) &&& 31).toUInt32).toInt32) &&& (32767 : Int32)) % (3 : Int32))), .val (.int mv1_0), .val (.int mv2_0), .val (.int mv3_0), .val (.ref s4), .val (.ref s5), .val (.ref b6), .unset, .unset] [(.int mv2_0), (.int ((((u0.toUInt32 >>> ((8 : Int32) &&& 31).toUInt32).toInt32) &&& (255 : Int32)).toUInt32.toUInt16.toUInt32.toInt32))])) _
              refine XS.icmpNo X7.here hx rfl (hb hby at_156) rfl (teq hc156).2 ?_
              show Steps p.tables e below (T7.setTop (mkF m 159 #[.val (.int u0), .val (.int u1), .val (.int u2), .val (.int ((u0 &&& (255 : Int32)).toUInt32.toUInt16.toUInt32.toInt32)), .val (.int ((((u0.toUInt32 >>> ((8 : Int32) &&& 31).toUInt32).toInt32) &&& (255 : Int32)).toUInt32.toUInt16.toUInt32.toInt32)), .val (.int ((((u0.toUInt32 >>> ((16 : Int32) &&& 31).toUInt32).toInt32) &&& (32767 : Int32)) % (3 : Int32))), .val (.int mv1_0), .val (.int mv2_0), .val (.int mv3_0), .val (.ref s4), .val (.ref s5), .val (.ref b6), .unset, .unset] [])) _
              refine XS.iconst X7.here hx rfl (hb hby at_159) ?_
              show Steps p.tables e below (T7.setTop (mkF m 160 #[.val (.int u0), .val (.int u1), .val (.int u2), .val (.int ((u0 &&& (255 : Int32)).toUInt32.toUInt16.toUInt32.toInt32)), .val (.int ((((u0.toUInt32 >>> ((8 : Int32) &&& 31).toUInt32).toInt32) &&& (255 : Int32)).toUInt32.toUInt16.toUInt32.toInt32)), .val (.int ((((u0.toUInt32 >>> ((16 : Int32) &&& 31).toUInt32).toInt32) &&& (32767 : Int32)) % (3 : Int32))), .val (.int mv1_0), .val (.int mv2_0), .val (.int mv3_0), .val (.ref s4), .val (.ref s5), .val (.ref b6), .unset, .unset] [(.int (1 : Int32))])) _
              refine XS.goto X7.here hx rfl (pc0 := 160) (pc' := 164) rfl (hb hby at_160) (by decide) (by decide) ?_
              exact kt
            · simp only [if_pos hc131, if_neg hc137, if_pos hc143, if_neg hc149, if_neg hc156] at kt
              show Steps p.tables e below (T7.setTop (mkF m 131 #[.val (.int u0), .val (.int u1), .val (.int u2), .val (.int ((u0 &&& (255 : Int32)).toUInt32.toUInt16.toUInt32.toInt32)), .val (.int ((((u0.toUInt32 >>> ((8 : Int32) &&& 31).toUInt32).toInt32) &&& (255 : Int32)).toUInt32.toUInt16.toUInt32.toInt32)), .val (.int ((((u0.toUInt32 >>> ((16 : Int32) &&& 31).toUInt32).toInt32) &&& (32767 : Int32)) % (3 : Int32))), .val (.int mv1_0), .val (.int mv2_0), .val (.int mv3_0), .val (.ref s4), .val (.ref s5), .val (.ref b6), .unset, .unset] [(.int mv3_0), (.int ((((u0.toUInt32 >>> ((16 : Int32) &&& 31).toUInt32).toInt32) &&& (32767 : Int32)) % (3 : Int32)))])) _
              refine XS.icmpNo X7.here hx rfl (hb hby at_131) rfl (teq hc131).2 ?_
              show Steps p.tables e below (T7.setTop (mkF m 134 #[.val (.int u0), .val (.int u1), .val (.int u2), .val (.int ((u0 &&& (255 : Int32)).toUInt32.toUInt16.toUInt32.toInt32)), .val (.int ((((u0.toUInt32 >>> ((8 : Int32) &&& 31).toUInt32).toInt32) &&& (255 : Int32)).toUInt32.toUInt16.toUInt32.toInt32)), .val (.int ((((u0.toUInt32 >>> ((16 : Int32) &&& 31).toUInt32).toInt32) &&& (32767 : Int32)) % (3 : Int32))), .val (.int mv1_0), .val (.int mv2_0), .val (.int mv3_0), .val (.ref s4), .val (.ref s5), .val (.ref b6), .unset, .unset] [])) _
              refine XS.iload X7.here hx rfl (hb hby at_134) rfl ?_
              show Steps p.tables e below (T7.setTop (mkF m 136 #[.val (.int u0), .val (.int u1), .val (.int u2), .val (.int ((u0 &&& (255 : Int32)).toUInt32.toUInt16.toUInt32.toInt32)), .val (.int ((((u0.toUInt32 >>> ((8 : Int32) &&& 31).toUInt32).toInt32) &&& (255 : Int32)).toUInt32.toUInt16.toUInt32.toInt32)), .val (.int ((((u0.toUInt32 >>> ((16 : Int32) &&& 31).toUInt32).toInt32) &&& (32767 : Int32)) % (3 : Int32))), .val (.int mv1_0), .val (.int mv2_0), .val (.int mv3_0), .val (.ref s4), .val (.ref s5), .val (.ref b6), .unset, .unset] [(.int ((((u0.toUInt32 >>> ((16 : Int32) &&& 31).toUInt32).toInt32) &&& (32767 : Int32)) % (3 : Int32)))])) _
              refine XS.iconst X7.here hx rfl (hb hby at_136) ?_
              show Steps p.tables e below (T7.setTop (mkF m 137 #[.val (.int u0), .val (.int u1), .val (.int u2), .val (.int ((u0 &&& (255 : Int32)).toUInt32.toUInt16.toUInt32.toInt32)), .val (.int ((((u0.toUInt32 >>> ((8 : Int32) &&& 31).toUInt32).toInt32) &&& (255 : Int32)).toUInt32.toUInt16.toUInt32.toInt32)), .val (.int ((((u0.toUInt32 >>> ((16 : Int32) &&& 31).toUInt32).toInt32) &&& (32767 : Int32)) % (3 : Int32))), .val (.int mv1_0), .val (.int mv2_0), .val (.int mv3_0), .val (.ref s4), .val (.ref s5), .val (.ref b6), .unset, .unset] [(.int (1 : Int32)), (.int ((((u0.toUInt32 >>> ((16 : Int32) &&& 31).toUInt32).toInt32) &&& (32767 : Int32)) % (3 : Int32)))])) _
              refine XS.icmpNo X7.here hx rfl (hb hby at_137) rfl (flt hc137).1 ?_
              show Steps p.tables e below (T7.setTop (mkF m 140 #[.val (.int u0), .val (.int u1), .val (.int u2), .val (.int ((u0 &&& (255 : Int32)).toUInt32.toUInt16.toUInt32.toInt32)), .val (.int ((((u0.toUInt32 >>> ((8 : Int32) &&& 31).toUInt32).toInt32) &&& (255 : Int32)).toUInt32.toUInt16.toUInt32.toInt32)), .val (.int ((((u0.toUInt32 >>> ((16 : Int32) &&& 31).toUInt32).toInt32) &&& (32767 : Int32)) % (3 : Int32))), .val (.int mv1_0), .val (.int mv2_0), .val (.int mv3_0), .val (.ref s4), .val (.ref s5), .val (.ref b6), .unset, .unset] [])) _
              refine XS.iloadN X7.here hx rfl (hb hby at_140) rfl ?_
              show Steps p.tables e below (T7.setTop (mkF m 141 #[.val (.int u0), .val (.int u1), .val (.int u2), .val (.int ((u0 &&& (255 : Int32)).toUInt32.toUInt16.toUInt32.toInt32)), .val (.int ((((u0.toUInt32 >>> ((8 : Int32) &&& 31).toUInt32).toInt32) &&& (255 : Int32)).toUInt32.toUInt16.toUInt32.toInt32)), .val (.int ((((u0.toUInt32 >>> ((16 : Int32) &&& 31).toUInt32).toInt32) &&& (32767 : Int32)) % (3 : Int32))), .val (.int mv1_0), .val (.int mv2_0), .val (.int mv3_0), .val (.ref s4), .val (.ref s5), .val (.ref b6), .unset, .unset] [(.int ((u0 &&& (255 : Int32)).toUInt32.toUInt16.toUInt32.toInt32))])) _
              refine XS.iload X7.here hx rfl (hb hby at_141) rfl ?_
              show Steps p.tables e below (T7.setTop (mkF m 143 #[.val (.int u0), .val (.int u1), .val (.int u2), .val (.int ((u0 &&& (255 : Int32)).toUInt32.toUInt16.toUInt32.toInt32)), .val (.int ((((u0.toUInt32 >>> ((8 : Int32) &&& 31).toUInt32).toInt32) &&& (255 : Int32)).toUInt32.toUInt16.toUInt32.toInt32)), .val (.int ((((u0.toUInt32 >>> ((16 : Int32) &&& 31).toUInt32).toInt32) &&& (32767 : Int32)) % (3 : Int32))), .val (.int mv1_0), .val (.int mv2_0), .val (.int mv3_0), .val (.ref s4), .val (.ref s5), .val (.ref b6), .unset, .unset] [(.int mv1_0), (.int ((u0 &&& (255 : Int32)).toUInt32.toUInt16.toUInt32.toInt32))])) _
              refine XS.icmpNo X7.here hx rfl (hb hby at_143) rfl (teq hc143).2 ?_
              show Steps p.tables e below (T7.setTop (mkF m 146 #[.val (.int u0), .val (.int u1), .val (.int u2), .val (.int ((u0 &&& (255 : Int32)).toUInt32.toUInt16.toUInt32.toInt32)), .val (.int ((((u0.toUInt32 >>> ((8 : Int32) &&& 31).toUInt32).toInt32) &&& (255 : Int32)).toUInt32.toUInt16.toUInt32.toInt32)), .val (.int ((((u0.toUInt32 >>> ((16 : Int32) &&& 31).toUInt32).toInt32) &&& (32767 : Int32)) % (3 : Int32))), .val (.int mv1_0), .val (.int mv2_0), .val (.int mv3_0), .val (.ref s4), .val (.ref s5), .val (.ref b6), .unset, .unset] [])) _
              refine XS.iload X7.here hx rfl (hb hby at_146) rfl ?_
              show Steps p.tables e below (T7.setTop (mkF m 148 #[.val (.int u0), .val (.int u1), .val (.int u2), .val (.int ((u0 &&& (255 : Int32)).toUInt32.toUInt16.toUInt32.toInt32)), .val (.int ((((u0.toUInt32 >>> ((8 : Int32) &&& 31).toUInt32).toInt32) &&& (255 : Int32)).toUInt32.toUInt16.toUInt32.toInt32)), .val (.int ((((u0.toUInt32 >>> ((16 : Int32) &&& 31).toUInt32).toInt32) &&& (32767 : Int32)) % (3 : Int32))), .val (.int mv1_0), .val (.int mv2_0), .val (.int mv3_0), .val (.ref s4), .val (.ref s5), .val (.ref b6), .unset, .unset] [(.int ((((u0.toUInt32 >>> ((16 : Int32) &&& 31).toUInt32).toInt32) &&& (32767 : Int32)) % (3 : Int32)))])) _
              refine XS.iconst X7.here hx rfl (hb hby at_148) ?_
              show Steps p.tables e below (T7.setTop (mkF m 149 #[.val (.int u0), .val (.int u1), .val (.int u2), .val (.int ((u0 &&& (255 : Int32)).toUInt32.toUInt16.toUInt32.toInt32)), .val (.int ((((u0.toUInt32 >>> ((8 : Int32) &&& 31).toUInt32).toInt32) &&& (255 : Int32)).toUInt32.toUInt16.toUInt32.toInt32)), .val (.int ((((u0.toUInt32 >>> ((16 : Int32) &&& 31).toUInt32).toInt32) &&& (32767 : Int32)) % (3 : Int32))), .val (.int mv1_0), .val (.int mv2_0), .val (.int mv3_0), .val (.ref s4), .val (.ref s5), .val (.ref b6), .unset, .unset] [(.int (2 : Int32)), (.int ((((u0.toUInt32 >>> ((16 : Int32) &&& 31).toUInt32).toInt32) &&& (32767 : Int32)) % (3 : Int32)))])) _
              refine XS.icmpNo X7.here hx rfl (hb hby at_149) rfl (flt hc149).1 ?_
              show Steps p.tables e below (T7.setTop (mkF m 152 #[.val (.int u0), .val (.int u1), .val (.int u2), .val (.int ((u0 &&& (255 : Int32)).toUInt32.toUInt16.toUInt32.toInt32)), .val (.int ((((u0.toUInt32 >>> ((8 : Int32) &&& 31).toUInt32).toInt32) &&& (255 : Int32)).toUInt32.toUInt16.toUInt32.toInt32)), .val (.int ((((u0.toUInt32 >>> ((16 : Int32) &&& 31).toUInt32).toInt32) &&& (32767 : Int32)) % (3 : Int32))), .val (.int mv1_0), .val (.int mv2_0), .val (.int mv3_0), .val (.ref s4), .val (.ref s5), .val (.ref b6), .unset, .unset] [])) _
              refine XS.iload X7.here hx rfl (hb hby at_152) rfl ?_
              show Steps p.tables e below (T7.setTop (mkF m 154 #[.val (.int u0), .val (.int u1), .val (.int u2), .val (.int ((u0 &&& (255 : Int32)).toUInt32.toUInt16.toUInt32.toInt32)), .val (.int ((((u0.toUInt32 >>> ((8 : Int32) &&& 31).toUInt32).toInt32) &&& (255 : Int32)).toUInt32.toUInt16.toUInt32.toInt32)), .val (.int ((((u0.toUInt32 >>> ((16 : Int32) &&& 31).toUInt32).toInt32) &&& (32767 : Int32)) % (3 : Int32))), .val (.int mv1_0), .val (.int mv2_0), .val (.int mv3_0), .val (.ref s4), .val (.ref s5), .val (.ref b6), .unset, .unset] [(.int ((((u0.toUInt32 >>> ((8 : Int32) &&& 31).toUInt32).toInt32) &&& (255 : Int32)).toUInt32.toUInt16.toUInt32.toInt32))])) _
              refine XS.iload X7.here hx rfl (hb hby at_154) rfl ?_
              show Steps p.tables e below (T7.setTop (mkF m 156 #[.val (.int u0), .val (.int u1), .val (.int u2), .val (.int ((u0 &&& (255 : Int32)).toUInt32.toUInt16.toUInt32.toInt32)), .val (.int ((((u0.toUInt32 >>> ((8 : Int32) &&& 31).toUInt32).toInt32) &&& (255 : Int32)).toUInt32.toUInt16.toUInt32.toInt32)), .val (.int ((((u0.toUInt32 >>> ((16 : Int32) &&& 31).toUInt32).toInt32) &&& (32767 : Int32)) % (3 : Int32))), .val (.int mv1_0), .val (.int mv2_0), .val (.int mv3_0), .val (.ref s4), .val (.ref s5), .val (.ref b6), .unset, .unset] [(.int mv2_0), (.int ((((u0.toUInt32 >>> ((8 : Int32) &&& 31).toUInt32).toInt32) &&& (255 : Int32)).toUInt32.toUInt16.toUInt32.toInt32))])) _
              refine XS.icmpYes X7.here hx rfl (pc0 := 156) (pc' := 163) rfl (hb hby at_156) rfl (feq hc156).2 (by decide) (by decide) ?_
              show Steps p.tables e below (T7.setTop (mkF m 163 #[.val (.int u0), .val (.int u1), .val (.int u2), .val (.int ((u0 &&& (255 : Int32)).toUInt32.toUInt16.toUInt32.toInt32)), .val (.int ((((u0.toUInt32 >>> ((8 : Int32) &&& 31).toUInt32).toInt32) &&& (255 : Int32)).toUInt32.toUInt16.toUInt32.toInt32)), .val (.int ((((u0.toUInt32 >>> ((16 : Int32) &&& 31).toUInt32).toInt32) &&& (32767 : Int32)) % (3 : Int32))), .val (.int mv1_0), .val (.int mv2_0), .val (.int mv3_0), .val (.ref s4), .val (.ref s5), .val (.ref b6), .unset, .unset] [])) _
              refine XS.iconst X7.here hx rfl (hb hby at_163) ?_
              exact kt
        · simp only [if_pos hc131, if_neg hc137, if_neg hc143] at kt
          show Steps p.tables e below (T7.setTop (mkF m 131 #[.val (.int u0), .val (.int u1), .val (.int u2), .val (.int ((u0 &&& (255 : Int32)).toUInt32.toUInt16.toUInt32.toInt32)), .val (.int ((((u0.toUInt32 >>> ((8 : Int32) &&& 31).toUInt32).toInt32) &&& (255 : Int32)).toUInt32.toUInt16.toUInt32.toInt32)), .val (.int ((((u0.toUInt32 >>> ((16 : Int32) &&& 31).toUInt32).toInt32) &&& (32767 : Int32)) % (3 : Int32))), .val (.int mv1_0), .val (.int mv2_0), .val (.int mv3_0), .val (.ref s4), .val (.ref s5), .val (.ref b6), .unset, .unset] [(.int mv3_0), (.int ((((u0.toUInt32 >>> ((16 : Int32) &&& 31).toUInt32).toInt32) &&& (32767 : Int32)) % (3 : Int32)))])) _
          refine XS.icmpNo X7.here hx rfl (hb hby at_131) rfl (teq hc131).2 ?_
          show Steps p.tables e below (T7.setTop (mkF m 134 #[.val (.int u0), .val (.int u1), .val (.int u2), .val (.int ((u0 &&& (255 : Int32)).toUInt32.toUInt16.toUInt32.toInt32)), .val (.int ((((u0.toUInt32 >>> ((8 : Int32) &&& 31).toUInt32).toInt32) &&& (255 : Int32)).toUInt32.toUInt16.toUInt32.toInt32)), .val (.int ((((u0.toUInt32 >>> ((16 : Int32) &&& 31).toUInt32).toInt32) &&& (32767 : Int32)) % (3 : Int32))), .val (.int mv1_0), .val (.int mv2_0), .val (.int mv3_0), .val (.ref s4), .val (.ref s5), .val (.ref b6), .unset, .unset] [])) _
          refine XS.iload X7.here hx rfl (hb hby at_134) rfl ?_
          show Steps p.tables e below (T7.setTop (mkF m 136 #[.val (.int u0), .val (.int u1), .val (.int u2), .val (.int ((u0 &&& (255 : Int32)).toUInt32.toUInt16.toUInt32.toInt32)), .val (.int ((((u0.toUInt32 >>> ((8 : Int32) &&& 31).toUInt32).toInt32) &&& (255 : Int32)).toUInt32.toUInt16.toUInt32.toInt32)), .val (.int ((((u0.toUInt32 >>> ((16 : Int32) &&& 31).toUInt32).toInt32) &&& (32767 : Int32)) % (3 : Int32))), .val (.int mv1_0), .val (.int mv2_0), .val (.int mv3_0), .val (.ref s4), .val (.ref s5), .val (.ref b6), .unset, .unset] [(.int ((((u0.toUInt32 >>> ((16 : Int32) &&& 31).toUInt32).toInt32) &&& (32767 : Int32)) % (3 : Int32)))])) _
          refine XS.iconst X7.here hx rfl (hb hby at_136) ?_
          show Steps p.tables e below (T7.setTop (mkF m 137 #[.val (.int u0), .val (.int u1), .val (.int u2), .val (.int ((u0 &&& (255 : Int32)).toUInt32.toUInt16.toUInt32.toInt32)), .val (.int ((((u0.toUInt32 >>> ((8 : Int32) &&& 31).toUInt32).toInt32) &&& (255 : Int32)).toUInt32.toUInt16.toUInt32.toInt32)), .val (.int ((((u0.toUInt32 >>> ((16 : Int32) &&& 31).toUInt32).toInt32) &&& (32767 : Int32)) % (3 : Int32))), .val (.int mv1_0), .val (.int mv2_0), .val (.int mv3_0), .val (.ref s4), .val (.ref s5), .val (.ref b6), .unset, .unset] [(.int (1 : Int32)), (.int ((((u0.toUInt32 >>> ((16 : Int32) &&& 31).toUInt32).toInt32) &&& (32767 : Int32)) % (3 : Int32)))])) _
          refine XS.icmpNo X7.here hx rfl (hb hby at_137) rfl (flt hc137).1 ?_
          show Steps p.tables e below (T7.setTop (mkF m 140 #[.val (.int u0), .val (.int u1), .val (.int u2), .val (.int ((u0 &&& (255 : Int32)).toUInt32.toUInt16.toUInt32.toInt32)), .val (.int ((((u0.toUInt32 >>> ((8 : Int32) &&& 31).toUInt32).toInt32) &&& (255 : Int32)).toUInt32.toUInt16.toUInt32.toInt32)), .val (.int ((((u0.toUInt32 >>> ((16 : Int32) &&& 31).toUInt32).toInt32) &&& (32767 : Int32)) % (3 : Int32))), .val (.int mv1_0), .val (.int mv2_0), .val (.int mv3_0), .val (.ref s4), .val (.ref s5), .val (.ref b6), .unset, .unset] [])) _
          refine XS.iloadN X7.here hx rfl (hb hby at_140) rfl ?_
          show Steps p.tables e below (T7.setTop (mkF m 141 #[.val (.int u0), .val (.int u1), .val (.int u2), .val (.int ((u0 &&& (255 : Int32)).toUInt32.toUInt16.toUInt32.toInt32)), .val (.int ((((u0.toUInt32 >>> ((8 : Int32) &&& 31).toUInt32).toInt32) &&& (255 : Int32)).toUInt32.toUInt16.toUInt32.toInt32)), .val (.int ((((u0.toUInt32 >>> ((16 : Int32) &&& 31).toUInt32).toInt32) &&& (32767 : Int32)) % (3 : Int32))), .val (.int mv1_0), .val (.int mv2_0), .val (.int mv3_0), .val (.ref s4), .val (.ref s5), .val (.ref b6), .unset, .unset] [(.int ((u0 &&& (255 : Int32)).toUInt32.toUInt16.toUInt32.toInt32))])) _
          refine XS.iload X7.here hx rfl (hb hby at_141) rfl ?_
          show Steps p.tables e below (T7.setTop (mkF m 143 #[.val (.int u0), .val (.int u1), .val (.int u2), .val (.int ((u0 &&& (255 : Int32)).toUInt32.toUInt16.toUInt32.toInt32)), .val (.int ((((u0.toUInt32 >>> ((8 : Int32) &&& 31).toUInt32).toInt32) &&& (255 : Int32)).toUInt32.toUInt16.toUInt32.toInt32)), .val (.int ((((u0.toUInt32 >>> ((16 : Int32) &&& 31).toUInt32).toInt32) &&& (32767 : Int32)) % (3 : Int32))), .val (.int mv1_0), .val (.int mv2_0), .val (.int mv3_0), .val (.ref s4), .val (.ref s5), .val (.ref b6), .unset, .unset] [(.int mv1_0), (.int ((u0 &&& (255 : Int32)).toUInt32.toUInt16.toUInt32.toInt32))])) _
          refine XS.icmpYes X7.here hx rfl (pc0 := 143) (pc' := 163) rfl (hb hby at_143) rfl (feq hc143).2 (by decide) (by decide) ?_
          show Steps p.tables e below (T7.setTop (mkF m 163 #[.val (.int u0), .val (.int u1), .val (.int u2), .val (.int ((u0 &&& (255 : Int32)).toUInt32.toUInt16.toUInt32.toInt32)), .val (.int ((((u0.toUInt32 >>> ((8 : Int32) &&& 31).toUInt32).toInt32) &&& (255 : Int32)).toUInt32.toUInt16.toUInt32.toInt32)), .val (.int ((((u0.toUInt32 >>> ((16 : Int32) &&& 31).toUInt32).toInt32) &&& (32767 : Int32)) % (3 : Int32))), .val (.int mv1_0), .val (.int mv2_0), .val (.int mv3_0), .val (.ref s4), .val (.ref s5), .val (.ref b6), .unset, .unset] [])) _
          refine XS.iconst X7.here hx rfl (hb hby at_163) ?_
          exact kt
    · simp only [if_neg hc131] at kt
      show Steps p.tables e below (T7.setTop (mkF m 131 #[.val (.int u0), .val (.int u1), .val (.int u2), .val (.int ((u0 &&& (255 : Int32)).toUInt32.toUInt16.toUInt32.toInt32)), .val (.int ((((u0.toUInt32 >>> ((8 : Int32) &&& 31).toUInt32).toInt32) &&& (255 : Int32)).toUInt32.toUInt16.toUInt32.toInt32)), .val (.int ((((u0.toUInt32 >>> ((16 : Int32) &&& 31).toUInt32).toInt32) &&& (32767 : Int32)) % (3 : Int32))), .val (.int mv1_0), .val (.int mv2_0), .val (.int mv3_0), .val (.ref s4), .val (.ref s5), .val (.ref b6), .unset, .unset] [(.int mv3_0), (.int ((((u0.toUInt32 >>> ((16 : Int32) &&& 31).toUInt32).toInt32) &&& (32767 : Int32)) % (3 : Int32)))])) _
      refine XS.icmpYes X7.here hx rfl (pc0 := 131) (pc' := 163) rfl (hb hby at_131) rfl (feq hc131).2 (by decide) (by decide) ?_
      show Steps p.tables e below (T7.setTop (mkF m 163 #[.val (.int u0), .val (.int u1), .val (.int u2), .val (.int ((u0 &&& (255 : Int32)).toUInt32.toUInt16.toUInt32.toInt32)), .val (.int ((((u0.toUInt32 >>> ((8 : Int32) &&& 31).toUInt32).toInt32) &&& (255 : Int32)).toUInt32.toUInt16.toUInt32.toInt32)), .val (.int ((((u0.toUInt32 >>> ((16 : Int32) &&& 31).toUInt32).toInt32) &&& (32767 : Int32)) % (3 : Int32))), .val (.int mv1_0), .val (.int mv2_0), .val (.int mv3_0), .val (.ref s4), .val (.ref s5), .val (.ref b6), .unset, .unset] [])) _
      refine XS.iconst X7.here hx rfl (hb hby at_163) ?_
      exact kt
  by_cases hc175 : (u2 &&& (7 : Int32)) < (4 : Int32)
  · obtain ⟨T9, h9, X9, e9, E9, A9, D9, -, st9⟩ := newO X7 hx hZ hown (hw _ (List.mem_of_getElem? (i := 26) rfl)) (hw _ (List.mem_of_getElem? (i := 27) rfl)) (hw _ (List.mem_of_getElem? (i := 28) rfl)) rfl (g := (mkF m 180 #[.val (.int u0), .val (.int u1), .val (.int u2), .val (.int ((u0 &&& (255 : Int32)).toUInt32.toUInt16.toUInt32.toInt32)), .val (.int ((((u0.toUInt32 >>> ((8 : Int32) &&& 31).toUInt32).toInt32) &&& (255 : Int32)).toUInt32.toUInt16.toUInt32.toInt32)), .val (.int ((((u0.toUInt32 >>> ((16 : Int32) &&& 31).toUInt32).toInt32) &&& (32767 : Int32)) % (3 : Int32))), .val (.int mv1_0), .val (.int mv2_0), .val (.int mv3_0), .val (.ref s4), .val (.ref s5), .val (.ref b6), .val (.int mv8_0), .val (.int (u2 &&& (7 : Int32)))] [(.ref b6)])) rfl (hb hby at_180) (by decide) (by decide)
    obtain ⟨b9, g9⟩ : ∃ z, z = T7.heap.size := ⟨_, rfl⟩
    rw [← g9] at A9 D9 st9
    have g_b9 : n0 ≤ b9 := Nat.le_trans Z7 (Nat.le_of_eq g9.symm)
    have sz_b9 : h0.size ≤ b9 := Nat.le_trans KK7.1 (Nat.le_of_eq g9.symm)
    have Z9 : n0 ≤ h9.size := Nat.le_trans Z7 E9.1
    have KK9 := KK7.ext E9
    have O9 := O7.ext E9
    have C9 := C7.trans (CHr.ext E9 C7.1)
    have hk9 := Nat.le_trans hk7 E9.1
    have F9_value : Fld Z h9 b9 "com/example/triplewright/triplewright/rdf/Iri" "value" "Ljava/lang/String;" .null := D9 (Or.inr (hw _ (List.mem_of_getElem? (i := 40) rfl))) (ty := (.object "java/lang/String")) (by decide)
    obtain ⟨_, _, ⟨T10, L10, k10, n10⟩, -, X10, hS10, gr10, ⟨Lc10, hQ10, l10, y10, z10, Cq10⟩, st10⟩ := X9.specialBackS hx (y := (⟨"com/example/triplewright/triplewright/rdf/Iri", "<init>", "(Ljava/lang/String;)V"⟩ : MethodName)) rfl hown (mvT hZ (hw _ (List.mem_of_getElem? (i := 29) rfl))) (mvT hZ (hw _ (List.mem_of_getElem? (i := 30) rfl))) (mvT hZ (hw _ (List.mem_of_getElem? (i := 31) rfl))) (by decide) (backOfSH (W := 2) (rm5 l Z a0 hw [] b9 s5 h9 n0 Z9 g_b9 A9 F9_value (((A5.ext E6).keep K7).ext E9)) hZ (hw _ (List.mem_of_getElem? (i := 31) rfl)) (hw _ (List.mem_of_getElem? (i := 28) rfl)) (by decide) (by decide) (hEL hw) C9.1) (g := (mkF m 186 #[.val (.int u0), .val (.int u1), .val (.int u2), .val (.int ((u0 &&& (255 : Int32)).toUInt32.toUInt16.toUInt32.toInt32)), .val (.int ((((u0.toUInt32 >>> ((8 : Int32) &&& 31).toUInt32).toInt32) &&& (255 : Int32)).toUInt32.toUInt16.toUInt32.toInt32)), .val (.int ((((u0.toUInt32 >>> ((16 : Int32) &&& 31).toUInt32).toInt32) &&& (32767 : Int32)) % (3 : Int32))), .val (.int mv1_0), .val (.int mv2_0), .val (.int mv3_0), .val (.ref s4), .val (.ref s5), .val (.ref b6), .val (.int mv8_0), .val (.int (u2 &&& (7 : Int32)))] [(.ref s5), (.ref b9), (.ref b9), (.ref b6)])) rfl (by rw [hml]; rfl) (Steps.refl _) (a := b9) (argsL := [(.ref s5)]) (rest := [(.ref b9), (.ref b6)]) (lenOf pd_4 rfl) rfl (by show 2 * 0 + _ ≤ _; exact Nat.le_of_eq rfl) (hb hby at_186) (fun _ _ => ⟨rfl, e9, (by decide : 16 + 2 ≤ _), (by decide : 52 + 24 ≤ _)⟩)
    dsimp only [Pt.U, Pt.locs, Pt.cells, Pt.slots] at X10 l10 y10 z10 st10 hQ10 hS10 gr10 Cq10
    subst l10 y10 z10
    obtain ⟨X10, hS10, hZ, hown⟩ := rebS hS7 (Nat.le_trans hk9 (Nat.le_of_eq (congrArg Array.size e9).symm)) X10 hS10 gr10 hZ hown
    have hk10 := Nat.le_refl T10.heap.size
    obtain ⟨rfl, N10q, K10, A10, F10_value⟩ := hQ10
    have N10 := Fr.app N7 N10q
    have Z10 : n0 ≤ T10.heap.size := Nat.le_trans Z9 K10.1
    have KK10 := KK9.trans K10 (allS (P := fun x => x ∈ [] ∨ h0.size ≤ x) (Or.inr sz_b9) all0)
    have O10 := O9.keep K10 (allS g_b9 all0)
    have C10 := C9.trans Cq10
    obtain ⟨cq11, kq11, q11a, q11b, q11c⟩ := isOf hZ rfl ((A7.ext E9).keep K10)
    obtain ⟨_, _, ⟨T11, L11, k11, n11⟩, -, X11, ⟨Lc11, hQ11, l11, y11, z11⟩, st11⟩ := X10.virtualBack hx (y := (⟨"com/example/triplewright/triplewright/rdf/Iri", "equals", "(Ljava/lang/Object;)Z"⟩ : MethodName)) (z := (⟨"com/example/triplewright/triplewright/rdf/Iri", "equals", "(Ljava/lang/Object;)Z"⟩ : MethodName)) hown (mvT hZ (hw _ (List.mem_of_getElem? (i := 41) rfl))) (mvT hZ (hw _ (List.mem_of_getElem? (i := 42) rfl))) (notFace_of_selects (args := #[]) (mvT hZ (hw _ (List.mem_of_getElem? (i := 44) rfl)))) (mvT hZ (hw _ (List.mem_of_getElem? (i := 44) rfl))) (mvT hZ (hw _ (List.mem_of_getElem? (i := 43) rfl))) (by decide) (backOf (W := 0) (rm7 l Z a0 hw [] b6 b9 s4 s5 d4 d5 kc4 kc5 (csOf ((((u0.toUInt32 >>> ((16 : Int32) &&& 31).toUInt32).toInt32) &&& (32767 : Int32)) % (3 : Int32)) ((u0 &&& (255 : Int32)).toUInt32.toUInt16.toUInt32.toInt32) ((((u0.toUInt32 >>> ((8 : Int32) &&& 31).toUInt32).toInt32) &&& (255 : Int32)).toUInt32.toUInt16.toUInt32.toInt32)) (csOf mv3_0 mv1_0 mv2_0) G_COMPACT T10.heap n0 Z10 O10 A10 ((F7_value.ext E9).keep K10 (ninS (Nat.ne_of_lt (Nat.lt_of_lt_of_le A7.lt (Nat.le_of_eq g9.symm))) nin0)) F10_value (((((A4.keep K5).ext E6).keep K7).ext E9).keep K10) (((((F4_coder.keep K5 nin0).ext E6).keep K7 (ninS (Nat.ne_of_lt (Nat.lt_of_lt_of_le (A4.keep K5).lt (Nat.le_of_eq g6.symm))) nin0)).ext E9).keep K10 (ninS (Nat.ne_of_lt (Nat.lt_of_lt_of_le (((A4.keep K5).ext E6).keep K7).lt (Nat.le_of_eq g9.symm))) nin0)) (((((F4_value.keep K5 nin0).ext E6).keep K7 (ninS (Nat.ne_of_lt (Nat.lt_of_lt_of_le (A4.keep K5).lt (Nat.le_of_eq g6.symm))) nin0)).ext E9).keep K10 (ninS (Nat.ne_of_lt (Nat.lt_of_lt_of_le (((A4.keep K5).ext E6).keep K7).lt (Nat.le_of_eq g9.symm))) nin0)) (((((V4.keep K5 nin0).ext E6).keep K7 (ninS (Nat.ne_of_lt (Nat.lt_of_lt_of_le (V4.keep K5 nin0).lt (Nat.le_of_eq g6.symm))) nin0)).ext E9).keep K10 (ninS (Nat.ne_of_lt (Nat.lt_of_lt_of_le (((V4.keep K5 nin0).ext E6).keep K7 (ninS (Nat.ne_of_lt (Nat.lt_of_lt_of_le (V4.keep K5 nin0).lt (Nat.le_of_eq g6.symm))) nin0)).lt (Nat.le_of_eq g9.symm))) nin0)) (own_cs _ hCa0 hCa1) (own_len _ _ _) ((((A5.ext E6).keep K7).ext E9).keep K10) ((((F5_coder.ext E6).keep K7 (ninS (Nat.ne_of_lt (Nat.lt_of_lt_of_le A5.lt (Nat.le_of_eq g6.symm))) nin0)).ext E9).keep K10 (ninS (Nat.ne_of_lt (Nat.lt_of_lt_of_le ((A5.ext E6).keep K7).lt (Nat.le_of_eq g9.symm))) nin0)) ((((F5_value.ext E6).keep K7 (ninS (Nat.ne_of_lt (Nat.lt_of_lt_of_le A5.lt (Nat.le_of_eq g6.symm))) nin0)).ext E9).keep K10 (ninS (Nat.ne_of_lt (Nat.lt_of_lt_of_le ((A5.ext E6).keep K7).lt (Nat.le_of_eq g9.symm))) nin0)) ((((V5.ext E6).keep K7 (ninS (Nat.ne_of_lt (Nat.lt_of_lt_of_le V5.lt (Nat.le_of_eq g6.symm))) nin0)).ext E9).keep K10 (ninS (Nat.ne_of_lt (Nat.lt_of_lt_of_le ((V5.ext E6).keep K7 (ninS (Nat.ne_of_lt (Nat.lt_of_lt_of_le V5.lt (Nat.le_of_eq g6.symm))) nin0)).lt (Nat.le_of_eq g9.symm))) nin0)) (own_cs _ hCb0 hCb1) (own_len _ _ _) S_COMPACT P_COMPACT) hZ (hw _ (List.mem_of_getElem? (i := 45) rfl)) (hw _ (List.mem_of_getElem? (i := 28) rfl)) (by decide) (by decide)) q11a q11c (g := (mkF m 189 #[.val (.int u0), .val (.int u1), .val (.int u2), .val (.int ((u0 &&& (255 : Int32)).toUInt32.toUInt16.toUInt32.toInt32)), .val (.int ((((u0.toUInt32 >>> ((8 : Int32) &&& 31).toUInt32).toInt32) &&& (255 : Int32)).toUInt32.toUInt16.toUInt32.toInt32)), .val (.int ((((u0.toUInt32 >>> ((16 : Int32) &&& 31).toUInt32).toInt32) &&& (32767 : Int32)) % (3 : Int32))), .val (.int mv1_0), .val (.int mv2_0), .val (.int mv3_0), .val (.ref s4), .val (.ref s5), .val (.ref b6), .val (.int mv8_0), .val (.int (u2 &&& (7 : Int32)))] [(.ref b9), (.ref b6)])) rfl (by rw [hml]; rfl) (Steps.refl _) (argsL := [(.ref b9)]) (rest := []) (lenOf pd_2 rfl) rfl (by show 2 * 0 + _ ≤ _; exact Nat.le_of_eq rfl) (hb hby at_189) (fun _ _ => ⟨rfl, rfl, (by decide : 18 + 0 ≤ _), (by decide : 76 + 0 ≤ _)⟩)
    dsimp only [Pt.U, Pt.locs, Pt.cells, Pt.slots] at X11 l11 y11 z11 st11 hQ11
    subst l11 y11 z11
    obtain ⟨rfl, N11q, e11⟩ := hQ11
    have N11 := Fr.app N10 N11q
    have hb194 : (eqI (csOf ((((u0.toUInt32 >>> ((16 : Int32) &&& 31).toUInt32).toInt32) &&& (32767 : Int32)) % (3 : Int32)) ((u0 &&& (255 : Int32)).toUInt32.toUInt16.toUInt32.toInt32) ((((u0.toUInt32 >>> ((8 : Int32) &&& 31).toUInt32).toInt32) &&& (255 : Int32)).toUInt32.toUInt16.toUInt32.toInt32)) (csOf mv3_0 mv1_0 mv2_0)) = mv8_0 := by
      rw [me8_0, own_same hla hlb hCa0 hCa1 hCb0 hCb1]
      repeat' split
      all_goals simp_all
    obtain ⟨fs, hr, hrun, hended, hE⟩ := X11.leaveW hS10 (Nat.le_trans hk10 (Nat.le_of_eq (congrArg Array.size e11).symm)) (v := some (.int (1 : Int32))) (fun h => by rw [Bd.returns] at h; cases h)
    refine ⟨_, _, pre0 _ ?_, hrun, hended, _, _, rfl, ?_, ?_, own_monoW hE (by decide) (by decide)⟩
    · show Steps p.tables e below (s₁.setTop (mkF m 0 #[.val (.int u0), .val (.int u1), .val (.int u2), .unset, .unset, .unset, .unset, .unset, .unset, .unset, .unset, .unset, .unset, .unset] [])) _
      refine XS.iloadN X0.here hx rfl (hb hby at_0) rfl ?_
      show Steps p.tables e below (s₁.setTop (mkF m 1 #[.val (.int u0), .val (.int u1), .val (.int u2), .unset, .unset, .unset, .unset, .unset, .unset, .unset, .unset, .unset, .unset, .unset] [(.int u0)])) _
      refine XS.sipush X0.here hx rfl (hb hby at_1) ?_
      show Steps p.tables e below (s₁.setTop (mkF m 4 #[.val (.int u0), .val (.int u1), .val (.int u2), .unset, .unset, .unset, .unset, .unset, .unset, .unset, .unset, .unset, .unset, .unset] [(.int (255 : Int32)), (.int u0)])) _
      refine XS.iand X0.here hx rfl (hb hby at_4) rfl ?_
      show Steps p.tables e below (s₁.setTop (mkF m 5 #[.val (.int u0), .val (.int u1), .val (.int u2), .unset, .unset, .unset, .unset, .unset, .unset, .unset, .unset, .unset, .unset, .unset] [(.int (u0 &&& (255 : Int32)))])) _
      refine XS.i2c X0.here hx rfl (hb hby at_5) rfl ?_
      show Steps p.tables e below (s₁.setTop (mkF m 6 #[.val (.int u0), .val (.int u1), .val (.int u2), .unset, .unset, .unset, .unset, .unset, .unset, .unset, .unset, .unset, .unset, .unset] [(.int ((u0 &&& (255 : Int32)).toUInt32.toUInt16.toUInt32.toInt32))])) _
      refine XS.istoreN X0.here hx rfl (hb hby at_6) rfl (l' := #[.val (.int u0), .val (.int u1), .val (.int u2), .val (.int ((u0 &&& (255 : Int32)).toUInt32.toUInt16.toUInt32.toInt32)), .unset, .unset, .unset, .unset, .unset, .unset, .unset, .unset, .unset, .unset]) rfl ?_
      show Steps p.tables e below (s₁.setTop (mkF m 7 #[.val (.int u0), .val (.int u1), .val (.int u2), .val (.int ((u0 &&& (255 : Int32)).toUInt32.toUInt16.toUInt32.toInt32)), .unset, .unset, .unset, .unset, .unset, .unset, .unset, .unset, .unset, .unset] [])) _
      refine XS.iloadN X0.here hx rfl (hb hby at_7) rfl ?_
      show Steps p.tables e below (s₁.setTop (mkF m 8 #[.val (.int u0), .val (.int u1), .val (.int u2), .val (.int ((u0 &&& (255 : Int32)).toUInt32.toUInt16.toUInt32.toInt32)), .unset, .unset, .unset, .unset, .unset, .unset, .unset, .unset, .unset, .unset] [(.int u0)])) _
      refine XS.bipush X0.here hx rfl (hb hby at_8) ?_
      show Steps p.tables e below (s₁.setTop (mkF m 10 #[.val (.int u0), .val (.int u1), .val (.int u2), .val (.int ((u0 &&& (255 : Int32)).toUInt32.toUInt16.toUInt32.toInt32)), .unset, .unset, .unset, .unset, .unset, .unset, .unset, .unset, .unset, .unset] [(.int (8 : Int32)), (.int u0)])) _
      refine XS.iushr X0.here hx rfl (hb hby at_10) rfl ?_
      show Steps p.tables e below (s₁.setTop (mkF m 11 #[.val (.int u0), .val (.int u1), .val (.int u2), .val (.int ((u0 &&& (255 : Int32)).toUInt32.toUInt16.toUInt32.toInt32)), .unset, .unset, .unset, .unset, .unset, .unset, .unset, .unset, .unset, .unset] [(.int ((u0.toUInt32 >>> ((8 : Int32) &&& 31).toUInt32).toInt32))])) _
      refine XS.sipush X0.here hx rfl (hb hby at_11) ?_
      show Steps p.tables e below (s₁.setTop (mkF m 14 #[.val (.int u0), .val (.int u1), .val (.int u2), .val (.int ((u0 &&& (255 : Int32)).toUInt32.toUInt16.toUInt32.toInt32)), .unset, .unset, .unset, .unset, .unset, .unset, .unset, .unset, .unset, .unset] [(.int (255 : Int32)), (.int ((u0.toUInt32 >>> ((8 : Int32) &&& 31).toUInt32).toInt32))])) _
      refine XS.iand X0.here hx rfl (hb hby at_14) rfl ?_
      show Steps p.tables e below (s₁.setTop (mkF m 15 #[.val (.int u0), .val (.int u1), .val (.int u2), .val (.int ((u0 &&& (255 : Int32)).toUInt32.toUInt16.toUInt32.toInt32)), .unset, .unset, .unset, .unset, .unset, .unset, .unset, .unset, .unset, .unset] [(.int (((u0.toUInt32 >>> ((8 : Int32) &&& 31).toUInt32).toInt32) &&& (255 : Int32)))])) _
      refine XS.i2c X0.here hx rfl (hb hby at_15) rfl ?_
      show Steps p.tables e below (s₁.setTop (mkF m 16 #[.val (.int u0), .val (.int u1), .val (.int u2), .val (.int ((u0 &&& (255 : Int32)).toUInt32.toUInt16.toUInt32.toInt32)), .unset, .unset, .unset, .unset, .unset, .unset, .unset, .unset, .unset, .unset] [(.int ((((u0.toUInt32 >>> ((8 : Int32) &&& 31).toUInt32).toInt32) &&& (255 : Int32)).toUInt32.toUInt16.toUInt32.toInt32))])) _
      refine XS.istore X0.here hx rfl (hb hby at_16) rfl (l' := #[.val (.int u0), .val (.int u1), .val (.int u2), .val (.int ((u0 &&& (255 : Int32)).toUInt32.toUInt16.toUInt32.toInt32)), .val (.int ((((u0.toUInt32 >>> ((8 : Int32) &&& 31).toUInt32).toInt32) &&& (255 : Int32)).toUInt32.toUInt16.toUInt32.toInt32)), .unset, .unset, .unset, .unset, .unset, .unset, .unset, .unset, .unset]) rfl ?_
      show Steps p.tables e below (s₁.setTop (mkF m 18 #[.val (.int u0), .val (.int u1), .val (.int u2), .val (.int ((u0 &&& (255 : Int32)).toUInt32.toUInt16.toUInt32.toInt32)), .val (.int ((((u0.toUInt32 >>> ((8 : Int32) &&& 31).toUInt32).toInt32) &&& (255 : Int32)).toUInt32.toUInt16.toUInt32.toInt32)), .unset, .unset, .unset, .unset, .unset, .unset, .unset, .unset, .unset] [])) _
      refine XS.iloadN X0.here hx rfl (hb hby at_18) rfl ?_
      show Steps p.tables e below (s₁.setTop (mkF m 19 #[.val (.int u0), .val (.int u1), .val (.int u2), .val (.int ((u0 &&& (255 : Int32)).toUInt32.toUInt16.toUInt32.toInt32)), .val (.int ((((u0.toUInt32 >>> ((8 : Int32) &&& 31).toUInt32).toInt32) &&& (255 : Int32)).toUInt32.toUInt16.toUInt32.toInt32)), .unset, .unset, .unset, .unset, .unset, .unset, .unset, .unset, .unset] [(.int u0)])) _
      refine XS.bipush X0.here hx rfl (hb hby at_19) ?_
      show Steps p.tables e below (s₁.setTop (mkF m 21 #[.val (.int u0), .val (.int u1), .val (.int u2), .val (.int ((u0 &&& (255 : Int32)).toUInt32.toUInt16.toUInt32.toInt32)), .val (.int ((((u0.toUInt32 >>> ((8 : Int32) &&& 31).toUInt32).toInt32) &&& (255 : Int32)).toUInt32.toUInt16.toUInt32.toInt32)), .unset, .unset, .unset, .unset, .unset, .unset, .unset, .unset, .unset] [(.int (16 : Int32)), (.int u0)])) _
      refine XS.iushr X0.here hx rfl (hb hby at_21) rfl ?_
      show Steps p.tables e below (s₁.setTop (mkF m 22 #[.val (.int u0), .val (.int u1), .val (.int u2), .val (.int ((u0 &&& (255 : Int32)).toUInt32.toUInt16.toUInt32.toInt32)), .val (.int ((((u0.toUInt32 >>> ((8 : Int32) &&& 31).toUInt32).toInt32) &&& (255 : Int32)).toUInt32.toUInt16.toUInt32.toInt32)), .unset, .unset, .unset, .unset, .unset, .unset, .unset, .unset, .unset] [(.int ((u0.toUInt32 >>> ((16 : Int32) &&& 31).toUInt32).toInt32))])) _
      refine XS.sipush X0.here hx rfl (hb hby at_22) ?_
      show Steps p.tables e below (s₁.setTop (mkF m 25 #[.val (.int u0), .val (.int u1), .val (.int u2), .val (.int ((u0 &&& (255 : Int32)).toUInt32.toUInt16.toUInt32.toInt32)), .val (.int ((((u0.toUInt32 >>> ((8 : Int32) &&& 31).toUInt32).toInt32) &&& (255 : Int32)).toUInt32.toUInt16.toUInt32.toInt32)), .unset, .unset, .unset, .unset, .unset, .unset, .unset, .unset, .unset] [(.int (32767 : Int32)), (.int ((u0.toUInt32 >>> ((16 : Int32) &&& 31).toUInt32).toInt32))])) _
      refine XS.iand X0.here hx rfl (hb hby at_25) rfl ?_
      show Steps p.tables e below (s₁.setTop (mkF m 26 #[.val (.int u0), .val (.int u1), .val (.int u2), .val (.int ((u0 &&& (255 : Int32)).toUInt32.toUInt16.toUInt32.toInt32)), .val (.int ((((u0.toUInt32 >>> ((8 : Int32) &&& 31).toUInt32).toInt32) &&& (255 : Int32)).toUInt32.toUInt16.toUInt32.toInt32)), .unset, .unset, .unset, .unset, .unset, .unset, .unset, .unset, .unset] [(.int (((u0.toUInt32 >>> ((16 : Int32) &&& 31).toUInt32).toInt32) &&& (32767 : Int32)))])) _
      refine XS.iconst X0.here hx rfl (hb hby at_26) ?_
      show Steps p.tables e below (s₁.setTop (mkF m 27 #[.val (.int u0), .val (.int u1), .val (.int u2), .val (.int ((u0 &&& (255 : Int32)).toUInt32.toUInt16.toUInt32.toInt32)), .val (.int ((((u0.toUInt32 >>> ((8 : Int32) &&& 31).toUInt32).toInt32) &&& (255 : Int32)).toUInt32.toUInt16.toUInt32.toInt32)), .unset, .unset, .unset, .unset, .unset, .unset, .unset, .unset, .unset] [(.int (3 : Int32)), (.int (((u0.toUInt32 >>> ((16 : Int32) &&& 31).toUInt32).toInt32) &&& (32767 : Int32)))])) _
      refine iremM X0 hx rfl (hb hby at_27) rfl (by decide) ?_
      show Steps p.tables e below (s₁.setTop (mkF m 28 #[.val (.int u0), .val (.int u1), .val (.int u2), .val (.int ((u0 &&& (255 : Int32)).toUInt32.toUInt16.toUInt32.toInt32)), .val (.int ((((u0.toUInt32 >>> ((8 : Int32) &&& 31).toUInt32).toInt32) &&& (255 : Int32)).toUInt32.toUInt16.toUInt32.toInt32)), .unset, .unset, .unset, .unset, .unset, .unset, .unset, .unset, .unset] [(.int ((((u0.toUInt32 >>> ((16 : Int32) &&& 31).toUInt32).toInt32) &&& (32767 : Int32)) % (3 : Int32)))])) _
      refine XS.istore X0.here hx rfl (hb hby at_28) rfl (l' := #[.val (.int u0), .val (.int u1), .val (.int u2), .val (.int ((u0 &&& (255 : Int32)).toUInt32.toUInt16.toUInt32.toInt32)), .val (.int ((((u0.toUInt32 >>> ((8 : Int32) &&& 31).toUInt32).toInt32) &&& (255 : Int32)).toUInt32.toUInt16.toUInt32.toInt32)), .val (.int ((((u0.toUInt32 >>> ((16 : Int32) &&& 31).toUInt32).toInt32) &&& (32767 : Int32)) % (3 : Int32))), .unset, .unset, .unset, .unset, .unset, .unset, .unset, .unset]) rfl ?_
      show Steps p.tables e below (s₁.setTop (mkF m 30 #[.val (.int u0), .val (.int u1), .val (.int u2), .val (.int ((u0 &&& (255 : Int32)).toUInt32.toUInt16.toUInt32.toInt32)), .val (.int ((((u0.toUInt32 >>> ((8 : Int32) &&& 31).toUInt32).toInt32) &&& (255 : Int32)).toUInt32.toUInt16.toUInt32.toInt32)), .val (.int ((((u0.toUInt32 >>> ((16 : Int32) &&& 31).toUInt32).toInt32) &&& (32767 : Int32)) % (3 : Int32))), .unset, .unset, .unset, .unset, .unset, .unset, .unset, .unset] [])) _
      refine XS.iloadN X0.here hx rfl (hb hby at_30) rfl ?_
      show Steps p.tables e below (s₁.setTop (mkF m 31 #[.val (.int u0), .val (.int u1), .val (.int u2), .val (.int ((u0 &&& (255 : Int32)).toUInt32.toUInt16.toUInt32.toInt32)), .val (.int ((((u0.toUInt32 >>> ((8 : Int32) &&& 31).toUInt32).toInt32) &&& (255 : Int32)).toUInt32.toUInt16.toUInt32.toInt32)), .val (.int ((((u0.toUInt32 >>> ((16 : Int32) &&& 31).toUInt32).toInt32) &&& (32767 : Int32)) % (3 : Int32))), .unset, .unset, .unset, .unset, .unset, .unset, .unset, .unset] [(.int u1)])) _
      refine XS.iconst X0.here hx rfl (hb hby at_31) ?_
      show Steps p.tables e below (s₁.setTop (mkF m 32 #[.val (.int u0), .val (.int u1), .val (.int u2), .val (.int ((u0 &&& (255 : Int32)).toUInt32.toUInt16.toUInt32.toInt32)), .val (.int ((((u0.toUInt32 >>> ((8 : Int32) &&& 31).toUInt32).toInt32) &&& (255 : Int32)).toUInt32.toUInt16.toUInt32.toInt32)), .val (.int ((((u0.toUInt32 >>> ((16 : Int32) &&& 31).toUInt32).toInt32) &&& (32767 : Int32)) % (3 : Int32))), .unset, .unset, .unset, .unset, .unset, .unset, .unset, .unset] [(.int (1 : Int32)), (.int u1)])) _
      refine XS.iand X0.here hx rfl (hb hby at_32) rfl ?_
      refine st1 _ ?_
      show Steps p.tables e below (s₁.setTop (mkF m 49 #[.val (.int u0), .val (.int u1), .val (.int u2), .val (.int ((u0 &&& (255 : Int32)).toUInt32.toUInt16.toUInt32.toInt32)), .val (.int ((((u0.toUInt32 >>> ((8 : Int32) &&& 31).toUInt32).toInt32) &&& (255 : Int32)).toUInt32.toUInt16.toUInt32.toInt32)), .val (.int ((((u0.toUInt32 >>> ((16 : Int32) &&& 31).toUInt32).toInt32) &&& (32767 : Int32)) % (3 : Int32))), .unset, .unset, .unset, .unset, .unset, .unset, .unset, .unset] [(.int mv1_0)])) _
      refine XS.istore X0.here hx rfl (hb hby at_49) rfl (l' := #[.val (.int u0), .val (.int u1), .val (.int u2), .val (.int ((u0 &&& (255 : Int32)).toUInt32.toUInt16.toUInt32.toInt32)), .val (.int ((((u0.toUInt32 >>> ((8 : Int32) &&& 31).toUInt32).toInt32) &&& (255 : Int32)).toUInt32.toUInt16.toUInt32.toInt32)), .val (.int ((((u0.toUInt32 >>> ((16 : Int32) &&& 31).toUInt32).toInt32) &&& (32767 : Int32)) % (3 : Int32))), .val (.int mv1_0), .unset, .unset, .unset, .unset, .unset, .unset, .unset]) rfl ?_
      show Steps p.tables e below (s₁.setTop (mkF m 51 #[.val (.int u0), .val (.int u1), .val (.int u2), .val (.int ((u0 &&& (255 : Int32)).toUInt32.toUInt16.toUInt32.toInt32)), .val (.int ((((u0.toUInt32 >>> ((8 : Int32) &&& 31).toUInt32).toInt32) &&& (255 : Int32)).toUInt32.toUInt16.toUInt32.toInt32)), .val (.int ((((u0.toUInt32 >>> ((16 : Int32) &&& 31).toUInt32).toInt32) &&& (32767 : Int32)) % (3 : Int32))), .val (.int mv1_0), .unset, .unset, .unset, .unset, .unset, .unset, .unset] [])) _
      refine XS.iloadN X0.here hx rfl (hb hby at_51) rfl ?_
      show Steps p.tables e below (s₁.setTop (mkF m 52 #[.val (.int u0), .val (.int u1), .val (.int u2), .val (.int ((u0 &&& (255 : Int32)).toUInt32.toUInt16.toUInt32.toInt32)), .val (.int ((((u0.toUInt32 >>> ((8 : Int32) &&& 31).toUInt32).toInt32) &&& (255 : Int32)).toUInt32.toUInt16.toUInt32.toInt32)), .val (.int ((((u0.toUInt32 >>> ((16 : Int32) &&& 31).toUInt32).toInt32) &&& (32767 : Int32)) % (3 : Int32))), .val (.int mv1_0), .unset, .unset, .unset, .unset, .unset, .unset, .unset] [(.int u1)])) _
      refine XS.iconst X0.here hx rfl (hb hby at_52) ?_
      show Steps p.tables e below (s₁.setTop (mkF m 53 #[.val (.int u0), .val (.int u1), .val (.int u2), .val (.int ((u0 &&& (255 : Int32)).toUInt32.toUInt16.toUInt32.toInt32)), .val (.int ((((u0.toUInt32 >>> ((8 : Int32) &&& 31).toUInt32).toInt32) &&& (255 : Int32)).toUInt32.toUInt16.toUInt32.toInt32)), .val (.int ((((u0.toUInt32 >>> ((16 : Int32) &&& 31).toUInt32).toInt32) &&& (32767 : Int32)) % (3 : Int32))), .val (.int mv1_0), .unset, .unset, .unset, .unset, .unset, .unset, .unset] [(.int (2 : Int32)), (.int u1)])) _
      refine XS.iand X0.here hx rfl (hb hby at_53) rfl ?_
      refine st2 _ ?_
      show Steps p.tables e below (s₁.setTop (mkF m 71 #[.val (.int u0), .val (.int u1), .val (.int u2), .val (.int ((u0 &&& (255 : Int32)).toUInt32.toUInt16.toUInt32.toInt32)), .val (.int ((((u0.toUInt32 >>> ((8 : Int32) &&& 31).toUInt32).toInt32) &&& (255 : Int32)).toUInt32.toUInt16.toUInt32.toInt32)), .val (.int ((((u0.toUInt32 >>> ((16 : Int32) &&& 31).toUInt32).toInt32) &&& (32767 : Int32)) % (3 : Int32))), .val (.int mv1_0), .unset, .unset, .unset, .unset, .unset, .unset, .unset] [(.int mv2_0)])) _
      refine XS.istore X0.here hx rfl (hb hby at_71) rfl (l' := #[.val (.int u0), .val (.int u1), .val (.int u2), .val (.int ((u0 &&& (255 : Int32)).toUInt32.toUInt16.toUInt32.toInt32)), .val (.int ((((u0.toUInt32 >>> ((8 : Int32) &&& 31).toUInt32).toInt32) &&& (255 : Int32)).toUInt32.toUInt16.toUInt32.toInt32)), .val (.int ((((u0.toUInt32 >>> ((16 : Int32) &&& 31).toUInt32).toInt32) &&& (32767 : Int32)) % (3 : Int32))), .val (.int mv1_0), .val (.int mv2_0), .unset, .unset, .unset, .unset, .unset, .unset]) rfl ?_
      show Steps p.tables e below (s₁.setTop (mkF m 73 #[.val (.int u0), .val (.int u1), .val (.int u2), .val (.int ((u0 &&& (255 : Int32)).toUInt32.toUInt16.toUInt32.toInt32)), .val (.int ((((u0.toUInt32 >>> ((8 : Int32) &&& 31).toUInt32).toInt32) &&& (255 : Int32)).toUInt32.toUInt16.toUInt32.toInt32)), .val (.int ((((u0.toUInt32 >>> ((16 : Int32) &&& 31).toUInt32).toInt32) &&& (32767 : Int32)) % (3 : Int32))), .val (.int mv1_0), .val (.int mv2_0), .unset, .unset, .unset, .unset, .unset, .unset] [])) _
      refine XS.iloadN X0.here hx rfl (hb hby at_73) rfl ?_
      show Steps p.tables e below (s₁.setTop (mkF m 74 #[.val (.int u0), .val (.int u1), .val (.int u2), .val (.int ((u0 &&& (255 : Int32)).toUInt32.toUInt16.toUInt32.toInt32)), .val (.int ((((u0.toUInt32 >>> ((8 : Int32) &&& 31).toUInt32).toInt32) &&& (255 : Int32)).toUInt32.toUInt16.toUInt32.toInt32)), .val (.int ((((u0.toUInt32 >>> ((16 : Int32) &&& 31).toUInt32).toInt32) &&& (32767 : Int32)) % (3 : Int32))), .val (.int mv1_0), .val (.int mv2_0), .unset, .unset, .unset, .unset, .unset, .unset] [(.int u1)])) _
      refine XS.iconst X0.here hx rfl (hb hby at_74) ?_
      show Steps p.tables e below (s₁.setTop (mkF m 75 #[.val (.int u0), .val (.int u1), .val (.int u2), .val (.int ((u0 &&& (255 : Int32)).toUInt32.toUInt16.toUInt32.toInt32)), .val (.int ((((u0.toUInt32 >>> ((8 : Int32) &&& 31).toUInt32).toInt32) &&& (255 : Int32)).toUInt32.toUInt16.toUInt32.toInt32)), .val (.int ((((u0.toUInt32 >>> ((16 : Int32) &&& 31).toUInt32).toInt32) &&& (32767 : Int32)) % (3 : Int32))), .val (.int mv1_0), .val (.int mv2_0), .unset, .unset, .unset, .unset, .unset, .unset] [(.int (4 : Int32)), (.int u1)])) _
      refine XS.iand X0.here hx rfl (hb hby at_75) rfl ?_
      refine st3 _ ?_
      show Steps p.tables e below (s₁.setTop (mkF m 93 #[.val (.int u0), .val (.int u1), .val (.int u2), .val (.int ((u0 &&& (255 : Int32)).toUInt32.toUInt16.toUInt32.toInt32)), .val (.int ((((u0.toUInt32 >>> ((8 : Int32) &&& 31).toUInt32).toInt32) &&& (255 : Int32)).toUInt32.toUInt16.toUInt32.toInt32)), .val (.int ((((u0.toUInt32 >>> ((16 : Int32) &&& 31).toUInt32).toInt32) &&& (32767 : Int32)) % (3 : Int32))), .val (.int mv1_0), .val (.int mv2_0), .unset, .unset, .unset, .unset, .unset, .unset] [(.int mv3_0)])) _
      refine XS.istore X0.here hx rfl (hb hby at_93) rfl (l' := #[.val (.int u0), .val (.int u1), .val (.int u2), .val (.int ((u0 &&& (255 : Int32)).toUInt32.toUInt16.toUInt32.toInt32)), .val (.int ((((u0.toUInt32 >>> ((8 : Int32) &&& 31).toUInt32).toInt32) &&& (255 : Int32)).toUInt32.toUInt16.toUInt32.toInt32)), .val (.int ((((u0.toUInt32 >>> ((16 : Int32) &&& 31).toUInt32).toInt32) &&& (32767 : Int32)) % (3 : Int32))), .val (.int mv1_0), .val (.int mv2_0), .val (.int mv3_0), .unset, .unset, .unset, .unset, .unset]) rfl ?_
      show Steps p.tables e below (s₁.setTop (mkF m 95 #[.val (.int u0), .val (.int u1), .val (.int u2), .val (.int ((u0 &&& (255 : Int32)).toUInt32.toUInt16.toUInt32.toInt32)), .val (.int ((((u0.toUInt32 >>> ((8 : Int32) &&& 31).toUInt32).toInt32) &&& (255 : Int32)).toUInt32.toUInt16.toUInt32.toInt32)), .val (.int ((((u0.toUInt32 >>> ((16 : Int32) &&& 31).toUInt32).toInt32) &&& (32767 : Int32)) % (3 : Int32))), .val (.int mv1_0), .val (.int mv2_0), .val (.int mv3_0), .unset, .unset, .unset, .unset, .unset] [])) _
      refine XS.iload X0.here hx rfl (hb hby at_95) rfl ?_
      show Steps p.tables e below (s₁.setTop (mkF m 97 #[.val (.int u0), .val (.int u1), .val (.int u2), .val (.int ((u0 &&& (255 : Int32)).toUInt32.toUInt16.toUInt32.toInt32)), .val (.int ((((u0.toUInt32 >>> ((8 : Int32) &&& 31).toUInt32).toInt32) &&& (255 : Int32)).toUInt32.toUInt16.toUInt32.toInt32)), .val (.int ((((u0.toUInt32 >>> ((16 : Int32) &&& 31).toUInt32).toInt32) &&& (32767 : Int32)) % (3 : Int32))), .val (.int mv1_0), .val (.int mv2_0), .val (.int mv3_0), .unset, .unset, .unset, .unset, .unset] [(.int ((((u0.toUInt32 >>> ((16 : Int32) &&& 31).toUInt32).toInt32) &&& (32767 : Int32)) % (3 : Int32)))])) _
      refine XS.iloadN X0.here hx rfl (hb hby at_97) rfl ?_
      show Steps p.tables e below (s₁.setTop (mkF m 98 #[.val (.int u0), .val (.int u1), .val (.int u2), .val (.int ((u0 &&& (255 : Int32)).toUInt32.toUInt16.toUInt32.toInt32)), .val (.int ((((u0.toUInt32 >>> ((8 : Int32) &&& 31).toUInt32).toInt32) &&& (255 : Int32)).toUInt32.toUInt16.toUInt32.toInt32)), .val (.int ((((u0.toUInt32 >>> ((16 : Int32) &&& 31).toUInt32).toInt32) &&& (32767 : Int32)) % (3 : Int32))), .val (.int mv1_0), .val (.int mv2_0), .val (.int mv3_0), .unset, .unset, .unset, .unset, .unset] [(.int ((u0 &&& (255 : Int32)).toUInt32.toUInt16.toUInt32.toInt32)), (.int ((((u0.toUInt32 >>> ((16 : Int32) &&& 31).toUInt32).toInt32) &&& (32767 : Int32)) % (3 : Int32)))])) _
      refine XS.iload X0.here hx rfl (hb hby at_98) rfl ?_
      show Steps p.tables e below (s₁.setTop (mkF m 100 #[.val (.int u0), .val (.int u1), .val (.int u2), .val (.int ((u0 &&& (255 : Int32)).toUInt32.toUInt16.toUInt32.toInt32)), .val (.int ((((u0.toUInt32 >>> ((8 : Int32) &&& 31).toUInt32).toInt32) &&& (255 : Int32)).toUInt32.toUInt16.toUInt32.toInt32)), .val (.int ((((u0.toUInt32 >>> ((16 : Int32) &&& 31).toUInt32).toInt32) &&& (32767 : Int32)) % (3 : Int32))), .val (.int mv1_0), .val (.int mv2_0), .val (.int mv3_0), .unset, .unset, .unset, .unset, .unset] [(.int ((((u0.toUInt32 >>> ((8 : Int32) &&& 31).toUInt32).toInt32) &&& (255 : Int32)).toUInt32.toUInt16.toUInt32.toInt32)), (.int ((u0 &&& (255 : Int32)).toUInt32.toUInt16.toUInt32.toInt32)), (.int ((((u0.toUInt32 >>> ((16 : Int32) &&& 31).toUInt32).toInt32) &&& (32767 : Int32)) % (3 : Int32)))])) _
      refine st4.trans ?_
      show Steps p.tables e below (T4.setTop (mkF m 103 #[.val (.int u0), .val (.int u1), .val (.int u2), .val (.int ((u0 &&& (255 : Int32)).toUInt32.toUInt16.toUInt32.toInt32)), .val (.int ((((u0.toUInt32 >>> ((8 : Int32) &&& 31).toUInt32).toInt32) &&& (255 : Int32)).toUInt32.toUInt16.toUInt32.toInt32)), .val (.int ((((u0.toUInt32 >>> ((16 : Int32) &&& 31).toUInt32).toInt32) &&& (32767 : Int32)) % (3 : Int32))), .val (.int mv1_0), .val (.int mv2_0), .val (.int mv3_0), .unset, .unset, .unset, .unset, .unset] [(.ref s4)])) _
      refine XS.astore X4.here hx rfl (hb hby at_103) rfl rfl (l' := #[.val (.int u0), .val (.int u1), .val (.int u2), .val (.int ((u0 &&& (255 : Int32)).toUInt32.toUInt16.toUInt32.toInt32)), .val (.int ((((u0.toUInt32 >>> ((8 : Int32) &&& 31).toUInt32).toInt32) &&& (255 : Int32)).toUInt32.toUInt16.toUInt32.toInt32)), .val (.int ((((u0.toUInt32 >>> ((16 : Int32) &&& 31).toUInt32).toInt32) &&& (32767 : Int32)) % (3 : Int32))), .val (.int mv1_0), .val (.int mv2_0), .val (.int mv3_0), .val (.ref s4), .unset, .unset, .unset, .unset]) rfl ?_
      show Steps p.tables e below (T4.setTop (mkF m 105 #[.val (.int u0), .val (.int u1), .val (.int u2), .val (.int ((u0 &&& (255 : Int32)).toUInt32.toUInt16.toUInt32.toInt32)), .val (.int ((((u0.toUInt32 >>> ((8 : Int32) &&& 31).toUInt32).toInt32) &&& (255 : Int32)).toUInt32.toUInt16.toUInt32.toInt32)), .val (.int ((((u0.toUInt32 >>> ((16 : Int32) &&& 31).toUInt32).toInt32) &&& (32767 : Int32)) % (3 : Int32))), .val (.int mv1_0), .val (.int mv2_0), .val (.int mv3_0), .val (.ref s4), .unset, .unset, .unset, .unset] [])) _
      refine XS.iload X4.here hx rfl (hb hby at_105) rfl ?_
      show Steps p.tables e below (T4.setTop (mkF m 107 #[.val (.int u0), .val (.int u1), .val (.int u2), .val (.int ((u0 &&& (255 : Int32)).toUInt32.toUInt16.toUInt32.toInt32)), .val (.int ((((u0.toUInt32 >>> ((8 : Int32) &&& 31).toUInt32).toInt32) &&& (255 : Int32)).toUInt32.toUInt16.toUInt32.toInt32)), .val (.int ((((u0.toUInt32 >>> ((16 : Int32) &&& 31).toUInt32).toInt32) &&& (32767 : Int32)) % (3 : Int32))), .val (.int mv1_0), .val (.int mv2_0), .val (.int mv3_0), .val (.ref s4), .unset, .unset, .unset, .unset] [(.int mv3_0)])) _
      refine XS.iload X4.here hx rfl (hb hby at_107) rfl ?_
      show Steps p.tables e below (T4.setTop (mkF m 109 #[.val (.int u0), .val (.int u1), .val (.int u2), .val (.int ((u0 &&& (255 : Int32)).toUInt32.toUInt16.toUInt32.toInt32)), .val (.int ((((u0.toUInt32 >>> ((8 : Int32) &&& 31).toUInt32).toInt32) &&& (255 : Int32)).toUInt32.toUInt16.toUInt32.toInt32)), .val (.int ((((u0.toUInt32 >>> ((16 : Int32) &&& 31).toUInt32).toInt32) &&& (32767 : Int32)) % (3 : Int32))), .val (.int mv1_0), .val (.int mv2_0), .val (.int mv3_0), .val (.ref s4), .unset, .unset, .unset, .unset] [(.int mv1_0), (.int mv3_0)])) _
      refine XS.iload X4.here hx rfl (hb hby at_109) rfl ?_
      show Steps p.tables e below (T4.setTop (mkF m 111 #[.val (.int u0), .val (.int u1), .val (.int u2), .val (.int ((u0 &&& (255 : Int32)).toUInt32.toUInt16.toUInt32.toInt32)), .val (.int ((((u0.toUInt32 >>> ((8 : Int32) &&& 31).toUInt32).toInt32) &&& (255 : Int32)).toUInt32.toUInt16.toUInt32.toInt32)), .val (.int ((((u0.toUInt32 >>> ((16 : Int32) &&& 31).toUInt32).toInt32) &&& (32767 : Int32)) % (3 : Int32))), .val (.int mv1_0), .val (.int mv2_0), .val (.int mv3_0), .val (.ref s4), .unset, .unset, .unset, .unset] [(.int mv2_0), (.int mv1_0), (.int mv3_0)])) _
      refine st5.trans ?_
      show Steps p.tables e below (T5.setTop (mkF m 114 #[.val (.int u0), .val (.int u1), .val (.int u2), .val (.int ((u0 &&& (255 : Int32)).toUInt32.toUInt16.toUInt32.toInt32)), .val (.int ((((u0.toUInt32 >>> ((8 : Int32) &&& 31).toUInt32).toInt32) &&& (255 : Int32)).toUInt32.toUInt16.toUInt32.toInt32)), .val (.int ((((u0.toUInt32 >>> ((16 : Int32) &&& 31).toUInt32).toInt32) &&& (32767 : Int32)) % (3 : Int32))), .val (.int mv1_0), .val (.int mv2_0), .val (.int mv3_0), .val (.ref s4), .unset, .unset, .unset, .unset] [(.ref s5)])) _
      refine XS.astore X5.here hx rfl (hb hby at_114) rfl rfl (l' := #[.val (.int u0), .val (.int u1), .val (.int u2), .val (.int ((u0 &&& (255 : Int32)).toUInt32.toUInt16.toUInt32.toInt32)), .val (.int ((((u0.toUInt32 >>> ((8 : Int32) &&& 31).toUInt32).toInt32) &&& (255 : Int32)).toUInt32.toUInt16.toUInt32.toInt32)), .val (.int ((((u0.toUInt32 >>> ((16 : Int32) &&& 31).toUInt32).toInt32) &&& (32767 : Int32)) % (3 : Int32))), .val (.int mv1_0), .val (.int mv2_0), .val (.int mv3_0), .val (.ref s4), .val (.ref s5), .unset, .unset, .unset]) rfl ?_
      show Steps p.tables e below (T5.setTop (mkF m 116 #[.val (.int u0), .val (.int u1), .val (.int u2), .val (.int ((u0 &&& (255 : Int32)).toUInt32.toUInt16.toUInt32.toInt32)), .val (.int ((((u0.toUInt32 >>> ((8 : Int32) &&& 31).toUInt32).toInt32) &&& (255 : Int32)).toUInt32.toUInt16.toUInt32.toInt32)), .val (.int ((((u0.toUInt32 >>> ((16 : Int32) &&& 31).toUInt32).toInt32) &&& (32767 : Int32)) % (3 : Int32))), .val (.int mv1_0), .val (.int mv2_0), .val (.int mv3_0), .val (.ref s4), .val (.ref s5), .unset, .unset, .unset] [])) _
      refine st6 _ ?_
      show Steps p.tables e below (T6.setTop (mkF m 119 #[.val (.int u0), .val (.int u1), .val (.int u2), .val (.int ((u0 &&& (255 : Int32)).toUInt32.toUInt16.toUInt32.toInt32)), .val (.int ((((u0.toUInt32 >>> ((8 : Int32) &&& 31).toUInt32).toInt32) &&& (255 : Int32)).toUInt32.toUInt16.toUInt32.toInt32)), .val (.int ((((u0.toUInt32 >>> ((16 : Int32) &&& 31).toUInt32).toInt32) &&& (32767 : Int32)) % (3 : Int32))), .val (.int mv1_0), .val (.int mv2_0), .val (.int mv3_0), .val (.ref s4), .val (.ref s5), .unset, .unset, .unset] [(.ref b6)])) _
      refine XS.dup X6.here hx rfl (hb hby at_119) rfl rfl ?_
      show Steps p.tables e below (T6.setTop (mkF m 120 #[.val (.int u0), .val (.int u1), .val (.int u2), .val (.int ((u0 &&& (255 : Int32)).toUInt32.toUInt16.toUInt32.toInt32)), .val (.int ((((u0.toUInt32 >>> ((8 : Int32) &&& 31).toUInt32).toInt32) &&& (255 : Int32)).toUInt32.toUInt16.toUInt32.toInt32)), .val (.int ((((u0.toUInt32 >>> ((16 : Int32) &&& 31).toUInt32).toInt32) &&& (32767 : Int32)) % (3 : Int32))), .val (.int mv1_0), .val (.int mv2_0), .val (.int mv3_0), .val (.ref s4), .val (.ref s5), .unset, .unset, .unset] [(.ref b6), (.ref b6)])) _
      refine XS.aload X6.here hx rfl (hb hby at_120) rfl rfl ?_
      show Steps p.tables e below (T6.setTop (mkF m 122 #[.val (.int u0), .val (.int u1), .val (.int u2), .val (.int ((u0 &&& (255 : Int32)).toUInt32.toUInt16.toUInt32.toInt32)), .val (.int ((((u0.toUInt32 >>> ((8 : Int32) &&& 31).toUInt32).toInt32) &&& (255 : Int32)).toUInt32.toUInt16.toUInt32.toInt32)), .val (.int ((((u0.toUInt32 >>> ((16 : Int32) &&& 31).toUInt32).toInt32) &&& (32767 : Int32)) % (3 : Int32))), .val (.int mv1_0), .val (.int mv2_0), .val (.int mv3_0), .val (.ref s4), .val (.ref s5), .unset, .unset, .unset] [(.ref s4), (.ref b6), (.ref b6)])) _
      refine st7.trans ?_
      show Steps p.tables e below (T7.setTop (mkF m 125 #[.val (.int u0), .val (.int u1), .val (.int u2), .val (.int ((u0 &&& (255 : Int32)).toUInt32.toUInt16.toUInt32.toInt32)), .val (.int ((((u0.toUInt32 >>> ((8 : Int32) &&& 31).toUInt32).toInt32) &&& (255 : Int32)).toUInt32.toUInt16.toUInt32.toInt32)), .val (.int ((((u0.toUInt32 >>> ((16 : Int32) &&& 31).toUInt32).toInt32) &&& (32767 : Int32)) % (3 : Int32))), .val (.int mv1_0), .val (.int mv2_0), .val (.int mv3_0), .val (.ref s4), .val (.ref s5), .unset, .unset, .unset] [(.ref b6)])) _
      refine XS.astore X7.here hx rfl (hb hby at_125) rfl rfl (l' := #[.val (.int u0), .val (.int u1), .val (.int u2), .val (.int ((u0 &&& (255 : Int32)).toUInt32.toUInt16.toUInt32.toInt32)), .val (.int ((((u0.toUInt32 >>> ((8 : Int32) &&& 31).toUInt32).toInt32) &&& (255 : Int32)).toUInt32.toUInt16.toUInt32.toInt32)), .val (.int ((((u0.toUInt32 >>> ((16 : Int32) &&& 31).toUInt32).toInt32) &&& (32767 : Int32)) % (3 : Int32))), .val (.int mv1_0), .val (.int mv2_0), .val (.int mv3_0), .val (.ref s4), .val (.ref s5), .val (.ref b6), .unset, .unset]) rfl ?_
      show Steps p.tables e below (T7.setTop (mkF m 127 #[.val (.int u0), .val (.int u1), .val (.int u2), .val (.int ((u0 &&& (255 : Int32)).toUInt32.toUInt16.toUInt32.toInt32)), .val (.int ((((u0.toUInt32 >>> ((8 : Int32) &&& 31).toUInt32).toInt32) &&& (255 : Int32)).toUInt32.toUInt16.toUInt32.toInt32)), .val (.int ((((u0.toUInt32 >>> ((16 : Int32) &&& 31).toUInt32).toInt32) &&& (32767 : Int32)) % (3 : Int32))), .val (.int mv1_0), .val (.int mv2_0), .val (.int mv3_0), .val (.ref s4), .val (.ref s5), .val (.ref b6), .unset, .unset] [])) _
      refine XS.iload X7.here hx rfl (hb hby at_127) rfl ?_
      show Steps p.tables e below (T7.setTop (mkF m 129 #[.val (.int u0), .val (.int u1), .val (.int u2), .val (.int ((u0 &&& (255 : Int32)).toUInt32.toUInt16.toUInt32.toInt32)), .val (.int ((((u0.toUInt32 >>> ((8 : Int32) &&& 31).toUInt32).toInt32) &&& (255 : Int32)).toUInt32.toUInt16.toUInt32.toInt32)), .val (.int ((((u0.toUInt32 >>> ((16 : Int32) &&& 31).toUInt32).toInt32) &&& (32767 : Int32)) % (3 : Int32))), .val (.int mv1_0), .val (.int mv2_0), .val (.int mv3_0), .val (.ref s4), .val (.ref s5), .val (.ref b6), .unset, .unset] [(.int ((((u0.toUInt32 >>> ((16 : Int32) &&& 31).toUInt32).toInt32) &&& (32767 : Int32)) % (3 : Int32)))])) _
      refine XS.iload X7.here hx rfl (hb hby at_129) rfl ?_
      refine st8 _ ?_
      show Steps p.tables e below (T7.setTop (mkF m 164 #[.val (.int u0), .val (.int u1), .val (.int u2), .val (.int ((u0 &&& (255 : Int32)).toUInt32.toUInt16.toUInt32.toInt32)), .val (.int ((((u0.toUInt32 >>> ((8 : Int32) &&& 31).toUInt32).toInt32) &&& (255 : Int32)).toUInt32.toUInt16.toUInt32.toInt32)), .val (.int ((((u0.toUInt32 >>> ((16 : Int32) &&& 31).toUInt32).toInt32) &&& (32767 : Int32)) % (3 : Int32))), .val (.int mv1_0), .val (.int mv2_0), .val (.int mv3_0), .val (.ref s4), .val (.ref s5), .val (.ref b6), .unset, .unset] [(.int mv8_0)])) _
      refine XS.istore X7.here hx rfl (hb hby at_164) rfl (l' := #[.val (.int u0), .val (.int u1), .val (.int u2), .val (.int ((u0 &&& (255 : Int32)).toUInt32.toUInt16.toUInt32.toInt32)), .val (.int ((((u0.toUInt32 >>> ((8 : Int32) &&& 31).toUInt32).toInt32) &&& (255 : Int32)).toUInt32.toUInt16.toUInt32.toInt32)), .val (.int ((((u0.toUInt32 >>> ((16 : Int32) &&& 31).toUInt32).toInt32) &&& (32767 : Int32)) % (3 : Int32))), .val (.int mv1_0), .val (.int mv2_0), .val (.int mv3_0), .val (.ref s4), .val (.ref s5), .val (.ref b6), .val (.int mv8_0), .unset]) rfl ?_
      show Steps p.tables e below (T7.setTop (mkF m 166 #[.val (.int u0), .val (.int u1), .val (.int u2), .val (.int ((u0 &&& (255 : Int32)).toUInt32.toUInt16.toUInt32.toInt32)), .val (.int ((((u0.toUInt32 >>> ((8 : Int32) &&& 31).toUInt32).toInt32) &&& (255 : Int32)).toUInt32.toUInt16.toUInt32.toInt32)), .val (.int ((((u0.toUInt32 >>> ((16 : Int32) &&& 31).toUInt32).toInt32) &&& (32767 : Int32)) % (3 : Int32))), .val (.int mv1_0), .val (.int mv2_0), .val (.int mv3_0), .val (.ref s4), .val (.ref s5), .val (.ref b6), .val (.int mv8_0), .unset] [])) _
      refine XS.iloadN X7.here hx rfl (hb hby at_166) rfl ?_
      show Steps p.tables e below (T7.setTop (mkF m 167 #[.val (.int u0), .val (.int u1), .val (.int u2), .val (.int ((u0 &&& (255 : Int32)).toUInt32.toUInt16.toUInt32.toInt32)), .val (.int ((((u0.toUInt32 >>> ((8 : Int32) &&& 31).toUInt32).toInt32) &&& (255 : Int32)).toUInt32.toUInt16.toUInt32.toInt32)), .val (.int ((((u0.toUInt32 >>> ((16 : Int32) &&& 31).toUInt32).toInt32) &&& (32767 : Int32)) % (3 : Int32))), .val (.int mv1_0), .val (.int mv2_0), .val (.int mv3_0), .val (.ref s4), .val (.ref s5), .val (.ref b6), .val (.int mv8_0), .unset] [(.int u2)])) _
      refine XS.bipush X7.here hx rfl (hb hby at_167) ?_
      show Steps p.tables e below (T7.setTop (mkF m 169 #[.val (.int u0), .val (.int u1), .val (.int u2), .val (.int ((u0 &&& (255 : Int32)).toUInt32.toUInt16.toUInt32.toInt32)), .val (.int ((((u0.toUInt32 >>> ((8 : Int32) &&& 31).toUInt32).toInt32) &&& (255 : Int32)).toUInt32.toUInt16.toUInt32.toInt32)), .val (.int ((((u0.toUInt32 >>> ((16 : Int32) &&& 31).toUInt32).toInt32) &&& (32767 : Int32)) % (3 : Int32))), .val (.int mv1_0), .val (.int mv2_0), .val (.int mv3_0), .val (.ref s4), .val (.ref s5), .val (.ref b6), .val (.int mv8_0), .unset] [(.int (7 : Int32)), (.int u2)])) _
      refine XS.iand X7.here hx rfl (hb hby at_169) rfl ?_
      show Steps p.tables e below (T7.setTop (mkF m 170 #[.val (.int u0), .val (.int u1), .val (.int u2), .val (.int ((u0 &&& (255 : Int32)).toUInt32.toUInt16.toUInt32.toInt32)), .val (.int ((((u0.toUInt32 >>> ((8 : Int32) &&& 31).toUInt32).toInt32) &&& (255 : Int32)).toUInt32.toUInt16.toUInt32.toInt32)), .val (.int ((((u0.toUInt32 >>> ((16 : Int32) &&& 31).toUInt32).toInt32) &&& (32767 : Int32)) % (3 : Int32))), .val (.int mv1_0), .val (.int mv2_0), .val (.int mv3_0), .val (.ref s4), .val (.ref s5), .val (.ref b6), .val (.int mv8_0), .unset] [(.int (u2 &&& (7 : Int32)))])) _
      refine XS.istore X7.here hx rfl (hb hby at_170) rfl (l' := #[.val (.int u0), .val (.int u1), .val (.int u2), .val (.int ((u0 &&& (255 : Int32)).toUInt32.toUInt16.toUInt32.toInt32)), .val (.int ((((u0.toUInt32 >>> ((8 : Int32) &&& 31).toUInt32).toInt32) &&& (255 : Int32)).toUInt32.toUInt16.toUInt32.toInt32)), .val (.int ((((u0.toUInt32 >>> ((16 : Int32) &&& 31).toUInt32).toInt32) &&& (32767 : Int32)) % (3 : Int32))), .val (.int mv1_0), .val (.int mv2_0), .val (.int mv3_0), .val (.ref s4), .val (.ref s5), .val (.ref b6), .val (.int mv8_0), .val (.int (u2 &&& (7 : Int32)))]) rfl ?_
      show Steps p.tables e below (T7.setTop (mkF m 172 #[.val (.int u0), .val (.int u1), .val (.int u2), .val (.int ((u0 &&& (255 : Int32)).toUInt32.toUInt16.toUInt32.toInt32)), .val (.int ((((u0.toUInt32 >>> ((8 : Int32) &&& 31).toUInt32).toInt32) &&& (255 : Int32)).toUInt32.toUInt16.toUInt32.toInt32)), .val (.int ((((u0.toUInt32 >>> ((16 : Int32) &&& 31).toUInt32).toInt32) &&& (32767 : Int32)) % (3 : Int32))), .val (.int mv1_0), .val (.int mv2_0), .val (.int mv3_0), .val (.ref s4), .val (.ref s5), .val (.ref b6), .val (.int mv8_0), .val (.int (u2 &&& (7 : Int32)))] [])) _
      refine XS.iload X7.here hx rfl (hb hby at_172) rfl ?_
      show Steps p.tables e below (T7.setTop (mkF m 174 #[.val (.int u0), .val (.int u1), .val (.int u2), .val (.int ((u0 &&& (255 : Int32)).toUInt32.toUInt16.toUInt32.toInt32)), .val (.int ((((u0.toUInt32 >>> ((8 : Int32) &&& 31).toUInt32).toInt32) &&& (255 : Int32)).toUInt32.toUInt16.toUInt32.toInt32)), .val (.int ((((u0.toUInt32 >>> ((16 : Int32) &&& 31).toUInt32).toInt32) &&& (32767 : Int32)) % (3 : Int32))), .val (.int mv1_0), .val (.int mv2_0), .val (.int mv3_0), .val (.ref s4), .val (.ref s5), .val (.ref b6), .val (.int mv8_0), .val (.int (u2 &&& (7 : Int32)))] [(.int (u2 &&& (7 : Int32)))])) _
      refine XS.iconst X7.here hx rfl (hb hby at_174) ?_
      show Steps p.tables e below (T7.setTop (mkF m 175 #[.val (.int u0), .val (.int u1), .val (.int u2), .val (.int ((u0 &&& (255 : Int32)).toUInt32.toUInt16.toUInt32.toInt32)), .val (.int ((((u0.toUInt32 >>> ((8 : Int32) &&& 31).toUInt32).toInt32) &&& (255 : Int32)).toUInt32.toUInt16.toUInt32.toInt32)), .val (.int ((((u0.toUInt32 >>> ((16 : Int32) &&& 31).toUInt32).toInt32) &&& (32767 : Int32)) % (3 : Int32))), .val (.int mv1_0), .val (.int mv2_0), .val (.int mv3_0), .val (.ref s4), .val (.ref s5), .val (.ref b6), .val (.int mv8_0), .val (.int (u2 &&& (7 : Int32)))] [(.int (4 : Int32)), (.int (u2 &&& (7 : Int32)))])) _
      refine XS.icmpNo X7.here hx rfl (hb hby at_175) rfl (tlt hc175).2.1 ?_
      show Steps p.tables e below (T7.setTop (mkF m 178 #[.val (.int u0), .val (.int u1), .val (.int u2), .val (.int ((u0 &&& (255 : Int32)).toUInt32.toUInt16.toUInt32.toInt32)), .val (.int ((((u0.toUInt32 >>> ((8 : Int32) &&& 31).toUInt32).toInt32) &&& (255 : Int32)).toUInt32.toUInt16.toUInt32.toInt32)), .val (.int ((((u0.toUInt32 >>> ((16 : Int32) &&& 31).toUInt32).toInt32) &&& (32767 : Int32)) % (3 : Int32))), .val (.int mv1_0), .val (.int mv2_0), .val (.int mv3_0), .val (.ref s4), .val (.ref s5), .val (.ref b6), .val (.int mv8_0), .val (.int (u2 &&& (7 : Int32)))] [])) _
      refine XS.aload X7.here hx rfl (hb hby at_178) rfl rfl ?_
      show Steps p.tables e below (T7.setTop (mkF m 180 #[.val (.int u0), .val (.int u1), .val (.int u2), .val (.int ((u0 &&& (255 : Int32)).toUInt32.toUInt16.toUInt32.toInt32)), .val (.int ((((u0.toUInt32 >>> ((8 : Int32) &&& 31).toUInt32).toInt32) &&& (255 : Int32)).toUInt32.toUInt16.toUInt32.toInt32)), .val (.int ((((u0.toUInt32 >>> ((16 : Int32) &&& 31).toUInt32).toInt32) &&& (32767 : Int32)) % (3 : Int32))), .val (.int mv1_0), .val (.int mv2_0), .val (.int mv3_0), .val (.ref s4), .val (.ref s5), .val (.ref b6), .val (.int mv8_0), .val (.int (u2 &&& (7 : Int32)))] [(.ref b6)])) _
      refine st9 _ ?_
      show Steps p.tables e below (T9.setTop (mkF m 183 #[.val (.int u0), .val (.int u1), .val (.int u2), .val (.int ((u0 &&& (255 : Int32)).toUInt32.toUInt16.toUInt32.toInt32)), .val (.int ((((u0.toUInt32 >>> ((8 : Int32) &&& 31).toUInt32).toInt32) &&& (255 : Int32)).toUInt32.toUInt16.toUInt32.toInt32)), .val (.int ((((u0.toUInt32 >>> ((16 : Int32) &&& 31).toUInt32).toInt32) &&& (32767 : Int32)) % (3 : Int32))), .val (.int mv1_0), .val (.int mv2_0), .val (.int mv3_0), .val (.ref s4), .val (.ref s5), .val (.ref b6), .val (.int mv8_0), .val (.int (u2 &&& (7 : Int32)))] [(.ref b9), (.ref b6)])) _
      refine XS.dup X9.here hx rfl (hb hby at_183) rfl rfl ?_
      show Steps p.tables e below (T9.setTop (mkF m 184 #[.val (.int u0), .val (.int u1), .val (.int u2), .val (.int ((u0 &&& (255 : Int32)).toUInt32.toUInt16.toUInt32.toInt32)), .val (.int ((((u0.toUInt32 >>> ((8 : Int32) &&& 31).toUInt32).toInt32) &&& (255 : Int32)).toUInt32.toUInt16.toUInt32.toInt32)), .val (.int ((((u0.toUInt32 >>> ((16 : Int32) &&& 31).toUInt32).toInt32) &&& (32767 : Int32)) % (3 : Int32))), .val (.int mv1_0), .val (.int mv2_0), .val (.int mv3_0), .val (.ref s4), .val (.ref s5), .val (.ref b6), .val (.int mv8_0), .val (.int (u2 &&& (7 : Int32)))] [(.ref b9), (.ref b9), (.ref b6)])) _
      refine XS.aload X9.here hx rfl (hb hby at_184) rfl rfl ?_
      show Steps p.tables e below (T9.setTop (mkF m 186 #[.val (.int u0), .val (.int u1), .val (.int u2), .val (.int ((u0 &&& (255 : Int32)).toUInt32.toUInt16.toUInt32.toInt32)), .val (.int ((((u0.toUInt32 >>> ((8 : Int32) &&& 31).toUInt32).toInt32) &&& (255 : Int32)).toUInt32.toUInt16.toUInt32.toInt32)), .val (.int ((((u0.toUInt32 >>> ((16 : Int32) &&& 31).toUInt32).toInt32) &&& (32767 : Int32)) % (3 : Int32))), .val (.int mv1_0), .val (.int mv2_0), .val (.int mv3_0), .val (.ref s4), .val (.ref s5), .val (.ref b6), .val (.int mv8_0), .val (.int (u2 &&& (7 : Int32)))] [(.ref s5), (.ref b9), (.ref b9), (.ref b6)])) _
      refine st10.trans ?_
      show Steps p.tables e below (T10.setTop (mkF m 189 #[.val (.int u0), .val (.int u1), .val (.int u2), .val (.int ((u0 &&& (255 : Int32)).toUInt32.toUInt16.toUInt32.toInt32)), .val (.int ((((u0.toUInt32 >>> ((8 : Int32) &&& 31).toUInt32).toInt32) &&& (255 : Int32)).toUInt32.toUInt16.toUInt32.toInt32)), .val (.int ((((u0.toUInt32 >>> ((16 : Int32) &&& 31).toUInt32).toInt32) &&& (32767 : Int32)) % (3 : Int32))), .val (.int mv1_0), .val (.int mv2_0), .val (.int mv3_0), .val (.ref s4), .val (.ref s5), .val (.ref b6), .val (.int mv8_0), .val (.int (u2 &&& (7 : Int32)))] [(.ref b9), (.ref b6)])) _
      refine st11.trans ?_
      show Steps p.tables e below (T11.setTop (mkF m 192 #[.val (.int u0), .val (.int u1), .val (.int u2), .val (.int ((u0 &&& (255 : Int32)).toUInt32.toUInt16.toUInt32.toInt32)), .val (.int ((((u0.toUInt32 >>> ((8 : Int32) &&& 31).toUInt32).toInt32) &&& (255 : Int32)).toUInt32.toUInt16.toUInt32.toInt32)), .val (.int ((((u0.toUInt32 >>> ((16 : Int32) &&& 31).toUInt32).toInt32) &&& (32767 : Int32)) % (3 : Int32))), .val (.int mv1_0), .val (.int mv2_0), .val (.int mv3_0), .val (.ref s4), .val (.ref s5), .val (.ref b6), .val (.int mv8_0), .val (.int (u2 &&& (7 : Int32)))] [(.int (eqI (csOf ((((u0.toUInt32 >>> ((16 : Int32) &&& 31).toUInt32).toInt32) &&& (32767 : Int32)) % (3 : Int32)) ((u0 &&& (255 : Int32)).toUInt32.toUInt16.toUInt32.toInt32) ((((u0.toUInt32 >>> ((8 : Int32) &&& 31).toUInt32).toInt32) &&& (255 : Int32)).toUInt32.toUInt16.toUInt32.toInt32)) (csOf mv3_0 mv1_0 mv2_0)))])) _
      refine XS.iload X11.here hx rfl (hb hby at_192) rfl ?_
      show Steps p.tables e below (T11.setTop (mkF m 194 #[.val (.int u0), .val (.int u1), .val (.int u2), .val (.int ((u0 &&& (255 : Int32)).toUInt32.toUInt16.toUInt32.toInt32)), .val (.int ((((u0.toUInt32 >>> ((8 : Int32) &&& 31).toUInt32).toInt32) &&& (255 : Int32)).toUInt32.toUInt16.toUInt32.toInt32)), .val (.int ((((u0.toUInt32 >>> ((16 : Int32) &&& 31).toUInt32).toInt32) &&& (32767 : Int32)) % (3 : Int32))), .val (.int mv1_0), .val (.int mv2_0), .val (.int mv3_0), .val (.ref s4), .val (.ref s5), .val (.ref b6), .val (.int mv8_0), .val (.int (u2 &&& (7 : Int32)))] [(.int mv8_0), (.int (eqI (csOf ((((u0.toUInt32 >>> ((16 : Int32) &&& 31).toUInt32).toInt32) &&& (32767 : Int32)) % (3 : Int32)) ((u0 &&& (255 : Int32)).toUInt32.toUInt16.toUInt32.toInt32) ((((u0.toUInt32 >>> ((8 : Int32) &&& 31).toUInt32).toInt32) &&& (255 : Int32)).toUInt32.toUInt16.toUInt32.toInt32)) (csOf mv3_0 mv1_0 mv2_0)))])) _
      refine XS.icmpNo X11.here hx rfl (hb hby at_194) rfl (teq hb194).2 ?_
      show Steps p.tables e below (T11.setTop (mkF m 197 #[.val (.int u0), .val (.int u1), .val (.int u2), .val (.int ((u0 &&& (255 : Int32)).toUInt32.toUInt16.toUInt32.toInt32)), .val (.int ((((u0.toUInt32 >>> ((8 : Int32) &&& 31).toUInt32).toInt32) &&& (255 : Int32)).toUInt32.toUInt16.toUInt32.toInt32)), .val (.int ((((u0.toUInt32 >>> ((16 : Int32) &&& 31).toUInt32).toInt32) &&& (32767 : Int32)) % (3 : Int32))), .val (.int mv1_0), .val (.int mv2_0), .val (.int mv3_0), .val (.ref s4), .val (.ref s5), .val (.ref b6), .val (.int mv8_0), .val (.int (u2 &&& (7 : Int32)))] [])) _
      refine XS.iconst X11.here hx rfl (hb hby at_197) ?_
      show Steps p.tables e below (T11.setTop (mkF m 198 #[.val (.int u0), .val (.int u1), .val (.int u2), .val (.int ((u0 &&& (255 : Int32)).toUInt32.toUInt16.toUInt32.toInt32)), .val (.int ((((u0.toUInt32 >>> ((8 : Int32) &&& 31).toUInt32).toInt32) &&& (255 : Int32)).toUInt32.toUInt16.toUInt32.toInt32)), .val (.int ((((u0.toUInt32 >>> ((16 : Int32) &&& 31).toUInt32).toInt32) &&& (32767 : Int32)) % (3 : Int32))), .val (.int mv1_0), .val (.int mv2_0), .val (.int mv3_0), .val (.ref s4), .val (.ref s5), .val (.ref b6), .val (.int mv8_0), .val (.int (u2 &&& (7 : Int32)))] [(.int (1 : Int32))])) _
      refine XS.goto X11.here hx rfl (pc0 := 198) (pc' := 202) rfl (hb hby at_198) (by decide) (by decide) ?_
      show Steps p.tables e below (T11.setTop (mkF m 202 #[.val (.int u0), .val (.int u1), .val (.int u2), .val (.int ((u0 &&& (255 : Int32)).toUInt32.toUInt16.toUInt32.toInt32)), .val (.int ((((u0.toUInt32 >>> ((8 : Int32) &&& 31).toUInt32).toInt32) &&& (255 : Int32)).toUInt32.toUInt16.toUInt32.toInt32)), .val (.int ((((u0.toUInt32 >>> ((16 : Int32) &&& 31).toUInt32).toInt32) &&& (32767 : Int32)) % (3 : Int32))), .val (.int mv1_0), .val (.int mv2_0), .val (.int mv3_0), .val (.ref s4), .val (.ref s5), .val (.ref b6), .val (.int mv8_0), .val (.int (u2 &&& (7 : Int32)))] [(.int (1 : Int32))])) _
      exact retN X11 hx (t := .boolean) Bd.returns (by simp) (hb hby at_202) hr
    · show Q0 Z u0 u1 u2 G_COMPACT h0 n0 _ T11.heap _
      rw [e11]
      exact ⟨rfl, N11⟩
    · show CHr Z EL s.vm s.heap T11.vm T11.heap
      rw [e11]
      rw [hh]
      exact C10.trans (CHv.at X11 hZ (hEL hw) C10.1)
  · by_cases hc206 : (u2 &&& (7 : Int32)) = (4 : Int32)
    · obtain ⟨cq12, kq12, q12a, q12b, q12c⟩ := isOf hZ rfl A7
      obtain ⟨_, _, ⟨T12, L12, k12, n12⟩, -, X12, ⟨Lc12, hQ12, l12, y12, z12⟩, st12⟩ := X7.virtualBack hx (y := (⟨"com/example/triplewright/triplewright/rdf/Iri", "equals", "(Ljava/lang/Object;)Z"⟩ : MethodName)) (z := (⟨"com/example/triplewright/triplewright/rdf/Iri", "equals", "(Ljava/lang/Object;)Z"⟩ : MethodName)) hown (mvT hZ (hw _ (List.mem_of_getElem? (i := 41) rfl))) (mvT hZ (hw _ (List.mem_of_getElem? (i := 42) rfl))) (notFace_of_selects (args := #[]) (mvT hZ (hw _ (List.mem_of_getElem? (i := 44) rfl)))) (mvT hZ (hw _ (List.mem_of_getElem? (i := 44) rfl))) (mvT hZ (hw _ (List.mem_of_getElem? (i := 43) rfl))) (by decide) (backOf (W := 0) (rmEqN l Z a0 hw [] b6 T7.heap n0 Z7 ) hZ (hw _ (List.mem_of_getElem? (i := 45) rfl)) (hw _ (List.mem_of_getElem? (i := 28) rfl)) (by decide) (by decide)) q12a q12c (g := (mkF m 212 #[.val (.int u0), .val (.int u1), .val (.int u2), .val (.int ((u0 &&& (255 : Int32)).toUInt32.toUInt16.toUInt32.toInt32)), .val (.int ((((u0.toUInt32 >>> ((8 : Int32) &&& 31).toUInt32).toInt32) &&& (255 : Int32)).toUInt32.toUInt16.toUInt32.toInt32)), .val (.int ((((u0.toUInt32 >>> ((16 : Int32) &&& 31).toUInt32).toInt32) &&& (32767 : Int32)) % (3 : Int32))), .val (.int mv1_0), .val (.int mv2_0), .val (.int mv3_0), .val (.ref s4), .val (.ref s5), .val (.ref b6), .val (.int mv8_0), .val (.int (u2 &&& (7 : Int32)))] [.null, (.ref b6)])) rfl (by rw [hml]; rfl) (Steps.refl _) (argsL := [.null]) (rest := []) (lenOf pd_2 rfl) rfl (by show 2 * 0 + _ ≤ _; exact Nat.le_of_eq rfl) (hb hby at_212) (fun _ _ => ⟨rfl, rfl, (by decide : 15 + 0 ≤ _), (by decide : 50 + 0 ≤ _)⟩)
      dsimp only [Pt.U, Pt.locs, Pt.cells, Pt.slots] at X12 l12 y12 z12 st12 hQ12
      subst l12 y12 z12
      obtain ⟨rfl, N12q, e12⟩ := hQ12
      have N12 := Fr.app N7 N12q
      obtain ⟨fs, hr, hrun, hended, hE⟩ := X12.leaveW hS7 (Nat.le_trans hk7 (Nat.le_of_eq (congrArg Array.size e12).symm)) (v := some (.int (1 : Int32))) (fun h => by rw [Bd.returns] at h; cases h)
      refine ⟨_, _, pre0 _ ?_, hrun, hended, _, _, rfl, ?_, ?_, own_monoW hE (by decide) (by decide)⟩
      · show Steps p.tables e below (s₁.setTop (mkF m 0 #[.val (.int u0), .val (.int u1), .val (.int u2), .unset, .unset, .unset, .unset, .unset, .unset, .unset, .unset, .unset, .unset, .unset] [])) _
        refine XS.iloadN X0.here hx rfl (hb hby at_0) rfl ?_
        show Steps p.tables e below (s₁.setTop (mkF m 1 #[.val (.int u0), .val (.int u1), .val (.int u2), .unset, .unset, .unset, .unset, .unset, .unset, .unset, .unset, .unset, .unset, .unset] [(.int u0)])) _
        refine XS.sipush X0.here hx rfl (hb hby at_1) ?_
        show Steps p.tables e below (s₁.setTop (mkF m 4 #[.val (.int u0), .val (.int u1), .val (.int u2), .unset, .unset, .unset, .unset, .unset, .unset, .unset, .unset, .unset, .unset, .unset] [(.int (255 : Int32)), (.int u0)])) _
        refine XS.iand X0.here hx rfl (hb hby at_4) rfl ?_
        show Steps p.tables e below (s₁.setTop (mkF m 5 #[.val (.int u0), .val (.int u1), .val (.int u2), .unset, .unset, .unset, .unset, .unset, .unset, .unset, .unset, .unset, .unset, .unset] [(.int (u0 &&& (255 : Int32)))])) _
        refine XS.i2c X0.here hx rfl (hb hby at_5) rfl ?_
        show Steps p.tables e below (s₁.setTop (mkF m 6 #[.val (.int u0), .val (.int u1), .val (.int u2), .unset, .unset, .unset, .unset, .unset, .unset, .unset, .unset, .unset, .unset, .unset] [(.int ((u0 &&& (255 : Int32)).toUInt32.toUInt16.toUInt32.toInt32))])) _
        refine XS.istoreN X0.here hx rfl (hb hby at_6) rfl (l' := #[.val (.int u0), .val (.int u1), .val (.int u2), .val (.int ((u0 &&& (255 : Int32)).toUInt32.toUInt16.toUInt32.toInt32)), .unset, .unset, .unset, .unset, .unset, .unset, .unset, .unset, .unset, .unset]) rfl ?_
        show Steps p.tables e below (s₁.setTop (mkF m 7 #[.val (.int u0), .val (.int u1), .val (.int u2), .val (.int ((u0 &&& (255 : Int32)).toUInt32.toUInt16.toUInt32.toInt32)), .unset, .unset, .unset, .unset, .unset, .unset, .unset, .unset, .unset, .unset] [])) _
        refine XS.iloadN X0.here hx rfl (hb hby at_7) rfl ?_
        show Steps p.tables e below (s₁.setTop (mkF m 8 #[.val (.int u0), .val (.int u1), .val (.int u2), .val (.int ((u0 &&& (255 : Int32)).toUInt32.toUInt16.toUInt32.toInt32)), .unset, .unset, .unset, .unset, .unset, .unset, .unset, .unset, .unset, .unset] [(.int u0)])) _
        refine XS.bipush X0.here hx rfl (hb hby at_8) ?_
        show Steps p.tables e below (s₁.setTop (mkF m 10 #[.val (.int u0), .val (.int u1), .val (.int u2), .val (.int ((u0 &&& (255 : Int32)).toUInt32.toUInt16.toUInt32.toInt32)), .unset, .unset, .unset, .unset, .unset, .unset, .unset, .unset, .unset, .unset] [(.int (8 : Int32)), (.int u0)])) _
        refine XS.iushr X0.here hx rfl (hb hby at_10) rfl ?_
        show Steps p.tables e below (s₁.setTop (mkF m 11 #[.val (.int u0), .val (.int u1), .val (.int u2), .val (.int ((u0 &&& (255 : Int32)).toUInt32.toUInt16.toUInt32.toInt32)), .unset, .unset, .unset, .unset, .unset, .unset, .unset, .unset, .unset, .unset] [(.int ((u0.toUInt32 >>> ((8 : Int32) &&& 31).toUInt32).toInt32))])) _
        refine XS.sipush X0.here hx rfl (hb hby at_11) ?_
        show Steps p.tables e below (s₁.setTop (mkF m 14 #[.val (.int u0), .val (.int u1), .val (.int u2), .val (.int ((u0 &&& (255 : Int32)).toUInt32.toUInt16.toUInt32.toInt32)), .unset, .unset, .unset, .unset, .unset, .unset, .unset, .unset, .unset, .unset] [(.int (255 : Int32)), (.int ((u0.toUInt32 >>> ((8 : Int32) &&& 31).toUInt32).toInt32))])) _
        refine XS.iand X0.here hx rfl (hb hby at_14) rfl ?_
        show Steps p.tables e below (s₁.setTop (mkF m 15 #[.val (.int u0), .val (.int u1), .val (.int u2), .val (.int ((u0 &&& (255 : Int32)).toUInt32.toUInt16.toUInt32.toInt32)), .unset, .unset, .unset, .unset, .unset, .unset, .unset, .unset, .unset, .unset] [(.int (((u0.toUInt32 >>> ((8 : Int32) &&& 31).toUInt32).toInt32) &&& (255 : Int32)))])) _
        refine XS.i2c X0.here hx rfl (hb hby at_15) rfl ?_
        show Steps p.tables e below (s₁.setTop (mkF m 16 #[.val (.int u0), .val (.int u1), .val (.int u2), .val (.int ((u0 &&& (255 : Int32)).toUInt32.toUInt16.toUInt32.toInt32)), .unset, .unset, .unset, .unset, .unset, .unset, .unset, .unset, .unset, .unset] [(.int ((((u0.toUInt32 >>> ((8 : Int32) &&& 31).toUInt32).toInt32) &&& (255 : Int32)).toUInt32.toUInt16.toUInt32.toInt32))])) _
        refine XS.istore X0.here hx rfl (hb hby at_16) rfl (l' := #[.val (.int u0), .val (.int u1), .val (.int u2), .val (.int ((u0 &&& (255 : Int32)).toUInt32.toUInt16.toUInt32.toInt32)), .val (.int ((((u0.toUInt32 >>> ((8 : Int32) &&& 31).toUInt32).toInt32) &&& (255 : Int32)).toUInt32.toUInt16.toUInt32.toInt32)), .unset, .unset, .unset, .unset, .unset, .unset, .unset, .unset, .unset]) rfl ?_
        show Steps p.tables e below (s₁.setTop (mkF m 18 #[.val (.int u0), .val (.int u1), .val (.int u2), .val (.int ((u0 &&& (255 : Int32)).toUInt32.toUInt16.toUInt32.toInt32)), .val (.int ((((u0.toUInt32 >>> ((8 : Int32) &&& 31).toUInt32).toInt32) &&& (255 : Int32)).toUInt32.toUInt16.toUInt32.toInt32)), .unset, .unset, .unset, .unset, .unset, .unset, .unset, .unset, .unset] [])) _
        refine XS.iloadN X0.here hx rfl (hb hby at_18) rfl ?_
        show Steps p.tables e below (s₁.setTop (mkF m 19 #[.val (.int u0), .val (.int u1), .val (.int u2), .val (.int ((u0 &&& (255 : Int32)).toUInt32.toUInt16.toUInt32.toInt32)), .val (.int ((((u0.toUInt32 >>> ((8 : Int32) &&& 31).toUInt32).toInt32) &&& (255 : Int32)).toUInt32.toUInt16.toUInt32.toInt32)), .unset, .unset, .unset, .unset, .unset, .unset, .unset, .unset, .unset] [(.int u0)])) _
        refine XS.bipush X0.here hx rfl (hb hby at_19) ?_
        show Steps p.tables e below (s₁.setTop (mkF m 21 #[.val (.int u0), .val (.int u1), .val (.int u2), .val (.int ((u0 &&& (255 : Int32)).toUInt32.toUInt16.toUInt32.toInt32)), .val (.int ((((u0.toUInt32 >>> ((8 : Int32) &&& 31).toUInt32).toInt32) &&& (255 : Int32)).toUInt32.toUInt16.toUInt32.toInt32)), .unset, .unset, .unset, .unset, .unset, .unset, .unset, .unset, .unset] [(.int (16 : Int32)), (.int u0)])) _
        refine XS.iushr X0.here hx rfl (hb hby at_21) rfl ?_
        show Steps p.tables e below (s₁.setTop (mkF m 22 #[.val (.int u0), .val (.int u1), .val (.int u2), .val (.int ((u0 &&& (255 : Int32)).toUInt32.toUInt16.toUInt32.toInt32)), .val (.int ((((u0.toUInt32 >>> ((8 : Int32) &&& 31).toUInt32).toInt32) &&& (255 : Int32)).toUInt32.toUInt16.toUInt32.toInt32)), .unset, .unset, .unset, .unset, .unset, .unset, .unset, .unset, .unset] [(.int ((u0.toUInt32 >>> ((16 : Int32) &&& 31).toUInt32).toInt32))])) _
        refine XS.sipush X0.here hx rfl (hb hby at_22) ?_
        show Steps p.tables e below (s₁.setTop (mkF m 25 #[.val (.int u0), .val (.int u1), .val (.int u2), .val (.int ((u0 &&& (255 : Int32)).toUInt32.toUInt16.toUInt32.toInt32)), .val (.int ((((u0.toUInt32 >>> ((8 : Int32) &&& 31).toUInt32).toInt32) &&& (255 : Int32)).toUInt32.toUInt16.toUInt32.toInt32)), .unset, .unset, .unset, .unset, .unset, .unset, .unset, .unset, .unset] [(.int (32767 : Int32)), (.int ((u0.toUInt32 >>> ((16 : Int32) &&& 31).toUInt32).toInt32))])) _
        refine XS.iand X0.here hx rfl (hb hby at_25) rfl ?_
        show Steps p.tables e below (s₁.setTop (mkF m 26 #[.val (.int u0), .val (.int u1), .val (.int u2), .val (.int ((u0 &&& (255 : Int32)).toUInt32.toUInt16.toUInt32.toInt32)), .val (.int ((((u0.toUInt32 >>> ((8 : Int32) &&& 31).toUInt32).toInt32) &&& (255 : Int32)).toUInt32.toUInt16.toUInt32.toInt32)), .unset, .unset, .unset, .unset, .unset, .unset, .unset, .unset, .unset] [(.int (((u0.toUInt32 >>> ((16 : Int32) &&& 31).toUInt32).toInt32) &&& (32767 : Int32)))])) _
        refine XS.iconst X0.here hx rfl (hb hby at_26) ?_
        show Steps p.tables e below (s₁.setTop (mkF m 27 #[.val (.int u0), .val (.int u1), .val (.int u2), .val (.int ((u0 &&& (255 : Int32)).toUInt32.toUInt16.toUInt32.toInt32)), .val (.int ((((u0.toUInt32 >>> ((8 : Int32) &&& 31).toUInt32).toInt32) &&& (255 : Int32)).toUInt32.toUInt16.toUInt32.toInt32)), .unset, .unset, .unset, .unset, .unset, .unset, .unset, .unset, .unset] [(.int (3 : Int32)), (.int (((u0.toUInt32 >>> ((16 : Int32) &&& 31).toUInt32).toInt32) &&& (32767 : Int32)))])) _
        refine iremM X0 hx rfl (hb hby at_27) rfl (by decide) ?_
        show Steps p.tables e below (s₁.setTop (mkF m 28 #[.val (.int u0), .val (.int u1), .val (.int u2), .val (.int ((u0 &&& (255 : Int32)).toUInt32.toUInt16.toUInt32.toInt32)), .val (.int ((((u0.toUInt32 >>> ((8 : Int32) &&& 31).toUInt32).toInt32) &&& (255 : Int32)).toUInt32.toUInt16.toUInt32.toInt32)), .unset, .unset, .unset, .unset, .unset, .unset, .unset, .unset, .unset] [(.int ((((u0.toUInt32 >>> ((16 : Int32) &&& 31).toUInt32).toInt32) &&& (32767 : Int32)) % (3 : Int32)))])) _
        refine XS.istore X0.here hx rfl (hb hby at_28) rfl (l' := #[.val (.int u0), .val (.int u1), .val (.int u2), .val (.int ((u0 &&& (255 : Int32)).toUInt32.toUInt16.toUInt32.toInt32)), .val (.int ((((u0.toUInt32 >>> ((8 : Int32) &&& 31).toUInt32).toInt32) &&& (255 : Int32)).toUInt32.toUInt16.toUInt32.toInt32)), .val (.int ((((u0.toUInt32 >>> ((16 : Int32) &&& 31).toUInt32).toInt32) &&& (32767 : Int32)) % (3 : Int32))), .unset, .unset, .unset, .unset, .unset, .unset, .unset, .unset]) rfl ?_
        show Steps p.tables e below (s₁.setTop (mkF m 30 #[.val (.int u0), .val (.int u1), .val (.int u2), .val (.int ((u0 &&& (255 : Int32)).toUInt32.toUInt16.toUInt32.toInt32)), .val (.int ((((u0.toUInt32 >>> ((8 : Int32) &&& 31).toUInt32).toInt32) &&& (255 : Int32)).toUInt32.toUInt16.toUInt32.toInt32)), .val (.int ((((u0.toUInt32 >>> ((16 : Int32) &&& 31).toUInt32).toInt32) &&& (32767 : Int32)) % (3 : Int32))), .unset, .unset, .unset, .unset, .unset, .unset, .unset, .unset] [])) _
        refine XS.iloadN X0.here hx rfl (hb hby at_30) rfl ?_
        show Steps p.tables e below (s₁.setTop (mkF m 31 #[.val (.int u0), .val (.int u1), .val (.int u2), .val (.int ((u0 &&& (255 : Int32)).toUInt32.toUInt16.toUInt32.toInt32)), .val (.int ((((u0.toUInt32 >>> ((8 : Int32) &&& 31).toUInt32).toInt32) &&& (255 : Int32)).toUInt32.toUInt16.toUInt32.toInt32)), .val (.int ((((u0.toUInt32 >>> ((16 : Int32) &&& 31).toUInt32).toInt32) &&& (32767 : Int32)) % (3 : Int32))), .unset, .unset, .unset, .unset, .unset, .unset, .unset, .unset] [(.int u1)])) _
        refine XS.iconst X0.here hx rfl (hb hby at_31) ?_
        show Steps p.tables e below (s₁.setTop (mkF m 32 #[.val (.int u0), .val (.int u1), .val (.int u2), .val (.int ((u0 &&& (255 : Int32)).toUInt32.toUInt16.toUInt32.toInt32)), .val (.int ((((u0.toUInt32 >>> ((8 : Int32) &&& 31).toUInt32).toInt32) &&& (255 : Int32)).toUInt32.toUInt16.toUInt32.toInt32)), .val (.int ((((u0.toUInt32 >>> ((16 : Int32) &&& 31).toUInt32).toInt32) &&& (32767 : Int32)) % (3 : Int32))), .unset, .unset, .unset, .unset, .unset, .unset, .unset, .unset] [(.int (1 : Int32)), (.int u1)])) _
        refine XS.iand X0.here hx rfl (hb hby at_32) rfl ?_
        refine st1 _ ?_
        show Steps p.tables e below (s₁.setTop (mkF m 49 #[.val (.int u0), .val (.int u1), .val (.int u2), .val (.int ((u0 &&& (255 : Int32)).toUInt32.toUInt16.toUInt32.toInt32)), .val (.int ((((u0.toUInt32 >>> ((8 : Int32) &&& 31).toUInt32).toInt32) &&& (255 : Int32)).toUInt32.toUInt16.toUInt32.toInt32)), .val (.int ((((u0.toUInt32 >>> ((16 : Int32) &&& 31).toUInt32).toInt32) &&& (32767 : Int32)) % (3 : Int32))), .unset, .unset, .unset, .unset, .unset, .unset, .unset, .unset] [(.int mv1_0)])) _
        refine XS.istore X0.here hx rfl (hb hby at_49) rfl (l' := #[.val (.int u0), .val (.int u1), .val (.int u2), .val (.int ((u0 &&& (255 : Int32)).toUInt32.toUInt16.toUInt32.toInt32)), .val (.int ((((u0.toUInt32 >>> ((8 : Int32) &&& 31).toUInt32).toInt32) &&& (255 : Int32)).toUInt32.toUInt16.toUInt32.toInt32)), .val (.int ((((u0.toUInt32 >>> ((16 : Int32) &&& 31).toUInt32).toInt32) &&& (32767 : Int32)) % (3 : Int32))), .val (.int mv1_0), .unset, .unset, .unset, .unset, .unset, .unset, .unset]) rfl ?_
        show Steps p.tables e below (s₁.setTop (mkF m 51 #[.val (.int u0), .val (.int u1), .val (.int u2), .val (.int ((u0 &&& (255 : Int32)).toUInt32.toUInt16.toUInt32.toInt32)), .val (.int ((((u0.toUInt32 >>> ((8 : Int32) &&& 31).toUInt32).toInt32) &&& (255 : Int32)).toUInt32.toUInt16.toUInt32.toInt32)), .val (.int ((((u0.toUInt32 >>> ((16 : Int32) &&& 31).toUInt32).toInt32) &&& (32767 : Int32)) % (3 : Int32))), .val (.int mv1_0), .unset, .unset, .unset, .unset, .unset, .unset, .unset] [])) _
        refine XS.iloadN X0.here hx rfl (hb hby at_51) rfl ?_
        show Steps p.tables e below (s₁.setTop (mkF m 52 #[.val (.int u0), .val (.int u1), .val (.int u2), .val (.int ((u0 &&& (255 : Int32)).toUInt32.toUInt16.toUInt32.toInt32)), .val (.int ((((u0.toUInt32 >>> ((8 : Int32) &&& 31).toUInt32).toInt32) &&& (255 : Int32)).toUInt32.toUInt16.toUInt32.toInt32)), .val (.int ((((u0.toUInt32 >>> ((16 : Int32) &&& 31).toUInt32).toInt32) &&& (32767 : Int32)) % (3 : Int32))), .val (.int mv1_0), .unset, .unset, .unset, .unset, .unset, .unset, .unset] [(.int u1)])) _
        refine XS.iconst X0.here hx rfl (hb hby at_52) ?_
        show Steps p.tables e below (s₁.setTop (mkF m 53 #[.val (.int u0), .val (.int u1), .val (.int u2), .val (.int ((u0 &&& (255 : Int32)).toUInt32.toUInt16.toUInt32.toInt32)), .val (.int ((((u0.toUInt32 >>> ((8 : Int32) &&& 31).toUInt32).toInt32) &&& (255 : Int32)).toUInt32.toUInt16.toUInt32.toInt32)), .val (.int ((((u0.toUInt32 >>> ((16 : Int32) &&& 31).toUInt32).toInt32) &&& (32767 : Int32)) % (3 : Int32))), .val (.int mv1_0), .unset, .unset, .unset, .unset, .unset, .unset, .unset] [(.int (2 : Int32)), (.int u1)])) _
        refine XS.iand X0.here hx rfl (hb hby at_53) rfl ?_
        refine st2 _ ?_
        show Steps p.tables e below (s₁.setTop (mkF m 71 #[.val (.int u0), .val (.int u1), .val (.int u2), .val (.int ((u0 &&& (255 : Int32)).toUInt32.toUInt16.toUInt32.toInt32)), .val (.int ((((u0.toUInt32 >>> ((8 : Int32) &&& 31).toUInt32).toInt32) &&& (255 : Int32)).toUInt32.toUInt16.toUInt32.toInt32)), .val (.int ((((u0.toUInt32 >>> ((16 : Int32) &&& 31).toUInt32).toInt32) &&& (32767 : Int32)) % (3 : Int32))), .val (.int mv1_0), .unset, .unset, .unset, .unset, .unset, .unset, .unset] [(.int mv2_0)])) _
        refine XS.istore X0.here hx rfl (hb hby at_71) rfl (l' := #[.val (.int u0), .val (.int u1), .val (.int u2), .val (.int ((u0 &&& (255 : Int32)).toUInt32.toUInt16.toUInt32.toInt32)), .val (.int ((((u0.toUInt32 >>> ((8 : Int32) &&& 31).toUInt32).toInt32) &&& (255 : Int32)).toUInt32.toUInt16.toUInt32.toInt32)), .val (.int ((((u0.toUInt32 >>> ((16 : Int32) &&& 31).toUInt32).toInt32) &&& (32767 : Int32)) % (3 : Int32))), .val (.int mv1_0), .val (.int mv2_0), .unset, .unset, .unset, .unset, .unset, .unset]) rfl ?_
        show Steps p.tables e below (s₁.setTop (mkF m 73 #[.val (.int u0), .val (.int u1), .val (.int u2), .val (.int ((u0 &&& (255 : Int32)).toUInt32.toUInt16.toUInt32.toInt32)), .val (.int ((((u0.toUInt32 >>> ((8 : Int32) &&& 31).toUInt32).toInt32) &&& (255 : Int32)).toUInt32.toUInt16.toUInt32.toInt32)), .val (.int ((((u0.toUInt32 >>> ((16 : Int32) &&& 31).toUInt32).toInt32) &&& (32767 : Int32)) % (3 : Int32))), .val (.int mv1_0), .val (.int mv2_0), .unset, .unset, .unset, .unset, .unset, .unset] [])) _
        refine XS.iloadN X0.here hx rfl (hb hby at_73) rfl ?_
        show Steps p.tables e below (s₁.setTop (mkF m 74 #[.val (.int u0), .val (.int u1), .val (.int u2), .val (.int ((u0 &&& (255 : Int32)).toUInt32.toUInt16.toUInt32.toInt32)), .val (.int ((((u0.toUInt32 >>> ((8 : Int32) &&& 31).toUInt32).toInt32) &&& (255 : Int32)).toUInt32.toUInt16.toUInt32.toInt32)), .val (.int ((((u0.toUInt32 >>> ((16 : Int32) &&& 31).toUInt32).toInt32) &&& (32767 : Int32)) % (3 : Int32))), .val (.int mv1_0), .val (.int mv2_0), .unset, .unset, .unset, .unset, .unset, .unset] [(.int u1)])) _
        refine XS.iconst X0.here hx rfl (hb hby at_74) ?_
        show Steps p.tables e below (s₁.setTop (mkF m 75 #[.val (.int u0), .val (.int u1), .val (.int u2), .val (.int ((u0 &&& (255 : Int32)).toUInt32.toUInt16.toUInt32.toInt32)), .val (.int ((((u0.toUInt32 >>> ((8 : Int32) &&& 31).toUInt32).toInt32) &&& (255 : Int32)).toUInt32.toUInt16.toUInt32.toInt32)), .val (.int ((((u0.toUInt32 >>> ((16 : Int32) &&& 31).toUInt32).toInt32) &&& (32767 : Int32)) % (3 : Int32))), .val (.int mv1_0), .val (.int mv2_0), .unset, .unset, .unset, .unset, .unset, .unset] [(.int (4 : Int32)), (.int u1)])) _
        refine XS.iand X0.here hx rfl (hb hby at_75) rfl ?_
        refine st3 _ ?_
        show Steps p.tables e below (s₁.setTop (mkF m 93 #[.val (.int u0), .val (.int u1), .val (.int u2), .val (.int ((u0 &&& (255 : Int32)).toUInt32.toUInt16.toUInt32.toInt32)), .val (.int ((((u0.toUInt32 >>> ((8 : Int32) &&& 31).toUInt32).toInt32) &&& (255 : Int32)).toUInt32.toUInt16.toUInt32.toInt32)), .val (.int ((((u0.toUInt32 >>> ((16 : Int32) &&& 31).toUInt32).toInt32) &&& (32767 : Int32)) % (3 : Int32))), .val (.int mv1_0), .val (.int mv2_0), .unset, .unset, .unset, .unset, .unset, .unset] [(.int mv3_0)])) _
        refine XS.istore X0.here hx rfl (hb hby at_93) rfl (l' := #[.val (.int u0), .val (.int u1), .val (.int u2), .val (.int ((u0 &&& (255 : Int32)).toUInt32.toUInt16.toUInt32.toInt32)), .val (.int ((((u0.toUInt32 >>> ((8 : Int32) &&& 31).toUInt32).toInt32) &&& (255 : Int32)).toUInt32.toUInt16.toUInt32.toInt32)), .val (.int ((((u0.toUInt32 >>> ((16 : Int32) &&& 31).toUInt32).toInt32) &&& (32767 : Int32)) % (3 : Int32))), .val (.int mv1_0), .val (.int mv2_0), .val (.int mv3_0), .unset, .unset, .unset, .unset, .unset]) rfl ?_
        show Steps p.tables e below (s₁.setTop (mkF m 95 #[.val (.int u0), .val (.int u1), .val (.int u2), .val (.int ((u0 &&& (255 : Int32)).toUInt32.toUInt16.toUInt32.toInt32)), .val (.int ((((u0.toUInt32 >>> ((8 : Int32) &&& 31).toUInt32).toInt32) &&& (255 : Int32)).toUInt32.toUInt16.toUInt32.toInt32)), .val (.int ((((u0.toUInt32 >>> ((16 : Int32) &&& 31).toUInt32).toInt32) &&& (32767 : Int32)) % (3 : Int32))), .val (.int mv1_0), .val (.int mv2_0), .val (.int mv3_0), .unset, .unset, .unset, .unset, .unset] [])) _
        refine XS.iload X0.here hx rfl (hb hby at_95) rfl ?_
        show Steps p.tables e below (s₁.setTop (mkF m 97 #[.val (.int u0), .val (.int u1), .val (.int u2), .val (.int ((u0 &&& (255 : Int32)).toUInt32.toUInt16.toUInt32.toInt32)), .val (.int ((((u0.toUInt32 >>> ((8 : Int32) &&& 31).toUInt32).toInt32) &&& (255 : Int32)).toUInt32.toUInt16.toUInt32.toInt32)), .val (.int ((((u0.toUInt32 >>> ((16 : Int32) &&& 31).toUInt32).toInt32) &&& (32767 : Int32)) % (3 : Int32))), .val (.int mv1_0), .val (.int mv2_0), .val (.int mv3_0), .unset, .unset, .unset, .unset, .unset] [(.int ((((u0.toUInt32 >>> ((16 : Int32) &&& 31).toUInt32).toInt32) &&& (32767 : Int32)) % (3 : Int32)))])) _
        refine XS.iloadN X0.here hx rfl (hb hby at_97) rfl ?_
        show Steps p.tables e below (s₁.setTop (mkF m 98 #[.val (.int u0), .val (.int u1), .val (.int u2), .val (.int ((u0 &&& (255 : Int32)).toUInt32.toUInt16.toUInt32.toInt32)), .val (.int ((((u0.toUInt32 >>> ((8 : Int32) &&& 31).toUInt32).toInt32) &&& (255 : Int32)).toUInt32.toUInt16.toUInt32.toInt32)), .val (.int ((((u0.toUInt32 >>> ((16 : Int32) &&& 31).toUInt32).toInt32) &&& (32767 : Int32)) % (3 : Int32))), .val (.int mv1_0), .val (.int mv2_0), .val (.int mv3_0), .unset, .unset, .unset, .unset, .unset] [(.int ((u0 &&& (255 : Int32)).toUInt32.toUInt16.toUInt32.toInt32)), (.int ((((u0.toUInt32 >>> ((16 : Int32) &&& 31).toUInt32).toInt32) &&& (32767 : Int32)) % (3 : Int32)))])) _
        refine XS.iload X0.here hx rfl (hb hby at_98) rfl ?_
        show Steps p.tables e below (s₁.setTop (mkF m 100 #[.val (.int u0), .val (.int u1), .val (.int u2), .val (.int ((u0 &&& (255 : Int32)).toUInt32.toUInt16.toUInt32.toInt32)), .val (.int ((((u0.toUInt32 >>> ((8 : Int32) &&& 31).toUInt32).toInt32) &&& (255 : Int32)).toUInt32.toUInt16.toUInt32.toInt32)), .val (.int ((((u0.toUInt32 >>> ((16 : Int32) &&& 31).toUInt32).toInt32) &&& (32767 : Int32)) % (3 : Int32))), .val (.int mv1_0), .val (.int mv2_0), .val (.int mv3_0), .unset, .unset, .unset, .unset, .unset] [(.int ((((u0.toUInt32 >>> ((8 : Int32) &&& 31).toUInt32).toInt32) &&& (255 : Int32)).toUInt32.toUInt16.toUInt32.toInt32)), (.int ((u0 &&& (255 : Int32)).toUInt32.toUInt16.toUInt32.toInt32)), (.int ((((u0.toUInt32 >>> ((16 : Int32) &&& 31).toUInt32).toInt32) &&& (32767 : Int32)) % (3 : Int32)))])) _
        refine st4.trans ?_
        show Steps p.tables e below (T4.setTop (mkF m 103 #[.val (.int u0), .val (.int u1), .val (.int u2), .val (.int ((u0 &&& (255 : Int32)).toUInt32.toUInt16.toUInt32.toInt32)), .val (.int ((((u0.toUInt32 >>> ((8 : Int32) &&& 31).toUInt32).toInt32) &&& (255 : Int32)).toUInt32.toUInt16.toUInt32.toInt32)), .val (.int ((((u0.toUInt32 >>> ((16 : Int32) &&& 31).toUInt32).toInt32) &&& (32767 : Int32)) % (3 : Int32))), .val (.int mv1_0), .val (.int mv2_0), .val (.int mv3_0), .unset, .unset, .unset, .unset, .unset] [(.ref s4)])) _
        refine XS.astore X4.here hx rfl (hb hby at_103) rfl rfl (l' := #[.val (.int u0), .val (.int u1), .val (.int u2), .val (.int ((u0 &&& (255 : Int32)).toUInt32.toUInt16.toUInt32.toInt32)), .val (.int ((((u0.toUInt32 >>> ((8 : Int32) &&& 31).toUInt32).toInt32) &&& (255 : Int32)).toUInt32.toUInt16.toUInt32.toInt32)), .val (.int ((((u0.toUInt32 >>> ((16 : Int32) &&& 31).toUInt32).toInt32) &&& (32767 : Int32)) % (3 : Int32))), .val (.int mv1_0), .val (.int mv2_0), .val (.int mv3_0), .val (.ref s4), .unset, .unset, .unset, .unset]) rfl ?_
        show Steps p.tables e below (T4.setTop (mkF m 105 #[.val (.int u0), .val (.int u1), .val (.int u2), .val (.int ((u0 &&& (255 : Int32)).toUInt32.toUInt16.toUInt32.toInt32)), .val (.int ((((u0.toUInt32 >>> ((8 : Int32) &&& 31).toUInt32).toInt32) &&& (255 : Int32)).toUInt32.toUInt16.toUInt32.toInt32)), .val (.int ((((u0.toUInt32 >>> ((16 : Int32) &&& 31).toUInt32).toInt32) &&& (32767 : Int32)) % (3 : Int32))), .val (.int mv1_0), .val (.int mv2_0), .val (.int mv3_0), .val (.ref s4), .unset, .unset, .unset, .unset] [])) _
        refine XS.iload X4.here hx rfl (hb hby at_105) rfl ?_
        show Steps p.tables e below (T4.setTop (mkF m 107 #[.val (.int u0), .val (.int u1), .val (.int u2), .val (.int ((u0 &&& (255 : Int32)).toUInt32.toUInt16.toUInt32.toInt32)), .val (.int ((((u0.toUInt32 >>> ((8 : Int32) &&& 31).toUInt32).toInt32) &&& (255 : Int32)).toUInt32.toUInt16.toUInt32.toInt32)), .val (.int ((((u0.toUInt32 >>> ((16 : Int32) &&& 31).toUInt32).toInt32) &&& (32767 : Int32)) % (3 : Int32))), .val (.int mv1_0), .val (.int mv2_0), .val (.int mv3_0), .val (.ref s4), .unset, .unset, .unset, .unset] [(.int mv3_0)])) _
        refine XS.iload X4.here hx rfl (hb hby at_107) rfl ?_
        show Steps p.tables e below (T4.setTop (mkF m 109 #[.val (.int u0), .val (.int u1), .val (.int u2), .val (.int ((u0 &&& (255 : Int32)).toUInt32.toUInt16.toUInt32.toInt32)), .val (.int ((((u0.toUInt32 >>> ((8 : Int32) &&& 31).toUInt32).toInt32) &&& (255 : Int32)).toUInt32.toUInt16.toUInt32.toInt32)), .val (.int ((((u0.toUInt32 >>> ((16 : Int32) &&& 31).toUInt32).toInt32) &&& (32767 : Int32)) % (3 : Int32))), .val (.int mv1_0), .val (.int mv2_0), .val (.int mv3_0), .val (.ref s4), .unset, .unset, .unset, .unset] [(.int mv1_0), (.int mv3_0)])) _
        refine XS.iload X4.here hx rfl (hb hby at_109) rfl ?_
        show Steps p.tables e below (T4.setTop (mkF m 111 #[.val (.int u0), .val (.int u1), .val (.int u2), .val (.int ((u0 &&& (255 : Int32)).toUInt32.toUInt16.toUInt32.toInt32)), .val (.int ((((u0.toUInt32 >>> ((8 : Int32) &&& 31).toUInt32).toInt32) &&& (255 : Int32)).toUInt32.toUInt16.toUInt32.toInt32)), .val (.int ((((u0.toUInt32 >>> ((16 : Int32) &&& 31).toUInt32).toInt32) &&& (32767 : Int32)) % (3 : Int32))), .val (.int mv1_0), .val (.int mv2_0), .val (.int mv3_0), .val (.ref s4), .unset, .unset, .unset, .unset] [(.int mv2_0), (.int mv1_0), (.int mv3_0)])) _
        refine st5.trans ?_
        show Steps p.tables e below (T5.setTop (mkF m 114 #[.val (.int u0), .val (.int u1), .val (.int u2), .val (.int ((u0 &&& (255 : Int32)).toUInt32.toUInt16.toUInt32.toInt32)), .val (.int ((((u0.toUInt32 >>> ((8 : Int32) &&& 31).toUInt32).toInt32) &&& (255 : Int32)).toUInt32.toUInt16.toUInt32.toInt32)), .val (.int ((((u0.toUInt32 >>> ((16 : Int32) &&& 31).toUInt32).toInt32) &&& (32767 : Int32)) % (3 : Int32))), .val (.int mv1_0), .val (.int mv2_0), .val (.int mv3_0), .val (.ref s4), .unset, .unset, .unset, .unset] [(.ref s5)])) _
        refine XS.astore X5.here hx rfl (hb hby at_114) rfl rfl (l' := #[.val (.int u0), .val (.int u1), .val (.int u2), .val (.int ((u0 &&& (255 : Int32)).toUInt32.toUInt16.toUInt32.toInt32)), .val (.int ((((u0.toUInt32 >>> ((8 : Int32) &&& 31).toUInt32).toInt32) &&& (255 : Int32)).toUInt32.toUInt16.toUInt32.toInt32)), .val (.int ((((u0.toUInt32 >>> ((16 : Int32) &&& 31).toUInt32).toInt32) &&& (32767 : Int32)) % (3 : Int32))), .val (.int mv1_0), .val (.int mv2_0), .val (.int mv3_0), .val (.ref s4), .val (.ref s5), .unset, .unset, .unset]) rfl ?_
        show Steps p.tables e below (T5.setTop (mkF m 116 #[.val (.int u0), .val (.int u1), .val (.int u2), .val (.int ((u0 &&& (255 : Int32)).toUInt32.toUInt16.toUInt32.toInt32)), .val (.int ((((u0.toUInt32 >>> ((8 : Int32) &&& 31).toUInt32).toInt32) &&& (255 : Int32)).toUInt32.toUInt16.toUInt32.toInt32)), .val (.int ((((u0.toUInt32 >>> ((16 : Int32) &&& 31).toUInt32).toInt32) &&& (32767 : Int32)) % (3 : Int32))), .val (.int mv1_0), .val (.int mv2_0), .val (.int mv3_0), .val (.ref s4), .val (.ref s5), .unset, .unset, .unset] [])) _
        refine st6 _ ?_
        show Steps p.tables e below (T6.setTop (mkF m 119 #[.val (.int u0), .val (.int u1), .val (.int u2), .val (.int ((u0 &&& (255 : Int32)).toUInt32.toUInt16.toUInt32.toInt32)), .val (.int ((((u0.toUInt32 >>> ((8 : Int32) &&& 31).toUInt32).toInt32) &&& (255 : Int32)).toUInt32.toUInt16.toUInt32.toInt32)), .val (.int ((((u0.toUInt32 >>> ((16 : Int32) &&& 31).toUInt32).toInt32) &&& (32767 : Int32)) % (3 : Int32))), .val (.int mv1_0), .val (.int mv2_0), .val (.int mv3_0), .val (.ref s4), .val (.ref s5), .unset, .unset, .unset] [(.ref b6)])) _
        refine XS.dup X6.here hx rfl (hb hby at_119) rfl rfl ?_
        show Steps p.tables e below (T6.setTop (mkF m 120 #[.val (.int u0), .val (.int u1), .val (.int u2), .val (.int ((u0 &&& (255 : Int32)).toUInt32.toUInt16.toUInt32.toInt32)), .val (.int ((((u0.toUInt32 >>> ((8 : Int32) &&& 31).toUInt32).toInt32) &&& (255 : Int32)).toUInt32.toUInt16.toUInt32.toInt32)), .val (.int ((((u0.toUInt32 >>> ((16 : Int32) &&& 31).toUInt32).toInt32) &&& (32767 : Int32)) % (3 : Int32))), .val (.int mv1_0), .val (.int mv2_0), .val (.int mv3_0), .val (.ref s4), .val (.ref s5), .unset, .unset, .unset] [(.ref b6), (.ref b6)])) _
        refine XS.aload X6.here hx rfl (hb hby at_120) rfl rfl ?_
        show Steps p.tables e below (T6.setTop (mkF m 122 #[.val (.int u0), .val (.int u1), .val (.int u2), .val (.int ((u0 &&& (255 : Int32)).toUInt32.toUInt16.toUInt32.toInt32)), .val (.int ((((u0.toUInt32 >>> ((8 : Int32) &&& 31).toUInt32).toInt32) &&& (255 : Int32)).toUInt32.toUInt16.toUInt32.toInt32)), .val (.int ((((u0.toUInt32 >>> ((16 : Int32) &&& 31).toUInt32).toInt32) &&& (32767 : Int32)) % (3 : Int32))), .val (.int mv1_0), .val (.int mv2_0), .val (.int mv3_0), .val (.ref s4), .val (.ref s5), .unset, .unset, .unset] [(.ref s4), (.ref b6), (.ref b6)])) _
        refine st7.trans ?_
        show Steps p.tables e below (T7.setTop (mkF m 125 #[.val (.int u0), .val (.int u1), .val (.int u2), .val (.int ((u0 &&& (255 : Int32)).toUInt32.toUInt16.toUInt32.toInt32)), .val (.int ((((u0.toUInt32 >>> ((8 : Int32) &&& 31).toUInt32).toInt32) &&& (255 : Int32)).toUInt32.toUInt16.toUInt32.toInt32)), .val (.int ((((u0.toUInt32 >>> ((16 : Int32) &&& 31).toUInt32).toInt32) &&& (32767 : Int32)) % (3 : Int32))), .val (.int mv1_0), .val (.int mv2_0), .val (.int mv3_0), .val (.ref s4), .val (.ref s5), .unset, .unset, .unset] [(.ref b6)])) _
        refine XS.astore X7.here hx rfl (hb hby at_125) rfl rfl (l' := #[.val (.int u0), .val (.int u1), .val (.int u2), .val (.int ((u0 &&& (255 : Int32)).toUInt32.toUInt16.toUInt32.toInt32)), .val (.int ((((u0.toUInt32 >>> ((8 : Int32) &&& 31).toUInt32).toInt32) &&& (255 : Int32)).toUInt32.toUInt16.toUInt32.toInt32)), .val (.int ((((u0.toUInt32 >>> ((16 : Int32) &&& 31).toUInt32).toInt32) &&& (32767 : Int32)) % (3 : Int32))), .val (.int mv1_0), .val (.int mv2_0), .val (.int mv3_0), .val (.ref s4), .val (.ref s5), .val (.ref b6), .unset, .unset]) rfl ?_
        show Steps p.tables e below (T7.setTop (mkF m 127 #[.val (.int u0), .val (.int u1), .val (.int u2), .val (.int ((u0 &&& (255 : Int32)).toUInt32.toUInt16.toUInt32.toInt32)), .val (.int ((((u0.toUInt32 >>> ((8 : Int32) &&& 31).toUInt32).toInt32) &&& (255 : Int32)).toUInt32.toUInt16.toUInt32.toInt32)), .val (.int ((((u0.toUInt32 >>> ((16 : Int32) &&& 31).toUInt32).toInt32) &&& (32767 : Int32)) % (3 : Int32))), .val (.int mv1_0), .val (.int mv2_0), .val (.int mv3_0), .val (.ref s4), .val (.ref s5), .val (.ref b6), .unset, .unset] [])) _
        refine XS.iload X7.here hx rfl (hb hby at_127) rfl ?_
        show Steps p.tables e below (T7.setTop (mkF m 129 #[.val (.int u0), .val (.int u1), .val (.int u2), .val (.int ((u0 &&& (255 : Int32)).toUInt32.toUInt16.toUInt32.toInt32)), .val (.int ((((u0.toUInt32 >>> ((8 : Int32) &&& 31).toUInt32).toInt32) &&& (255 : Int32)).toUInt32.toUInt16.toUInt32.toInt32)), .val (.int ((((u0.toUInt32 >>> ((16 : Int32) &&& 31).toUInt32).toInt32) &&& (32767 : Int32)) % (3 : Int32))), .val (.int mv1_0), .val (.int mv2_0), .val (.int mv3_0), .val (.ref s4), .val (.ref s5), .val (.ref b6), .unset, .unset] [(.int ((((u0.toUInt32 >>> ((16 : Int32) &&& 31).toUInt32).toInt32) &&& (32767 : Int32)) % (3 : Int32)))])) _
        refine XS.iload X7.here hx rfl (hb hby at_129) rfl ?_
        refine st8 _ ?_
        show Steps p.tables e below (T7.setTop (mkF m 164 #[.val (.int u0), .val (.int u1), .val (.int u2), .val (.int ((u0 &&& (255 : Int32)).toUInt32.toUInt16.toUInt32.toInt32)), .val (.int ((((u0.toUInt32 >>> ((8 : Int32) &&& 31).toUInt32).toInt32) &&& (255 : Int32)).toUInt32.toUInt16.toUInt32.toInt32)), .val (.int ((((u0.toUInt32 >>> ((16 : Int32) &&& 31).toUInt32).toInt32) &&& (32767 : Int32)) % (3 : Int32))), .val (.int mv1_0), .val (.int mv2_0), .val (.int mv3_0), .val (.ref s4), .val (.ref s5), .val (.ref b6), .unset, .unset] [(.int mv8_0)])) _
        refine XS.istore X7.here hx rfl (hb hby at_164) rfl (l' := #[.val (.int u0), .val (.int u1), .val (.int u2), .val (.int ((u0 &&& (255 : Int32)).toUInt32.toUInt16.toUInt32.toInt32)), .val (.int ((((u0.toUInt32 >>> ((8 : Int32) &&& 31).toUInt32).toInt32) &&& (255 : Int32)).toUInt32.toUInt16.toUInt32.toInt32)), .val (.int ((((u0.toUInt32 >>> ((16 : Int32) &&& 31).toUInt32).toInt32) &&& (32767 : Int32)) % (3 : Int32))), .val (.int mv1_0), .val (.int mv2_0), .val (.int mv3_0), .val (.ref s4), .val (.ref s5), .val (.ref b6), .val (.int mv8_0), .unset]) rfl ?_
        show Steps p.tables e below (T7.setTop (mkF m 166 #[.val (.int u0), .val (.int u1), .val (.int u2), .val (.int ((u0 &&& (255 : Int32)).toUInt32.toUInt16.toUInt32.toInt32)), .val (.int ((((u0.toUInt32 >>> ((8 : Int32) &&& 31).toUInt32).toInt32) &&& (255 : Int32)).toUInt32.toUInt16.toUInt32.toInt32)), .val (.int ((((u0.toUInt32 >>> ((16 : Int32) &&& 31).toUInt32).toInt32) &&& (32767 : Int32)) % (3 : Int32))), .val (.int mv1_0), .val (.int mv2_0), .val (.int mv3_0), .val (.ref s4), .val (.ref s5), .val (.ref b6), .val (.int mv8_0), .unset] [])) _
        refine XS.iloadN X7.here hx rfl (hb hby at_166) rfl ?_
        show Steps p.tables e below (T7.setTop (mkF m 167 #[.val (.int u0), .val (.int u1), .val (.int u2), .val (.int ((u0 &&& (255 : Int32)).toUInt32.toUInt16.toUInt32.toInt32)), .val (.int ((((u0.toUInt32 >>> ((8 : Int32) &&& 31).toUInt32).toInt32) &&& (255 : Int32)).toUInt32.toUInt16.toUInt32.toInt32)), .val (.int ((((u0.toUInt32 >>> ((16 : Int32) &&& 31).toUInt32).toInt32) &&& (32767 : Int32)) % (3 : Int32))), .val (.int mv1_0), .val (.int mv2_0), .val (.int mv3_0), .val (.ref s4), .val (.ref s5), .val (.ref b6), .val (.int mv8_0), .unset] [(.int u2)])) _
        refine XS.bipush X7.here hx rfl (hb hby at_167) ?_
        show Steps p.tables e below (T7.setTop (mkF m 169 #[.val (.int u0), .val (.int u1), .val (.int u2), .val (.int ((u0 &&& (255 : Int32)).toUInt32.toUInt16.toUInt32.toInt32)), .val (.int ((((u0.toUInt32 >>> ((8 : Int32) &&& 31).toUInt32).toInt32) &&& (255 : Int32)).toUInt32.toUInt16.toUInt32.toInt32)), .val (.int ((((u0.toUInt32 >>> ((16 : Int32) &&& 31).toUInt32).toInt32) &&& (32767 : Int32)) % (3 : Int32))), .val (.int mv1_0), .val (.int mv2_0), .val (.int mv3_0), .val (.ref s4), .val (.ref s5), .val (.ref b6), .val (.int mv8_0), .unset] [(.int (7 : Int32)), (.int u2)])) _
        refine XS.iand X7.here hx rfl (hb hby at_169) rfl ?_
        show Steps p.tables e below (T7.setTop (mkF m 170 #[.val (.int u0), .val (.int u1), .val (.int u2), .val (.int ((u0 &&& (255 : Int32)).toUInt32.toUInt16.toUInt32.toInt32)), .val (.int ((((u0.toUInt32 >>> ((8 : Int32) &&& 31).toUInt32).toInt32) &&& (255 : Int32)).toUInt32.toUInt16.toUInt32.toInt32)), .val (.int ((((u0.toUInt32 >>> ((16 : Int32) &&& 31).toUInt32).toInt32) &&& (32767 : Int32)) % (3 : Int32))), .val (.int mv1_0), .val (.int mv2_0), .val (.int mv3_0), .val (.ref s4), .val (.ref s5), .val (.ref b6), .val (.int mv8_0), .unset] [(.int (u2 &&& (7 : Int32)))])) _
        refine XS.istore X7.here hx rfl (hb hby at_170) rfl (l' := #[.val (.int u0), .val (.int u1), .val (.int u2), .val (.int ((u0 &&& (255 : Int32)).toUInt32.toUInt16.toUInt32.toInt32)), .val (.int ((((u0.toUInt32 >>> ((8 : Int32) &&& 31).toUInt32).toInt32) &&& (255 : Int32)).toUInt32.toUInt16.toUInt32.toInt32)), .val (.int ((((u0.toUInt32 >>> ((16 : Int32) &&& 31).toUInt32).toInt32) &&& (32767 : Int32)) % (3 : Int32))), .val (.int mv1_0), .val (.int mv2_0), .val (.int mv3_0), .val (.ref s4), .val (.ref s5), .val (.ref b6), .val (.int mv8_0), .val (.int (u2 &&& (7 : Int32)))]) rfl ?_
        show Steps p.tables e below (T7.setTop (mkF m 172 #[.val (.int u0), .val (.int u1), .val (.int u2), .val (.int ((u0 &&& (255 : Int32)).toUInt32.toUInt16.toUInt32.toInt32)), .val (.int ((((u0.toUInt32 >>> ((8 : Int32) &&& 31).toUInt32).toInt32) &&& (255 : Int32)).toUInt32.toUInt16.toUInt32.toInt32)), .val (.int ((((u0.toUInt32 >>> ((16 : Int32) &&& 31).toUInt32).toInt32) &&& (32767 : Int32)) % (3 : Int32))), .val (.int mv1_0), .val (.int mv2_0), .val (.int mv3_0), .val (.ref s4), .val (.ref s5), .val (.ref b6), .val (.int mv8_0), .val (.int (u2 &&& (7 : Int32)))] [])) _
        refine XS.iload X7.here hx rfl (hb hby at_172) rfl ?_
        show Steps p.tables e below (T7.setTop (mkF m 174 #[.val (.int u0), .val (.int u1), .val (.int u2), .val (.int ((u0 &&& (255 : Int32)).toUInt32.toUInt16.toUInt32.toInt32)), .val (.int ((((u0.toUInt32 >>> ((8 : Int32) &&& 31).toUInt32).toInt32) &&& (255 : Int32)).toUInt32.toUInt16.toUInt32.toInt32)), .val (.int ((((u0.toUInt32 >>> ((16 : Int32) &&& 31).toUInt32).toInt32) &&& (32767 : Int32)) % (3 : Int32))), .val (.int mv1_0), .val (.int mv2_0), .val (.int mv3_0), .val (.ref s4), .val (.ref s5), .val (.ref b6), .val (.int mv8_0), .val (.int (u2 &&& (7 : Int32)))] [(.int (u2 &&& (7 : Int32)))])) _
        refine XS.iconst X7.here hx rfl (hb hby at_174) ?_
        show Steps p.tables e below (T7.setTop (mkF m 175 #[.val (.int u0), .val (.int u1), .val (.int u2), .val (.int ((u0 &&& (255 : Int32)).toUInt32.toUInt16.toUInt32.toInt32)), .val (.int ((((u0.toUInt32 >>> ((8 : Int32) &&& 31).toUInt32).toInt32) &&& (255 : Int32)).toUInt32.toUInt16.toUInt32.toInt32)), .val (.int ((((u0.toUInt32 >>> ((16 : Int32) &&& 31).toUInt32).toInt32) &&& (32767 : Int32)) % (3 : Int32))), .val (.int mv1_0), .val (.int mv2_0), .val (.int mv3_0), .val (.ref s4), .val (.ref s5), .val (.ref b6), .val (.int mv8_0), .val (.int (u2 &&& (7 : Int32)))] [(.int (4 : Int32)), (.int (u2 &&& (7 : Int32)))])) _
        refine XS.icmpYes X7.here hx rfl (pc0 := 175) (pc' := 203) rfl (hb hby at_175) rfl (flt hc175).2.1 (by decide) (by decide) ?_
        show Steps p.tables e below (T7.setTop (mkF m 203 #[.val (.int u0), .val (.int u1), .val (.int u2), .val (.int ((u0 &&& (255 : Int32)).toUInt32.toUInt16.toUInt32.toInt32)), .val (.int ((((u0.toUInt32 >>> ((8 : Int32) &&& 31).toUInt32).toInt32) &&& (255 : Int32)).toUInt32.toUInt16.toUInt32.toInt32)), .val (.int ((((u0.toUInt32 >>> ((16 : Int32) &&& 31).toUInt32).toInt32) &&& (32767 : Int32)) % (3 : Int32))), .val (.int mv1_0), .val (.int mv2_0), .val (.int mv3_0), .val (.ref s4), .val (.ref s5), .val (.ref b6), .val (.int mv8_0), .val (.int (u2 &&& (7 : Int32)))] [])) _
        refine XS.iload X7.here hx rfl (hb hby at_203) rfl ?_
        show Steps p.tables e below (T7.setTop (mkF m 205 #[.val (.int u0), .val (.int u1), .val (.int u2), .val (.int ((u0 &&& (255 : Int32)).toUInt32.toUInt16.toUInt32.toInt32)), .val (.int ((((u0.toUInt32 >>> ((8 : Int32) &&& 31).toUInt32).toInt32) &&& (255 : Int32)).toUInt32.toUInt16.toUInt32.toInt32)), .val (.int ((((u0.toUInt32 >>> ((16 : Int32) &&& 31).toUInt32).toInt32) &&& (32767 : Int32)) % (3 : Int32))), .val (.int mv1_0), .val (.int mv2_0), .val (.int mv3_0), .val (.ref s4), .val (.ref s5), .val (.ref b6), .val (.int mv8_0), .val (.int (u2 &&& (7 : Int32)))] [(.int (u2 &&& (7 : Int32)))])) _
        refine XS.iconst X7.here hx rfl (hb hby at_205) ?_
        show Steps p.tables e below (T7.setTop (mkF m 206 #[.val (.int u0), .val (.int u1), .val (.int u2), .val (.int ((u0 &&& (255 : Int32)).toUInt32.toUInt16.toUInt32.toInt32)), .val (.int ((((u0.toUInt32 >>> ((8 : Int32) &&& 31).toUInt32).toInt32) &&& (255 : Int32)).toUInt32.toUInt16.toUInt32.toInt32)), .val (.int ((((u0.toUInt32 >>> ((16 : Int32) &&& 31).toUInt32).toInt32) &&& (32767 : Int32)) % (3 : Int32))), .val (.int mv1_0), .val (.int mv2_0), .val (.int mv3_0), .val (.ref s4), .val (.ref s5), .val (.ref b6), .val (.int mv8_0), .val (.int (u2 &&& (7 : Int32)))] [(.int (4 : Int32)), (.int (u2 &&& (7 : Int32)))])) _
        refine XS.icmpNo X7.here hx rfl (hb hby at_206) rfl (teq hc206).2 ?_
        show Steps p.tables e below (T7.setTop (mkF m 209 #[.val (.int u0), .val (.int u1), .val (.int u2), .val (.int ((u0 &&& (255 : Int32)).toUInt32.toUInt16.toUInt32.toInt32)), .val (.int ((((u0.toUInt32 >>> ((8 : Int32) &&& 31).toUInt32).toInt32) &&& (255 : Int32)).toUInt32.toUInt16.toUInt32.toInt32)), .val (.int ((((u0.toUInt32 >>> ((16 : Int32) &&& 31).toUInt32).toInt32) &&& (32767 : Int32)) % (3 : Int32))), .val (.int mv1_0), .val (.int mv2_0), .val (.int mv3_0), .val (.ref s4), .val (.ref s5), .val (.ref b6), .val (.int mv8_0), .val (.int (u2 &&& (7 : Int32)))] [])) _
        refine XS.aload X7.here hx rfl (hb hby at_209) rfl rfl ?_
        show Steps p.tables e below (T7.setTop (mkF m 211 #[.val (.int u0), .val (.int u1), .val (.int u2), .val (.int ((u0 &&& (255 : Int32)).toUInt32.toUInt16.toUInt32.toInt32)), .val (.int ((((u0.toUInt32 >>> ((8 : Int32) &&& 31).toUInt32).toInt32) &&& (255 : Int32)).toUInt32.toUInt16.toUInt32.toInt32)), .val (.int ((((u0.toUInt32 >>> ((16 : Int32) &&& 31).toUInt32).toInt32) &&& (32767 : Int32)) % (3 : Int32))), .val (.int mv1_0), .val (.int mv2_0), .val (.int mv3_0), .val (.ref s4), .val (.ref s5), .val (.ref b6), .val (.int mv8_0), .val (.int (u2 &&& (7 : Int32)))] [(.ref b6)])) _
        refine XS.aconstNull X7.here hx rfl (hb hby at_211) ?_
        show Steps p.tables e below (T7.setTop (mkF m 212 #[.val (.int u0), .val (.int u1), .val (.int u2), .val (.int ((u0 &&& (255 : Int32)).toUInt32.toUInt16.toUInt32.toInt32)), .val (.int ((((u0.toUInt32 >>> ((8 : Int32) &&& 31).toUInt32).toInt32) &&& (255 : Int32)).toUInt32.toUInt16.toUInt32.toInt32)), .val (.int ((((u0.toUInt32 >>> ((16 : Int32) &&& 31).toUInt32).toInt32) &&& (32767 : Int32)) % (3 : Int32))), .val (.int mv1_0), .val (.int mv2_0), .val (.int mv3_0), .val (.ref s4), .val (.ref s5), .val (.ref b6), .val (.int mv8_0), .val (.int (u2 &&& (7 : Int32)))] [.null, (.ref b6)])) _
        refine st12.trans ?_
        show Steps p.tables e below (T12.setTop (mkF m 215 #[.val (.int u0), .val (.int u1), .val (.int u2), .val (.int ((u0 &&& (255 : Int32)).toUInt32.toUInt16.toUInt32.toInt32)), .val (.int ((((u0.toUInt32 >>> ((8 : Int32) &&& 31).toUInt32).toInt32) &&& (255 : Int32)).toUInt32.toUInt16.toUInt32.toInt32)), .val (.int ((((u0.toUInt32 >>> ((16 : Int32) &&& 31).toUInt32).toInt32) &&& (32767 : Int32)) % (3 : Int32))), .val (.int mv1_0), .val (.int mv2_0), .val (.int mv3_0), .val (.ref s4), .val (.ref s5), .val (.ref b6), .val (.int mv8_0), .val (.int (u2 &&& (7 : Int32)))] [(.int (0 : Int32))])) _
        refine XS.ifNo X12.here hx rfl (hb hby at_215) rfl ((if0 _ _).trans (teq (by decide)).2) ?_
        show Steps p.tables e below (T12.setTop (mkF m 218 #[.val (.int u0), .val (.int u1), .val (.int u2), .val (.int ((u0 &&& (255 : Int32)).toUInt32.toUInt16.toUInt32.toInt32)), .val (.int ((((u0.toUInt32 >>> ((8 : Int32) &&& 31).toUInt32).toInt32) &&& (255 : Int32)).toUInt32.toUInt16.toUInt32.toInt32)), .val (.int ((((u0.toUInt32 >>> ((16 : Int32) &&& 31).toUInt32).toInt32) &&& (32767 : Int32)) % (3 : Int32))), .val (.int mv1_0), .val (.int mv2_0), .val (.int mv3_0), .val (.ref s4), .val (.ref s5), .val (.ref b6), .val (.int mv8_0), .val (.int (u2 &&& (7 : Int32)))] [])) _
        refine XS.iconst X12.here hx rfl (hb hby at_218) ?_
        show Steps p.tables e below (T12.setTop (mkF m 219 #[.val (.int u0), .val (.int u1), .val (.int u2), .val (.int ((u0 &&& (255 : Int32)).toUInt32.toUInt16.toUInt32.toInt32)), .val (.int ((((u0.toUInt32 >>> ((8 : Int32) &&& 31).toUInt32).toInt32) &&& (255 : Int32)).toUInt32.toUInt16.toUInt32.toInt32)), .val (.int ((((u0.toUInt32 >>> ((16 : Int32) &&& 31).toUInt32).toInt32) &&& (32767 : Int32)) % (3 : Int32))), .val (.int mv1_0), .val (.int mv2_0), .val (.int mv3_0), .val (.ref s4), .val (.ref s5), .val (.ref b6), .val (.int mv8_0), .val (.int (u2 &&& (7 : Int32)))] [(.int (1 : Int32))])) _
        refine XS.goto X12.here hx rfl (pc0 := 219) (pc' := 223) rfl (hb hby at_219) (by decide) (by decide) ?_
        show Steps p.tables e below (T12.setTop (mkF m 223 #[.val (.int u0), .val (.int u1), .val (.int u2), .val (.int ((u0 &&& (255 : Int32)).toUInt32.toUInt16.toUInt32.toInt32)), .val (.int ((((u0.toUInt32 >>> ((8 : Int32) &&& 31).toUInt32).toInt32) &&& (255 : Int32)).toUInt32.toUInt16.toUInt32.toInt32)), .val (.int ((((u0.toUInt32 >>> ((16 : Int32) &&& 31).toUInt32).toInt32) &&& (32767 : Int32)) % (3 : Int32))), .val (.int mv1_0), .val (.int mv2_0), .val (.int mv3_0), .val (.ref s4), .val (.ref s5), .val (.ref b6), .val (.int mv8_0), .val (.int (u2 &&& (7 : Int32)))] [(.int (1 : Int32))])) _
        exact retN X12 hx (t := .boolean) Bd.returns (by simp) (hb hby at_223) hr
      · show Q0 Z u0 u1 u2 G_COMPACT h0 n0 _ T12.heap _
        rw [e12]
        exact ⟨rfl, N12⟩
      · show CHr Z EL s.vm s.heap T12.vm T12.heap
        rw [e12]
        rw [hh]
        exact C7.trans (CHv.at X12 hZ (hEL hw) C7.1)
    · by_cases hc227 : (u2 &&& (7 : Int32)) = (5 : Int32)
      · obtain ⟨T13, h13, X13, e13, E13, A13, D13, -, st13⟩ := newO X7 hx hZ hown (hw _ (List.mem_of_getElem? (i := 59) rfl)) (hw _ (List.mem_of_getElem? (i := 60) rfl)) (hw _ (List.mem_of_getElem? (i := 61) rfl)) rfl (g := (mkF m 232 #[.val (.int u0), .val (.int u1), .val (.int u2), .val (.int ((u0 &&& (255 : Int32)).toUInt32.toUInt16.toUInt32.toInt32)), .val (.int ((((u0.toUInt32 >>> ((8 : Int32) &&& 31).toUInt32).toInt32) &&& (255 : Int32)).toUInt32.toUInt16.toUInt32.toInt32)), .val (.int ((((u0.toUInt32 >>> ((16 : Int32) &&& 31).toUInt32).toInt32) &&& (32767 : Int32)) % (3 : Int32))), .val (.int mv1_0), .val (.int mv2_0), .val (.int mv3_0), .val (.ref s4), .val (.ref s5), .val (.ref b6), .val (.int mv8_0), .val (.int (u2 &&& (7 : Int32)))] [(.ref b6)])) rfl (hb hby at_232) (by decide) (by decide)
        obtain ⟨b13, g13⟩ : ∃ z, z = T7.heap.size := ⟨_, rfl⟩
        rw [← g13] at A13 D13 st13
        have g_b13 : n0 ≤ b13 := Nat.le_trans Z7 (Nat.le_of_eq g13.symm)
        have sz_b13 : h0.size ≤ b13 := Nat.le_trans KK7.1 (Nat.le_of_eq g13.symm)
        have Z13 : n0 ≤ h13.size := Nat.le_trans Z7 E13.1
        have KK13 := KK7.ext E13
        have O13 := O7.ext E13
        have C13 := C7.trans (CHr.ext E13 C7.1)
        have hk13 := Nat.le_trans hk7 E13.1
        have F13_label : Fld Z h13 b13 "com/example/triplewright/triplewright/rdf/BlankNode" "label" "Ljava/lang/String;" .null := D13 (Or.inr (hw _ (List.mem_of_getElem? (i := 74) rfl))) (ty := (.object "java/lang/String")) (by decide)
        obtain ⟨_, _, ⟨T14, L14, k14, n14⟩, -, X14, hS14, gr14, ⟨Lc14, hQ14, l14, y14, z14, Cq14⟩, st14⟩ := X13.specialBackS hx (y := (⟨"com/example/triplewright/triplewright/rdf/BlankNode", "<init>", "(Ljava/lang/String;)V"⟩ : MethodName)) rfl hown (mvT hZ (hw _ (List.mem_of_getElem? (i := 62) rfl))) (mvT hZ (hw _ (List.mem_of_getElem? (i := 63) rfl))) (mvT hZ (hw _ (List.mem_of_getElem? (i := 64) rfl))) (by decide) (backOfSH (W := 2) (rm10 l Z a0 hw [] b13 s5 h13 n0 Z13 g_b13 A13 F13_label (((A5.ext E6).keep K7).ext E13)) hZ (hw _ (List.mem_of_getElem? (i := 64) rfl)) (hw _ (List.mem_of_getElem? (i := 61) rfl)) (by decide) (by decide) (hEL hw) C13.1) (g := (mkF m 238 #[.val (.int u0), .val (.int u1), .val (.int u2), .val (.int ((u0 &&& (255 : Int32)).toUInt32.toUInt16.toUInt32.toInt32)), .val (.int ((((u0.toUInt32 >>> ((8 : Int32) &&& 31).toUInt32).toInt32) &&& (255 : Int32)).toUInt32.toUInt16.toUInt32.toInt32)), .val (.int ((((u0.toUInt32 >>> ((16 : Int32) &&& 31).toUInt32).toInt32) &&& (32767 : Int32)) % (3 : Int32))), .val (.int mv1_0), .val (.int mv2_0), .val (.int mv3_0), .val (.ref s4), .val (.ref s5), .val (.ref b6), .val (.int mv8_0), .val (.int (u2 &&& (7 : Int32)))] [(.ref s5), (.ref b13), (.ref b13), (.ref b6)])) rfl (by rw [hml]; rfl) (Steps.refl _) (a := b13) (argsL := [(.ref s5)]) (rest := [(.ref b13), (.ref b6)]) (lenOf pd_4 rfl) rfl (by show 2 * 0 + _ ≤ _; exact Nat.le_of_eq rfl) (hb hby at_238) (fun _ _ => ⟨rfl, e13, (by decide : 16 + 2 ≤ _), (by decide : 51 + 24 ≤ _)⟩)
        dsimp only [Pt.U, Pt.locs, Pt.cells, Pt.slots] at X14 l14 y14 z14 st14 hQ14 hS14 gr14 Cq14
        subst l14 y14 z14
        obtain ⟨X14, hS14, hZ, hown⟩ := rebS hS7 (Nat.le_trans hk13 (Nat.le_of_eq (congrArg Array.size e13).symm)) X14 hS14 gr14 hZ hown
        have hk14 := Nat.le_refl T14.heap.size
        obtain ⟨rfl, N14q, K14, A14, F14_label⟩ := hQ14
        have N14 := Fr.app N7 N14q
        have Z14 : n0 ≤ T14.heap.size := Nat.le_trans Z13 K14.1
        have KK14 := KK13.trans K14 (allS (P := fun x => x ∈ [] ∨ h0.size ≤ x) (Or.inr sz_b13) all0)
        have O14 := O13.keep K14 (allS g_b13 all0)
        have C14 := C13.trans Cq14
        obtain ⟨cq15, kq15, q15a, q15b, q15c⟩ := isOf hZ rfl ((A7.ext E13).keep K14)
        obtain ⟨_, _, ⟨T15, L15, k15, n15⟩, -, X15, ⟨Lc15, hQ15, l15, y15, z15⟩, st15⟩ := X14.virtualBack hx (y := (⟨"com/example/triplewright/triplewright/rdf/Iri", "equals", "(Ljava/lang/Object;)Z"⟩ : MethodName)) (z := (⟨"com/example/triplewright/triplewright/rdf/Iri", "equals", "(Ljava/lang/Object;)Z"⟩ : MethodName)) hown (mvT hZ (hw _ (List.mem_of_getElem? (i := 41) rfl))) (mvT hZ (hw _ (List.mem_of_getElem? (i := 42) rfl))) (notFace_of_selects (args := #[]) (mvT hZ (hw _ (List.mem_of_getElem? (i := 44) rfl)))) (mvT hZ (hw _ (List.mem_of_getElem? (i := 44) rfl))) (mvT hZ (hw _ (List.mem_of_getElem? (i := 43) rfl))) (by decide) (backOf (W := 0) (rmEqB l Z a0 hw [] b6 b13 T14.heap n0 Z14 A14) hZ (hw _ (List.mem_of_getElem? (i := 45) rfl)) (hw _ (List.mem_of_getElem? (i := 28) rfl)) (by decide) (by decide)) q15a q15c (g := (mkF m 241 #[.val (.int u0), .val (.int u1), .val (.int u2), .val (.int ((u0 &&& (255 : Int32)).toUInt32.toUInt16.toUInt32.toInt32)), .val (.int ((((u0.toUInt32 >>> ((8 : Int32) &&& 31).toUInt32).toInt32) &&& (255 : Int32)).toUInt32.toUInt16.toUInt32.toInt32)), .val (.int ((((u0.toUInt32 >>> ((16 : Int32) &&& 31).toUInt32).toInt32) &&& (32767 : Int32)) % (3 : Int32))), .val (.int mv1_0), .val (.int mv2_0), .val (.int mv3_0), .val (.ref s4), .val (.ref s5), .val (.ref b6), .val (.int mv8_0), .val (.int (u2 &&& (7 : Int32)))] [(.ref b13), (.ref b6)])) rfl (by rw [hml]; rfl) (Steps.refl _) (argsL := [(.ref b13)]) (rest := []) (lenOf pd_2 rfl) rfl (by show 2 * 0 + _ ≤ _; exact Nat.le_of_eq rfl) (hb hby at_241) (fun _ _ => ⟨rfl, rfl, (by decide : 18 + 0 ≤ _), (by decide : 75 + 0 ≤ _)⟩)
        dsimp only [Pt.U, Pt.locs, Pt.cells, Pt.slots] at X15 l15 y15 z15 st15 hQ15
        subst l15 y15 z15
        obtain ⟨rfl, N15q, e15⟩ := hQ15
        have N15 := Fr.app N14 N15q
        obtain ⟨fs, hr, hrun, hended, hE⟩ := X15.leaveW hS14 (Nat.le_trans hk14 (Nat.le_of_eq (congrArg Array.size e15).symm)) (v := some (.int (1 : Int32))) (fun h => by rw [Bd.returns] at h; cases h)
        refine ⟨_, _, pre0 _ ?_, hrun, hended, _, _, rfl, ?_, ?_, own_monoW hE (by decide) (by decide)⟩
        · show Steps p.tables e below (s₁.setTop (mkF m 0 #[.val (.int u0), .val (.int u1), .val (.int u2), .unset, .unset, .unset, .unset, .unset, .unset, .unset, .unset, .unset, .unset, .unset] [])) _
          refine XS.iloadN X0.here hx rfl (hb hby at_0) rfl ?_
          show Steps p.tables e below (s₁.setTop (mkF m 1 #[.val (.int u0), .val (.int u1), .val (.int u2), .unset, .unset, .unset, .unset, .unset, .unset, .unset, .unset, .unset, .unset, .unset] [(.int u0)])) _
          refine XS.sipush X0.here hx rfl (hb hby at_1) ?_
          show Steps p.tables e below (s₁.setTop (mkF m 4 #[.val (.int u0), .val (.int u1), .val (.int u2), .unset, .unset, .unset, .unset, .unset, .unset, .unset, .unset, .unset, .unset, .unset] [(.int (255 : Int32)), (.int u0)])) _
          refine XS.iand X0.here hx rfl (hb hby at_4) rfl ?_
          show Steps p.tables e below (s₁.setTop (mkF m 5 #[.val (.int u0), .val (.int u1), .val (.int u2), .unset, .unset, .unset, .unset, .unset, .unset, .unset, .unset, .unset, .unset, .unset] [(.int (u0 &&& (255 : Int32)))])) _
          refine XS.i2c X0.here hx rfl (hb hby at_5) rfl ?_
          show Steps p.tables e below (s₁.setTop (mkF m 6 #[.val (.int u0), .val (.int u1), .val (.int u2), .unset, .unset, .unset, .unset, .unset, .unset, .unset, .unset, .unset, .unset, .unset] [(.int ((u0 &&& (255 : Int32)).toUInt32.toUInt16.toUInt32.toInt32))])) _
          refine XS.istoreN X0.here hx rfl (hb hby at_6) rfl (l' := #[.val (.int u0), .val (.int u1), .val (.int u2), .val (.int ((u0 &&& (255 : Int32)).toUInt32.toUInt16.toUInt32.toInt32)), .unset, .unset, .unset, .unset, .unset, .unset, .unset, .unset, .unset, .unset]) rfl ?_
          show Steps p.tables e below (s₁.setTop (mkF m 7 #[.val (.int u0), .val (.int u1), .val (.int u2), .val (.int ((u0 &&& (255 : Int32)).toUInt32.toUInt16.toUInt32.toInt32)), .unset, .unset, .unset, .unset, .unset, .unset, .unset, .unset, .unset, .unset] [])) _
          refine XS.iloadN X0.here hx rfl (hb hby at_7) rfl ?_
          show Steps p.tables e below (s₁.setTop (mkF m 8 #[.val (.int u0), .val (.int u1), .val (.int u2), .val (.int ((u0 &&& (255 : Int32)).toUInt32.toUInt16.toUInt32.toInt32)), .unset, .unset, .unset, .unset, .unset, .unset, .unset, .unset, .unset, .unset] [(.int u0)])) _
          refine XS.bipush X0.here hx rfl (hb hby at_8) ?_
          show Steps p.tables e below (s₁.setTop (mkF m 10 #[.val (.int u0), .val (.int u1), .val (.int u2), .val (.int ((u0 &&& (255 : Int32)).toUInt32.toUInt16.toUInt32.toInt32)), .unset, .unset, .unset, .unset, .unset, .unset, .unset, .unset, .unset, .unset] [(.int (8 : Int32)), (.int u0)])) _
          refine XS.iushr X0.here hx rfl (hb hby at_10) rfl ?_
          show Steps p.tables e below (s₁.setTop (mkF m 11 #[.val (.int u0), .val (.int u1), .val (.int u2), .val (.int ((u0 &&& (255 : Int32)).toUInt32.toUInt16.toUInt32.toInt32)), .unset, .unset, .unset, .unset, .unset, .unset, .unset, .unset, .unset, .unset] [(.int ((u0.toUInt32 >>> ((8 : Int32) &&& 31).toUInt32).toInt32))])) _
          refine XS.sipush X0.here hx rfl (hb hby at_11) ?_
          show Steps p.tables e below (s₁.setTop (mkF m 14 #[.val (.int u0), .val (.int u1), .val (.int u2), .val (.int ((u0 &&& (255 : Int32)).toUInt32.toUInt16.toUInt32.toInt32)), .unset, .unset, .unset, .unset, .unset, .unset, .unset, .unset, .unset, .unset] [(.int (255 : Int32)), (.int ((u0.toUInt32 >>> ((8 : Int32) &&& 31).toUInt32).toInt32))])) _
          refine XS.iand X0.here hx rfl (hb hby at_14) rfl ?_
          show Steps p.tables e below (s₁.setTop (mkF m 15 #[.val (.int u0), .val (.int u1), .val (.int u2), .val (.int ((u0 &&& (255 : Int32)).toUInt32.toUInt16.toUInt32.toInt32)), .unset, .unset, .unset, .unset, .unset, .unset, .unset, .unset, .unset, .unset] [(.int (((u0.toUInt32 >>> ((8 : Int32) &&& 31).toUInt32).toInt32) &&& (255 : Int32)))])) _
          refine XS.i2c X0.here hx rfl (hb hby at_15) rfl ?_
          show Steps p.tables e below (s₁.setTop (mkF m 16 #[.val (.int u0), .val (.int u1), .val (.int u2), .val (.int ((u0 &&& (255 : Int32)).toUInt32.toUInt16.toUInt32.toInt32)), .unset, .unset, .unset, .unset, .unset, .unset, .unset, .unset, .unset, .unset] [(.int ((((u0.toUInt32 >>> ((8 : Int32) &&& 31).toUInt32).toInt32) &&& (255 : Int32)).toUInt32.toUInt16.toUInt32.toInt32))])) _
          refine XS.istore X0.here hx rfl (hb hby at_16) rfl (l' := #[.val (.int u0), .val (.int u1), .val (.int u2), .val (.int ((u0 &&& (255 : Int32)).toUInt32.toUInt16.toUInt32.toInt32)), .val (.int ((((u0.toUInt32 >>> ((8 : Int32) &&& 31).toUInt32).toInt32) &&& (255 : Int32)).toUInt32.toUInt16.toUInt32.toInt32)), .unset, .unset, .unset, .unset, .unset, .unset, .unset, .unset, .unset]) rfl ?_
          show Steps p.tables e below (s₁.setTop (mkF m 18 #[.val (.int u0), .val (.int u1), .val (.int u2), .val (.int ((u0 &&& (255 : Int32)).toUInt32.toUInt16.toUInt32.toInt32)), .val (.int ((((u0.toUInt32 >>> ((8 : Int32) &&& 31).toUInt32).toInt32) &&& (255 : Int32)).toUInt32.toUInt16.toUInt32.toInt32)), .unset, .unset, .unset, .unset, .unset, .unset, .unset, .unset, .unset] [])) _
          refine XS.iloadN X0.here hx rfl (hb hby at_18) rfl ?_
          show Steps p.tables e below (s₁.setTop (mkF m 19 #[.val (.int u0), .val (.int u1), .val (.int u2), .val (.int ((u0 &&& (255 : Int32)).toUInt32.toUInt16.toUInt32.toInt32)), .val (.int ((((u0.toUInt32 >>> ((8 : Int32) &&& 31).toUInt32).toInt32) &&& (255 : Int32)).toUInt32.toUInt16.toUInt32.toInt32)), .unset, .unset, .unset, .unset, .unset, .unset, .unset, .unset, .unset] [(.int u0)])) _
          refine XS.bipush X0.here hx rfl (hb hby at_19) ?_
          show Steps p.tables e below (s₁.setTop (mkF m 21 #[.val (.int u0), .val (.int u1), .val (.int u2), .val (.int ((u0 &&& (255 : Int32)).toUInt32.toUInt16.toUInt32.toInt32)), .val (.int ((((u0.toUInt32 >>> ((8 : Int32) &&& 31).toUInt32).toInt32) &&& (255 : Int32)).toUInt32.toUInt16.toUInt32.toInt32)), .unset, .unset, .unset, .unset, .unset, .unset, .unset, .unset, .unset] [(.int (16 : Int32)), (.int u0)])) _
          refine XS.iushr X0.here hx rfl (hb hby at_21) rfl ?_
          show Steps p.tables e below (s₁.setTop (mkF m 22 #[.val (.int u0), .val (.int u1), .val (.int u2), .val (.int ((u0 &&& (255 : Int32)).toUInt32.toUInt16.toUInt32.toInt32)), .val (.int ((((u0.toUInt32 >>> ((8 : Int32) &&& 31).toUInt32).toInt32) &&& (255 : Int32)).toUInt32.toUInt16.toUInt32.toInt32)), .unset, .unset, .unset, .unset, .unset, .unset, .unset, .unset, .unset] [(.int ((u0.toUInt32 >>> ((16 : Int32) &&& 31).toUInt32).toInt32))])) _
          refine XS.sipush X0.here hx rfl (hb hby at_22) ?_
          show Steps p.tables e below (s₁.setTop (mkF m 25 #[.val (.int u0), .val (.int u1), .val (.int u2), .val (.int ((u0 &&& (255 : Int32)).toUInt32.toUInt16.toUInt32.toInt32)), .val (.int ((((u0.toUInt32 >>> ((8 : Int32) &&& 31).toUInt32).toInt32) &&& (255 : Int32)).toUInt32.toUInt16.toUInt32.toInt32)), .unset, .unset, .unset, .unset, .unset, .unset, .unset, .unset, .unset] [(.int (32767 : Int32)), (.int ((u0.toUInt32 >>> ((16 : Int32) &&& 31).toUInt32).toInt32))])) _
          refine XS.iand X0.here hx rfl (hb hby at_25) rfl ?_
          show Steps p.tables e below (s₁.setTop (mkF m 26 #[.val (.int u0), .val (.int u1), .val (.int u2), .val (.int ((u0 &&& (255 : Int32)).toUInt32.toUInt16.toUInt32.toInt32)), .val (.int ((((u0.toUInt32 >>> ((8 : Int32) &&& 31).toUInt32).toInt32) &&& (255 : Int32)).toUInt32.toUInt16.toUInt32.toInt32)), .unset, .unset, .unset, .unset, .unset, .unset, .unset, .unset, .unset] [(.int (((u0.toUInt32 >>> ((16 : Int32) &&& 31).toUInt32).toInt32) &&& (32767 : Int32)))])) _
          refine XS.iconst X0.here hx rfl (hb hby at_26) ?_
          show Steps p.tables e below (s₁.setTop (mkF m 27 #[.val (.int u0), .val (.int u1), .val (.int u2), .val (.int ((u0 &&& (255 : Int32)).toUInt32.toUInt16.toUInt32.toInt32)), .val (.int ((((u0.toUInt32 >>> ((8 : Int32) &&& 31).toUInt32).toInt32) &&& (255 : Int32)).toUInt32.toUInt16.toUInt32.toInt32)), .unset, .unset, .unset, .unset, .unset, .unset, .unset, .unset, .unset] [(.int (3 : Int32)), (.int (((u0.toUInt32 >>> ((16 : Int32) &&& 31).toUInt32).toInt32) &&& (32767 : Int32)))])) _
          refine iremM X0 hx rfl (hb hby at_27) rfl (by decide) ?_
          show Steps p.tables e below (s₁.setTop (mkF m 28 #[.val (.int u0), .val (.int u1), .val (.int u2), .val (.int ((u0 &&& (255 : Int32)).toUInt32.toUInt16.toUInt32.toInt32)), .val (.int ((((u0.toUInt32 >>> ((8 : Int32) &&& 31).toUInt32).toInt32) &&& (255 : Int32)).toUInt32.toUInt16.toUInt32.toInt32)), .unset, .unset, .unset, .unset, .unset, .unset, .unset, .unset, .unset] [(.int ((((u0.toUInt32 >>> ((16 : Int32) &&& 31).toUInt32).toInt32) &&& (32767 : Int32)) % (3 : Int32)))])) _
          refine XS.istore X0.here hx rfl (hb hby at_28) rfl (l' := #[.val (.int u0), .val (.int u1), .val (.int u2), .val (.int ((u0 &&& (255 : Int32)).toUInt32.toUInt16.toUInt32.toInt32)), .val (.int ((((u0.toUInt32 >>> ((8 : Int32) &&& 31).toUInt32).toInt32) &&& (255 : Int32)).toUInt32.toUInt16.toUInt32.toInt32)), .val (.int ((((u0.toUInt32 >>> ((16 : Int32) &&& 31).toUInt32).toInt32) &&& (32767 : Int32)) % (3 : Int32))), .unset, .unset, .unset, .unset, .unset, .unset, .unset, .unset]) rfl ?_
          show Steps p.tables e below (s₁.setTop (mkF m 30 #[.val (.int u0), .val (.int u1), .val (.int u2), .val (.int ((u0 &&& (255 : Int32)).toUInt32.toUInt16.toUInt32.toInt32)), .val (.int ((((u0.toUInt32 >>> ((8 : Int32) &&& 31).toUInt32).toInt32) &&& (255 : Int32)).toUInt32.toUInt16.toUInt32.toInt32)), .val (.int ((((u0.toUInt32 >>> ((16 : Int32) &&& 31).toUInt32).toInt32) &&& (32767 : Int32)) % (3 : Int32))), .unset, .unset, .unset, .unset, .unset, .unset, .unset, .unset] [])) _
          refine XS.iloadN X0.here hx rfl (hb hby at_30) rfl ?_
          show Steps p.tables e below (s₁.setTop (mkF m 31 #[.val (.int u0), .val (.int u1), .val (.int u2), .val (.int ((u0 &&& (255 : Int32)).toUInt32.toUInt16.toUInt32.toInt32)), .val (.int ((((u0.toUInt32 >>> ((8 : Int32) &&& 31).toUInt32).toInt32) &&& (255 : Int32)).toUInt32.toUInt16.toUInt32.toInt32)), .val (.int ((((u0.toUInt32 >>> ((16 : Int32) &&& 31).toUInt32).toInt32) &&& (32767 : Int32)) % (3 : Int32))), .unset, .unset, .unset, .unset, .unset, .unset, .unset, .unset] [(.int u1)])) _
          refine XS.iconst X0.here hx rfl (hb hby at_31) ?_
          show Steps p.tables e below (s₁.setTop (mkF m 32 #[.val (.int u0), .val (.int u1), .val (.int u2), .val (.int ((u0 &&& (255 : Int32)).toUInt32.toUInt16.toUInt32.toInt32)), .val (.int ((((u0.toUInt32 >>> ((8 : Int32) &&& 31).toUInt32).toInt32) &&& (255 : Int32)).toUInt32.toUInt16.toUInt32.toInt32)), .val (.int ((((u0.toUInt32 >>> ((16 : Int32) &&& 31).toUInt32).toInt32) &&& (32767 : Int32)) % (3 : Int32))), .unset, .unset, .unset, .unset, .unset, .unset, .unset, .unset] [(.int (1 : Int32)), (.int u1)])) _
          refine XS.iand X0.here hx rfl (hb hby at_32) rfl ?_
          refine st1 _ ?_
          show Steps p.tables e below (s₁.setTop (mkF m 49 #[.val (.int u0), .val (.int u1), .val (.int u2), .val (.int ((u0 &&& (255 : Int32)).toUInt32.toUInt16.toUInt32.toInt32)), .val (.int ((((u0.toUInt32 >>> ((8 : Int32) &&& 31).toUInt32).toInt32) &&& (255 : Int32)).toUInt32.toUInt16.toUInt32.toInt32)), .val (.int ((((u0.toUInt32 >>> ((16 : Int32) &&& 31).toUInt32).toInt32) &&& (32767 : Int32)) % (3 : Int32))), .unset, .unset, .unset, .unset, .unset, .unset, .unset, .unset] [(.int mv1_0)])) _
          refine XS.istore X0.here hx rfl (hb hby at_49) rfl (l' := #[.val (.int u0), .val (.int u1), .val (.int u2), .val (.int ((u0 &&& (255 : Int32)).toUInt32.toUInt16.toUInt32.toInt32)), .val (.int ((((u0.toUInt32 >>> ((8 : Int32) &&& 31).toUInt32).toInt32) &&& (255 : Int32)).toUInt32.toUInt16.toUInt32.toInt32)), .val (.int ((((u0.toUInt32 >>> ((16 : Int32) &&& 31).toUInt32).toInt32) &&& (32767 : Int32)) % (3 : Int32))), .val (.int mv1_0), .unset, .unset, .unset, .unset, .unset, .unset, .unset]) rfl ?_
          show Steps p.tables e below (s₁.setTop (mkF m 51 #[.val (.int u0), .val (.int u1), .val (.int u2), .val (.int ((u0 &&& (255 : Int32)).toUInt32.toUInt16.toUInt32.toInt32)), .val (.int ((((u0.toUInt32 >>> ((8 : Int32) &&& 31).toUInt32).toInt32) &&& (255 : Int32)).toUInt32.toUInt16.toUInt32.toInt32)), .val (.int ((((u0.toUInt32 >>> ((16 : Int32) &&& 31).toUInt32).toInt32) &&& (32767 : Int32)) % (3 : Int32))), .val (.int mv1_0), .unset, .unset, .unset, .unset, .unset, .unset, .unset] [])) _
          refine XS.iloadN X0.here hx rfl (hb hby at_51) rfl ?_
          show Steps p.tables e below (s₁.setTop (mkF m 52 #[.val (.int u0), .val (.int u1), .val (.int u2), .val (.int ((u0 &&& (255 : Int32)).toUInt32.toUInt16.toUInt32.toInt32)), .val (.int ((((u0.toUInt32 >>> ((8 : Int32) &&& 31).toUInt32).toInt32) &&& (255 : Int32)).toUInt32.toUInt16.toUInt32.toInt32)), .val (.int ((((u0.toUInt32 >>> ((16 : Int32) &&& 31).toUInt32).toInt32) &&& (32767 : Int32)) % (3 : Int32))), .val (.int mv1_0), .unset, .unset, .unset, .unset, .unset, .unset, .unset] [(.int u1)])) _
          refine XS.iconst X0.here hx rfl (hb hby at_52) ?_
          show Steps p.tables e below (s₁.setTop (mkF m 53 #[.val (.int u0), .val (.int u1), .val (.int u2), .val (.int ((u0 &&& (255 : Int32)).toUInt32.toUInt16.toUInt32.toInt32)), .val (.int ((((u0.toUInt32 >>> ((8 : Int32) &&& 31).toUInt32).toInt32) &&& (255 : Int32)).toUInt32.toUInt16.toUInt32.toInt32)), .val (.int ((((u0.toUInt32 >>> ((16 : Int32) &&& 31).toUInt32).toInt32) &&& (32767 : Int32)) % (3 : Int32))), .val (.int mv1_0), .unset, .unset, .unset, .unset, .unset, .unset, .unset] [(.int (2 : Int32)), (.int u1)])) _
          refine XS.iand X0.here hx rfl (hb hby at_53) rfl ?_
          refine st2 _ ?_
          show Steps p.tables e below (s₁.setTop (mkF m 71 #[.val (.int u0), .val (.int u1), .val (.int u2), .val (.int ((u0 &&& (255 : Int32)).toUInt32.toUInt16.toUInt32.toInt32)), .val (.int ((((u0.toUInt32 >>> ((8 : Int32) &&& 31).toUInt32).toInt32) &&& (255 : Int32)).toUInt32.toUInt16.toUInt32.toInt32)), .val (.int ((((u0.toUInt32 >>> ((16 : Int32) &&& 31).toUInt32).toInt32) &&& (32767 : Int32)) % (3 : Int32))), .val (.int mv1_0), .unset, .unset, .unset, .unset, .unset, .unset, .unset] [(.int mv2_0)])) _
          refine XS.istore X0.here hx rfl (hb hby at_71) rfl (l' := #[.val (.int u0), .val (.int u1), .val (.int u2), .val (.int ((u0 &&& (255 : Int32)).toUInt32.toUInt16.toUInt32.toInt32)), .val (.int ((((u0.toUInt32 >>> ((8 : Int32) &&& 31).toUInt32).toInt32) &&& (255 : Int32)).toUInt32.toUInt16.toUInt32.toInt32)), .val (.int ((((u0.toUInt32 >>> ((16 : Int32) &&& 31).toUInt32).toInt32) &&& (32767 : Int32)) % (3 : Int32))), .val (.int mv1_0), .val (.int mv2_0), .unset, .unset, .unset, .unset, .unset, .unset]) rfl ?_
          show Steps p.tables e below (s₁.setTop (mkF m 73 #[.val (.int u0), .val (.int u1), .val (.int u2), .val (.int ((u0 &&& (255 : Int32)).toUInt32.toUInt16.toUInt32.toInt32)), .val (.int ((((u0.toUInt32 >>> ((8 : Int32) &&& 31).toUInt32).toInt32) &&& (255 : Int32)).toUInt32.toUInt16.toUInt32.toInt32)), .val (.int ((((u0.toUInt32 >>> ((16 : Int32) &&& 31).toUInt32).toInt32) &&& (32767 : Int32)) % (3 : Int32))), .val (.int mv1_0), .val (.int mv2_0), .unset, .unset, .unset, .unset, .unset, .unset] [])) _
          refine XS.iloadN X0.here hx rfl (hb hby at_73) rfl ?_
          show Steps p.tables e below (s₁.setTop (mkF m 74 #[.val (.int u0), .val (.int u1), .val (.int u2), .val (.int ((u0 &&& (255 : Int32)).toUInt32.toUInt16.toUInt32.toInt32)), .val (.int ((((u0.toUInt32 >>> ((8 : Int32) &&& 31).toUInt32).toInt32) &&& (255 : Int32)).toUInt32.toUInt16.toUInt32.toInt32)), .val (.int ((((u0.toUInt32 >>> ((16 : Int32) &&& 31).toUInt32).toInt32) &&& (32767 : Int32)) % (3 : Int32))), .val (.int mv1_0), .val (.int mv2_0), .unset, .unset, .unset, .unset, .unset, .unset] [(.int u1)])) _
          refine XS.iconst X0.here hx rfl (hb hby at_74) ?_
          show Steps p.tables e below (s₁.setTop (mkF m 75 #[.val (.int u0), .val (.int u1), .val (.int u2), .val (.int ((u0 &&& (255 : Int32)).toUInt32.toUInt16.toUInt32.toInt32)), .val (.int ((((u0.toUInt32 >>> ((8 : Int32) &&& 31).toUInt32).toInt32) &&& (255 : Int32)).toUInt32.toUInt16.toUInt32.toInt32)), .val (.int ((((u0.toUInt32 >>> ((16 : Int32) &&& 31).toUInt32).toInt32) &&& (32767 : Int32)) % (3 : Int32))), .val (.int mv1_0), .val (.int mv2_0), .unset, .unset, .unset, .unset, .unset, .unset] [(.int (4 : Int32)), (.int u1)])) _
          refine XS.iand X0.here hx rfl (hb hby at_75) rfl ?_
          refine st3 _ ?_
          show Steps p.tables e below (s₁.setTop (mkF m 93 #[.val (.int u0), .val (.int u1), .val (.int u2), .val (.int ((u0 &&& (255 : Int32)).toUInt32.toUInt16.toUInt32.toInt32)), .val (.int ((((u0.toUInt32 >>> ((8 : Int32) &&& 31).toUInt32).toInt32) &&& (255 : Int32)).toUInt32.toUInt16.toUInt32.toInt32)), .val (.int ((((u0.toUInt32 >>> ((16 : Int32) &&& 31).toUInt32).toInt32) &&& (32767 : Int32)) % (3 : Int32))), .val (.int mv1_0), .val (.int mv2_0), .unset, .unset, .unset, .unset, .unset, .unset] [(.int mv3_0)])) _
          refine XS.istore X0.here hx rfl (hb hby at_93) rfl (l' := #[.val (.int u0), .val (.int u1), .val (.int u2), .val (.int ((u0 &&& (255 : Int32)).toUInt32.toUInt16.toUInt32.toInt32)), .val (.int ((((u0.toUInt32 >>> ((8 : Int32) &&& 31).toUInt32).toInt32) &&& (255 : Int32)).toUInt32.toUInt16.toUInt32.toInt32)), .val (.int ((((u0.toUInt32 >>> ((16 : Int32) &&& 31).toUInt32).toInt32) &&& (32767 : Int32)) % (3 : Int32))), .val (.int mv1_0), .val (.int mv2_0), .val (.int mv3_0), .unset, .unset, .unset, .unset, .unset]) rfl ?_
          show Steps p.tables e below (s₁.setTop (mkF m 95 #[.val (.int u0), .val (.int u1), .val (.int u2), .val (.int ((u0 &&& (255 : Int32)).toUInt32.toUInt16.toUInt32.toInt32)), .val (.int ((((u0.toUInt32 >>> ((8 : Int32) &&& 31).toUInt32).toInt32) &&& (255 : Int32)).toUInt32.toUInt16.toUInt32.toInt32)), .val (.int ((((u0.toUInt32 >>> ((16 : Int32) &&& 31).toUInt32).toInt32) &&& (32767 : Int32)) % (3 : Int32))), .val (.int mv1_0), .val (.int mv2_0), .val (.int mv3_0), .unset, .unset, .unset, .unset, .unset] [])) _
          refine XS.iload X0.here hx rfl (hb hby at_95) rfl ?_
          show Steps p.tables e below (s₁.setTop (mkF m 97 #[.val (.int u0), .val (.int u1), .val (.int u2), .val (.int ((u0 &&& (255 : Int32)).toUInt32.toUInt16.toUInt32.toInt32)), .val (.int ((((u0.toUInt32 >>> ((8 : Int32) &&& 31).toUInt32).toInt32) &&& (255 : Int32)).toUInt32.toUInt16.toUInt32.toInt32)), .val (.int ((((u0.toUInt32 >>> ((16 : Int32) &&& 31).toUInt32).toInt32) &&& (32767 : Int32)) % (3 : Int32))), .val (.int mv1_0), .val (.int mv2_0), .val (.int mv3_0), .unset, .unset, .unset, .unset, .unset] [(.int ((((u0.toUInt32 >>> ((16 : Int32) &&& 31).toUInt32).toInt32) &&& (32767 : Int32)) % (3 : Int32)))])) _
          refine XS.iloadN X0.here hx rfl (hb hby at_97) rfl ?_
          show Steps p.tables e below (s₁.setTop (mkF m 98 #[.val (.int u0), .val (.int u1), .val (.int u2), .val (.int ((u0 &&& (255 : Int32)).toUInt32.toUInt16.toUInt32.toInt32)), .val (.int ((((u0.toUInt32 >>> ((8 : Int32) &&& 31).toUInt32).toInt32) &&& (255 : Int32)).toUInt32.toUInt16.toUInt32.toInt32)), .val (.int ((((u0.toUInt32 >>> ((16 : Int32) &&& 31).toUInt32).toInt32) &&& (32767 : Int32)) % (3 : Int32))), .val (.int mv1_0), .val (.int mv2_0), .val (.int mv3_0), .unset, .unset, .unset, .unset, .unset] [(.int ((u0 &&& (255 : Int32)).toUInt32.toUInt16.toUInt32.toInt32)), (.int ((((u0.toUInt32 >>> ((16 : Int32) &&& 31).toUInt32).toInt32) &&& (32767 : Int32)) % (3 : Int32)))])) _
          refine XS.iload X0.here hx rfl (hb hby at_98) rfl ?_
          show Steps p.tables e below (s₁.setTop (mkF m 100 #[.val (.int u0), .val (.int u1), .val (.int u2), .val (.int ((u0 &&& (255 : Int32)).toUInt32.toUInt16.toUInt32.toInt32)), .val (.int ((((u0.toUInt32 >>> ((8 : Int32) &&& 31).toUInt32).toInt32) &&& (255 : Int32)).toUInt32.toUInt16.toUInt32.toInt32)), .val (.int ((((u0.toUInt32 >>> ((16 : Int32) &&& 31).toUInt32).toInt32) &&& (32767 : Int32)) % (3 : Int32))), .val (.int mv1_0), .val (.int mv2_0), .val (.int mv3_0), .unset, .unset, .unset, .unset, .unset] [(.int ((((u0.toUInt32 >>> ((8 : Int32) &&& 31).toUInt32).toInt32) &&& (255 : Int32)).toUInt32.toUInt16.toUInt32.toInt32)), (.int ((u0 &&& (255 : Int32)).toUInt32.toUInt16.toUInt32.toInt32)), (.int ((((u0.toUInt32 >>> ((16 : Int32) &&& 31).toUInt32).toInt32) &&& (32767 : Int32)) % (3 : Int32)))])) _
          refine st4.trans ?_
          show Steps p.tables e below (T4.setTop (mkF m 103 #[.val (.int u0), .val (.int u1), .val (.int u2), .val (.int ((u0 &&& (255 : Int32)).toUInt32.toUInt16.toUInt32.toInt32)), .val (.int ((((u0.toUInt32 >>> ((8 : Int32) &&& 31).toUInt32).toInt32) &&& (255 : Int32)).toUInt32.toUInt16.toUInt32.toInt32)), .val (.int ((((u0.toUInt32 >>> ((16 : Int32) &&& 31).toUInt32).toInt32) &&& (32767 : Int32)) % (3 : Int32))), .val (.int mv1_0), .val (.int mv2_0), .val (.int mv3_0), .unset, .unset, .unset, .unset, .unset] [(.ref s4)])) _
          refine XS.astore X4.here hx rfl (hb hby at_103) rfl rfl (l' := #[.val (.int u0), .val (.int u1), .val (.int u2), .val (.int ((u0 &&& (255 : Int32)).toUInt32.toUInt16.toUInt32.toInt32)), .val (.int ((((u0.toUInt32 >>> ((8 : Int32) &&& 31).toUInt32).toInt32) &&& (255 : Int32)).toUInt32.toUInt16.toUInt32.toInt32)), .val (.int ((((u0.toUInt32 >>> ((16 : Int32) &&& 31).toUInt32).toInt32) &&& (32767 : Int32)) % (3 : Int32))), .val (.int mv1_0), .val (.int mv2_0), .val (.int mv3_0), .val (.ref s4), .unset, .unset, .unset, .unset]) rfl ?_
          show Steps p.tables e below (T4.setTop (mkF m 105 #[.val (.int u0), .val (.int u1), .val (.int u2), .val (.int ((u0 &&& (255 : Int32)).toUInt32.toUInt16.toUInt32.toInt32)), .val (.int ((((u0.toUInt32 >>> ((8 : Int32) &&& 31).toUInt32).toInt32) &&& (255 : Int32)).toUInt32.toUInt16.toUInt32.toInt32)), .val (.int ((((u0.toUInt32 >>> ((16 : Int32) &&& 31).toUInt32).toInt32) &&& (32767 : Int32)) % (3 : Int32))), .val (.int mv1_0), .val (.int mv2_0), .val (.int mv3_0), .val (.ref s4), .unset, .unset, .unset, .unset] [])) _
          refine XS.iload X4.here hx rfl (hb hby at_105) rfl ?_
          show Steps p.tables e below (T4.setTop (mkF m 107 #[.val (.int u0), .val (.int u1), .val (.int u2), .val (.int ((u0 &&& (255 : Int32)).toUInt32.toUInt16.toUInt32.toInt32)), .val (.int ((((u0.toUInt32 >>> ((8 : Int32) &&& 31).toUInt32).toInt32) &&& (255 : Int32)).toUInt32.toUInt16.toUInt32.toInt32)), .val (.int ((((u0.toUInt32 >>> ((16 : Int32) &&& 31).toUInt32).toInt32) &&& (32767 : Int32)) % (3 : Int32))), .val (.int mv1_0), .val (.int mv2_0), .val (.int mv3_0), .val (.ref s4), .unset, .unset, .unset, .unset] [(.int mv3_0)])) _
          refine XS.iload X4.here hx rfl (hb hby at_107) rfl ?_
          show Steps p.tables e below (T4.setTop (mkF m 109 #[.val (.int u0), .val (.int u1), .val (.int u2), .val (.int ((u0 &&& (255 : Int32)).toUInt32.toUInt16.toUInt32.toInt32)), .val (.int ((((u0.toUInt32 >>> ((8 : Int32) &&& 31).toUInt32).toInt32) &&& (255 : Int32)).toUInt32.toUInt16.toUInt32.toInt32)), .val (.int ((((u0.toUInt32 >>> ((16 : Int32) &&& 31).toUInt32).toInt32) &&& (32767 : Int32)) % (3 : Int32))), .val (.int mv1_0), .val (.int mv2_0), .val (.int mv3_0), .val (.ref s4), .unset, .unset, .unset, .unset] [(.int mv1_0), (.int mv3_0)])) _
          refine XS.iload X4.here hx rfl (hb hby at_109) rfl ?_
          show Steps p.tables e below (T4.setTop (mkF m 111 #[.val (.int u0), .val (.int u1), .val (.int u2), .val (.int ((u0 &&& (255 : Int32)).toUInt32.toUInt16.toUInt32.toInt32)), .val (.int ((((u0.toUInt32 >>> ((8 : Int32) &&& 31).toUInt32).toInt32) &&& (255 : Int32)).toUInt32.toUInt16.toUInt32.toInt32)), .val (.int ((((u0.toUInt32 >>> ((16 : Int32) &&& 31).toUInt32).toInt32) &&& (32767 : Int32)) % (3 : Int32))), .val (.int mv1_0), .val (.int mv2_0), .val (.int mv3_0), .val (.ref s4), .unset, .unset, .unset, .unset] [(.int mv2_0), (.int mv1_0), (.int mv3_0)])) _
          refine st5.trans ?_
          show Steps p.tables e below (T5.setTop (mkF m 114 #[.val (.int u0), .val (.int u1), .val (.int u2), .val (.int ((u0 &&& (255 : Int32)).toUInt32.toUInt16.toUInt32.toInt32)), .val (.int ((((u0.toUInt32 >>> ((8 : Int32) &&& 31).toUInt32).toInt32) &&& (255 : Int32)).toUInt32.toUInt16.toUInt32.toInt32)), .val (.int ((((u0.toUInt32 >>> ((16 : Int32) &&& 31).toUInt32).toInt32) &&& (32767 : Int32)) % (3 : Int32))), .val (.int mv1_0), .val (.int mv2_0), .val (.int mv3_0), .val (.ref s4), .unset, .unset, .unset, .unset] [(.ref s5)])) _
          refine XS.astore X5.here hx rfl (hb hby at_114) rfl rfl (l' := #[.val (.int u0), .val (.int u1), .val (.int u2), .val (.int ((u0 &&& (255 : Int32)).toUInt32.toUInt16.toUInt32.toInt32)), .val (.int ((((u0.toUInt32 >>> ((8 : Int32) &&& 31).toUInt32).toInt32) &&& (255 : Int32)).toUInt32.toUInt16.toUInt32.toInt32)), .val (.int ((((u0.toUInt32 >>> ((16 : Int32) &&& 31).toUInt32).toInt32) &&& (32767 : Int32)) % (3 : Int32))), .val (.int mv1_0), .val (.int mv2_0), .val (.int mv3_0), .val (.ref s4), .val (.ref s5), .unset, .unset, .unset]) rfl ?_
          show Steps p.tables e below (T5.setTop (mkF m 116 #[.val (.int u0), .val (.int u1), .val (.int u2), .val (.int ((u0 &&& (255 : Int32)).toUInt32.toUInt16.toUInt32.toInt32)), .val (.int ((((u0.toUInt32 >>> ((8 : Int32) &&& 31).toUInt32).toInt32) &&& (255 : Int32)).toUInt32.toUInt16.toUInt32.toInt32)), .val (.int ((((u0.toUInt32 >>> ((16 : Int32) &&& 31).toUInt32).toInt32) &&& (32767 : Int32)) % (3 : Int32))), .val (.int mv1_0), .val (.int mv2_0), .val (.int mv3_0), .val (.ref s4), .val (.ref s5), .unset, .unset, .unset] [])) _
          refine st6 _ ?_
          show Steps p.tables e below (T6.setTop (mkF m 119 #[.val (.int u0), .val (.int u1), .val (.int u2), .val (.int ((u0 &&& (255 : Int32)).toUInt32.toUInt16.toUInt32.toInt32)), .val (.int ((((u0.toUInt32 >>> ((8 : Int32) &&& 31).toUInt32).toInt32) &&& (255 : Int32)).toUInt32.toUInt16.toUInt32.toInt32)), .val (.int ((((u0.toUInt32 >>> ((16 : Int32) &&& 31).toUInt32).toInt32) &&& (32767 : Int32)) % (3 : Int32))), .val (.int mv1_0), .val (.int mv2_0), .val (.int mv3_0), .val (.ref s4), .val (.ref s5), .unset, .unset, .unset] [(.ref b6)])) _
          refine XS.dup X6.here hx rfl (hb hby at_119) rfl rfl ?_
          show Steps p.tables e below (T6.setTop (mkF m 120 #[.val (.int u0), .val (.int u1), .val (.int u2), .val (.int ((u0 &&& (255 : Int32)).toUInt32.toUInt16.toUInt32.toInt32)), .val (.int ((((u0.toUInt32 >>> ((8 : Int32) &&& 31).toUInt32).toInt32) &&& (255 : Int32)).toUInt32.toUInt16.toUInt32.toInt32)), .val (.int ((((u0.toUInt32 >>> ((16 : Int32) &&& 31).toUInt32).toInt32) &&& (32767 : Int32)) % (3 : Int32))), .val (.int mv1_0), .val (.int mv2_0), .val (.int mv3_0), .val (.ref s4), .val (.ref s5), .unset, .unset, .unset] [(.ref b6), (.ref b6)])) _
          refine XS.aload X6.here hx rfl (hb hby at_120) rfl rfl ?_
          show Steps p.tables e below (T6.setTop (mkF m 122 #[.val (.int u0), .val (.int u1), .val (.int u2), .val (.int ((u0 &&& (255 : Int32)).toUInt32.toUInt16.toUInt32.toInt32)), .val (.int ((((u0.toUInt32 >>> ((8 : Int32) &&& 31).toUInt32).toInt32) &&& (255 : Int32)).toUInt32.toUInt16.toUInt32.toInt32)), .val (.int ((((u0.toUInt32 >>> ((16 : Int32) &&& 31).toUInt32).toInt32) &&& (32767 : Int32)) % (3 : Int32))), .val (.int mv1_0), .val (.int mv2_0), .val (.int mv3_0), .val (.ref s4), .val (.ref s5), .unset, .unset, .unset] [(.ref s4), (.ref b6), (.ref b6)])) _
          refine st7.trans ?_
          show Steps p.tables e below (T7.setTop (mkF m 125 #[.val (.int u0), .val (.int u1), .val (.int u2), .val (.int ((u0 &&& (255 : Int32)).toUInt32.toUInt16.toUInt32.toInt32)), .val (.int ((((u0.toUInt32 >>> ((8 : Int32) &&& 31).toUInt32).toInt32) &&& (255 : Int32)).toUInt32.toUInt16.toUInt32.toInt32)), .val (.int ((((u0.toUInt32 >>> ((16 : Int32) &&& 31).toUInt32).toInt32) &&& (32767 : Int32)) % (3 : Int32))), .val (.int mv1_0), .val (.int mv2_0), .val (.int mv3_0), .val (.ref s4), .val (.ref s5), .unset, .unset, .unset] [(.ref b6)])) _
          refine XS.astore X7.here hx rfl (hb hby at_125) rfl rfl (l' := #[.val (.int u0), .val (.int u1), .val (.int u2), .val (.int ((u0 &&& (255 : Int32)).toUInt32.toUInt16.toUInt32.toInt32)), .val (.int ((((u0.toUInt32 >>> ((8 : Int32) &&& 31).toUInt32).toInt32) &&& (255 : Int32)).toUInt32.toUInt16.toUInt32.toInt32)), .val (.int ((((u0.toUInt32 >>> ((16 : Int32) &&& 31).toUInt32).toInt32) &&& (32767 : Int32)) % (3 : Int32))), .val (.int mv1_0), .val (.int mv2_0), .val (.int mv3_0), .val (.ref s4), .val (.ref s5), .val (.ref b6), .unset, .unset]) rfl ?_
          show Steps p.tables e below (T7.setTop (mkF m 127 #[.val (.int u0), .val (.int u1), .val (.int u2), .val (.int ((u0 &&& (255 : Int32)).toUInt32.toUInt16.toUInt32.toInt32)), .val (.int ((((u0.toUInt32 >>> ((8 : Int32) &&& 31).toUInt32).toInt32) &&& (255 : Int32)).toUInt32.toUInt16.toUInt32.toInt32)), .val (.int ((((u0.toUInt32 >>> ((16 : Int32) &&& 31).toUInt32).toInt32) &&& (32767 : Int32)) % (3 : Int32))), .val (.int mv1_0), .val (.int mv2_0), .val (.int mv3_0), .val (.ref s4), .val (.ref s5), .val (.ref b6), .unset, .unset] [])) _
          refine XS.iload X7.here hx rfl (hb hby at_127) rfl ?_
          show Steps p.tables e below (T7.setTop (mkF m 129 #[.val (.int u0), .val (.int u1), .val (.int u2), .val (.int ((u0 &&& (255 : Int32)).toUInt32.toUInt16.toUInt32.toInt32)), .val (.int ((((u0.toUInt32 >>> ((8 : Int32) &&& 31).toUInt32).toInt32) &&& (255 : Int32)).toUInt32.toUInt16.toUInt32.toInt32)), .val (.int ((((u0.toUInt32 >>> ((16 : Int32) &&& 31).toUInt32).toInt32) &&& (32767 : Int32)) % (3 : Int32))), .val (.int mv1_0), .val (.int mv2_0), .val (.int mv3_0), .val (.ref s4), .val (.ref s5), .val (.ref b6), .unset, .unset] [(.int ((((u0.toUInt32 >>> ((16 : Int32) &&& 31).toUInt32).toInt32) &&& (32767 : Int32)) % (3 : Int32)))])) _
          refine XS.iload X7.here hx rfl (hb hby at_129) rfl ?_
          refine st8 _ ?_
          show Steps p.tables e below (T7.setTop (mkF m 164 #[.val (.int u0), .val (.int u1), .val (.int u2), .val (.int ((u0 &&& (255 : Int32)).toUInt32.toUInt16.toUInt32.toInt32)), .val (.int ((((u0.toUInt32 >>> ((8 : Int32) &&& 31).toUInt32).toInt32) &&& (255 : Int32)).toUInt32.toUInt16.toUInt32.toInt32)), .val (.int ((((u0.toUInt32 >>> ((16 : Int32) &&& 31).toUInt32).toInt32) &&& (32767 : Int32)) % (3 : Int32))), .val (.int mv1_0), .val (.int mv2_0), .val (.int mv3_0), .val (.ref s4), .val (.ref s5), .val (.ref b6), .unset, .unset] [(.int mv8_0)])) _
          refine XS.istore X7.here hx rfl (hb hby at_164) rfl (l' := #[.val (.int u0), .val (.int u1), .val (.int u2), .val (.int ((u0 &&& (255 : Int32)).toUInt32.toUInt16.toUInt32.toInt32)), .val (.int ((((u0.toUInt32 >>> ((8 : Int32) &&& 31).toUInt32).toInt32) &&& (255 : Int32)).toUInt32.toUInt16.toUInt32.toInt32)), .val (.int ((((u0.toUInt32 >>> ((16 : Int32) &&& 31).toUInt32).toInt32) &&& (32767 : Int32)) % (3 : Int32))), .val (.int mv1_0), .val (.int mv2_0), .val (.int mv3_0), .val (.ref s4), .val (.ref s5), .val (.ref b6), .val (.int mv8_0), .unset]) rfl ?_
          show Steps p.tables e below (T7.setTop (mkF m 166 #[.val (.int u0), .val (.int u1), .val (.int u2), .val (.int ((u0 &&& (255 : Int32)).toUInt32.toUInt16.toUInt32.toInt32)), .val (.int ((((u0.toUInt32 >>> ((8 : Int32) &&& 31).toUInt32).toInt32) &&& (255 : Int32)).toUInt32.toUInt16.toUInt32.toInt32)), .val (.int ((((u0.toUInt32 >>> ((16 : Int32) &&& 31).toUInt32).toInt32) &&& (32767 : Int32)) % (3 : Int32))), .val (.int mv1_0), .val (.int mv2_0), .val (.int mv3_0), .val (.ref s4), .val (.ref s5), .val (.ref b6), .val (.int mv8_0), .unset] [])) _
          refine XS.iloadN X7.here hx rfl (hb hby at_166) rfl ?_
          show Steps p.tables e below (T7.setTop (mkF m 167 #[.val (.int u0), .val (.int u1), .val (.int u2), .val (.int ((u0 &&& (255 : Int32)).toUInt32.toUInt16.toUInt32.toInt32)), .val (.int ((((u0.toUInt32 >>> ((8 : Int32) &&& 31).toUInt32).toInt32) &&& (255 : Int32)).toUInt32.toUInt16.toUInt32.toInt32)), .val (.int ((((u0.toUInt32 >>> ((16 : Int32) &&& 31).toUInt32).toInt32) &&& (32767 : Int32)) % (3 : Int32))), .val (.int mv1_0), .val (.int mv2_0), .val (.int mv3_0), .val (.ref s4), .val (.ref s5), .val (.ref b6), .val (.int mv8_0), .unset] [(.int u2)])) _
          refine XS.bipush X7.here hx rfl (hb hby at_167) ?_
          show Steps p.tables e below (T7.setTop (mkF m 169 #[.val (.int u0), .val (.int u1), .val (.int u2), .val (.int ((u0 &&& (255 : Int32)).toUInt32.toUInt16.toUInt32.toInt32)), .val (.int ((((u0.toUInt32 >>> ((8 : Int32) &&& 31).toUInt32).toInt32) &&& (255 : Int32)).toUInt32.toUInt16.toUInt32.toInt32)), .val (.int ((((u0.toUInt32 >>> ((16 : Int32) &&& 31).toUInt32).toInt32) &&& (32767 : Int32)) % (3 : Int32))), .val (.int mv1_0), .val (.int mv2_0), .val (.int mv3_0), .val (.ref s4), .val (.ref s5), .val (.ref b6), .val (.int mv8_0), .unset] [(.int (7 : Int32)), (.int u2)])) _
          refine XS.iand X7.here hx rfl (hb hby at_169) rfl ?_
          show Steps p.tables e below (T7.setTop (mkF m 170 #[.val (.int u0), .val (.int u1), .val (.int u2), .val (.int ((u0 &&& (255 : Int32)).toUInt32.toUInt16.toUInt32.toInt32)), .val (.int ((((u0.toUInt32 >>> ((8 : Int32) &&& 31).toUInt32).toInt32) &&& (255 : Int32)).toUInt32.toUInt16.toUInt32.toInt32)), .val (.int ((((u0.toUInt32 >>> ((16 : Int32) &&& 31).toUInt32).toInt32) &&& (32767 : Int32)) % (3 : Int32))), .val (.int mv1_0), .val (.int mv2_0), .val (.int mv3_0), .val (.ref s4), .val (.ref s5), .val (.ref b6), .val (.int mv8_0), .unset] [(.int (u2 &&& (7 : Int32)))])) _
          refine XS.istore X7.here hx rfl (hb hby at_170) rfl (l' := #[.val (.int u0), .val (.int u1), .val (.int u2), .val (.int ((u0 &&& (255 : Int32)).toUInt32.toUInt16.toUInt32.toInt32)), .val (.int ((((u0.toUInt32 >>> ((8 : Int32) &&& 31).toUInt32).toInt32) &&& (255 : Int32)).toUInt32.toUInt16.toUInt32.toInt32)), .val (.int ((((u0.toUInt32 >>> ((16 : Int32) &&& 31).toUInt32).toInt32) &&& (32767 : Int32)) % (3 : Int32))), .val (.int mv1_0), .val (.int mv2_0), .val (.int mv3_0), .val (.ref s4), .val (.ref s5), .val (.ref b6), .val (.int mv8_0), .val (.int (u2 &&& (7 : Int32)))]) rfl ?_
          show Steps p.tables e below (T7.setTop (mkF m 172 #[.val (.int u0), .val (.int u1), .val (.int u2), .val (.int ((u0 &&& (255 : Int32)).toUInt32.toUInt16.toUInt32.toInt32)), .val (.int ((((u0.toUInt32 >>> ((8 : Int32) &&& 31).toUInt32).toInt32) &&& (255 : Int32)).toUInt32.toUInt16.toUInt32.toInt32)), .val (.int ((((u0.toUInt32 >>> ((16 : Int32) &&& 31).toUInt32).toInt32) &&& (32767 : Int32)) % (3 : Int32))), .val (.int mv1_0), .val (.int mv2_0), .val (.int mv3_0), .val (.ref s4), .val (.ref s5), .val (.ref b6), .val (.int mv8_0), .val (.int (u2 &&& (7 : Int32)))] [])) _
          refine XS.iload X7.here hx rfl (hb hby at_172) rfl ?_
          show Steps p.tables e below (T7.setTop (mkF m 174 #[.val (.int u0), .val (.int u1), .val (.int u2), .val (.int ((u0 &&& (255 : Int32)).toUInt32.toUInt16.toUInt32.toInt32)), .val (.int ((((u0.toUInt32 >>> ((8 : Int32) &&& 31).toUInt32).toInt32) &&& (255 : Int32)).toUInt32.toUInt16.toUInt32.toInt32)), .val (.int ((((u0.toUInt32 >>> ((16 : Int32) &&& 31).toUInt32).toInt32) &&& (32767 : Int32)) % (3 : Int32))), .val (.int mv1_0), .val (.int mv2_0), .val (.int mv3_0), .val (.ref s4), .val (.ref s5), .val (.ref b6), .val (.int mv8_0), .val (.int (u2 &&& (7 : Int32)))] [(.int (u2 &&& (7 : Int32)))])) _
          refine XS.iconst X7.here hx rfl (hb hby at_174) ?_
          show Steps p.tables e below (T7.setTop (mkF m 175 #[.val (.int u0), .val (.int u1), .val (.int u2), .val (.int ((u0 &&& (255 : Int32)).toUInt32.toUInt16.toUInt32.toInt32)), .val (.int ((((u0.toUInt32 >>> ((8 : Int32) &&& 31).toUInt32).toInt32) &&& (255 : Int32)).toUInt32.toUInt16.toUInt32.toInt32)), .val (.int ((((u0.toUInt32 >>> ((16 : Int32) &&& 31).toUInt32).toInt32) &&& (32767 : Int32)) % (3 : Int32))), .val (.int mv1_0), .val (.int mv2_0), .val (.int mv3_0), .val (.ref s4), .val (.ref s5), .val (.ref b6), .val (.int mv8_0), .val (.int (u2 &&& (7 : Int32)))] [(.int (4 : Int32)), (.int (u2 &&& (7 : Int32)))])) _
          refine XS.icmpYes X7.here hx rfl (pc0 := 175) (pc' := 203) rfl (hb hby at_175) rfl (flt hc175).2.1 (by decide) (by decide) ?_
          show Steps p.tables e below (T7.setTop (mkF m 203 #[.val (.int u0), .val (.int u1), .val (.int u2), .val (.int ((u0 &&& (255 : Int32)).toUInt32.toUInt16.toUInt32.toInt32)), .val (.int ((((u0.toUInt32 >>> ((8 : Int32) &&& 31).toUInt32).toInt32) &&& (255 : Int32)).toUInt32.toUInt16.toUInt32.toInt32)), .val (.int ((((u0.toUInt32 >>> ((16 : Int32) &&& 31).toUInt32).toInt32) &&& (32767 : Int32)) % (3 : Int32))), .val (.int mv1_0), .val (.int mv2_0), .val (.int mv3_0), .val (.ref s4), .val (.ref s5), .val (.ref b6), .val (.int mv8_0), .val (.int (u2 &&& (7 : Int32)))] [])) _
          refine XS.iload X7.here hx rfl (hb hby at_203) rfl ?_
          show Steps p.tables e below (T7.setTop (mkF m 205 #[.val (.int u0), .val (.int u1), .val (.int u2), .val (.int ((u0 &&& (255 : Int32)).toUInt32.toUInt16.toUInt32.toInt32)), .val (.int ((((u0.toUInt32 >>> ((8 : Int32) &&& 31).toUInt32).toInt32) &&& (255 : Int32)).toUInt32.toUInt16.toUInt32.toInt32)), .val (.int ((((u0.toUInt32 >>> ((16 : Int32) &&& 31).toUInt32).toInt32) &&& (32767 : Int32)) % (3 : Int32))), .val (.int mv1_0), .val (.int mv2_0), .val (.int mv3_0), .val (.ref s4), .val (.ref s5), .val (.ref b6), .val (.int mv8_0), .val (.int (u2 &&& (7 : Int32)))] [(.int (u2 &&& (7 : Int32)))])) _
          refine XS.iconst X7.here hx rfl (hb hby at_205) ?_
          show Steps p.tables e below (T7.setTop (mkF m 206 #[.val (.int u0), .val (.int u1), .val (.int u2), .val (.int ((u0 &&& (255 : Int32)).toUInt32.toUInt16.toUInt32.toInt32)), .val (.int ((((u0.toUInt32 >>> ((8 : Int32) &&& 31).toUInt32).toInt32) &&& (255 : Int32)).toUInt32.toUInt16.toUInt32.toInt32)), .val (.int ((((u0.toUInt32 >>> ((16 : Int32) &&& 31).toUInt32).toInt32) &&& (32767 : Int32)) % (3 : Int32))), .val (.int mv1_0), .val (.int mv2_0), .val (.int mv3_0), .val (.ref s4), .val (.ref s5), .val (.ref b6), .val (.int mv8_0), .val (.int (u2 &&& (7 : Int32)))] [(.int (4 : Int32)), (.int (u2 &&& (7 : Int32)))])) _
          refine XS.icmpYes X7.here hx rfl (pc0 := 206) (pc' := 224) rfl (hb hby at_206) rfl (feq hc206).2 (by decide) (by decide) ?_
          show Steps p.tables e below (T7.setTop (mkF m 224 #[.val (.int u0), .val (.int u1), .val (.int u2), .val (.int ((u0 &&& (255 : Int32)).toUInt32.toUInt16.toUInt32.toInt32)), .val (.int ((((u0.toUInt32 >>> ((8 : Int32) &&& 31).toUInt32).toInt32) &&& (255 : Int32)).toUInt32.toUInt16.toUInt32.toInt32)), .val (.int ((((u0.toUInt32 >>> ((16 : Int32) &&& 31).toUInt32).toInt32) &&& (32767 : Int32)) % (3 : Int32))), .val (.int mv1_0), .val (.int mv2_0), .val (.int mv3_0), .val (.ref s4), .val (.ref s5), .val (.ref b6), .val (.int mv8_0), .val (.int (u2 &&& (7 : Int32)))] [])) _
          refine XS.iload X7.here hx rfl (hb hby at_224) rfl ?_
          show Steps p.tables e below (T7.setTop (mkF m 226 #[.val (.int u0), .val (.int u1), .val (.int u2), .val (.int ((u0 &&& (255 : Int32)).toUInt32.toUInt16.toUInt32.toInt32)), .val (.int ((((u0.toUInt32 >>> ((8 : Int32) &&& 31).toUInt32).toInt32) &&& (255 : Int32)).toUInt32.toUInt16.toUInt32.toInt32)), .val (.int ((((u0.toUInt32 >>> ((16 : Int32) &&& 31).toUInt32).toInt32) &&& (32767 : Int32)) % (3 : Int32))), .val (.int mv1_0), .val (.int mv2_0), .val (.int mv3_0), .val (.ref s4), .val (.ref s5), .val (.ref b6), .val (.int mv8_0), .val (.int (u2 &&& (7 : Int32)))] [(.int (u2 &&& (7 : Int32)))])) _
          refine XS.iconst X7.here hx rfl (hb hby at_226) ?_
          show Steps p.tables e below (T7.setTop (mkF m 227 #[.val (.int u0), .val (.int u1), .val (.int u2), .val (.int ((u0 &&& (255 : Int32)).toUInt32.toUInt16.toUInt32.toInt32)), .val (.int ((((u0.toUInt32 >>> ((8 : Int32) &&& 31).toUInt32).toInt32) &&& (255 : Int32)).toUInt32.toUInt16.toUInt32.toInt32)), .val (.int ((((u0.toUInt32 >>> ((16 : Int32) &&& 31).toUInt32).toInt32) &&& (32767 : Int32)) % (3 : Int32))), .val (.int mv1_0), .val (.int mv2_0), .val (.int mv3_0), .val (.ref s4), .val (.ref s5), .val (.ref b6), .val (.int mv8_0), .val (.int (u2 &&& (7 : Int32)))] [(.int (5 : Int32)), (.int (u2 &&& (7 : Int32)))])) _
          refine XS.icmpNo X7.here hx rfl (hb hby at_227) rfl (teq hc227).2 ?_
          show Steps p.tables e below (T7.setTop (mkF m 230 #[.val (.int u0), .val (.int u1), .val (.int u2), .val (.int ((u0 &&& (255 : Int32)).toUInt32.toUInt16.toUInt32.toInt32)), .val (.int ((((u0.toUInt32 >>> ((8 : Int32) &&& 31).toUInt32).toInt32) &&& (255 : Int32)).toUInt32.toUInt16.toUInt32.toInt32)), .val (.int ((((u0.toUInt32 >>> ((16 : Int32) &&& 31).toUInt32).toInt32) &&& (32767 : Int32)) % (3 : Int32))), .val (.int mv1_0), .val (.int mv2_0), .val (.int mv3_0), .val (.ref s4), .val (.ref s5), .val (.ref b6), .val (.int mv8_0), .val (.int (u2 &&& (7 : Int32)))] [])) _
          refine XS.aload X7.here hx rfl (hb hby at_230) rfl rfl ?_
          show Steps p.tables e below (T7.setTop (mkF m 232 #[.val (.int u0), .val (.int u1), .val (.int u2), .val (.int ((u0 &&& (255 : Int32)).toUInt32.toUInt16.toUInt32.toInt32)), .val (.int ((((u0.toUInt32 >>> ((8 : Int32) &&& 31).toUInt32).toInt32) &&& (255 : Int32)).toUInt32.toUInt16.toUInt32.toInt32)), .val (.int ((((u0.toUInt32 >>> ((16 : Int32) &&& 31).toUInt32).toInt32) &&& (32767 : Int32)) % (3 : Int32))), .val (.int mv1_0), .val (.int mv2_0), .val (.int mv3_0), .val (.ref s4), .val (.ref s5), .val (.ref b6), .val (.int mv8_0), .val (.int (u2 &&& (7 : Int32)))] [(.ref b6)])) _
          refine st13 _ ?_
          show Steps p.tables e below (T13.setTop (mkF m 235 #[.val (.int u0), .val (.int u1), .val (.int u2), .val (.int ((u0 &&& (255 : Int32)).toUInt32.toUInt16.toUInt32.toInt32)), .val (.int ((((u0.toUInt32 >>> ((8 : Int32) &&& 31).toUInt32).toInt32) &&& (255 : Int32)).toUInt32.toUInt16.toUInt32.toInt32)), .val (.int ((((u0.toUInt32 >>> ((16 : Int32) &&& 31).toUInt32).toInt32) &&& (32767 : Int32)) % (3 : Int32))), .val (.int mv1_0), .val (.int mv2_0), .val (.int mv3_0), .val (.ref s4), .val (.ref s5), .val (.ref b6), .val (.int mv8_0), .val (.int (u2 &&& (7 : Int32)))] [(.ref b13), (.ref b6)])) _
          refine XS.dup X13.here hx rfl (hb hby at_235) rfl rfl ?_
          show Steps p.tables e below (T13.setTop (mkF m 236 #[.val (.int u0), .val (.int u1), .val (.int u2), .val (.int ((u0 &&& (255 : Int32)).toUInt32.toUInt16.toUInt32.toInt32)), .val (.int ((((u0.toUInt32 >>> ((8 : Int32) &&& 31).toUInt32).toInt32) &&& (255 : Int32)).toUInt32.toUInt16.toUInt32.toInt32)), .val (.int ((((u0.toUInt32 >>> ((16 : Int32) &&& 31).toUInt32).toInt32) &&& (32767 : Int32)) % (3 : Int32))), .val (.int mv1_0), .val (.int mv2_0), .val (.int mv3_0), .val (.ref s4), .val (.ref s5), .val (.ref b6), .val (.int mv8_0), .val (.int (u2 &&& (7 : Int32)))] [(.ref b13), (.ref b13), (.ref b6)])) _
          refine XS.aload X13.here hx rfl (hb hby at_236) rfl rfl ?_
          show Steps p.tables e below (T13.setTop (mkF m 238 #[.val (.int u0), .val (.int u1), .val (.int u2), .val (.int ((u0 &&& (255 : Int32)).toUInt32.toUInt16.toUInt32.toInt32)), .val (.int ((((u0.toUInt32 >>> ((8 : Int32) &&& 31).toUInt32).toInt32) &&& (255 : Int32)).toUInt32.toUInt16.toUInt32.toInt32)), .val (.int ((((u0.toUInt32 >>> ((16 : Int32) &&& 31).toUInt32).toInt32) &&& (32767 : Int32)) % (3 : Int32))), .val (.int mv1_0), .val (.int mv2_0), .val (.int mv3_0), .val (.ref s4), .val (.ref s5), .val (.ref b6), .val (.int mv8_0), .val (.int (u2 &&& (7 : Int32)))] [(.ref s5), (.ref b13), (.ref b13), (.ref b6)])) _
          refine st14.trans ?_
          show Steps p.tables e below (T14.setTop (mkF m 241 #[.val (.int u0), .val (.int u1), .val (.int u2), .val (.int ((u0 &&& (255 : Int32)).toUInt32.toUInt16.toUInt32.toInt32)), .val (.int ((((u0.toUInt32 >>> ((8 : Int32) &&& 31).toUInt32).toInt32) &&& (255 : Int32)).toUInt32.toUInt16.toUInt32.toInt32)), .val (.int ((((u0.toUInt32 >>> ((16 : Int32) &&& 31).toUInt32).toInt32) &&& (32767 : Int32)) % (3 : Int32))), .val (.int mv1_0), .val (.int mv2_0), .val (.int mv3_0), .val (.ref s4), .val (.ref s5), .val (.ref b6), .val (.int mv8_0), .val (.int (u2 &&& (7 : Int32)))] [(.ref b13), (.ref b6)])) _
          refine st15.trans ?_
          show Steps p.tables e below (T15.setTop (mkF m 244 #[.val (.int u0), .val (.int u1), .val (.int u2), .val (.int ((u0 &&& (255 : Int32)).toUInt32.toUInt16.toUInt32.toInt32)), .val (.int ((((u0.toUInt32 >>> ((8 : Int32) &&& 31).toUInt32).toInt32) &&& (255 : Int32)).toUInt32.toUInt16.toUInt32.toInt32)), .val (.int ((((u0.toUInt32 >>> ((16 : Int32) &&& 31).toUInt32).toInt32) &&& (32767 : Int32)) % (3 : Int32))), .val (.int mv1_0), .val (.int mv2_0), .val (.int mv3_0), .val (.ref s4), .val (.ref s5), .val (.ref b6), .val (.int mv8_0), .val (.int (u2 &&& (7 : Int32)))] [(.int (0 : Int32))])) _
          refine XS.ifNo X15.here hx rfl (hb hby at_244) rfl ((if0 _ _).trans (teq (by decide)).2) ?_
          show Steps p.tables e below (T15.setTop (mkF m 247 #[.val (.int u0), .val (.int u1), .val (.int u2), .val (.int ((u0 &&& (255 : Int32)).toUInt32.toUInt16.toUInt32.toInt32)), .val (.int ((((u0.toUInt32 >>> ((8 : Int32) &&& 31).toUInt32).toInt32) &&& (255 : Int32)).toUInt32.toUInt16.toUInt32.toInt32)), .val (.int ((((u0.toUInt32 >>> ((16 : Int32) &&& 31).toUInt32).toInt32) &&& (32767 : Int32)) % (3 : Int32))), .val (.int mv1_0), .val (.int mv2_0), .val (.int mv3_0), .val (.ref s4), .val (.ref s5), .val (.ref b6), .val (.int mv8_0), .val (.int (u2 &&& (7 : Int32)))] [])) _
          refine XS.iconst X15.here hx rfl (hb hby at_247) ?_
          show Steps p.tables e below (T15.setTop (mkF m 248 #[.val (.int u0), .val (.int u1), .val (.int u2), .val (.int ((u0 &&& (255 : Int32)).toUInt32.toUInt16.toUInt32.toInt32)), .val (.int ((((u0.toUInt32 >>> ((8 : Int32) &&& 31).toUInt32).toInt32) &&& (255 : Int32)).toUInt32.toUInt16.toUInt32.toInt32)), .val (.int ((((u0.toUInt32 >>> ((16 : Int32) &&& 31).toUInt32).toInt32) &&& (32767 : Int32)) % (3 : Int32))), .val (.int mv1_0), .val (.int mv2_0), .val (.int mv3_0), .val (.ref s4), .val (.ref s5), .val (.ref b6), .val (.int mv8_0), .val (.int (u2 &&& (7 : Int32)))] [(.int (1 : Int32))])) _
          refine XS.goto X15.here hx rfl (pc0 := 248) (pc' := 252) rfl (hb hby at_248) (by decide) (by decide) ?_
          show Steps p.tables e below (T15.setTop (mkF m 252 #[.val (.int u0), .val (.int u1), .val (.int u2), .val (.int ((u0 &&& (255 : Int32)).toUInt32.toUInt16.toUInt32.toInt32)), .val (.int ((((u0.toUInt32 >>> ((8 : Int32) &&& 31).toUInt32).toInt32) &&& (255 : Int32)).toUInt32.toUInt16.toUInt32.toInt32)), .val (.int ((((u0.toUInt32 >>> ((16 : Int32) &&& 31).toUInt32).toInt32) &&& (32767 : Int32)) % (3 : Int32))), .val (.int mv1_0), .val (.int mv2_0), .val (.int mv3_0), .val (.ref s4), .val (.ref s5), .val (.ref b6), .val (.int mv8_0), .val (.int (u2 &&& (7 : Int32)))] [(.int (1 : Int32))])) _
          exact retN X15 hx (t := .boolean) Bd.returns (by simp) (hb hby at_252) hr
        · show Q0 Z u0 u1 u2 G_COMPACT h0 n0 _ T15.heap _
          rw [e15]
          exact ⟨rfl, N15⟩
        · show CHr Z EL s.vm s.heap T15.vm T15.heap
          rw [e15]
          rw [hh]
          exact C14.trans (CHv.at X15 hZ (hEL hw) C14.1)
      · by_cases hc257 : (u2 &&& (7 : Int32)) = (6 : Int32)
        · obtain ⟨cq16, kq16, q16a, q16b, q16c⟩ := isOf hZ rfl A7
          obtain ⟨_, _, ⟨T16, L16, k16, n16⟩, -, X16, ⟨Lc16, hQ16, l16, y16, z16⟩, st16⟩ := X7.virtualBack hx (y := (⟨"com/example/triplewright/triplewright/rdf/Iri", "equals", "(Ljava/lang/Object;)Z"⟩ : MethodName)) (z := (⟨"com/example/triplewright/triplewright/rdf/Iri", "equals", "(Ljava/lang/Object;)Z"⟩ : MethodName)) hown (mvT hZ (hw _ (List.mem_of_getElem? (i := 41) rfl))) (mvT hZ (hw _ (List.mem_of_getElem? (i := 42) rfl))) (notFace_of_selects (args := #[]) (mvT hZ (hw _ (List.mem_of_getElem? (i := 44) rfl)))) (mvT hZ (hw _ (List.mem_of_getElem? (i := 44) rfl))) (mvT hZ (hw _ (List.mem_of_getElem? (i := 43) rfl))) (by decide) (backOf (W := 0) (rmEqS l Z a0 hw [] b6 s5 T7.heap n0 Z7 ((A5.ext E6).keep K7)) hZ (hw _ (List.mem_of_getElem? (i := 45) rfl)) (hw _ (List.mem_of_getElem? (i := 28) rfl)) (by decide) (by decide)) q16a q16c (g := (mkF m 264 #[.val (.int u0), .val (.int u1), .val (.int u2), .val (.int ((u0 &&& (255 : Int32)).toUInt32.toUInt16.toUInt32.toInt32)), .val (.int ((((u0.toUInt32 >>> ((8 : Int32) &&& 31).toUInt32).toInt32) &&& (255 : Int32)).toUInt32.toUInt16.toUInt32.toInt32)), .val (.int ((((u0.toUInt32 >>> ((16 : Int32) &&& 31).toUInt32).toInt32) &&& (32767 : Int32)) % (3 : Int32))), .val (.int mv1_0), .val (.int mv2_0), .val (.int mv3_0), .val (.ref s4), .val (.ref s5), .val (.ref b6), .val (.int mv8_0), .val (.int (u2 &&& (7 : Int32)))] [(.ref s5), (.ref b6)])) rfl (by rw [hml]; rfl) (Steps.refl _) (argsL := [(.ref s5)]) (rest := []) (lenOf pd_2 rfl) rfl (by show 2 * 0 + _ ≤ _; exact Nat.le_of_eq rfl) (hb hby at_264) (fun _ _ => ⟨rfl, rfl, (by decide : 15 + 0 ≤ _), (by decide : 50 + 0 ≤ _)⟩)
          dsimp only [Pt.U, Pt.locs, Pt.cells, Pt.slots] at X16 l16 y16 z16 st16 hQ16
          subst l16 y16 z16
          obtain ⟨rfl, N16q, e16⟩ := hQ16
          have N16 := Fr.app N7 N16q
          obtain ⟨fs, hr, hrun, hended, hE⟩ := X16.leaveW hS7 (Nat.le_trans hk7 (Nat.le_of_eq (congrArg Array.size e16).symm)) (v := some (.int (1 : Int32))) (fun h => by rw [Bd.returns] at h; cases h)
          refine ⟨_, _, pre0 _ ?_, hrun, hended, _, _, rfl, ?_, ?_, own_monoW hE (by decide) (by decide)⟩
          · show Steps p.tables e below (s₁.setTop (mkF m 0 #[.val (.int u0), .val (.int u1), .val (.int u2), .unset, .unset, .unset, .unset, .unset, .unset, .unset, .unset, .unset, .unset, .unset] [])) _
            refine XS.iloadN X0.here hx rfl (hb hby at_0) rfl ?_
            show Steps p.tables e below (s₁.setTop (mkF m 1 #[.val (.int u0), .val (.int u1), .val (.int u2), .unset, .unset, .unset, .unset, .unset, .unset, .unset, .unset, .unset, .unset, .unset] [(.int u0)])) _
            refine XS.sipush X0.here hx rfl (hb hby at_1) ?_
            show Steps p.tables e below (s₁.setTop (mkF m 4 #[.val (.int u0), .val (.int u1), .val (.int u2), .unset, .unset, .unset, .unset, .unset, .unset, .unset, .unset, .unset, .unset, .unset] [(.int (255 : Int32)), (.int u0)])) _
            refine XS.iand X0.here hx rfl (hb hby at_4) rfl ?_
            show Steps p.tables e below (s₁.setTop (mkF m 5 #[.val (.int u0), .val (.int u1), .val (.int u2), .unset, .unset, .unset, .unset, .unset, .unset, .unset, .unset, .unset, .unset, .unset] [(.int (u0 &&& (255 : Int32)))])) _
            refine XS.i2c X0.here hx rfl (hb hby at_5) rfl ?_
            show Steps p.tables e below (s₁.setTop (mkF m 6 #[.val (.int u0), .val (.int u1), .val (.int u2), .unset, .unset, .unset, .unset, .unset, .unset, .unset, .unset, .unset, .unset, .unset] [(.int ((u0 &&& (255 : Int32)).toUInt32.toUInt16.toUInt32.toInt32))])) _
            refine XS.istoreN X0.here hx rfl (hb hby at_6) rfl (l' := #[.val (.int u0), .val (.int u1), .val (.int u2), .val (.int ((u0 &&& (255 : Int32)).toUInt32.toUInt16.toUInt32.toInt32)), .unset, .unset, .unset, .unset, .unset, .unset, .unset, .unset, .unset, .unset]) rfl ?_
            show Steps p.tables e below (s₁.setTop (mkF m 7 #[.val (.int u0), .val (.int u1), .val (.int u2), .val (.int ((u0 &&& (255 : Int32)).toUInt32.toUInt16.toUInt32.toInt32)), .unset, .unset, .unset, .unset, .unset, .unset, .unset, .unset, .unset, .unset] [])) _
            refine XS.iloadN X0.here hx rfl (hb hby at_7) rfl ?_
            show Steps p.tables e below (s₁.setTop (mkF m 8 #[.val (.int u0), .val (.int u1), .val (.int u2), .val (.int ((u0 &&& (255 : Int32)).toUInt32.toUInt16.toUInt32.toInt32)), .unset, .unset, .unset, .unset, .unset, .unset, .unset, .unset, .unset, .unset] [(.int u0)])) _
            refine XS.bipush X0.here hx rfl (hb hby at_8) ?_
            show Steps p.tables e below (s₁.setTop (mkF m 10 #[.val (.int u0), .val (.int u1), .val (.int u2), .val (.int ((u0 &&& (255 : Int32)).toUInt32.toUInt16.toUInt32.toInt32)), .unset, .unset, .unset, .unset, .unset, .unset, .unset, .unset, .unset, .unset] [(.int (8 : Int32)), (.int u0)])) _
            refine XS.iushr X0.here hx rfl (hb hby at_10) rfl ?_
            show Steps p.tables e below (s₁.setTop (mkF m 11 #[.val (.int u0), .val (.int u1), .val (.int u2), .val (.int ((u0 &&& (255 : Int32)).toUInt32.toUInt16.toUInt32.toInt32)), .unset, .unset, .unset, .unset, .unset, .unset, .unset, .unset, .unset, .unset] [(.int ((u0.toUInt32 >>> ((8 : Int32) &&& 31).toUInt32).toInt32))])) _
            refine XS.sipush X0.here hx rfl (hb hby at_11) ?_
            show Steps p.tables e below (s₁.setTop (mkF m 14 #[.val (.int u0), .val (.int u1), .val (.int u2), .val (.int ((u0 &&& (255 : Int32)).toUInt32.toUInt16.toUInt32.toInt32)), .unset, .unset, .unset, .unset, .unset, .unset, .unset, .unset, .unset, .unset] [(.int (255 : Int32)), (.int ((u0.toUInt32 >>> ((8 : Int32) &&& 31).toUInt32).toInt32))])) _
            refine XS.iand X0.here hx rfl (hb hby at_14) rfl ?_
            show Steps p.tables e below (s₁.setTop (mkF m 15 #[.val (.int u0), .val (.int u1), .val (.int u2), .val (.int ((u0 &&& (255 : Int32)).toUInt32.toUInt16.toUInt32.toInt32)), .unset, .unset, .unset, .unset, .unset, .unset, .unset, .unset, .unset, .unset] [(.int (((u0.toUInt32 >>> ((8 : Int32) &&& 31).toUInt32).toInt32) &&& (255 : Int32)))])) _
            refine XS.i2c X0.here hx rfl (hb hby at_15) rfl ?_
            show Steps p.tables e below (s₁.setTop (mkF m 16 #[.val (.int u0), .val (.int u1), .val (.int u2), .val (.int ((u0 &&& (255 : Int32)).toUInt32.toUInt16.toUInt32.toInt32)), .unset, .unset, .unset, .unset, .unset, .unset, .unset, .unset, .unset, .unset] [(.int ((((u0.toUInt32 >>> ((8 : Int32) &&& 31).toUInt32).toInt32) &&& (255 : Int32)).toUInt32.toUInt16.toUInt32.toInt32))])) _
            refine XS.istore X0.here hx rfl (hb hby at_16) rfl (l' := #[.val (.int u0), .val (.int u1), .val (.int u2), .val (.int ((u0 &&& (255 : Int32)).toUInt32.toUInt16.toUInt32.toInt32)), .val (.int ((((u0.toUInt32 >>> ((8 : Int32) &&& 31).toUInt32).toInt32) &&& (255 : Int32)).toUInt32.toUInt16.toUInt32.toInt32)), .unset, .unset, .unset, .unset, .unset, .unset, .unset, .unset, .unset]) rfl ?_
            show Steps p.tables e below (s₁.setTop (mkF m 18 #[.val (.int u0), .val (.int u1), .val (.int u2), .val (.int ((u0 &&& (255 : Int32)).toUInt32.toUInt16.toUInt32.toInt32)), .val (.int ((((u0.toUInt32 >>> ((8 : Int32) &&& 31).toUInt32).toInt32) &&& (255 : Int32)).toUInt32.toUInt16.toUInt32.toInt32)), .unset, .unset, .unset, .unset, .unset, .unset, .unset, .unset, .unset] [])) _
            refine XS.iloadN X0.here hx rfl (hb hby at_18) rfl ?_
            show Steps p.tables e below (s₁.setTop (mkF m 19 #[.val (.int u0), .val (.int u1), .val (.int u2), .val (.int ((u0 &&& (255 : Int32)).toUInt32.toUInt16.toUInt32.toInt32)), .val (.int ((((u0.toUInt32 >>> ((8 : Int32) &&& 31).toUInt32).toInt32) &&& (255 : Int32)).toUInt32.toUInt16.toUInt32.toInt32)), .unset, .unset, .unset, .unset, .unset, .unset, .unset, .unset, .unset] [(.int u0)])) _
            refine XS.bipush X0.here hx rfl (hb hby at_19) ?_
            show Steps p.tables e below (s₁.setTop (mkF m 21 #[.val (.int u0), .val (.int u1), .val (.int u2), .val (.int ((u0 &&& (255 : Int32)).toUInt32.toUInt16.toUInt32.toInt32)), .val (.int ((((u0.toUInt32 >>> ((8 : Int32) &&& 31).toUInt32).toInt32) &&& (255 : Int32)).toUInt32.toUInt16.toUInt32.toInt32)), .unset, .unset, .unset, .unset, .unset, .unset, .unset, .unset, .unset] [(.int (16 : Int32)), (.int u0)])) _
            refine XS.iushr X0.here hx rfl (hb hby at_21) rfl ?_
            show Steps p.tables e below (s₁.setTop (mkF m 22 #[.val (.int u0), .val (.int u1), .val (.int u2), .val (.int ((u0 &&& (255 : Int32)).toUInt32.toUInt16.toUInt32.toInt32)), .val (.int ((((u0.toUInt32 >>> ((8 : Int32) &&& 31).toUInt32).toInt32) &&& (255 : Int32)).toUInt32.toUInt16.toUInt32.toInt32)), .unset, .unset, .unset, .unset, .unset, .unset, .unset, .unset, .unset] [(.int ((u0.toUInt32 >>> ((16 : Int32) &&& 31).toUInt32).toInt32))])) _
            refine XS.sipush X0.here hx rfl (hb hby at_22) ?_
            show Steps p.tables e below (s₁.setTop (mkF m 25 #[.val (.int u0), .val (.int u1), .val (.int u2), .val (.int ((u0 &&& (255 : Int32)).toUInt32.toUInt16.toUInt32.toInt32)), .val (.int ((((u0.toUInt32 >>> ((8 : Int32) &&& 31).toUInt32).toInt32) &&& (255 : Int32)).toUInt32.toUInt16.toUInt32.toInt32)), .unset, .unset, .unset, .unset, .unset, .unset, .unset, .unset, .unset] [(.int (32767 : Int32)), (.int ((u0.toUInt32 >>> ((16 : Int32) &&& 31).toUInt32).toInt32))])) _
            refine XS.iand X0.here hx rfl (hb hby at_25) rfl ?_
            show Steps p.tables e below (s₁.setTop (mkF m 26 #[.val (.int u0), .val (.int u1), .val (.int u2), .val (.int ((u0 &&& (255 : Int32)).toUInt32.toUInt16.toUInt32.toInt32)), .val (.int ((((u0.toUInt32 >>> ((8 : Int32) &&& 31).toUInt32).toInt32) &&& (255 : Int32)).toUInt32.toUInt16.toUInt32.toInt32)), .unset, .unset, .unset, .unset, .unset, .unset, .unset, .unset, .unset] [(.int (((u0.toUInt32 >>> ((16 : Int32) &&& 31).toUInt32).toInt32) &&& (32767 : Int32)))])) _
            refine XS.iconst X0.here hx rfl (hb hby at_26) ?_
            show Steps p.tables e below (s₁.setTop (mkF m 27 #[.val (.int u0), .val (.int u1), .val (.int u2), .val (.int ((u0 &&& (255 : Int32)).toUInt32.toUInt16.toUInt32.toInt32)), .val (.int ((((u0.toUInt32 >>> ((8 : Int32) &&& 31).toUInt32).toInt32) &&& (255 : Int32)).toUInt32.toUInt16.toUInt32.toInt32)), .unset, .unset, .unset, .unset, .unset, .unset, .unset, .unset, .unset] [(.int (3 : Int32)), (.int (((u0.toUInt32 >>> ((16 : Int32) &&& 31).toUInt32).toInt32) &&& (32767 : Int32)))])) _
            refine iremM X0 hx rfl (hb hby at_27) rfl (by decide) ?_
            show Steps p.tables e below (s₁.setTop (mkF m 28 #[.val (.int u0), .val (.int u1), .val (.int u2), .val (.int ((u0 &&& (255 : Int32)).toUInt32.toUInt16.toUInt32.toInt32)), .val (.int ((((u0.toUInt32 >>> ((8 : Int32) &&& 31).toUInt32).toInt32) &&& (255 : Int32)).toUInt32.toUInt16.toUInt32.toInt32)), .unset, .unset, .unset, .unset, .unset, .unset, .unset, .unset, .unset] [(.int ((((u0.toUInt32 >>> ((16 : Int32) &&& 31).toUInt32).toInt32) &&& (32767 : Int32)) % (3 : Int32)))])) _
            refine XS.istore X0.here hx rfl (hb hby at_28) rfl (l' := #[.val (.int u0), .val (.int u1), .val (.int u2), .val (.int ((u0 &&& (255 : Int32)).toUInt32.toUInt16.toUInt32.toInt32)), .val (.int ((((u0.toUInt32 >>> ((8 : Int32) &&& 31).toUInt32).toInt32) &&& (255 : Int32)).toUInt32.toUInt16.toUInt32.toInt32)), .val (.int ((((u0.toUInt32 >>> ((16 : Int32) &&& 31).toUInt32).toInt32) &&& (32767 : Int32)) % (3 : Int32))), .unset, .unset, .unset, .unset, .unset, .unset, .unset, .unset]) rfl ?_
            show Steps p.tables e below (s₁.setTop (mkF m 30 #[.val (.int u0), .val (.int u1), .val (.int u2), .val (.int ((u0 &&& (255 : Int32)).toUInt32.toUInt16.toUInt32.toInt32)), .val (.int ((((u0.toUInt32 >>> ((8 : Int32) &&& 31).toUInt32).toInt32) &&& (255 : Int32)).toUInt32.toUInt16.toUInt32.toInt32)), .val (.int ((((u0.toUInt32 >>> ((16 : Int32) &&& 31).toUInt32).toInt32) &&& (32767 : Int32)) % (3 : Int32))), .unset, .unset, .unset, .unset, .unset, .unset, .unset, .unset] [])) _
            refine XS.iloadN X0.here hx rfl (hb hby at_30) rfl ?_
            show Steps p.tables e below (s₁.setTop (mkF m 31 #[.val (.int u0), .val (.int u1), .val (.int u2), .val (.int ((u0 &&& (255 : Int32)).toUInt32.toUInt16.toUInt32.toInt32)), .val (.int ((((u0.toUInt32 >>> ((8 : Int32) &&& 31).toUInt32).toInt32) &&& (255 : Int32)).toUInt32.toUInt16.toUInt32.toInt32)), .val (.int ((((u0.toUInt32 >>> ((16 : Int32) &&& 31).toUInt32).toInt32) &&& (32767 : Int32)) % (3 : Int32))), .unset, .unset, .unset, .unset, .unset, .unset, .unset, .unset] [(.int u1)])) _
            refine XS.iconst X0.here hx rfl (hb hby at_31) ?_
            show Steps p.tables e below (s₁.setTop (mkF m 32 #[.val (.int u0), .val (.int u1), .val (.int u2), .val (.int ((u0 &&& (255 : Int32)).toUInt32.toUInt16.toUInt32.toInt32)), .val (.int ((((u0.toUInt32 >>> ((8 : Int32) &&& 31).toUInt32).toInt32) &&& (255 : Int32)).toUInt32.toUInt16.toUInt32.toInt32)), .val (.int ((((u0.toUInt32 >>> ((16 : Int32) &&& 31).toUInt32).toInt32) &&& (32767 : Int32)) % (3 : Int32))), .unset, .unset, .unset, .unset, .unset, .unset, .unset, .unset] [(.int (1 : Int32)), (.int u1)])) _
            refine XS.iand X0.here hx rfl (hb hby at_32) rfl ?_
            refine st1 _ ?_
            show Steps p.tables e below (s₁.setTop (mkF m 49 #[.val (.int u0), .val (.int u1), .val (.int u2), .val (.int ((u0 &&& (255 : Int32)).toUInt32.toUInt16.toUInt32.toInt32)), .val (.int ((((u0.toUInt32 >>> ((8 : Int32) &&& 31).toUInt32).toInt32) &&& (255 : Int32)).toUInt32.toUInt16.toUInt32.toInt32)), .val (.int ((((u0.toUInt32 >>> ((16 : Int32) &&& 31).toUInt32).toInt32) &&& (32767 : Int32)) % (3 : Int32))), .unset, .unset, .unset, .unset, .unset, .unset, .unset, .unset] [(.int mv1_0)])) _
            refine XS.istore X0.here hx rfl (hb hby at_49) rfl (l' := #[.val (.int u0), .val (.int u1), .val (.int u2), .val (.int ((u0 &&& (255 : Int32)).toUInt32.toUInt16.toUInt32.toInt32)), .val (.int ((((u0.toUInt32 >>> ((8 : Int32) &&& 31).toUInt32).toInt32) &&& (255 : Int32)).toUInt32.toUInt16.toUInt32.toInt32)), .val (.int ((((u0.toUInt32 >>> ((16 : Int32) &&& 31).toUInt32).toInt32) &&& (32767 : Int32)) % (3 : Int32))), .val (.int mv1_0), .unset, .unset, .unset, .unset, .unset, .unset, .unset]) rfl ?_
            show Steps p.tables e below (s₁.setTop (mkF m 51 #[.val (.int u0), .val (.int u1), .val (.int u2), .val (.int ((u0 &&& (255 : Int32)).toUInt32.toUInt16.toUInt32.toInt32)), .val (.int ((((u0.toUInt32 >>> ((8 : Int32) &&& 31).toUInt32).toInt32) &&& (255 : Int32)).toUInt32.toUInt16.toUInt32.toInt32)), .val (.int ((((u0.toUInt32 >>> ((16 : Int32) &&& 31).toUInt32).toInt32) &&& (32767 : Int32)) % (3 : Int32))), .val (.int mv1_0), .unset, .unset, .unset, .unset, .unset, .unset, .unset] [])) _
            refine XS.iloadN X0.here hx rfl (hb hby at_51) rfl ?_
            show Steps p.tables e below (s₁.setTop (mkF m 52 #[.val (.int u0), .val (.int u1), .val (.int u2), .val (.int ((u0 &&& (255 : Int32)).toUInt32.toUInt16.toUInt32.toInt32)), .val (.int ((((u0.toUInt32 >>> ((8 : Int32) &&& 31).toUInt32).toInt32) &&& (255 : Int32)).toUInt32.toUInt16.toUInt32.toInt32)), .val (.int ((((u0.toUInt32 >>> ((16 : Int32) &&& 31).toUInt32).toInt32) &&& (32767 : Int32)) % (3 : Int32))), .val (.int mv1_0), .unset, .unset, .unset, .unset, .unset, .unset, .unset] [(.int u1)])) _
            refine XS.iconst X0.here hx rfl (hb hby at_52) ?_
            show Steps p.tables e below (s₁.setTop (mkF m 53 #[.val (.int u0), .val (.int u1), .val (.int u2), .val (.int ((u0 &&& (255 : Int32)).toUInt32.toUInt16.toUInt32.toInt32)), .val (.int ((((u0.toUInt32 >>> ((8 : Int32) &&& 31).toUInt32).toInt32) &&& (255 : Int32)).toUInt32.toUInt16.toUInt32.toInt32)), .val (.int ((((u0.toUInt32 >>> ((16 : Int32) &&& 31).toUInt32).toInt32) &&& (32767 : Int32)) % (3 : Int32))), .val (.int mv1_0), .unset, .unset, .unset, .unset, .unset, .unset, .unset] [(.int (2 : Int32)), (.int u1)])) _
            refine XS.iand X0.here hx rfl (hb hby at_53) rfl ?_
            refine st2 _ ?_
            show Steps p.tables e below (s₁.setTop (mkF m 71 #[.val (.int u0), .val (.int u1), .val (.int u2), .val (.int ((u0 &&& (255 : Int32)).toUInt32.toUInt16.toUInt32.toInt32)), .val (.int ((((u0.toUInt32 >>> ((8 : Int32) &&& 31).toUInt32).toInt32) &&& (255 : Int32)).toUInt32.toUInt16.toUInt32.toInt32)), .val (.int ((((u0.toUInt32 >>> ((16 : Int32) &&& 31).toUInt32).toInt32) &&& (32767 : Int32)) % (3 : Int32))), .val (.int mv1_0), .unset, .unset, .unset, .unset, .unset, .unset, .unset] [(.int mv2_0)])) _
            refine XS.istore X0.here hx rfl (hb hby at_71) rfl (l' := #[.val (.int u0), .val (.int u1), .val (.int u2), .val (.int ((u0 &&& (255 : Int32)).toUInt32.toUInt16.toUInt32.toInt32)), .val (.int ((((u0.toUInt32 >>> ((8 : Int32) &&& 31).toUInt32).toInt32) &&& (255 : Int32)).toUInt32.toUInt16.toUInt32.toInt32)), .val (.int ((((u0.toUInt32 >>> ((16 : Int32) &&& 31).toUInt32).toInt32) &&& (32767 : Int32)) % (3 : Int32))), .val (.int mv1_0), .val (.int mv2_0), .unset, .unset, .unset, .unset, .unset, .unset]) rfl ?_
            show Steps p.tables e below (s₁.setTop (mkF m 73 #[.val (.int u0), .val (.int u1), .val (.int u2), .val (.int ((u0 &&& (255 : Int32)).toUInt32.toUInt16.toUInt32.toInt32)), .val (.int ((((u0.toUInt32 >>> ((8 : Int32) &&& 31).toUInt32).toInt32) &&& (255 : Int32)).toUInt32.toUInt16.toUInt32.toInt32)), .val (.int ((((u0.toUInt32 >>> ((16 : Int32) &&& 31).toUInt32).toInt32) &&& (32767 : Int32)) % (3 : Int32))), .val (.int mv1_0), .val (.int mv2_0), .unset, .unset, .unset, .unset, .unset, .unset] [])) _
            refine XS.iloadN X0.here hx rfl (hb hby at_73) rfl ?_
            show Steps p.tables e below (s₁.setTop (mkF m 74 #[.val (.int u0), .val (.int u1), .val (.int u2), .val (.int ((u0 &&& (255 : Int32)).toUInt32.toUInt16.toUInt32.toInt32)), .val (.int ((((u0.toUInt32 >>> ((8 : Int32) &&& 31).toUInt32).toInt32) &&& (255 : Int32)).toUInt32.toUInt16.toUInt32.toInt32)), .val (.int ((((u0.toUInt32 >>> ((16 : Int32) &&& 31).toUInt32).toInt32) &&& (32767 : Int32)) % (3 : Int32))), .val (.int mv1_0), .val (.int mv2_0), .unset, .unset, .unset, .unset, .unset, .unset] [(.int u1)])) _
            refine XS.iconst X0.here hx rfl (hb hby at_74) ?_
            show Steps p.tables e below (s₁.setTop (mkF m 75 #[.val (.int u0), .val (.int u1), .val (.int u2), .val (.int ((u0 &&& (255 : Int32)).toUInt32.toUInt16.toUInt32.toInt32)), .val (.int ((((u0.toUInt32 >>> ((8 : Int32) &&& 31).toUInt32).toInt32) &&& (255 : Int32)).toUInt32.toUInt16.toUInt32.toInt32)), .val (.int ((((u0.toUInt32 >>> ((16 : Int32) &&& 31).toUInt32).toInt32) &&& (32767 : Int32)) % (3 : Int32))), .val (.int mv1_0), .val (.int mv2_0), .unset, .unset, .unset, .unset, .unset, .unset] [(.int (4 : Int32)), (.int u1)])) _
            refine XS.iand X0.here hx rfl (hb hby at_75) rfl ?_
            refine st3 _ ?_
            show Steps p.tables e below (s₁.setTop (mkF m 93 #[.val (.int u0), .val (.int u1), .val (.int u2), .val (.int ((u0 &&& (255 : Int32)).toUInt32.toUInt16.toUInt32.toInt32)), .val (.int ((((u0.toUInt32 >>> ((8 : Int32) &&& 31).toUInt32).toInt32) &&& (255 : Int32)).toUInt32.toUInt16.toUInt32.toInt32)), .val (.int ((((u0.toUInt32 >>> ((16 : Int32) &&& 31).toUInt32).toInt32) &&& (32767 : Int32)) % (3 : Int32))), .val (.int mv1_0), .val (.int mv2_0), .unset, .unset, .unset, .unset, .unset, .unset] [(.int mv3_0)])) _
            refine XS.istore X0.here hx rfl (hb hby at_93) rfl (l' := #[.val (.int u0), .val (.int u1), .val (.int u2), .val (.int ((u0 &&& (255 : Int32)).toUInt32.toUInt16.toUInt32.toInt32)), .val (.int ((((u0.toUInt32 >>> ((8 : Int32) &&& 31).toUInt32).toInt32) &&& (255 : Int32)).toUInt32.toUInt16.toUInt32.toInt32)), .val (.int ((((u0.toUInt32 >>> ((16 : Int32) &&& 31).toUInt32).toInt32) &&& (32767 : Int32)) % (3 : Int32))), .val (.int mv1_0), .val (.int mv2_0), .val (.int mv3_0), .unset, .unset, .unset, .unset, .unset]) rfl ?_
            show Steps p.tables e below (s₁.setTop (mkF m 95 #[.val (.int u0), .val (.int u1), .val (.int u2), .val (.int ((u0 &&& (255 : Int32)).toUInt32.toUInt16.toUInt32.toInt32)), .val (.int ((((u0.toUInt32 >>> ((8 : Int32) &&& 31).toUInt32).toInt32) &&& (255 : Int32)).toUInt32.toUInt16.toUInt32.toInt32)), .val (.int ((((u0.toUInt32 >>> ((16 : Int32) &&& 31).toUInt32).toInt32) &&& (32767 : Int32)) % (3 : Int32))), .val (.int mv1_0), .val (.int mv2_0), .val (.int mv3_0), .unset, .unset, .unset, .unset, .unset] [])) _
            refine XS.iload X0.here hx rfl (hb hby at_95) rfl ?_
            show Steps p.tables e below (s₁.setTop (mkF m 97 #[.val (.int u0), .val (.int u1), .val (.int u2), .val (.int ((u0 &&& (255 : Int32)).toUInt32.toUInt16.toUInt32.toInt32)), .val (.int ((((u0.toUInt32 >>> ((8 : Int32) &&& 31).toUInt32).toInt32) &&& (255 : Int32)).toUInt32.toUInt16.toUInt32.toInt32)), .val (.int ((((u0.toUInt32 >>> ((16 : Int32) &&& 31).toUInt32).toInt32) &&& (32767 : Int32)) % (3 : Int32))), .val (.int mv1_0), .val (.int mv2_0), .val (.int mv3_0), .unset, .unset, .unset, .unset, .unset] [(.int ((((u0.toUInt32 >>> ((16 : Int32) &&& 31).toUInt32).toInt32) &&& (32767 : Int32)) % (3 : Int32)))])) _
            refine XS.iloadN X0.here hx rfl (hb hby at_97) rfl ?_
            show Steps p.tables e below (s₁.setTop (mkF m 98 #[.val (.int u0), .val (.int u1), .val (.int u2), .val (.int ((u0 &&& (255 : Int32)).toUInt32.toUInt16.toUInt32.toInt32)), .val (.int ((((u0.toUInt32 >>> ((8 : Int32) &&& 31).toUInt32).toInt32) &&& (255 : Int32)).toUInt32.toUInt16.toUInt32.toInt32)), .val (.int ((((u0.toUInt32 >>> ((16 : Int32) &&& 31).toUInt32).toInt32) &&& (32767 : Int32)) % (3 : Int32))), .val (.int mv1_0), .val (.int mv2_0), .val (.int mv3_0), .unset, .unset, .unset, .unset, .unset] [(.int ((u0 &&& (255 : Int32)).toUInt32.toUInt16.toUInt32.toInt32)), (.int ((((u0.toUInt32 >>> ((16 : Int32) &&& 31).toUInt32).toInt32) &&& (32767 : Int32)) % (3 : Int32)))])) _
            refine XS.iload X0.here hx rfl (hb hby at_98) rfl ?_
            show Steps p.tables e below (s₁.setTop (mkF m 100 #[.val (.int u0), .val (.int u1), .val (.int u2), .val (.int ((u0 &&& (255 : Int32)).toUInt32.toUInt16.toUInt32.toInt32)), .val (.int ((((u0.toUInt32 >>> ((8 : Int32) &&& 31).toUInt32).toInt32) &&& (255 : Int32)).toUInt32.toUInt16.toUInt32.toInt32)), .val (.int ((((u0.toUInt32 >>> ((16 : Int32) &&& 31).toUInt32).toInt32) &&& (32767 : Int32)) % (3 : Int32))), .val (.int mv1_0), .val (.int mv2_0), .val (.int mv3_0), .unset, .unset, .unset, .unset, .unset] [(.int ((((u0.toUInt32 >>> ((8 : Int32) &&& 31).toUInt32).toInt32) &&& (255 : Int32)).toUInt32.toUInt16.toUInt32.toInt32)), (.int ((u0 &&& (255 : Int32)).toUInt32.toUInt16.toUInt32.toInt32)), (.int ((((u0.toUInt32 >>> ((16 : Int32) &&& 31).toUInt32).toInt32) &&& (32767 : Int32)) % (3 : Int32)))])) _
            refine st4.trans ?_
            show Steps p.tables e below (T4.setTop (mkF m 103 #[.val (.int u0), .val (.int u1), .val (.int u2), .val (.int ((u0 &&& (255 : Int32)).toUInt32.toUInt16.toUInt32.toInt32)), .val (.int ((((u0.toUInt32 >>> ((8 : Int32) &&& 31).toUInt32).toInt32) &&& (255 : Int32)).toUInt32.toUInt16.toUInt32.toInt32)), .val (.int ((((u0.toUInt32 >>> ((16 : Int32) &&& 31).toUInt32).toInt32) &&& (32767 : Int32)) % (3 : Int32))), .val (.int mv1_0), .val (.int mv2_0), .val (.int mv3_0), .unset, .unset, .unset, .unset, .unset] [(.ref s4)])) _
            refine XS.astore X4.here hx rfl (hb hby at_103) rfl rfl (l' := #[.val (.int u0), .val (.int u1), .val (.int u2), .val (.int ((u0 &&& (255 : Int32)).toUInt32.toUInt16.toUInt32.toInt32)), .val (.int ((((u0.toUInt32 >>> ((8 : Int32) &&& 31).toUInt32).toInt32) &&& (255 : Int32)).toUInt32.toUInt16.toUInt32.toInt32)), .val (.int ((((u0.toUInt32 >>> ((16 : Int32) &&& 31).toUInt32).toInt32) &&& (32767 : Int32)) % (3 : Int32))), .val (.int mv1_0), .val (.int mv2_0), .val (.int mv3_0), .val (.ref s4), .unset, .unset, .unset, .unset]) rfl ?_
            show Steps p.tables e below (T4.setTop (mkF m 105 #[.val (.int u0), .val (.int u1), .val (.int u2), .val (.int ((u0 &&& (255 : Int32)).toUInt32.toUInt16.toUInt32.toInt32)), .val (.int ((((u0.toUInt32 >>> ((8 : Int32) &&& 31).toUInt32).toInt32) &&& (255 : Int32)).toUInt32.toUInt16.toUInt32.toInt32)), .val (.int ((((u0.toUInt32 >>> ((16 : Int32) &&& 31).toUInt32).toInt32) &&& (32767 : Int32)) % (3 : Int32))), .val (.int mv1_0), .val (.int mv2_0), .val (.int mv3_0), .val (.ref s4), .unset, .unset, .unset, .unset] [])) _
            refine XS.iload X4.here hx rfl (hb hby at_105) rfl ?_
            show Steps p.tables e below (T4.setTop (mkF m 107 #[.val (.int u0), .val (.int u1), .val (.int u2), .val (.int ((u0 &&& (255 : Int32)).toUInt32.toUInt16.toUInt32.toInt32)), .val (.int ((((u0.toUInt32 >>> ((8 : Int32) &&& 31).toUInt32).toInt32) &&& (255 : Int32)).toUInt32.toUInt16.toUInt32.toInt32)), .val (.int ((((u0.toUInt32 >>> ((16 : Int32) &&& 31).toUInt32).toInt32) &&& (32767 : Int32)) % (3 : Int32))), .val (.int mv1_0), .val (.int mv2_0), .val (.int mv3_0), .val (.ref s4), .unset, .unset, .unset, .unset] [(.int mv3_0)])) _
            refine XS.iload X4.here hx rfl (hb hby at_107) rfl ?_
            show Steps p.tables e below (T4.setTop (mkF m 109 #[.val (.int u0), .val (.int u1), .val (.int u2), .val (.int ((u0 &&& (255 : Int32)).toUInt32.toUInt16.toUInt32.toInt32)), .val (.int ((((u0.toUInt32 >>> ((8 : Int32) &&& 31).toUInt32).toInt32) &&& (255 : Int32)).toUInt32.toUInt16.toUInt32.toInt32)), .val (.int ((((u0.toUInt32 >>> ((16 : Int32) &&& 31).toUInt32).toInt32) &&& (32767 : Int32)) % (3 : Int32))), .val (.int mv1_0), .val (.int mv2_0), .val (.int mv3_0), .val (.ref s4), .unset, .unset, .unset, .unset] [(.int mv1_0), (.int mv3_0)])) _
            refine XS.iload X4.here hx rfl (hb hby at_109) rfl ?_
            show Steps p.tables e below (T4.setTop (mkF m 111 #[.val (.int u0), .val (.int u1), .val (.int u2), .val (.int ((u0 &&& (255 : Int32)).toUInt32.toUInt16.toUInt32.toInt32)), .val (.int ((((u0.toUInt32 >>> ((8 : Int32) &&& 31).toUInt32).toInt32) &&& (255 : Int32)).toUInt32.toUInt16.toUInt32.toInt32)), .val (.int ((((u0.toUInt32 >>> ((16 : Int32) &&& 31).toUInt32).toInt32) &&& (32767 : Int32)) % (3 : Int32))), .val (.int mv1_0), .val (.int mv2_0), .val (.int mv3_0), .val (.ref s4), .unset, .unset, .unset, .unset] [(.int mv2_0), (.int mv1_0), (.int mv3_0)])) _
            refine st5.trans ?_
            show Steps p.tables e below (T5.setTop (mkF m 114 #[.val (.int u0), .val (.int u1), .val (.int u2), .val (.int ((u0 &&& (255 : Int32)).toUInt32.toUInt16.toUInt32.toInt32)), .val (.int ((((u0.toUInt32 >>> ((8 : Int32) &&& 31).toUInt32).toInt32) &&& (255 : Int32)).toUInt32.toUInt16.toUInt32.toInt32)), .val (.int ((((u0.toUInt32 >>> ((16 : Int32) &&& 31).toUInt32).toInt32) &&& (32767 : Int32)) % (3 : Int32))), .val (.int mv1_0), .val (.int mv2_0), .val (.int mv3_0), .val (.ref s4), .unset, .unset, .unset, .unset] [(.ref s5)])) _
            refine XS.astore X5.here hx rfl (hb hby at_114) rfl rfl (l' := #[.val (.int u0), .val (.int u1), .val (.int u2), .val (.int ((u0 &&& (255 : Int32)).toUInt32.toUInt16.toUInt32.toInt32)), .val (.int ((((u0.toUInt32 >>> ((8 : Int32) &&& 31).toUInt32).toInt32) &&& (255 : Int32)).toUInt32.toUInt16.toUInt32.toInt32)), .val (.int ((((u0.toUInt32 >>> ((16 : Int32) &&& 31).toUInt32).toInt32) &&& (32767 : Int32)) % (3 : Int32))), .val (.int mv1_0), .val (.int mv2_0), .val (.int mv3_0), .val (.ref s4), .val (.ref s5), .unset, .unset, .unset]) rfl ?_
            show Steps p.tables e below (T5.setTop (mkF m 116 #[.val (.int u0), .val (.int u1), .val (.int u2), .val (.int ((u0 &&& (255 : Int32)).toUInt32.toUInt16.toUInt32.toInt32)), .val (.int ((((u0.toUInt32 >>> ((8 : Int32) &&& 31).toUInt32).toInt32) &&& (255 : Int32)).toUInt32.toUInt16.toUInt32.toInt32)), .val (.int ((((u0.toUInt32 >>> ((16 : Int32) &&& 31).toUInt32).toInt32) &&& (32767 : Int32)) % (3 : Int32))), .val (.int mv1_0), .val (.int mv2_0), .val (.int mv3_0), .val (.ref s4), .val (.ref s5), .unset, .unset, .unset] [])) _
            refine st6 _ ?_
            show Steps p.tables e below (T6.setTop (mkF m 119 #[.val (.int u0), .val (.int u1), .val (.int u2), .val (.int ((u0 &&& (255 : Int32)).toUInt32.toUInt16.toUInt32.toInt32)), .val (.int ((((u0.toUInt32 >>> ((8 : Int32) &&& 31).toUInt32).toInt32) &&& (255 : Int32)).toUInt32.toUInt16.toUInt32.toInt32)), .val (.int ((((u0.toUInt32 >>> ((16 : Int32) &&& 31).toUInt32).toInt32) &&& (32767 : Int32)) % (3 : Int32))), .val (.int mv1_0), .val (.int mv2_0), .val (.int mv3_0), .val (.ref s4), .val (.ref s5), .unset, .unset, .unset] [(.ref b6)])) _
            refine XS.dup X6.here hx rfl (hb hby at_119) rfl rfl ?_
            show Steps p.tables e below (T6.setTop (mkF m 120 #[.val (.int u0), .val (.int u1), .val (.int u2), .val (.int ((u0 &&& (255 : Int32)).toUInt32.toUInt16.toUInt32.toInt32)), .val (.int ((((u0.toUInt32 >>> ((8 : Int32) &&& 31).toUInt32).toInt32) &&& (255 : Int32)).toUInt32.toUInt16.toUInt32.toInt32)), .val (.int ((((u0.toUInt32 >>> ((16 : Int32) &&& 31).toUInt32).toInt32) &&& (32767 : Int32)) % (3 : Int32))), .val (.int mv1_0), .val (.int mv2_0), .val (.int mv3_0), .val (.ref s4), .val (.ref s5), .unset, .unset, .unset] [(.ref b6), (.ref b6)])) _
            refine XS.aload X6.here hx rfl (hb hby at_120) rfl rfl ?_
            show Steps p.tables e below (T6.setTop (mkF m 122 #[.val (.int u0), .val (.int u1), .val (.int u2), .val (.int ((u0 &&& (255 : Int32)).toUInt32.toUInt16.toUInt32.toInt32)), .val (.int ((((u0.toUInt32 >>> ((8 : Int32) &&& 31).toUInt32).toInt32) &&& (255 : Int32)).toUInt32.toUInt16.toUInt32.toInt32)), .val (.int ((((u0.toUInt32 >>> ((16 : Int32) &&& 31).toUInt32).toInt32) &&& (32767 : Int32)) % (3 : Int32))), .val (.int mv1_0), .val (.int mv2_0), .val (.int mv3_0), .val (.ref s4), .val (.ref s5), .unset, .unset, .unset] [(.ref s4), (.ref b6), (.ref b6)])) _
            refine st7.trans ?_
            show Steps p.tables e below (T7.setTop (mkF m 125 #[.val (.int u0), .val (.int u1), .val (.int u2), .val (.int ((u0 &&& (255 : Int32)).toUInt32.toUInt16.toUInt32.toInt32)), .val (.int ((((u0.toUInt32 >>> ((8 : Int32) &&& 31).toUInt32).toInt32) &&& (255 : Int32)).toUInt32.toUInt16.toUInt32.toInt32)), .val (.int ((((u0.toUInt32 >>> ((16 : Int32) &&& 31).toUInt32).toInt32) &&& (32767 : Int32)) % (3 : Int32))), .val (.int mv1_0), .val (.int mv2_0), .val (.int mv3_0), .val (.ref s4), .val (.ref s5), .unset, .unset, .unset] [(.ref b6)])) _
            refine XS.astore X7.here hx rfl (hb hby at_125) rfl rfl (l' := #[.val (.int u0), .val (.int u1), .val (.int u2), .val (.int ((u0 &&& (255 : Int32)).toUInt32.toUInt16.toUInt32.toInt32)), .val (.int ((((u0.toUInt32 >>> ((8 : Int32) &&& 31).toUInt32).toInt32) &&& (255 : Int32)).toUInt32.toUInt16.toUInt32.toInt32)), .val (.int ((((u0.toUInt32 >>> ((16 : Int32) &&& 31).toUInt32).toInt32) &&& (32767 : Int32)) % (3 : Int32))), .val (.int mv1_0), .val (.int mv2_0), .val (.int mv3_0), .val (.ref s4), .val (.ref s5), .val (.ref b6), .unset, .unset]) rfl ?_
            show Steps p.tables e below (T7.setTop (mkF m 127 #[.val (.int u0), .val (.int u1), .val (.int u2), .val (.int ((u0 &&& (255 : Int32)).toUInt32.toUInt16.toUInt32.toInt32)), .val (.int ((((u0.toUInt32 >>> ((8 : Int32) &&& 31).toUInt32).toInt32) &&& (255 : Int32)).toUInt32.toUInt16.toUInt32.toInt32)), .val (.int ((((u0.toUInt32 >>> ((16 : Int32) &&& 31).toUInt32).toInt32) &&& (32767 : Int32)) % (3 : Int32))), .val (.int mv1_0), .val (.int mv2_0), .val (.int mv3_0), .val (.ref s4), .val (.ref s5), .val (.ref b6), .unset, .unset] [])) _
            refine XS.iload X7.here hx rfl (hb hby at_127) rfl ?_
            show Steps p.tables e below (T7.setTop (mkF m 129 #[.val (.int u0), .val (.int u1), .val (.int u2), .val (.int ((u0 &&& (255 : Int32)).toUInt32.toUInt16.toUInt32.toInt32)), .val (.int ((((u0.toUInt32 >>> ((8 : Int32) &&& 31).toUInt32).toInt32) &&& (255 : Int32)).toUInt32.toUInt16.toUInt32.toInt32)), .val (.int ((((u0.toUInt32 >>> ((16 : Int32) &&& 31).toUInt32).toInt32) &&& (32767 : Int32)) % (3 : Int32))), .val (.int mv1_0), .val (.int mv2_0), .val (.int mv3_0), .val (.ref s4), .val (.ref s5), .val (.ref b6), .unset, .unset] [(.int ((((u0.toUInt32 >>> ((16 : Int32) &&& 31).toUInt32).toInt32) &&& (32767 : Int32)) % (3 : Int32)))])) _
            refine XS.iload X7.here hx rfl (hb hby at_129) rfl ?_
            refine st8 _ ?_
            show Steps p.tables e below (T7.setTop (mkF m 164 #[.val (.int u0), .val (.int u1), .val (.int u2), .val (.int ((u0 &&& (255 : Int32)).toUInt32.toUInt16.toUInt32.toInt32)), .val (.int ((((u0.toUInt32 >>> ((8 : Int32) &&& 31).toUInt32).toInt32) &&& (255 : Int32)).toUInt32.toUInt16.toUInt32.toInt32)), .val (.int ((((u0.toUInt32 >>> ((16 : Int32) &&& 31).toUInt32).toInt32) &&& (32767 : Int32)) % (3 : Int32))), .val (.int mv1_0), .val (.int mv2_0), .val (.int mv3_0), .val (.ref s4), .val (.ref s5), .val (.ref b6), .unset, .unset] [(.int mv8_0)])) _
            refine XS.istore X7.here hx rfl (hb hby at_164) rfl (l' := #[.val (.int u0), .val (.int u1), .val (.int u2), .val (.int ((u0 &&& (255 : Int32)).toUInt32.toUInt16.toUInt32.toInt32)), .val (.int ((((u0.toUInt32 >>> ((8 : Int32) &&& 31).toUInt32).toInt32) &&& (255 : Int32)).toUInt32.toUInt16.toUInt32.toInt32)), .val (.int ((((u0.toUInt32 >>> ((16 : Int32) &&& 31).toUInt32).toInt32) &&& (32767 : Int32)) % (3 : Int32))), .val (.int mv1_0), .val (.int mv2_0), .val (.int mv3_0), .val (.ref s4), .val (.ref s5), .val (.ref b6), .val (.int mv8_0), .unset]) rfl ?_
            show Steps p.tables e below (T7.setTop (mkF m 166 #[.val (.int u0), .val (.int u1), .val (.int u2), .val (.int ((u0 &&& (255 : Int32)).toUInt32.toUInt16.toUInt32.toInt32)), .val (.int ((((u0.toUInt32 >>> ((8 : Int32) &&& 31).toUInt32).toInt32) &&& (255 : Int32)).toUInt32.toUInt16.toUInt32.toInt32)), .val (.int ((((u0.toUInt32 >>> ((16 : Int32) &&& 31).toUInt32).toInt32) &&& (32767 : Int32)) % (3 : Int32))), .val (.int mv1_0), .val (.int mv2_0), .val (.int mv3_0), .val (.ref s4), .val (.ref s5), .val (.ref b6), .val (.int mv8_0), .unset] [])) _
            refine XS.iloadN X7.here hx rfl (hb hby at_166) rfl ?_
            show Steps p.tables e below (T7.setTop (mkF m 167 #[.val (.int u0), .val (.int u1), .val (.int u2), .val (.int ((u0 &&& (255 : Int32)).toUInt32.toUInt16.toUInt32.toInt32)), .val (.int ((((u0.toUInt32 >>> ((8 : Int32) &&& 31).toUInt32).toInt32) &&& (255 : Int32)).toUInt32.toUInt16.toUInt32.toInt32)), .val (.int ((((u0.toUInt32 >>> ((16 : Int32) &&& 31).toUInt32).toInt32) &&& (32767 : Int32)) % (3 : Int32))), .val (.int mv1_0), .val (.int mv2_0), .val (.int mv3_0), .val (.ref s4), .val (.ref s5), .val (.ref b6), .val (.int mv8_0), .unset] [(.int u2)])) _
            refine XS.bipush X7.here hx rfl (hb hby at_167) ?_
            show Steps p.tables e below (T7.setTop (mkF m 169 #[.val (.int u0), .val (.int u1), .val (.int u2), .val (.int ((u0 &&& (255 : Int32)).toUInt32.toUInt16.toUInt32.toInt32)), .val (.int ((((u0.toUInt32 >>> ((8 : Int32) &&& 31).toUInt32).toInt32) &&& (255 : Int32)).toUInt32.toUInt16.toUInt32.toInt32)), .val (.int ((((u0.toUInt32 >>> ((16 : Int32) &&& 31).toUInt32).toInt32) &&& (32767 : Int32)) % (3 : Int32))), .val (.int mv1_0), .val (.int mv2_0), .val (.int mv3_0), .val (.ref s4), .val (.ref s5), .val (.ref b6), .val (.int mv8_0), .unset] [(.int (7 : Int32)), (.int u2)])) _
            refine XS.iand X7.here hx rfl (hb hby at_169) rfl ?_
            show Steps p.tables e below (T7.setTop (mkF m 170 #[.val (.int u0), .val (.int u1), .val (.int u2), .val (.int ((u0 &&& (255 : Int32)).toUInt32.toUInt16.toUInt32.toInt32)), .val (.int ((((u0.toUInt32 >>> ((8 : Int32) &&& 31).toUInt32).toInt32) &&& (255 : Int32)).toUInt32.toUInt16.toUInt32.toInt32)), .val (.int ((((u0.toUInt32 >>> ((16 : Int32) &&& 31).toUInt32).toInt32) &&& (32767 : Int32)) % (3 : Int32))), .val (.int mv1_0), .val (.int mv2_0), .val (.int mv3_0), .val (.ref s4), .val (.ref s5), .val (.ref b6), .val (.int mv8_0), .unset] [(.int (u2 &&& (7 : Int32)))])) _
            refine XS.istore X7.here hx rfl (hb hby at_170) rfl (l' := #[.val (.int u0), .val (.int u1), .val (.int u2), .val (.int ((u0 &&& (255 : Int32)).toUInt32.toUInt16.toUInt32.toInt32)), .val (.int ((((u0.toUInt32 >>> ((8 : Int32) &&& 31).toUInt32).toInt32) &&& (255 : Int32)).toUInt32.toUInt16.toUInt32.toInt32)), .val (.int ((((u0.toUInt32 >>> ((16 : Int32) &&& 31).toUInt32).toInt32) &&& (32767 : Int32)) % (3 : Int32))), .val (.int mv1_0), .val (.int mv2_0), .val (.int mv3_0), .val (.ref s4), .val (.ref s5), .val (.ref b6), .val (.int mv8_0), .val (.int (u2 &&& (7 : Int32)))]) rfl ?_
            show Steps p.tables e below (T7.setTop (mkF m 172 #[.val (.int u0), .val (.int u1), .val (.int u2), .val (.int ((u0 &&& (255 : Int32)).toUInt32.toUInt16.toUInt32.toInt32)), .val (.int ((((u0.toUInt32 >>> ((8 : Int32) &&& 31).toUInt32).toInt32) &&& (255 : Int32)).toUInt32.toUInt16.toUInt32.toInt32)), .val (.int ((((u0.toUInt32 >>> ((16 : Int32) &&& 31).toUInt32).toInt32) &&& (32767 : Int32)) % (3 : Int32))), .val (.int mv1_0), .val (.int mv2_0), .val (.int mv3_0), .val (.ref s4), .val (.ref s5), .val (.ref b6), .val (.int mv8_0), .val (.int (u2 &&& (7 : Int32)))] [])) _
            refine XS.iload X7.here hx rfl (hb hby at_172) rfl ?_
            show Steps p.tables e below (T7.setTop (mkF m 174 #[.val (.int u0), .val (.int u1), .val (.int u2), .val (.int ((u0 &&& (255 : Int32)).toUInt32.toUInt16.toUInt32.toInt32)), .val (.int ((((u0.toUInt32 >>> ((8 : Int32) &&& 31).toUInt32).toInt32) &&& (255 : Int32)).toUInt32.toUInt16.toUInt32.toInt32)), .val (.int ((((u0.toUInt32 >>> ((16 : Int32) &&& 31).toUInt32).toInt32) &&& (32767 : Int32)) % (3 : Int32))), .val (.int mv1_0), .val (.int mv2_0), .val (.int mv3_0), .val (.ref s4), .val (.ref s5), .val (.ref b6), .val (.int mv8_0), .val (.int (u2 &&& (7 : Int32)))] [(.int (u2 &&& (7 : Int32)))])) _
            refine XS.iconst X7.here hx rfl (hb hby at_174) ?_
            show Steps p.tables e below (T7.setTop (mkF m 175 #[.val (.int u0), .val (.int u1), .val (.int u2), .val (.int ((u0 &&& (255 : Int32)).toUInt32.toUInt16.toUInt32.toInt32)), .val (.int ((((u0.toUInt32 >>> ((8 : Int32) &&& 31).toUInt32).toInt32) &&& (255 : Int32)).toUInt32.toUInt16.toUInt32.toInt32)), .val (.int ((((u0.toUInt32 >>> ((16 : Int32) &&& 31).toUInt32).toInt32) &&& (32767 : Int32)) % (3 : Int32))), .val (.int mv1_0), .val (.int mv2_0), .val (.int mv3_0), .val (.ref s4), .val (.ref s5), .val (.ref b6), .val (.int mv8_0), .val (.int (u2 &&& (7 : Int32)))] [(.int (4 : Int32)), (.int (u2 &&& (7 : Int32)))])) _
            refine XS.icmpYes X7.here hx rfl (pc0 := 175) (pc' := 203) rfl (hb hby at_175) rfl (flt hc175).2.1 (by decide) (by decide) ?_
            show Steps p.tables e below (T7.setTop (mkF m 203 #[.val (.int u0), .val (.int u1), .val (.int u2), .val (.int ((u0 &&& (255 : Int32)).toUInt32.toUInt16.toUInt32.toInt32)), .val (.int ((((u0.toUInt32 >>> ((8 : Int32) &&& 31).toUInt32).toInt32) &&& (255 : Int32)).toUInt32.toUInt16.toUInt32.toInt32)), .val (.int ((((u0.toUInt32 >>> ((16 : Int32) &&& 31).toUInt32).toInt32) &&& (32767 : Int32)) % (3 : Int32))), .val (.int mv1_0), .val (.int mv2_0), .val (.int mv3_0), .val (.ref s4), .val (.ref s5), .val (.ref b6), .val (.int mv8_0), .val (.int (u2 &&& (7 : Int32)))] [])) _
            refine XS.iload X7.here hx rfl (hb hby at_203) rfl ?_
            show Steps p.tables e below (T7.setTop (mkF m 205 #[.val (.int u0), .val (.int u1), .val (.int u2), .val (.int ((u0 &&& (255 : Int32)).toUInt32.toUInt16.toUInt32.toInt32)), .val (.int ((((u0.toUInt32 >>> ((8 : Int32) &&& 31).toUInt32).toInt32) &&& (255 : Int32)).toUInt32.toUInt16.toUInt32.toInt32)), .val (.int ((((u0.toUInt32 >>> ((16 : Int32) &&& 31).toUInt32).toInt32) &&& (32767 : Int32)) % (3 : Int32))), .val (.int mv1_0), .val (.int mv2_0), .val (.int mv3_0), .val (.ref s4), .val (.ref s5), .val (.ref b6), .val (.int mv8_0), .val (.int (u2 &&& (7 : Int32)))] [(.int (u2 &&& (7 : Int32)))])) _
            refine XS.iconst X7.here hx rfl (hb hby at_205) ?_
            show Steps p.tables e below (T7.setTop (mkF m 206 #[.val (.int u0), .val (.int u1), .val (.int u2), .val (.int ((u0 &&& (255 : Int32)).toUInt32.toUInt16.toUInt32.toInt32)), .val (.int ((((u0.toUInt32 >>> ((8 : Int32) &&& 31).toUInt32).toInt32) &&& (255 : Int32)).toUInt32.toUInt16.toUInt32.toInt32)), .val (.int ((((u0.toUInt32 >>> ((16 : Int32) &&& 31).toUInt32).toInt32) &&& (32767 : Int32)) % (3 : Int32))), .val (.int mv1_0), .val (.int mv2_0), .val (.int mv3_0), .val (.ref s4), .val (.ref s5), .val (.ref b6), .val (.int mv8_0), .val (.int (u2 &&& (7 : Int32)))] [(.int (4 : Int32)), (.int (u2 &&& (7 : Int32)))])) _
            refine XS.icmpYes X7.here hx rfl (pc0 := 206) (pc' := 224) rfl (hb hby at_206) rfl (feq hc206).2 (by decide) (by decide) ?_
            show Steps p.tables e below (T7.setTop (mkF m 224 #[.val (.int u0), .val (.int u1), .val (.int u2), .val (.int ((u0 &&& (255 : Int32)).toUInt32.toUInt16.toUInt32.toInt32)), .val (.int ((((u0.toUInt32 >>> ((8 : Int32) &&& 31).toUInt32).toInt32) &&& (255 : Int32)).toUInt32.toUInt16.toUInt32.toInt32)), .val (.int ((((u0.toUInt32 >>> ((16 : Int32) &&& 31).toUInt32).toInt32) &&& (32767 : Int32)) % (3 : Int32))), .val (.int mv1_0), .val (.int mv2_0), .val (.int mv3_0), .val (.ref s4), .val (.ref s5), .val (.ref b6), .val (.int mv8_0), .val (.int (u2 &&& (7 : Int32)))] [])) _
            refine XS.iload X7.here hx rfl (hb hby at_224) rfl ?_
            show Steps p.tables e below (T7.setTop (mkF m 226 #[.val (.int u0), .val (.int u1), .val (.int u2), .val (.int ((u0 &&& (255 : Int32)).toUInt32.toUInt16.toUInt32.toInt32)), .val (.int ((((u0.toUInt32 >>> ((8 : Int32) &&& 31).toUInt32).toInt32) &&& (255 : Int32)).toUInt32.toUInt16.toUInt32.toInt32)), .val (.int ((((u0.toUInt32 >>> ((16 : Int32) &&& 31).toUInt32).toInt32) &&& (32767 : Int32)) % (3 : Int32))), .val (.int mv1_0), .val (.int mv2_0), .val (.int mv3_0), .val (.ref s4), .val (.ref s5), .val (.ref b6), .val (.int mv8_0), .val (.int (u2 &&& (7 : Int32)))] [(.int (u2 &&& (7 : Int32)))])) _
            refine XS.iconst X7.here hx rfl (hb hby at_226) ?_
            show Steps p.tables e below (T7.setTop (mkF m 227 #[.val (.int u0), .val (.int u1), .val (.int u2), .val (.int ((u0 &&& (255 : Int32)).toUInt32.toUInt16.toUInt32.toInt32)), .val (.int ((((u0.toUInt32 >>> ((8 : Int32) &&& 31).toUInt32).toInt32) &&& (255 : Int32)).toUInt32.toUInt16.toUInt32.toInt32)), .val (.int ((((u0.toUInt32 >>> ((16 : Int32) &&& 31).toUInt32).toInt32) &&& (32767 : Int32)) % (3 : Int32))), .val (.int mv1_0), .val (.int mv2_0), .val (.int mv3_0), .val (.ref s4), .val (.ref s5), .val (.ref b6), .val (.int mv8_0), .val (.int (u2 &&& (7 : Int32)))] [(.int (5 : Int32)), (.int (u2 &&& (7 : Int32)))])) _
            refine XS.icmpYes X7.here hx rfl (pc0 := 227) (pc' := 253) rfl (hb hby at_227) rfl (feq hc227).2 (by decide) (by decide) ?_
            show Steps p.tables e below (T7.setTop (mkF m 253 #[.val (.int u0), .val (.int u1), .val (.int u2), .val (.int ((u0 &&& (255 : Int32)).toUInt32.toUInt16.toUInt32.toInt32)), .val (.int ((((u0.toUInt32 >>> ((8 : Int32) &&& 31).toUInt32).toInt32) &&& (255 : Int32)).toUInt32.toUInt16.toUInt32.toInt32)), .val (.int ((((u0.toUInt32 >>> ((16 : Int32) &&& 31).toUInt32).toInt32) &&& (32767 : Int32)) % (3 : Int32))), .val (.int mv1_0), .val (.int mv2_0), .val (.int mv3_0), .val (.ref s4), .val (.ref s5), .val (.ref b6), .val (.int mv8_0), .val (.int (u2 &&& (7 : Int32)))] [])) _
            refine XS.iload X7.here hx rfl (hb hby at_253) rfl ?_
            show Steps p.tables e below (T7.setTop (mkF m 255 #[.val (.int u0), .val (.int u1), .val (.int u2), .val (.int ((u0 &&& (255 : Int32)).toUInt32.toUInt16.toUInt32.toInt32)), .val (.int ((((u0.toUInt32 >>> ((8 : Int32) &&& 31).toUInt32).toInt32) &&& (255 : Int32)).toUInt32.toUInt16.toUInt32.toInt32)), .val (.int ((((u0.toUInt32 >>> ((16 : Int32) &&& 31).toUInt32).toInt32) &&& (32767 : Int32)) % (3 : Int32))), .val (.int mv1_0), .val (.int mv2_0), .val (.int mv3_0), .val (.ref s4), .val (.ref s5), .val (.ref b6), .val (.int mv8_0), .val (.int (u2 &&& (7 : Int32)))] [(.int (u2 &&& (7 : Int32)))])) _
            refine XS.bipush X7.here hx rfl (hb hby at_255) ?_
            show Steps p.tables e below (T7.setTop (mkF m 257 #[.val (.int u0), .val (.int u1), .val (.int u2), .val (.int ((u0 &&& (255 : Int32)).toUInt32.toUInt16.toUInt32.toInt32)), .val (.int ((((u0.toUInt32 >>> ((8 : Int32) &&& 31).toUInt32).toInt32) &&& (255 : Int32)).toUInt32.toUInt16.toUInt32.toInt32)), .val (.int ((((u0.toUInt32 >>> ((16 : Int32) &&& 31).toUInt32).toInt32) &&& (32767 : Int32)) % (3 : Int32))), .val (.int mv1_0), .val (.int mv2_0), .val (.int mv3_0), .val (.ref s4), .val (.ref s5), .val (.ref b6), .val (.int mv8_0), .val (.int (u2 &&& (7 : Int32)))] [(.int (6 : Int32)), (.int (u2 &&& (7 : Int32)))])) _
            refine XS.icmpNo X7.here hx rfl (hb hby at_257) rfl (teq hc257).2 ?_
            show Steps p.tables e below (T7.setTop (mkF m 260 #[.val (.int u0), .val (.int u1), .val (.int u2), .val (.int ((u0 &&& (255 : Int32)).toUInt32.toUInt16.toUInt32.toInt32)), .val (.int ((((u0.toUInt32 >>> ((8 : Int32) &&& 31).toUInt32).toInt32) &&& (255 : Int32)).toUInt32.toUInt16.toUInt32.toInt32)), .val (.int ((((u0.toUInt32 >>> ((16 : Int32) &&& 31).toUInt32).toInt32) &&& (32767 : Int32)) % (3 : Int32))), .val (.int mv1_0), .val (.int mv2_0), .val (.int mv3_0), .val (.ref s4), .val (.ref s5), .val (.ref b6), .val (.int mv8_0), .val (.int (u2 &&& (7 : Int32)))] [])) _
            refine XS.aload X7.here hx rfl (hb hby at_260) rfl rfl ?_
            show Steps p.tables e below (T7.setTop (mkF m 262 #[.val (.int u0), .val (.int u1), .val (.int u2), .val (.int ((u0 &&& (255 : Int32)).toUInt32.toUInt16.toUInt32.toInt32)), .val (.int ((((u0.toUInt32 >>> ((8 : Int32) &&& 31).toUInt32).toInt32) &&& (255 : Int32)).toUInt32.toUInt16.toUInt32.toInt32)), .val (.int ((((u0.toUInt32 >>> ((16 : Int32) &&& 31).toUInt32).toInt32) &&& (32767 : Int32)) % (3 : Int32))), .val (.int mv1_0), .val (.int mv2_0), .val (.int mv3_0), .val (.ref s4), .val (.ref s5), .val (.ref b6), .val (.int mv8_0), .val (.int (u2 &&& (7 : Int32)))] [(.ref b6)])) _
            refine XS.aload X7.here hx rfl (hb hby at_262) rfl rfl ?_
            show Steps p.tables e below (T7.setTop (mkF m 264 #[.val (.int u0), .val (.int u1), .val (.int u2), .val (.int ((u0 &&& (255 : Int32)).toUInt32.toUInt16.toUInt32.toInt32)), .val (.int ((((u0.toUInt32 >>> ((8 : Int32) &&& 31).toUInt32).toInt32) &&& (255 : Int32)).toUInt32.toUInt16.toUInt32.toInt32)), .val (.int ((((u0.toUInt32 >>> ((16 : Int32) &&& 31).toUInt32).toInt32) &&& (32767 : Int32)) % (3 : Int32))), .val (.int mv1_0), .val (.int mv2_0), .val (.int mv3_0), .val (.ref s4), .val (.ref s5), .val (.ref b6), .val (.int mv8_0), .val (.int (u2 &&& (7 : Int32)))] [(.ref s5), (.ref b6)])) _
            refine st16.trans ?_
            show Steps p.tables e below (T16.setTop (mkF m 267 #[.val (.int u0), .val (.int u1), .val (.int u2), .val (.int ((u0 &&& (255 : Int32)).toUInt32.toUInt16.toUInt32.toInt32)), .val (.int ((((u0.toUInt32 >>> ((8 : Int32) &&& 31).toUInt32).toInt32) &&& (255 : Int32)).toUInt32.toUInt16.toUInt32.toInt32)), .val (.int ((((u0.toUInt32 >>> ((16 : Int32) &&& 31).toUInt32).toInt32) &&& (32767 : Int32)) % (3 : Int32))), .val (.int mv1_0), .val (.int mv2_0), .val (.int mv3_0), .val (.ref s4), .val (.ref s5), .val (.ref b6), .val (.int mv8_0), .val (.int (u2 &&& (7 : Int32)))] [(.int (0 : Int32))])) _
            refine XS.ifNo X16.here hx rfl (hb hby at_267) rfl ((if0 _ _).trans (teq (by decide)).2) ?_
            show Steps p.tables e below (T16.setTop (mkF m 270 #[.val (.int u0), .val (.int u1), .val (.int u2), .val (.int ((u0 &&& (255 : Int32)).toUInt32.toUInt16.toUInt32.toInt32)), .val (.int ((((u0.toUInt32 >>> ((8 : Int32) &&& 31).toUInt32).toInt32) &&& (255 : Int32)).toUInt32.toUInt16.toUInt32.toInt32)), .val (.int ((((u0.toUInt32 >>> ((16 : Int32) &&& 31).toUInt32).toInt32) &&& (32767 : Int32)) % (3 : Int32))), .val (.int mv1_0), .val (.int mv2_0), .val (.int mv3_0), .val (.ref s4), .val (.ref s5), .val (.ref b6), .val (.int mv8_0), .val (.int (u2 &&& (7 : Int32)))] [])) _
            refine XS.iconst X16.here hx rfl (hb hby at_270) ?_
            show Steps p.tables e below (T16.setTop (mkF m 271 #[.val (.int u0), .val (.int u1), .val (.int u2), .val (.int ((u0 &&& (255 : Int32)).toUInt32.toUInt16.toUInt32.toInt32)), .val (.int ((((u0.toUInt32 >>> ((8 : Int32) &&& 31).toUInt32).toInt32) &&& (255 : Int32)).toUInt32.toUInt16.toUInt32.toInt32)), .val (.int ((((u0.toUInt32 >>> ((16 : Int32) &&& 31).toUInt32).toInt32) &&& (32767 : Int32)) % (3 : Int32))), .val (.int mv1_0), .val (.int mv2_0), .val (.int mv3_0), .val (.ref s4), .val (.ref s5), .val (.ref b6), .val (.int mv8_0), .val (.int (u2 &&& (7 : Int32)))] [(.int (1 : Int32))])) _
            refine XS.goto X16.here hx rfl (pc0 := 271) (pc' := 275) rfl (hb hby at_271) (by decide) (by decide) ?_
            show Steps p.tables e below (T16.setTop (mkF m 275 #[.val (.int u0), .val (.int u1), .val (.int u2), .val (.int ((u0 &&& (255 : Int32)).toUInt32.toUInt16.toUInt32.toInt32)), .val (.int ((((u0.toUInt32 >>> ((8 : Int32) &&& 31).toUInt32).toInt32) &&& (255 : Int32)).toUInt32.toUInt16.toUInt32.toInt32)), .val (.int ((((u0.toUInt32 >>> ((16 : Int32) &&& 31).toUInt32).toInt32) &&& (32767 : Int32)) % (3 : Int32))), .val (.int mv1_0), .val (.int mv2_0), .val (.int mv3_0), .val (.ref s4), .val (.ref s5), .val (.ref b6), .val (.int mv8_0), .val (.int (u2 &&& (7 : Int32)))] [(.int (1 : Int32))])) _
            exact retN X16 hx (t := .boolean) Bd.returns (by simp) (hb hby at_275) hr
          · show Q0 Z u0 u1 u2 G_COMPACT h0 n0 _ T16.heap _
            rw [e16]
            exact ⟨rfl, N16⟩
          · show CHr Z EL s.vm s.heap T16.vm T16.heap
            rw [e16]
            rw [hh]
            exact C7.trans (CHv.at X16 hZ (hEL hw) C7.1)
        · obtain ⟨cq17, kq17, q17a, q17b, q17c⟩ := isOf hZ rfl A7
          obtain ⟨_, _, ⟨T17, L17, k17, n17⟩, -, X17, ⟨Lc17, hQ17, l17, y17, z17⟩, st17⟩ := X7.virtualBack hx (y := (⟨"com/example/triplewright/triplewright/rdf/Iri", "equals", "(Ljava/lang/Object;)Z"⟩ : MethodName)) (z := (⟨"com/example/triplewright/triplewright/rdf/Iri", "equals", "(Ljava/lang/Object;)Z"⟩ : MethodName)) hown (mvT hZ (hw _ (List.mem_of_getElem? (i := 41) rfl))) (mvT hZ (hw _ (List.mem_of_getElem? (i := 42) rfl))) (notFace_of_selects (args := #[]) (mvT hZ (hw _ (List.mem_of_getElem? (i := 44) rfl)))) (mvT hZ (hw _ (List.mem_of_getElem? (i := 44) rfl))) (mvT hZ (hw _ (List.mem_of_getElem? (i := 43) rfl))) (by decide) (backOf (W := 0) (rm7 l Z a0 hw [] b6 b6 s4 s4 d4 d4 kc4 kc4 (csOf ((((u0.toUInt32 >>> ((16 : Int32) &&& 31).toUInt32).toInt32) &&& (32767 : Int32)) % (3 : Int32)) ((u0 &&& (255 : Int32)).toUInt32.toUInt16.toUInt32.toInt32) ((((u0.toUInt32 >>> ((8 : Int32) &&& 31).toUInt32).toInt32) &&& (255 : Int32)).toUInt32.toUInt16.toUInt32.toInt32)) (csOf ((((u0.toUInt32 >>> ((16 : Int32) &&& 31).toUInt32).toInt32) &&& (32767 : Int32)) % (3 : Int32)) ((u0 &&& (255 : Int32)).toUInt32.toUInt16.toUInt32.toInt32) ((((u0.toUInt32 >>> ((8 : Int32) &&& 31).toUInt32).toInt32) &&& (255 : Int32)).toUInt32.toUInt16.toUInt32.toInt32)) G_COMPACT T7.heap n0 Z7 O7 A7 F7_value F7_value (((A4.keep K5).ext E6).keep K7) (((F4_coder.keep K5 nin0).ext E6).keep K7 (ninS (Nat.ne_of_lt (Nat.lt_of_lt_of_le (A4.keep K5).lt (Nat.le_of_eq g6.symm))) nin0)) (((F4_value.keep K5 nin0).ext E6).keep K7 (ninS (Nat.ne_of_lt (Nat.lt_of_lt_of_le (A4.keep K5).lt (Nat.le_of_eq g6.symm))) nin0)) (((V4.keep K5 nin0).ext E6).keep K7 (ninS (Nat.ne_of_lt (Nat.lt_of_lt_of_le (V4.keep K5 nin0).lt (Nat.le_of_eq g6.symm))) nin0)) (own_cs _ hCa0 hCa1) (own_len _ _ _) (((A4.keep K5).ext E6).keep K7) (((F4_coder.keep K5 nin0).ext E6).keep K7 (ninS (Nat.ne_of_lt (Nat.lt_of_lt_of_le (A4.keep K5).lt (Nat.le_of_eq g6.symm))) nin0)) (((F4_value.keep K5 nin0).ext E6).keep K7 (ninS (Nat.ne_of_lt (Nat.lt_of_lt_of_le (A4.keep K5).lt (Nat.le_of_eq g6.symm))) nin0)) (((V4.keep K5 nin0).ext E6).keep K7 (ninS (Nat.ne_of_lt (Nat.lt_of_lt_of_le (V4.keep K5 nin0).lt (Nat.le_of_eq g6.symm))) nin0)) (own_cs _ hCa0 hCa1) (own_len _ _ _) S_COMPACT P_COMPACT) hZ (hw _ (List.mem_of_getElem? (i := 45) rfl)) (hw _ (List.mem_of_getElem? (i := 28) rfl)) (by decide) (by decide)) q17a q17c (g := (mkF m 280 #[.val (.int u0), .val (.int u1), .val (.int u2), .val (.int ((u0 &&& (255 : Int32)).toUInt32.toUInt16.toUInt32.toInt32)), .val (.int ((((u0.toUInt32 >>> ((8 : Int32) &&& 31).toUInt32).toInt32) &&& (255 : Int32)).toUInt32.toUInt16.toUInt32.toInt32)), .val (.int ((((u0.toUInt32 >>> ((16 : Int32) &&& 31).toUInt32).toInt32) &&& (32767 : Int32)) % (3 : Int32))), .val (.int mv1_0), .val (.int mv2_0), .val (.int mv3_0), .val (.ref s4), .val (.ref s5), .val (.ref b6), .val (.int mv8_0), .val (.int (u2 &&& (7 : Int32)))] [(.ref b6), (.ref b6)])) rfl (by rw [hml]; rfl) (Steps.refl _) (argsL := [(.ref b6)]) (rest := []) (lenOf pd_2 rfl) rfl (by show 2 * 0 + _ ≤ _; exact Nat.le_of_eq rfl) (hb hby at_280) (fun _ _ => ⟨rfl, rfl, (by decide : 15 + 0 ≤ _), (by decide : 50 + 0 ≤ _)⟩)
          dsimp only [Pt.U, Pt.locs, Pt.cells, Pt.slots] at X17 l17 y17 z17 st17 hQ17
          subst l17 y17 z17
          obtain ⟨rfl, N17q, e17⟩ := hQ17
          have N17 := Fr.app N7 N17q
          obtain ⟨fs, hr, hrun, hended, hE⟩ := X17.leaveW hS7 (Nat.le_trans hk7 (Nat.le_of_eq (congrArg Array.size e17).symm)) (v := some (.int (nar .boolean (eqI (csOf ((((u0.toUInt32 >>> ((16 : Int32) &&& 31).toUInt32).toInt32) &&& (32767 : Int32)) % (3 : Int32)) ((u0 &&& (255 : Int32)).toUInt32.toUInt16.toUInt32.toInt32) ((((u0.toUInt32 >>> ((8 : Int32) &&& 31).toUInt32).toInt32) &&& (255 : Int32)).toUInt32.toUInt16.toUInt32.toInt32)) (csOf ((((u0.toUInt32 >>> ((16 : Int32) &&& 31).toUInt32).toInt32) &&& (32767 : Int32)) % (3 : Int32)) ((u0 &&& (255 : Int32)).toUInt32.toUInt16.toUInt32.toInt32) ((((u0.toUInt32 >>> ((8 : Int32) &&& 31).toUInt32).toInt32) &&& (255 : Int32)).toUInt32.toUInt16.toUInt32.toInt32)))))) (fun h => by rw [Bd.returns] at h; cases h)
          refine ⟨_, _, pre0 _ ?_, hrun, hended, _, _, rfl, ?_, ?_, own_monoW hE (by decide) (by decide)⟩
          · show Steps p.tables e below (s₁.setTop (mkF m 0 #[.val (.int u0), .val (.int u1), .val (.int u2), .unset, .unset, .unset, .unset, .unset, .unset, .unset, .unset, .unset, .unset, .unset] [])) _
            refine XS.iloadN X0.here hx rfl (hb hby at_0) rfl ?_
            show Steps p.tables e below (s₁.setTop (mkF m 1 #[.val (.int u0), .val (.int u1), .val (.int u2), .unset, .unset, .unset, .unset, .unset, .unset, .unset, .unset, .unset, .unset, .unset] [(.int u0)])) _
            refine XS.sipush X0.here hx rfl (hb hby at_1) ?_
            show Steps p.tables e below (s₁.setTop (mkF m 4 #[.val (.int u0), .val (.int u1), .val (.int u2), .unset, .unset, .unset, .unset, .unset, .unset, .unset, .unset, .unset, .unset, .unset] [(.int (255 : Int32)), (.int u0)])) _
            refine XS.iand X0.here hx rfl (hb hby at_4) rfl ?_
            show Steps p.tables e below (s₁.setTop (mkF m 5 #[.val (.int u0), .val (.int u1), .val (.int u2), .unset, .unset, .unset, .unset, .unset, .unset, .unset, .unset, .unset, .unset, .unset] [(.int (u0 &&& (255 : Int32)))])) _
            refine XS.i2c X0.here hx rfl (hb hby at_5) rfl ?_
            show Steps p.tables e below (s₁.setTop (mkF m 6 #[.val (.int u0), .val (.int u1), .val (.int u2), .unset, .unset, .unset, .unset, .unset, .unset, .unset, .unset, .unset, .unset, .unset] [(.int ((u0 &&& (255 : Int32)).toUInt32.toUInt16.toUInt32.toInt32))])) _
            refine XS.istoreN X0.here hx rfl (hb hby at_6) rfl (l' := #[.val (.int u0), .val (.int u1), .val (.int u2), .val (.int ((u0 &&& (255 : Int32)).toUInt32.toUInt16.toUInt32.toInt32)), .unset, .unset, .unset, .unset, .unset, .unset, .unset, .unset, .unset, .unset]) rfl ?_
            show Steps p.tables e below (s₁.setTop (mkF m 7 #[.val (.int u0), .val (.int u1), .val (.int u2), .val (.int ((u0 &&& (255 : Int32)).toUInt32.toUInt16.toUInt32.toInt32)), .unset, .unset, .unset, .unset, .unset, .unset, .unset, .unset, .unset, .unset] [])) _
            refine XS.iloadN X0.here hx rfl (hb hby at_7) rfl ?_
            show Steps p.tables e below (s₁.setTop (mkF m 8 #[.val (.int u0), .val (.int u1), .val (.int u2), .val (.int ((u0 &&& (255 : Int32)).toUInt32.toUInt16.toUInt32.toInt32)), .unset, .unset, .unset, .unset, .unset, .unset, .unset, .unset, .unset, .unset] [(.int u0)])) _
            refine XS.bipush X0.here hx rfl (hb hby at_8) ?_
            show Steps p.tables e below (s₁.setTop (mkF m 10 #[.val (.int u0), .val (.int u1), .val (.int u2), .val (.int ((u0 &&& (255 : Int32)).toUInt32.toUInt16.toUInt32.toInt32)), .unset, .unset, .unset, .unset, .unset, .unset, .unset, .unset, .unset, .unset] [(.int (8 : Int32)), (.int u0)])) _
            refine XS.iushr X0.here hx rfl (hb hby at_10) rfl ?_
            show Steps p.tables e below (s₁.setTop (mkF m 11 #[.val (.int u0), .val (.int u1), .val (.int u2), .val (.int ((u0 &&& (255 : Int32)).toUInt32.toUInt16.toUInt32.toInt32)), .unset, .unset, .unset, .unset, .unset, .unset, .unset, .unset, .unset, .unset] [(.int ((u0.toUInt32 >>> ((8 : Int32) &&& 31).toUInt32).toInt32))])) _
            refine XS.sipush X0.here hx rfl (hb hby at_11) ?_
            show Steps p.tables e below (s₁.setTop (mkF m 14 #[.val (.int u0), .val (.int u1), .val (.int u2), .val (.int ((u0 &&& (255 : Int32)).toUInt32.toUInt16.toUInt32.toInt32)), .unset, .unset, .unset, .unset, .unset, .unset, .unset, .unset, .unset, .unset] [(.int (255 : Int32)), (.int ((u0.toUInt32 >>> ((8 : Int32) &&& 31).toUInt32).toInt32))])) _
            refine XS.iand X0.here hx rfl (hb hby at_14) rfl ?_
            show Steps p.tables e below (s₁.setTop (mkF m 15 #[.val (.int u0), .val (.int u1), .val (.int u2), .val (.int ((u0 &&& (255 : Int32)).toUInt32.toUInt16.toUInt32.toInt32)), .unset, .unset, .unset, .unset, .unset, .unset, .unset, .unset, .unset, .unset] [(.int (((u0.toUInt32 >>> ((8 : Int32) &&& 31).toUInt32).toInt32) &&& (255 : Int32)))])) _
            refine XS.i2c X0.here hx rfl (hb hby at_15) rfl ?_
            show Steps p.tables e below (s₁.setTop (mkF m 16 #[.val (.int u0), .val (.int u1), .val (.int u2), .val (.int ((u0 &&& (255 : Int32)).toUInt32.toUInt16.toUInt32.toInt32)), .unset, .unset, .unset, .unset, .unset, .unset, .unset, .unset, .unset, .unset] [(.int ((((u0.toUInt32 >>> ((8 : Int32) &&& 31).toUInt32).toInt32) &&& (255 : Int32)).toUInt32.toUInt16.toUInt32.toInt32))])) _
            refine XS.istore X0.here hx rfl (hb hby at_16) rfl (l' := #[.val (.int u0), .val (.int u1), .val (.int u2), .val (.int ((u0 &&& (255 : Int32)).toUInt32.toUInt16.toUInt32.toInt32)), .val (.int ((((u0.toUInt32 >>> ((8 : Int32) &&& 31).toUInt32).toInt32) &&& (255 : Int32)).toUInt32.toUInt16.toUInt32.toInt32)), .unset, .unset, .unset, .unset, .unset, .unset, .unset, .unset, .unset]) rfl ?_
            show Steps p.tables e below (s₁.setTop (mkF m 18 #[.val (.int u0), .val (.int u1), .val (.int u2), .val (.int ((u0 &&& (255 : Int32)).toUInt32.toUInt16.toUInt32.toInt32)), .val (.int ((((u0.toUInt32 >>> ((8 : Int32) &&& 31).toUInt32).toInt32) &&& (255 : Int32)).toUInt32.toUInt16.toUInt32.toInt32)), .unset, .unset, .unset, .unset, .unset, .unset, .unset, .unset, .unset] [])) _
            refine XS.iloadN X0.here hx rfl (hb hby at_18) rfl ?_
            show Steps p.tables e below (s₁.setTop (mkF m 19 #[.val (.int u0), .val (.int u1), .val (.int u2), .val (.int ((u0 &&& (255 : Int32)).toUInt32.toUInt16.toUInt32.toInt32)), .val (.int ((((u0.toUInt32 >>> ((8 : Int32) &&& 31).toUInt32).toInt32) &&& (255 : Int32)).toUInt32.toUInt16.toUInt32.toInt32)), .unset, .unset, .unset, .unset, .unset, .unset, .unset, .unset, .unset] [(.int u0)])) _
            refine XS.bipush X0.here hx rfl (hb hby at_19) ?_
            show Steps p.tables e below (s₁.setTop (mkF m 21 #[.val (.int u0), .val (.int u1), .val (.int u2), .val (.int ((u0 &&& (255 : Int32)).toUInt32.toUInt16.toUInt32.toInt32)), .val (.int ((((u0.toUInt32 >>> ((8 : Int32) &&& 31).toUInt32).toInt32) &&& (255 : Int32)).toUInt32.toUInt16.toUInt32.toInt32)), .unset, .unset, .unset, .unset, .unset, .unset, .unset, .unset, .unset] [(.int (16 : Int32)), (.int u0)])) _
            refine XS.iushr X0.here hx rfl (hb hby at_21) rfl ?_
            show Steps p.tables e below (s₁.setTop (mkF m 22 #[.val (.int u0), .val (.int u1), .val (.int u2), .val (.int ((u0 &&& (255 : Int32)).toUInt32.toUInt16.toUInt32.toInt32)), .val (.int ((((u0.toUInt32 >>> ((8 : Int32) &&& 31).toUInt32).toInt32) &&& (255 : Int32)).toUInt32.toUInt16.toUInt32.toInt32)), .unset, .unset, .unset, .unset, .unset, .unset, .unset, .unset, .unset] [(.int ((u0.toUInt32 >>> ((16 : Int32) &&& 31).toUInt32).toInt32))])) _
            refine XS.sipush X0.here hx rfl (hb hby at_22) ?_
            show Steps p.tables e below (s₁.setTop (mkF m 25 #[.val (.int u0), .val (.int u1), .val (.int u2), .val (.int ((u0 &&& (255 : Int32)).toUInt32.toUInt16.toUInt32.toInt32)), .val (.int ((((u0.toUInt32 >>> ((8 : Int32) &&& 31).toUInt32).toInt32) &&& (255 : Int32)).toUInt32.toUInt16.toUInt32.toInt32)), .unset, .unset, .unset, .unset, .unset, .unset, .unset, .unset, .unset] [(.int (32767 : Int32)), (.int ((u0.toUInt32 >>> ((16 : Int32) &&& 31).toUInt32).toInt32))])) _
            refine XS.iand X0.here hx rfl (hb hby at_25) rfl ?_
            show Steps p.tables e below (s₁.setTop (mkF m 26 #[.val (.int u0), .val (.int u1), .val (.int u2), .val (.int ((u0 &&& (255 : Int32)).toUInt32.toUInt16.toUInt32.toInt32)), .val (.int ((((u0.toUInt32 >>> ((8 : Int32) &&& 31).toUInt32).toInt32) &&& (255 : Int32)).toUInt32.toUInt16.toUInt32.toInt32)), .unset, .unset, .unset, .unset, .unset, .unset, .unset, .unset, .unset] [(.int (((u0.toUInt32 >>> ((16 : Int32) &&& 31).toUInt32).toInt32) &&& (32767 : Int32)))])) _
            refine XS.iconst X0.here hx rfl (hb hby at_26) ?_
            show Steps p.tables e below (s₁.setTop (mkF m 27 #[.val (.int u0), .val (.int u1), .val (.int u2), .val (.int ((u0 &&& (255 : Int32)).toUInt32.toUInt16.toUInt32.toInt32)), .val (.int ((((u0.toUInt32 >>> ((8 : Int32) &&& 31).toUInt32).toInt32) &&& (255 : Int32)).toUInt32.toUInt16.toUInt32.toInt32)), .unset, .unset, .unset, .unset, .unset, .unset, .unset, .unset, .unset] [(.int (3 : Int32)), (.int (((u0.toUInt32 >>> ((16 : Int32) &&& 31).toUInt32).toInt32) &&& (32767 : Int32)))])) _
            refine iremM X0 hx rfl (hb hby at_27) rfl (by decide) ?_
            show Steps p.tables e below (s₁.setTop (mkF m 28 #[.val (.int u0), .val (.int u1), .val (.int u2), .val (.int ((u0 &&& (255 : Int32)).toUInt32.toUInt16.toUInt32.toInt32)), .val (.int ((((u0.toUInt32 >>> ((8 : Int32) &&& 31).toUInt32).toInt32) &&& (255 : Int32)).toUInt32.toUInt16.toUInt32.toInt32)), .unset, .unset, .unset, .unset, .unset, .unset, .unset, .unset, .unset] [(.int ((((u0.toUInt32 >>> ((16 : Int32) &&& 31).toUInt32).toInt32) &&& (32767 : Int32)) % (3 : Int32)))])) _
            refine XS.istore X0.here hx rfl (hb hby at_28) rfl (l' := #[.val (.int u0), .val (.int u1), .val (.int u2), .val (.int ((u0 &&& (255 : Int32)).toUInt32.toUInt16.toUInt32.toInt32)), .val (.int ((((u0.toUInt32 >>> ((8 : Int32) &&& 31).toUInt32).toInt32) &&& (255 : Int32)).toUInt32.toUInt16.toUInt32.toInt32)), .val (.int ((((u0.toUInt32 >>> ((16 : Int32) &&& 31).toUInt32).toInt32) &&& (32767 : Int32)) % (3 : Int32))), .unset, .unset, .unset, .unset, .unset, .unset, .unset, .unset]) rfl ?_
            show Steps p.tables e below (s₁.setTop (mkF m 30 #[.val (.int u0), .val (.int u1), .val (.int u2), .val (.int ((u0 &&& (255 : Int32)).toUInt32.toUInt16.toUInt32.toInt32)), .val (.int ((((u0.toUInt32 >>> ((8 : Int32) &&& 31).toUInt32).toInt32) &&& (255 : Int32)).toUInt32.toUInt16.toUInt32.toInt32)), .val (.int ((((u0.toUInt32 >>> ((16 : Int32) &&& 31).toUInt32).toInt32) &&& (32767 : Int32)) % (3 : Int32))), .unset, .unset, .unset, .unset, .unset, .unset, .unset, .unset] [])) _
            refine XS.iloadN X0.here hx rfl (hb hby at_30) rfl ?_
            show Steps p.tables e below (s₁.setTop (mkF m 31 #[.val (.int u0), .val (.int u1), .val (.int u2), .val (.int ((u0 &&& (255 : Int32)).toUInt32.toUInt16.toUInt32.toInt32)), .val (.int ((((u0.toUInt32 >>> ((8 : Int32) &&& 31).toUInt32).toInt32) &&& (255 : Int32)).toUInt32.toUInt16.toUInt32.toInt32)), .val (.int ((((u0.toUInt32 >>> ((16 : Int32) &&& 31).toUInt32).toInt32) &&& (32767 : Int32)) % (3 : Int32))), .unset, .unset, .unset, .unset, .unset, .unset, .unset, .unset] [(.int u1)])) _
            refine XS.iconst X0.here hx rfl (hb hby at_31) ?_
            show Steps p.tables e below (s₁.setTop (mkF m 32 #[.val (.int u0), .val (.int u1), .val (.int u2), .val (.int ((u0 &&& (255 : Int32)).toUInt32.toUInt16.toUInt32.toInt32)), .val (.int ((((u0.toUInt32 >>> ((8 : Int32) &&& 31).toUInt32).toInt32) &&& (255 : Int32)).toUInt32.toUInt16.toUInt32.toInt32)), .val (.int ((((u0.toUInt32 >>> ((16 : Int32) &&& 31).toUInt32).toInt32) &&& (32767 : Int32)) % (3 : Int32))), .unset, .unset, .unset, .unset, .unset, .unset, .unset, .unset] [(.int (1 : Int32)), (.int u1)])) _
            refine XS.iand X0.here hx rfl (hb hby at_32) rfl ?_
            refine st1 _ ?_
            show Steps p.tables e below (s₁.setTop (mkF m 49 #[.val (.int u0), .val (.int u1), .val (.int u2), .val (.int ((u0 &&& (255 : Int32)).toUInt32.toUInt16.toUInt32.toInt32)), .val (.int ((((u0.toUInt32 >>> ((8 : Int32) &&& 31).toUInt32).toInt32) &&& (255 : Int32)).toUInt32.toUInt16.toUInt32.toInt32)), .val (.int ((((u0.toUInt32 >>> ((16 : Int32) &&& 31).toUInt32).toInt32) &&& (32767 : Int32)) % (3 : Int32))), .unset, .unset, .unset, .unset, .unset, .unset, .unset, .unset] [(.int mv1_0)])) _
            refine XS.istore X0.here hx rfl (hb hby at_49) rfl (l' := #[.val (.int u0), .val (.int u1), .val (.int u2), .val (.int ((u0 &&& (255 : Int32)).toUInt32.toUInt16.toUInt32.toInt32)), .val (.int ((((u0.toUInt32 >>> ((8 : Int32) &&& 31).toUInt32).toInt32) &&& (255 : Int32)).toUInt32.toUInt16.toUInt32.toInt32)), .val (.int ((((u0.toUInt32 >>> ((16 : Int32) &&& 31).toUInt32).toInt32) &&& (32767 : Int32)) % (3 : Int32))), .val (.int mv1_0), .unset, .unset, .unset, .unset, .unset, .unset, .unset]) rfl ?_
            show Steps p.tables e below (s₁.setTop (mkF m 51 #[.val (.int u0), .val (.int u1), .val (.int u2), .val (.int ((u0 &&& (255 : Int32)).toUInt32.toUInt16.toUInt32.toInt32)), .val (.int ((((u0.toUInt32 >>> ((8 : Int32) &&& 31).toUInt32).toInt32) &&& (255 : Int32)).toUInt32.toUInt16.toUInt32.toInt32)), .val (.int ((((u0.toUInt32 >>> ((16 : Int32) &&& 31).toUInt32).toInt32) &&& (32767 : Int32)) % (3 : Int32))), .val (.int mv1_0), .unset, .unset, .unset, .unset, .unset, .unset, .unset] [])) _
            refine XS.iloadN X0.here hx rfl (hb hby at_51) rfl ?_
            show Steps p.tables e below (s₁.setTop (mkF m 52 #[.val (.int u0), .val (.int u1), .val (.int u2), .val (.int ((u0 &&& (255 : Int32)).toUInt32.toUInt16.toUInt32.toInt32)), .val (.int ((((u0.toUInt32 >>> ((8 : Int32) &&& 31).toUInt32).toInt32) &&& (255 : Int32)).toUInt32.toUInt16.toUInt32.toInt32)), .val (.int ((((u0.toUInt32 >>> ((16 : Int32) &&& 31).toUInt32).toInt32) &&& (32767 : Int32)) % (3 : Int32))), .val (.int mv1_0), .unset, .unset, .unset, .unset, .unset, .unset, .unset] [(.int u1)])) _
            refine XS.iconst X0.here hx rfl (hb hby at_52) ?_
            show Steps p.tables e below (s₁.setTop (mkF m 53 #[.val (.int u0), .val (.int u1), .val (.int u2), .val (.int ((u0 &&& (255 : Int32)).toUInt32.toUInt16.toUInt32.toInt32)), .val (.int ((((u0.toUInt32 >>> ((8 : Int32) &&& 31).toUInt32).toInt32) &&& (255 : Int32)).toUInt32.toUInt16.toUInt32.toInt32)), .val (.int ((((u0.toUInt32 >>> ((16 : Int32) &&& 31).toUInt32).toInt32) &&& (32767 : Int32)) % (3 : Int32))), .val (.int mv1_0), .unset, .unset, .unset, .unset, .unset, .unset, .unset] [(.int (2 : Int32)), (.int u1)])) _
            refine XS.iand X0.here hx rfl (hb hby at_53) rfl ?_
            refine st2 _ ?_
            show Steps p.tables e below (s₁.setTop (mkF m 71 #[.val (.int u0), .val (.int u1), .val (.int u2), .val (.int ((u0 &&& (255 : Int32)).toUInt32.toUInt16.toUInt32.toInt32)), .val (.int ((((u0.toUInt32 >>> ((8 : Int32) &&& 31).toUInt32).toInt32) &&& (255 : Int32)).toUInt32.toUInt16.toUInt32.toInt32)), .val (.int ((((u0.toUInt32 >>> ((16 : Int32) &&& 31).toUInt32).toInt32) &&& (32767 : Int32)) % (3 : Int32))), .val (.int mv1_0), .unset, .unset, .unset, .unset, .unset, .unset, .unset] [(.int mv2_0)])) _
            refine XS.istore X0.here hx rfl (hb hby at_71) rfl (l' := #[.val (.int u0), .val (.int u1), .val (.int u2), .val (.int ((u0 &&& (255 : Int32)).toUInt32.toUInt16.toUInt32.toInt32)), .val (.int ((((u0.toUInt32 >>> ((8 : Int32) &&& 31).toUInt32).toInt32) &&& (255 : Int32)).toUInt32.toUInt16.toUInt32.toInt32)), .val (.int ((((u0.toUInt32 >>> ((16 : Int32) &&& 31).toUInt32).toInt32) &&& (32767 : Int32)) % (3 : Int32))), .val (.int mv1_0), .val (.int mv2_0), .unset, .unset, .unset, .unset, .unset, .unset]) rfl ?_
            show Steps p.tables e below (s₁.setTop (mkF m 73 #[.val (.int u0), .val (.int u1), .val (.int u2), .val (.int ((u0 &&& (255 : Int32)).toUInt32.toUInt16.toUInt32.toInt32)), .val (.int ((((u0.toUInt32 >>> ((8 : Int32) &&& 31).toUInt32).toInt32) &&& (255 : Int32)).toUInt32.toUInt16.toUInt32.toInt32)), .val (.int ((((u0.toUInt32 >>> ((16 : Int32) &&& 31).toUInt32).toInt32) &&& (32767 : Int32)) % (3 : Int32))), .val (.int mv1_0), .val (.int mv2_0), .unset, .unset, .unset, .unset, .unset, .unset] [])) _
            refine XS.iloadN X0.here hx rfl (hb hby at_73) rfl ?_
            show Steps p.tables e below (s₁.setTop (mkF m 74 #[.val (.int u0), .val (.int u1), .val (.int u2), .val (.int ((u0 &&& (255 : Int32)).toUInt32.toUInt16.toUInt32.toInt32)), .val (.int ((((u0.toUInt32 >>> ((8 : Int32) &&& 31).toUInt32).toInt32) &&& (255 : Int32)).toUInt32.toUInt16.toUInt32.toInt32)), .val (.int ((((u0.toUInt32 >>> ((16 : Int32) &&& 31).toUInt32).toInt32) &&& (32767 : Int32)) % (3 : Int32))), .val (.int mv1_0), .val (.int mv2_0), .unset, .unset, .unset, .unset, .unset, .unset] [(.int u1)])) _
            refine XS.iconst X0.here hx rfl (hb hby at_74) ?_
            show Steps p.tables e below (s₁.setTop (mkF m 75 #[.val (.int u0), .val (.int u1), .val (.int u2), .val (.int ((u0 &&& (255 : Int32)).toUInt32.toUInt16.toUInt32.toInt32)), .val (.int ((((u0.toUInt32 >>> ((8 : Int32) &&& 31).toUInt32).toInt32) &&& (255 : Int32)).toUInt32.toUInt16.toUInt32.toInt32)), .val (.int ((((u0.toUInt32 >>> ((16 : Int32) &&& 31).toUInt32).toInt32) &&& (32767 : Int32)) % (3 : Int32))), .val (.int mv1_0), .val (.int mv2_0), .unset, .unset, .unset, .unset, .unset, .unset] [(.int (4 : Int32)), (.int u1)])) _
            refine XS.iand X0.here hx rfl (hb hby at_75) rfl ?_
            refine st3 _ ?_
            show Steps p.tables e below (s₁.setTop (mkF m 93 #[.val (.int u0), .val (.int u1), .val (.int u2), .val (.int ((u0 &&& (255 : Int32)).toUInt32.toUInt16.toUInt32.toInt32)), .val (.int ((((u0.toUInt32 >>> ((8 : Int32) &&& 31).toUInt32).toInt32) &&& (255 : Int32)).toUInt32.toUInt16.toUInt32.toInt32)), .val (.int ((((u0.toUInt32 >>> ((16 : Int32) &&& 31).toUInt32).toInt32) &&& (32767 : Int32)) % (3 : Int32))), .val (.int mv1_0), .val (.int mv2_0), .unset, .unset, .unset, .unset, .unset, .unset] [(.int mv3_0)])) _
            refine XS.istore X0.here hx rfl (hb hby at_93) rfl (l' := #[.val (.int u0), .val (.int u1), .val (.int u2), .val (.int ((u0 &&& (255 : Int32)).toUInt32.toUInt16.toUInt32.toInt32)), .val (.int ((((u0.toUInt32 >>> ((8 : Int32) &&& 31).toUInt32).toInt32) &&& (255 : Int32)).toUInt32.toUInt16.toUInt32.toInt32)), .val (.int ((((u0.toUInt32 >>> ((16 : Int32) &&& 31).toUInt32).toInt32) &&& (32767 : Int32)) % (3 : Int32))), .val (.int mv1_0), .val (.int mv2_0), .val (.int mv3_0), .unset, .unset, .unset, .unset, .unset]) rfl ?_
            show Steps p.tables e below (s₁.setTop (mkF m 95 #[.val (.int u0), .val (.int u1), .val (.int u2), .val (.int ((u0 &&& (255 : Int32)).toUInt32.toUInt16.toUInt32.toInt32)), .val (.int ((((u0.toUInt32 >>> ((8 : Int32) &&& 31).toUInt32).toInt32) &&& (255 : Int32)).toUInt32.toUInt16.toUInt32.toInt32)), .val (.int ((((u0.toUInt32 >>> ((16 : Int32) &&& 31).toUInt32).toInt32) &&& (32767 : Int32)) % (3 : Int32))), .val (.int mv1_0), .val (.int mv2_0), .val (.int mv3_0), .unset, .unset, .unset, .unset, .unset] [])) _
            refine XS.iload X0.here hx rfl (hb hby at_95) rfl ?_
            show Steps p.tables e below (s₁.setTop (mkF m 97 #[.val (.int u0), .val (.int u1), .val (.int u2), .val (.int ((u0 &&& (255 : Int32)).toUInt32.toUInt16.toUInt32.toInt32)), .val (.int ((((u0.toUInt32 >>> ((8 : Int32) &&& 31).toUInt32).toInt32) &&& (255 : Int32)).toUInt32.toUInt16.toUInt32.toInt32)), .val (.int ((((u0.toUInt32 >>> ((16 : Int32) &&& 31).toUInt32).toInt32) &&& (32767 : Int32)) % (3 : Int32))), .val (.int mv1_0), .val (.int mv2_0), .val (.int mv3_0), .unset, .unset, .unset, .unset, .unset] [(.int ((((u0.toUInt32 >>> ((16 : Int32) &&& 31).toUInt32).toInt32) &&& (32767 : Int32)) % (3 : Int32)))])) _
            refine XS.iloadN X0.here hx rfl (hb hby at_97) rfl ?_
            show Steps p.tables e below (s₁.setTop (mkF m 98 #[.val (.int u0), .val (.int u1), .val (.int u2), .val (.int ((u0 &&& (255 : Int32)).toUInt32.toUInt16.toUInt32.toInt32)), .val (.int ((((u0.toUInt32 >>> ((8 : Int32) &&& 31).toUInt32).toInt32) &&& (255 : Int32)).toUInt32.toUInt16.toUInt32.toInt32)), .val (.int ((((u0.toUInt32 >>> ((16 : Int32) &&& 31).toUInt32).toInt32) &&& (32767 : Int32)) % (3 : Int32))), .val (.int mv1_0), .val (.int mv2_0), .val (.int mv3_0), .unset, .unset, .unset, .unset, .unset] [(.int ((u0 &&& (255 : Int32)).toUInt32.toUInt16.toUInt32.toInt32)), (.int ((((u0.toUInt32 >>> ((16 : Int32) &&& 31).toUInt32).toInt32) &&& (32767 : Int32)) % (3 : Int32)))])) _
            refine XS.iload X0.here hx rfl (hb hby at_98) rfl ?_
            show Steps p.tables e below (s₁.setTop (mkF m 100 #[.val (.int u0), .val (.int u1), .val (.int u2), .val (.int ((u0 &&& (255 : Int32)).toUInt32.toUInt16.toUInt32.toInt32)), .val (.int ((((u0.toUInt32 >>> ((8 : Int32) &&& 31).toUInt32).toInt32) &&& (255 : Int32)).toUInt32.toUInt16.toUInt32.toInt32)), .val (.int ((((u0.toUInt32 >>> ((16 : Int32) &&& 31).toUInt32).toInt32) &&& (32767 : Int32)) % (3 : Int32))), .val (.int mv1_0), .val (.int mv2_0), .val (.int mv3_0), .unset, .unset, .unset, .unset, .unset] [(.int ((((u0.toUInt32 >>> ((8 : Int32) &&& 31).toUInt32).toInt32) &&& (255 : Int32)).toUInt32.toUInt16.toUInt32.toInt32)), (.int ((u0 &&& (255 : Int32)).toUInt32.toUInt16.toUInt32.toInt32)), (.int ((((u0.toUInt32 >>> ((16 : Int32) &&& 31).toUInt32).toInt32) &&& (32767 : Int32)) % (3 : Int32)))])) _
            refine st4.trans ?_
            show Steps p.tables e below (T4.setTop (mkF m 103 #[.val (.int u0), .val (.int u1), .val (.int u2), .val (.int ((u0 &&& (255 : Int32)).toUInt32.toUInt16.toUInt32.toInt32)), .val (.int ((((u0.toUInt32 >>> ((8 : Int32) &&& 31).toUInt32).toInt32) &&& (255 : Int32)).toUInt32.toUInt16.toUInt32.toInt32)), .val (.int ((((u0.toUInt32 >>> ((16 : Int32) &&& 31).toUInt32).toInt32) &&& (32767 : Int32)) % (3 : Int32))), .val (.int mv1_0), .val (.int mv2_0), .val (.int mv3_0), .unset, .unset, .unset, .unset, .unset] [(.ref s4)])) _
            refine XS.astore X4.here hx rfl (hb hby at_103) rfl rfl (l' := #[.val (.int u0), .val (.int u1), .val (.int u2), .val (.int ((u0 &&& (255 : Int32)).toUInt32.toUInt16.toUInt32.toInt32)), .val (.int ((((u0.toUInt32 >>> ((8 : Int32) &&& 31).toUInt32).toInt32) &&& (255 : Int32)).toUInt32.toUInt16.toUInt32.toInt32)), .val (.int ((((u0.toUInt32 >>> ((16 : Int32) &&& 31).toUInt32).toInt32) &&& (32767 : Int32)) % (3 : Int32))), .val (.int mv1_0), .val (.int mv2_0), .val (.int mv3_0), .val (.ref s4), .unset, .unset, .unset, .unset]) rfl ?_
            show Steps p.tables e below (T4.setTop (mkF m 105 #[.val (.int u0), .val (.int u1), .val (.int u2), .val (.int ((u0 &&& (255 : Int32)).toUInt32.toUInt16.toUInt32.toInt32)), .val (.int ((((u0.toUInt32 >>> ((8 : Int32) &&& 31).toUInt32).toInt32) &&& (255 : Int32)).toUInt32.toUInt16.toUInt32.toInt32)), .val (.int ((((u0.toUInt32 >>> ((16 : Int32) &&& 31).toUInt32).toInt32) &&& (32767 : Int32)) % (3 : Int32))), .val (.int mv1_0), .val (.int mv2_0), .val (.int mv3_0), .val (.ref s4), .unset, .unset, .unset, .unset] [])) _
            refine XS.iload X4.here hx rfl (hb hby at_105) rfl ?_
            show Steps p.tables e below (T4.setTop (mkF m 107 #[.val (.int u0), .val (.int u1), .val (.int u2), .val (.int ((u0 &&& (255 : Int32)).toUInt32.toUInt16.toUInt32.toInt32)), .val (.int ((((u0.toUInt32 >>> ((8 : Int32) &&& 31).toUInt32).toInt32) &&& (255 : Int32)).toUInt32.toUInt16.toUInt32.toInt32)), .val (.int ((((u0.toUInt32 >>> ((16 : Int32) &&& 31).toUInt32).toInt32) &&& (32767 : Int32)) % (3 : Int32))), .val (.int mv1_0), .val (.int mv2_0), .val (.int mv3_0), .val (.ref s4), .unset, .unset, .unset, .unset] [(.int mv3_0)])) _
            refine XS.iload X4.here hx rfl (hb hby at_107) rfl ?_
            show Steps p.tables e below (T4.setTop (mkF m 109 #[.val (.int u0), .val (.int u1), .val (.int u2), .val (.int ((u0 &&& (255 : Int32)).toUInt32.toUInt16.toUInt32.toInt32)), .val (.int ((((u0.toUInt32 >>> ((8 : Int32) &&& 31).toUInt32).toInt32) &&& (255 : Int32)).toUInt32.toUInt16.toUInt32.toInt32)), .val (.int ((((u0.toUInt32 >>> ((16 : Int32) &&& 31).toUInt32).toInt32) &&& (32767 : Int32)) % (3 : Int32))), .val (.int mv1_0), .val (.int mv2_0), .val (.int mv3_0), .val (.ref s4), .unset, .unset, .unset, .unset] [(.int mv1_0), (.int mv3_0)])) _
            refine XS.iload X4.here hx rfl (hb hby at_109) rfl ?_
            show Steps p.tables e below (T4.setTop (mkF m 111 #[.val (.int u0), .val (.int u1), .val (.int u2), .val (.int ((u0 &&& (255 : Int32)).toUInt32.toUInt16.toUInt32.toInt32)), .val (.int ((((u0.toUInt32 >>> ((8 : Int32) &&& 31).toUInt32).toInt32) &&& (255 : Int32)).toUInt32.toUInt16.toUInt32.toInt32)), .val (.int ((((u0.toUInt32 >>> ((16 : Int32) &&& 31).toUInt32).toInt32) &&& (32767 : Int32)) % (3 : Int32))), .val (.int mv1_0), .val (.int mv2_0), .val (.int mv3_0), .val (.ref s4), .unset, .unset, .unset, .unset] [(.int mv2_0), (.int mv1_0), (.int mv3_0)])) _
            refine st5.trans ?_
            show Steps p.tables e below (T5.setTop (mkF m 114 #[.val (.int u0), .val (.int u1), .val (.int u2), .val (.int ((u0 &&& (255 : Int32)).toUInt32.toUInt16.toUInt32.toInt32)), .val (.int ((((u0.toUInt32 >>> ((8 : Int32) &&& 31).toUInt32).toInt32) &&& (255 : Int32)).toUInt32.toUInt16.toUInt32.toInt32)), .val (.int ((((u0.toUInt32 >>> ((16 : Int32) &&& 31).toUInt32).toInt32) &&& (32767 : Int32)) % (3 : Int32))), .val (.int mv1_0), .val (.int mv2_0), .val (.int mv3_0), .val (.ref s4), .unset, .unset, .unset, .unset] [(.ref s5)])) _
            refine XS.astore X5.here hx rfl (hb hby at_114) rfl rfl (l' := #[.val (.int u0), .val (.int u1), .val (.int u2), .val (.int ((u0 &&& (255 : Int32)).toUInt32.toUInt16.toUInt32.toInt32)), .val (.int ((((u0.toUInt32 >>> ((8 : Int32) &&& 31).toUInt32).toInt32) &&& (255 : Int32)).toUInt32.toUInt16.toUInt32.toInt32)), .val (.int ((((u0.toUInt32 >>> ((16 : Int32) &&& 31).toUInt32).toInt32) &&& (32767 : Int32)) % (3 : Int32))), .val (.int mv1_0), .val (.int mv2_0), .val (.int mv3_0), .val (.ref s4), .val (.ref s5), .unset, .unset, .unset]) rfl ?_
            show Steps p.tables e below (T5.setTop (mkF m 116 #[.val (.int u0), .val (.int u1), .val (.int u2), .val (.int ((u0 &&& (255 : Int32)).toUInt32.toUInt16.toUInt32.toInt32)), .val (.int ((((u0.toUInt32 >>> ((8 : Int32) &&& 31).toUInt32).toInt32) &&& (255 : Int32)).toUInt32.toUInt16.toUInt32.toInt32)), .val (.int ((((u0.toUInt32 >>> ((16 : Int32) &&& 31).toUInt32).toInt32) &&& (32767 : Int32)) % (3 : Int32))), .val (.int mv1_0), .val (.int mv2_0), .val (.int mv3_0), .val (.ref s4), .val (.ref s5), .unset, .unset, .unset] [])) _
            refine st6 _ ?_
            show Steps p.tables e below (T6.setTop (mkF m 119 #[.val (.int u0), .val (.int u1), .val (.int u2), .val (.int ((u0 &&& (255 : Int32)).toUInt32.toUInt16.toUInt32.toInt32)), .val (.int ((((u0.toUInt32 >>> ((8 : Int32) &&& 31).toUInt32).toInt32) &&& (255 : Int32)).toUInt32.toUInt16.toUInt32.toInt32)), .val (.int ((((u0.toUInt32 >>> ((16 : Int32) &&& 31).toUInt32).toInt32) &&& (32767 : Int32)) % (3 : Int32))), .val (.int mv1_0), .val (.int mv2_0), .val (.int mv3_0), .val (.ref s4), .val (.ref s5), .unset, .unset, .unset] [(.ref b6)])) _
            refine XS.dup X6.here hx rfl (hb hby at_119) rfl rfl ?_
            show Steps p.tables e below (T6.setTop (mkF m 120 #[.val (.int u0), .val (.int u1), .val (.int u2), .val (.int ((u0 &&& (255 : Int32)).toUInt32.toUInt16.toUInt32.toInt32)), .val (.int ((((u0.toUInt32 >>> ((8 : Int32) &&& 31).toUInt32).toInt32) &&& (255 : Int32)).toUInt32.toUInt16.toUInt32.toInt32)), .val (.int ((((u0.toUInt32 >>> ((16 : Int32) &&& 31).toUInt32).toInt32) &&& (32767 : Int32)) % (3 : Int32))), .val (.int mv1_0), .val (.int mv2_0), .val (.int mv3_0), .val (.ref s4), .val (.ref s5), .unset, .unset, .unset] [(.ref b6), (.ref b6)])) _
            refine XS.aload X6.here hx rfl (hb hby at_120) rfl rfl ?_
            show Steps p.tables e below (T6.setTop (mkF m 122 #[.val (.int u0), .val (.int u1), .val (.int u2), .val (.int ((u0 &&& (255 : Int32)).toUInt32.toUInt16.toUInt32.toInt32)), .val (.int ((((u0.toUInt32 >>> ((8 : Int32) &&& 31).toUInt32).toInt32) &&& (255 : Int32)).toUInt32.toUInt16.toUInt32.toInt32)), .val (.int ((((u0.toUInt32 >>> ((16 : Int32) &&& 31).toUInt32).toInt32) &&& (32767 : Int32)) % (3 : Int32))), .val (.int mv1_0), .val (.int mv2_0), .val (.int mv3_0), .val (.ref s4), .val (.ref s5), .unset, .unset, .unset] [(.ref s4), (.ref b6), (.ref b6)])) _
            refine st7.trans ?_
            show Steps p.tables e below (T7.setTop (mkF m 125 #[.val (.int u0), .val (.int u1), .val (.int u2), .val (.int ((u0 &&& (255 : Int32)).toUInt32.toUInt16.toUInt32.toInt32)), .val (.int ((((u0.toUInt32 >>> ((8 : Int32) &&& 31).toUInt32).toInt32) &&& (255 : Int32)).toUInt32.toUInt16.toUInt32.toInt32)), .val (.int ((((u0.toUInt32 >>> ((16 : Int32) &&& 31).toUInt32).toInt32) &&& (32767 : Int32)) % (3 : Int32))), .val (.int mv1_0), .val (.int mv2_0), .val (.int mv3_0), .val (.ref s4), .val (.ref s5), .unset, .unset, .unset] [(.ref b6)])) _
            refine XS.astore X7.here hx rfl (hb hby at_125) rfl rfl (l' := #[.val (.int u0), .val (.int u1), .val (.int u2), .val (.int ((u0 &&& (255 : Int32)).toUInt32.toUInt16.toUInt32.toInt32)), .val (.int ((((u0.toUInt32 >>> ((8 : Int32) &&& 31).toUInt32).toInt32) &&& (255 : Int32)).toUInt32.toUInt16.toUInt32.toInt32)), .val (.int ((((u0.toUInt32 >>> ((16 : Int32) &&& 31).toUInt32).toInt32) &&& (32767 : Int32)) % (3 : Int32))), .val (.int mv1_0), .val (.int mv2_0), .val (.int mv3_0), .val (.ref s4), .val (.ref s5), .val (.ref b6), .unset, .unset]) rfl ?_
            show Steps p.tables e below (T7.setTop (mkF m 127 #[.val (.int u0), .val (.int u1), .val (.int u2), .val (.int ((u0 &&& (255 : Int32)).toUInt32.toUInt16.toUInt32.toInt32)), .val (.int ((((u0.toUInt32 >>> ((8 : Int32) &&& 31).toUInt32).toInt32) &&& (255 : Int32)).toUInt32.toUInt16.toUInt32.toInt32)), .val (.int ((((u0.toUInt32 >>> ((16 : Int32) &&& 31).toUInt32).toInt32) &&& (32767 : Int32)) % (3 : Int32))), .val (.int mv1_0), .val (.int mv2_0), .val (.int mv3_0), .val (.ref s4), .val (.ref s5), .val (.ref b6), .unset, .unset] [])) _
            refine XS.iload X7.here hx rfl (hb hby at_127) rfl ?_
            show Steps p.tables e below (T7.setTop (mkF m 129 #[.val (.int u0), .val (.int u1), .val (.int u2), .val (.int ((u0 &&& (255 : Int32)).toUInt32.toUInt16.toUInt32.toInt32)), .val (.int ((((u0.toUInt32 >>> ((8 : Int32) &&& 31).toUInt32).toInt32) &&& (255 : Int32)).toUInt32.toUInt16.toUInt32.toInt32)), .val (.int ((((u0.toUInt32 >>> ((16 : Int32) &&& 31).toUInt32).toInt32) &&& (32767 : Int32)) % (3 : Int32))), .val (.int mv1_0), .val (.int mv2_0), .val (.int mv3_0), .val (.ref s4), .val (.ref s5), .val (.ref b6), .unset, .unset] [(.int ((((u0.toUInt32 >>> ((16 : Int32) &&& 31).toUInt32).toInt32) &&& (32767 : Int32)) % (3 : Int32)))])) _
            refine XS.iload X7.here hx rfl (hb hby at_129) rfl ?_
            refine st8 _ ?_
            show Steps p.tables e below (T7.setTop (mkF m 164 #[.val (.int u0), .val (.int u1), .val (.int u2), .val (.int ((u0 &&& (255 : Int32)).toUInt32.toUInt16.toUInt32.toInt32)), .val (.int ((((u0.toUInt32 >>> ((8 : Int32) &&& 31).toUInt32).toInt32) &&& (255 : Int32)).toUInt32.toUInt16.toUInt32.toInt32)), .val (.int ((((u0.toUInt32 >>> ((16 : Int32) &&& 31).toUInt32).toInt32) &&& (32767 : Int32)) % (3 : Int32))), .val (.int mv1_0), .val (.int mv2_0), .val (.int mv3_0), .val (.ref s4), .val (.ref s5), .val (.ref b6), .unset, .unset] [(.int mv8_0)])) _
            refine XS.istore X7.here hx rfl (hb hby at_164) rfl (l' := #[.val (.int u0), .val (.int u1), .val (.int u2), .val (.int ((u0 &&& (255 : Int32)).toUInt32.toUInt16.toUInt32.toInt32)), .val (.int ((((u0.toUInt32 >>> ((8 : Int32) &&& 31).toUInt32).toInt32) &&& (255 : Int32)).toUInt32.toUInt16.toUInt32.toInt32)), .val (.int ((((u0.toUInt32 >>> ((16 : Int32) &&& 31).toUInt32).toInt32) &&& (32767 : Int32)) % (3 : Int32))), .val (.int mv1_0), .val (.int mv2_0), .val (.int mv3_0), .val (.ref s4), .val (.ref s5), .val (.ref b6), .val (.int mv8_0), .unset]) rfl ?_
            show Steps p.tables e below (T7.setTop (mkF m 166 #[.val (.int u0), .val (.int u1), .val (.int u2), .val (.int ((u0 &&& (255 : Int32)).toUInt32.toUInt16.toUInt32.toInt32)), .val (.int ((((u0.toUInt32 >>> ((8 : Int32) &&& 31).toUInt32).toInt32) &&& (255 : Int32)).toUInt32.toUInt16.toUInt32.toInt32)), .val (.int ((((u0.toUInt32 >>> ((16 : Int32) &&& 31).toUInt32).toInt32) &&& (32767 : Int32)) % (3 : Int32))), .val (.int mv1_0), .val (.int mv2_0), .val (.int mv3_0), .val (.ref s4), .val (.ref s5), .val (.ref b6), .val (.int mv8_0), .unset] [])) _
            refine XS.iloadN X7.here hx rfl (hb hby at_166) rfl ?_
            show Steps p.tables e below (T7.setTop (mkF m 167 #[.val (.int u0), .val (.int u1), .val (.int u2), .val (.int ((u0 &&& (255 : Int32)).toUInt32.toUInt16.toUInt32.toInt32)), .val (.int ((((u0.toUInt32 >>> ((8 : Int32) &&& 31).toUInt32).toInt32) &&& (255 : Int32)).toUInt32.toUInt16.toUInt32.toInt32)), .val (.int ((((u0.toUInt32 >>> ((16 : Int32) &&& 31).toUInt32).toInt32) &&& (32767 : Int32)) % (3 : Int32))), .val (.int mv1_0), .val (.int mv2_0), .val (.int mv3_0), .val (.ref s4), .val (.ref s5), .val (.ref b6), .val (.int mv8_0), .unset] [(.int u2)])) _
            refine XS.bipush X7.here hx rfl (hb hby at_167) ?_
            show Steps p.tables e below (T7.setTop (mkF m 169 #[.val (.int u0), .val (.int u1), .val (.int u2), .val (.int ((u0 &&& (255 : Int32)).toUInt32.toUInt16.toUInt32.toInt32)), .val (.int ((((u0.toUInt32 >>> ((8 : Int32) &&& 31).toUInt32).toInt32) &&& (255 : Int32)).toUInt32.toUInt16.toUInt32.toInt32)), .val (.int ((((u0.toUInt32 >>> ((16 : Int32) &&& 31).toUInt32).toInt32) &&& (32767 : Int32)) % (3 : Int32))), .val (.int mv1_0), .val (.int mv2_0), .val (.int mv3_0), .val (.ref s4), .val (.ref s5), .val (.ref b6), .val (.int mv8_0), .unset] [(.int (7 : Int32)), (.int u2)])) _
            refine XS.iand X7.here hx rfl (hb hby at_169) rfl ?_
            show Steps p.tables e below (T7.setTop (mkF m 170 #[.val (.int u0), .val (.int u1), .val (.int u2), .val (.int ((u0 &&& (255 : Int32)).toUInt32.toUInt16.toUInt32.toInt32)), .val (.int ((((u0.toUInt32 >>> ((8 : Int32) &&& 31).toUInt32).toInt32) &&& (255 : Int32)).toUInt32.toUInt16.toUInt32.toInt32)), .val (.int ((((u0.toUInt32 >>> ((16 : Int32) &&& 31).toUInt32).toInt32) &&& (32767 : Int32)) % (3 : Int32))), .val (.int mv1_0), .val (.int mv2_0), .val (.int mv3_0), .val (.ref s4), .val (.ref s5), .val (.ref b6), .val (.int mv8_0), .unset] [(.int (u2 &&& (7 : Int32)))])) _
            refine XS.istore X7.here hx rfl (hb hby at_170) rfl (l' := #[.val (.int u0), .val (.int u1), .val (.int u2), .val (.int ((u0 &&& (255 : Int32)).toUInt32.toUInt16.toUInt32.toInt32)), .val (.int ((((u0.toUInt32 >>> ((8 : Int32) &&& 31).toUInt32).toInt32) &&& (255 : Int32)).toUInt32.toUInt16.toUInt32.toInt32)), .val (.int ((((u0.toUInt32 >>> ((16 : Int32) &&& 31).toUInt32).toInt32) &&& (32767 : Int32)) % (3 : Int32))), .val (.int mv1_0), .val (.int mv2_0), .val (.int mv3_0), .val (.ref s4), .val (.ref s5), .val (.ref b6), .val (.int mv8_0), .val (.int (u2 &&& (7 : Int32)))]) rfl ?_
            show Steps p.tables e below (T7.setTop (mkF m 172 #[.val (.int u0), .val (.int u1), .val (.int u2), .val (.int ((u0 &&& (255 : Int32)).toUInt32.toUInt16.toUInt32.toInt32)), .val (.int ((((u0.toUInt32 >>> ((8 : Int32) &&& 31).toUInt32).toInt32) &&& (255 : Int32)).toUInt32.toUInt16.toUInt32.toInt32)), .val (.int ((((u0.toUInt32 >>> ((16 : Int32) &&& 31).toUInt32).toInt32) &&& (32767 : Int32)) % (3 : Int32))), .val (.int mv1_0), .val (.int mv2_0), .val (.int mv3_0), .val (.ref s4), .val (.ref s5), .val (.ref b6), .val (.int mv8_0), .val (.int (u2 &&& (7 : Int32)))] [])) _
            refine XS.iload X7.here hx rfl (hb hby at_172) rfl ?_
            show Steps p.tables e below (T7.setTop (mkF m 174 #[.val (.int u0), .val (.int u1), .val (.int u2), .val (.int ((u0 &&& (255 : Int32)).toUInt32.toUInt16.toUInt32.toInt32)), .val (.int ((((u0.toUInt32 >>> ((8 : Int32) &&& 31).toUInt32).toInt32) &&& (255 : Int32)).toUInt32.toUInt16.toUInt32.toInt32)), .val (.int ((((u0.toUInt32 >>> ((16 : Int32) &&& 31).toUInt32).toInt32) &&& (32767 : Int32)) % (3 : Int32))), .val (.int mv1_0), .val (.int mv2_0), .val (.int mv3_0), .val (.ref s4), .val (.ref s5), .val (.ref b6), .val (.int mv8_0), .val (.int (u2 &&& (7 : Int32)))] [(.int (u2 &&& (7 : Int32)))])) _
            refine XS.iconst X7.here hx rfl (hb hby at_174) ?_
            show Steps p.tables e below (T7.setTop (mkF m 175 #[.val (.int u0), .val (.int u1), .val (.int u2), .val (.int ((u0 &&& (255 : Int32)).toUInt32.toUInt16.toUInt32.toInt32)), .val (.int ((((u0.toUInt32 >>> ((8 : Int32) &&& 31).toUInt32).toInt32) &&& (255 : Int32)).toUInt32.toUInt16.toUInt32.toInt32)), .val (.int ((((u0.toUInt32 >>> ((16 : Int32) &&& 31).toUInt32).toInt32) &&& (32767 : Int32)) % (3 : Int32))), .val (.int mv1_0), .val (.int mv2_0), .val (.int mv3_0), .val (.ref s4), .val (.ref s5), .val (.ref b6), .val (.int mv8_0), .val (.int (u2 &&& (7 : Int32)))] [(.int (4 : Int32)), (.int (u2 &&& (7 : Int32)))])) _
            refine XS.icmpYes X7.here hx rfl (pc0 := 175) (pc' := 203) rfl (hb hby at_175) rfl (flt hc175).2.1 (by decide) (by decide) ?_
            show Steps p.tables e below (T7.setTop (mkF m 203 #[.val (.int u0), .val (.int u1), .val (.int u2), .val (.int ((u0 &&& (255 : Int32)).toUInt32.toUInt16.toUInt32.toInt32)), .val (.int ((((u0.toUInt32 >>> ((8 : Int32) &&& 31).toUInt32).toInt32) &&& (255 : Int32)).toUInt32.toUInt16.toUInt32.toInt32)), .val (.int ((((u0.toUInt32 >>> ((16 : Int32) &&& 31).toUInt32).toInt32) &&& (32767 : Int32)) % (3 : Int32))), .val (.int mv1_0), .val (.int mv2_0), .val (.int mv3_0), .val (.ref s4), .val (.ref s5), .val (.ref b6), .val (.int mv8_0), .val (.int (u2 &&& (7 : Int32)))] [])) _
            refine XS.iload X7.here hx rfl (hb hby at_203) rfl ?_
            show Steps p.tables e below (T7.setTop (mkF m 205 #[.val (.int u0), .val (.int u1), .val (.int u2), .val (.int ((u0 &&& (255 : Int32)).toUInt32.toUInt16.toUInt32.toInt32)), .val (.int ((((u0.toUInt32 >>> ((8 : Int32) &&& 31).toUInt32).toInt32) &&& (255 : Int32)).toUInt32.toUInt16.toUInt32.toInt32)), .val (.int ((((u0.toUInt32 >>> ((16 : Int32) &&& 31).toUInt32).toInt32) &&& (32767 : Int32)) % (3 : Int32))), .val (.int mv1_0), .val (.int mv2_0), .val (.int mv3_0), .val (.ref s4), .val (.ref s5), .val (.ref b6), .val (.int mv8_0), .val (.int (u2 &&& (7 : Int32)))] [(.int (u2 &&& (7 : Int32)))])) _
            refine XS.iconst X7.here hx rfl (hb hby at_205) ?_
            show Steps p.tables e below (T7.setTop (mkF m 206 #[.val (.int u0), .val (.int u1), .val (.int u2), .val (.int ((u0 &&& (255 : Int32)).toUInt32.toUInt16.toUInt32.toInt32)), .val (.int ((((u0.toUInt32 >>> ((8 : Int32) &&& 31).toUInt32).toInt32) &&& (255 : Int32)).toUInt32.toUInt16.toUInt32.toInt32)), .val (.int ((((u0.toUInt32 >>> ((16 : Int32) &&& 31).toUInt32).toInt32) &&& (32767 : Int32)) % (3 : Int32))), .val (.int mv1_0), .val (.int mv2_0), .val (.int mv3_0), .val (.ref s4), .val (.ref s5), .val (.ref b6), .val (.int mv8_0), .val (.int (u2 &&& (7 : Int32)))] [(.int (4 : Int32)), (.int (u2 &&& (7 : Int32)))])) _
            refine XS.icmpYes X7.here hx rfl (pc0 := 206) (pc' := 224) rfl (hb hby at_206) rfl (feq hc206).2 (by decide) (by decide) ?_
            show Steps p.tables e below (T7.setTop (mkF m 224 #[.val (.int u0), .val (.int u1), .val (.int u2), .val (.int ((u0 &&& (255 : Int32)).toUInt32.toUInt16.toUInt32.toInt32)), .val (.int ((((u0.toUInt32 >>> ((8 : Int32) &&& 31).toUInt32).toInt32) &&& (255 : Int32)).toUInt32.toUInt16.toUInt32.toInt32)), .val (.int ((((u0.toUInt32 >>> ((16 : Int32) &&& 31).toUInt32).toInt32) &&& (32767 : Int32)) % (3 : Int32))), .val (.int mv1_0), .val (.int mv2_0), .val (.int mv3_0), .val (.ref s4), .val (.ref s5), .val (.ref b6), .val (.int mv8_0), .val (.int (u2 &&& (7 : Int32)))] [])) _
            refine XS.iload X7.here hx rfl (hb hby at_224) rfl ?_
            show Steps p.tables e below (T7.setTop (mkF m 226 #[.val (.int u0), .val (.int u1), .val (.int u2), .val (.int ((u0 &&& (255 : Int32)).toUInt32.toUInt16.toUInt32.toInt32)), .val (.int ((((u0.toUInt32 >>> ((8 : Int32) &&& 31).toUInt32).toInt32) &&& (255 : Int32)).toUInt32.toUInt16.toUInt32.toInt32)), .val (.int ((((u0.toUInt32 >>> ((16 : Int32) &&& 31).toUInt32).toInt32) &&& (32767 : Int32)) % (3 : Int32))), .val (.int mv1_0), .val (.int mv2_0), .val (.int mv3_0), .val (.ref s4), .val (.ref s5), .val (.ref b6), .val (.int mv8_0), .val (.int (u2 &&& (7 : Int32)))] [(.int (u2 &&& (7 : Int32)))])) _
            refine XS.iconst X7.here hx rfl (hb hby at_226) ?_
            show Steps p.tables e below (T7.setTop (mkF m 227 #[.val (.int u0), .val (.int u1), .val (.int u2), .val (.int ((u0 &&& (255 : Int32)).toUInt32.toUInt16.toUInt32.toInt32)), .val (.int ((((u0.toUInt32 >>> ((8 : Int32) &&& 31).toUInt32).toInt32) &&& (255 : Int32)).toUInt32.toUInt16.toUInt32.toInt32)), .val (.int ((((u0.toUInt32 >>> ((16 : Int32) &&& 31).toUInt32).toInt32) &&& (32767 : Int32)) % (3 : Int32))), .val (.int mv1_0), .val (.int mv2_0), .val (.int mv3_0), .val (.ref s4), .val (.ref s5), .val (.ref b6), .val (.int mv8_0), .val (.int (u2 &&& (7 : Int32)))] [(.int (5 : Int32)), (.int (u2 &&& (7 : Int32)))])) _
            refine XS.icmpYes X7.here hx rfl (pc0 := 227) (pc' := 253) rfl (hb hby at_227) rfl (feq hc227).2 (by decide) (by decide) ?_
            show Steps p.tables e below (T7.setTop (mkF m 253 #[.val (.int u0), .val (.int u1), .val (.int u2), .val (.int ((u0 &&& (255 : Int32)).toUInt32.toUInt16.toUInt32.toInt32)), .val (.int ((((u0.toUInt32 >>> ((8 : Int32) &&& 31).toUInt32).toInt32) &&& (255 : Int32)).toUInt32.toUInt16.toUInt32.toInt32)), .val (.int ((((u0.toUInt32 >>> ((16 : Int32) &&& 31).toUInt32).toInt32) &&& (32767 : Int32)) % (3 : Int32))), .val (.int mv1_0), .val (.int mv2_0), .val (.int mv3_0), .val (.ref s4), .val (.ref s5), .val (.ref b6), .val (.int mv8_0), .val (.int (u2 &&& (7 : Int32)))] [])) _
            refine XS.iload X7.here hx rfl (hb hby at_253) rfl ?_
            show Steps p.tables e below (T7.setTop (mkF m 255 #[.val (.int u0), .val (.int u1), .val (.int u2), .val (.int ((u0 &&& (255 : Int32)).toUInt32.toUInt16.toUInt32.toInt32)), .val (.int ((((u0.toUInt32 >>> ((8 : Int32) &&& 31).toUInt32).toInt32) &&& (255 : Int32)).toUInt32.toUInt16.toUInt32.toInt32)), .val (.int ((((u0.toUInt32 >>> ((16 : Int32) &&& 31).toUInt32).toInt32) &&& (32767 : Int32)) % (3 : Int32))), .val (.int mv1_0), .val (.int mv2_0), .val (.int mv3_0), .val (.ref s4), .val (.ref s5), .val (.ref b6), .val (.int mv8_0), .val (.int (u2 &&& (7 : Int32)))] [(.int (u2 &&& (7 : Int32)))])) _
            refine XS.bipush X7.here hx rfl (hb hby at_255) ?_
            show Steps p.tables e below (T7.setTop (mkF m 257 #[.val (.int u0), .val (.int u1), .val (.int u2), .val (.int ((u0 &&& (255 : Int32)).toUInt32.toUInt16.toUInt32.toInt32)), .val (.int ((((u0.toUInt32 >>> ((8 : Int32) &&& 31).toUInt32).toInt32) &&& (255 : Int32)).toUInt32.toUInt16.toUInt32.toInt32)), .val (.int ((((u0.toUInt32 >>> ((16 : Int32) &&& 31).toUInt32).toInt32) &&& (32767 : Int32)) % (3 : Int32))), .val (.int mv1_0), .val (.int mv2_0), .val (.int mv3_0), .val (.ref s4), .val (.ref s5), .val (.ref b6), .val (.int mv8_0), .val (.int (u2 &&& (7 : Int32)))] [(.int (6 : Int32)), (.int (u2 &&& (7 : Int32)))])) _
            refine XS.icmpYes X7.here hx rfl (pc0 := 257) (pc' := 276) rfl (hb hby at_257) rfl (feq hc257).2 (by decide) (by decide) ?_
            show Steps p.tables e below (T7.setTop (mkF m 276 #[.val (.int u0), .val (.int u1), .val (.int u2), .val (.int ((u0 &&& (255 : Int32)).toUInt32.toUInt16.toUInt32.toInt32)), .val (.int ((((u0.toUInt32 >>> ((8 : Int32) &&& 31).toUInt32).toInt32) &&& (255 : Int32)).toUInt32.toUInt16.toUInt32.toInt32)), .val (.int ((((u0.toUInt32 >>> ((16 : Int32) &&& 31).toUInt32).toInt32) &&& (32767 : Int32)) % (3 : Int32))), .val (.int mv1_0), .val (.int mv2_0), .val (.int mv3_0), .val (.ref s4), .val (.ref s5), .val (.ref b6), .val (.int mv8_0), .val (.int (u2 &&& (7 : Int32)))] [])) _
            refine XS.aload X7.here hx rfl (hb hby at_276) rfl rfl ?_
            show Steps p.tables e below (T7.setTop (mkF m 278 #[.val (.int u0), .val (.int u1), .val (.int u2), .val (.int ((u0 &&& (255 : Int32)).toUInt32.toUInt16.toUInt32.toInt32)), .val (.int ((((u0.toUInt32 >>> ((8 : Int32) &&& 31).toUInt32).toInt32) &&& (255 : Int32)).toUInt32.toUInt16.toUInt32.toInt32)), .val (.int ((((u0.toUInt32 >>> ((16 : Int32) &&& 31).toUInt32).toInt32) &&& (32767 : Int32)) % (3 : Int32))), .val (.int mv1_0), .val (.int mv2_0), .val (.int mv3_0), .val (.ref s4), .val (.ref s5), .val (.ref b6), .val (.int mv8_0), .val (.int (u2 &&& (7 : Int32)))] [(.ref b6)])) _
            refine XS.aload X7.here hx rfl (hb hby at_278) rfl rfl ?_
            show Steps p.tables e below (T7.setTop (mkF m 280 #[.val (.int u0), .val (.int u1), .val (.int u2), .val (.int ((u0 &&& (255 : Int32)).toUInt32.toUInt16.toUInt32.toInt32)), .val (.int ((((u0.toUInt32 >>> ((8 : Int32) &&& 31).toUInt32).toInt32) &&& (255 : Int32)).toUInt32.toUInt16.toUInt32.toInt32)), .val (.int ((((u0.toUInt32 >>> ((16 : Int32) &&& 31).toUInt32).toInt32) &&& (32767 : Int32)) % (3 : Int32))), .val (.int mv1_0), .val (.int mv2_0), .val (.int mv3_0), .val (.ref s4), .val (.ref s5), .val (.ref b6), .val (.int mv8_0), .val (.int (u2 &&& (7 : Int32)))] [(.ref b6), (.ref b6)])) _
            refine st17.trans ?_
            show Steps p.tables e below (T17.setTop (mkF m 283 #[.val (.int u0), .val (.int u1), .val (.int u2), .val (.int ((u0 &&& (255 : Int32)).toUInt32.toUInt16.toUInt32.toInt32)), .val (.int ((((u0.toUInt32 >>> ((8 : Int32) &&& 31).toUInt32).toInt32) &&& (255 : Int32)).toUInt32.toUInt16.toUInt32.toInt32)), .val (.int ((((u0.toUInt32 >>> ((16 : Int32) &&& 31).toUInt32).toInt32) &&& (32767 : Int32)) % (3 : Int32))), .val (.int mv1_0), .val (.int mv2_0), .val (.int mv3_0), .val (.ref s4), .val (.ref s5), .val (.ref b6), .val (.int mv8_0), .val (.int (u2 &&& (7 : Int32)))] [(.int (eqI (csOf ((((u0.toUInt32 >>> ((16 : Int32) &&& 31).toUInt32).toInt32) &&& (32767 : Int32)) % (3 : Int32)) ((u0 &&& (255 : Int32)).toUInt32.toUInt16.toUInt32.toInt32) ((((u0.toUInt32 >>> ((8 : Int32) &&& 31).toUInt32).toInt32) &&& (255 : Int32)).toUInt32.toUInt16.toUInt32.toInt32)) (csOf ((((u0.toUInt32 >>> ((16 : Int32) &&& 31).toUInt32).toInt32) &&& (32767 : Int32)) % (3 : Int32)) ((u0 &&& (255 : Int32)).toUInt32.toUInt16.toUInt32.toInt32) ((((u0.toUInt32 >>> ((8 : Int32) &&& 31).toUInt32).toInt32) &&& (255 : Int32)).toUInt32.toUInt16.toUInt32.toInt32))))])) _
            exact retN X17 hx (t := .boolean) Bd.returns (by simp) (hb hby at_283) hr
          · show Q0 Z u0 u1 u2 G_COMPACT h0 n0 _ T17.heap _
            rw [e17]
            exact ⟨(by rw [show eqI _ _ = (1 : Int32) from if_pos rfl]; rfl), N17⟩
          · show CHr Z EL s.vm s.heap T17.vm T17.heap
            rw [e17]
            rw [hh]
            exact C7.trans (CHv.at X17 hZ (hEL hw) C7.1)
set_option maxRecDepth 65536 in
set_option maxHeartbeats 40000000 in
theorem comes_1 {Post : Tables → Env → Array Value → State → Outcome → State → Prop} (hpost : ∀ tb e args s v u, (limb_1_1.after args s (.returned v) u = true ∧ limb_1_2.after args s (.returned v) u = true ∧ True) → ReturnedEndW s (.returned v) u (Jvm.fieldLocs frame_1_writes args s ++ Jvm.arrayLocs frame_1_arrays args s ++ Jvm.staticLocs frame_1_statics s) 32 3200 → Post tb e args s (.returned v) u) :
    ArmFor flags0 classFile x code maxLocals ret World_1 tables_1 room_1 Calls_1 rest_1 Pre_1 Post := by
  intro l hfl _ _ p e ha hc hk s m args below hf hA hF happ hP
  obtain ⟨hcalls, hrest, hpre⟩ := hP
  obtain ⟨-, -, -, hnamed, -, -, -, hat⟩ := (Spec.applies_iff hf).mp happ
  obtain ⟨hg, hn⟩ := and_e (Cond.before_iff.mp (show (Jvm.Cond.and given_1 narrow_1).before args s = true from hpre))
  obtain ⟨g1, g2⟩ := and_e hg
  obtain ⟨g3, g4⟩ := and_e g2
  obtain ⟨g5, g6⟩ := and_e g4
  obtain ⟨w0, w1, w2, rfl⟩ : ∃ w0 w1 w2 : Value, args = #[w0, w1, w2] := by
    have hs : args.size = 3 := by simpa [Cond.value, given_1] using g1
    obtain ⟨L⟩ := args
    match L, hs with
    | [w0, w1, w2], _ => exact ⟨w0, w1, w2, rfl⟩
  have hw := fun d (hd : d ∈ tables_1) => atoms_spec (ws := Jvm.Cond.code x code maxLocals ret :: tables_1) hat d (List.mem_cons_of_mem _ hd)
  have hfit : Fit s := fun {y c} hc i hi => by
    obtain ⟨ha, rfl⟩ := Array.getElem?_eq_some_iff.mp hc
    have q := List.all_eq_true.mp ((Array.all_eq_true_iff_forall_mem.mp hF) _ (Array.getElem_mem ha)) i (List.mem_range.mpr hi)
    simpa [Array.getElem?_eq_getElem hi] using q
  obtain ⟨hsets, hown0⟩ := atoms_of _ (rest_1_c_eq ▸ (show rest_1_c.before _ s = true from hrest))
  have hr0 := Cond.before_iff.mp hown0
  obtain ⟨i0, ei0⟩ := is_v g3
  obtain rfl : w0 = (.int i0) := Option.some.inj ei0
  obtain ⟨i1, ei1⟩ := is_v g5
  obtain rfl : w1 = (.int i1) := Option.some.inj ei1
  obtain ⟨i2, ei2⟩ := is_v g6
  obtain rfl : w2 = (.int i2) := Option.some.inj ei2
  have xC := Cond.before_iff.mp (hsets _ (List.mem_of_getElem? (i := 1) rfl))
  obtain ⟨gC, ev_C⟩ := is_v xC
  have S_COMPACT : Sta s s.heap "java/lang/String" "COMPACT_STRINGS" "Z" (.int gC) := Sta.start ev_C (Or.inl (hsets _ (List.mem_of_getElem? (i := 0) rfl)))
  have P_COMPACT : ¬ gC = 0 := by
    have xN := not_v (Cond.before_iff.mp (hsets _ (List.mem_of_getElem? (i := 2) rfl)))
    intro h0
    subst h0
    have e1 := eq_i (b := .int 0) ev_C (Term.int_eval (0 : Int32)) rfl
    rw [xN] at e1
    cases e1
  have hCH : CHv s EL s.vm s.heap := CHv.start (hEL hw) hcalls.1 (hsets _ (List.mem_of_getElem? (i := 2) rfl)) (hw _ (List.mem_of_getElem? (i := 19) rfl)) (hw _ (List.mem_of_getElem? (i := 5) rfl))
  obtain ⟨n, o, h1, h2, h3, _, L, rfl, ⟨rfl, N⟩, -, hq⟩ := rm0 l s _ hw tables_1 i0 i1 i2 gC s.heap s.heap.size (Nat.le_refl _) (Old.start s) S_COMPACT P_COMPACT p e ha hc hk s m _ below hf ((Spec.applies_iff_loose hf).mp happ).1 ⟨rfl, State.Warmed39.refl s, rfl, hCH⟩ trivial
  refine ⟨n, _, h1, h2, h3, hpost _ _ _ _ _ _ ⟨Cond.after_iff.mpr rfl, Cond.after_iff.mpr (eq_i res_at (Term.int_eval (1)) rfl), trivial⟩ ⟨hq.1, hq.2.1, hq.2.2.1, (hq.2.2.2.sift fun y hy => Or.inr (N y hy)).mono (by decide) (by decide)⟩⟩
theorem main_1_1 : Claimed_1_1 := comes_1 fun _ _ _ _ _ _ h hF => ⟨h.1, hF⟩
theorem main_1_2 : Claimed_1_2 := comes_1 fun _ _ _ _ _ _ h hF => ⟨h.2.1, hF⟩
end Jvm.Pilot.@@N@@
namespace Jvm.Pilot.@@N@@
open Jvm Jvm.ClassFile Sem Op Lib Jvm.Free Jvm.Stand Jvm.Pilot.@@N@@.Jvm.D
/-! MADE BY PROGRAM (witnessworld.py) out of the Statement's table words and the real class files: 24 classes; the members and pool entries that the words name. The judged class is class 1, her method 2. -/
namespace start1
open Jvm.ClassFile
def u (s : String) : CpInfo := .utf8 (stringToUtf16 s)
/-- a pool by its gaps: so many unusable entries, then the entry; so many at the end -/
def gap : Nat → List CpInfo → List CpInfo
  | 0, r => r
  | n + 1, r => .unusable :: gap n r
def poolList (es : List (Nat × CpInfo)) (last : Nat) : List CpInfo := es.foldr (fun e r => gap e.1 (e.2 :: r)) (gap last [])
def pool (es : List (Nat × CpInfo)) (last : Nat) : Array CpInfo := ⟨poolList es last⟩
def fileOf (pool : Array CpInfo) (this : Nat) (attrs : Array Attribute := #[]) (ms : Array MethodInfo := #[]) (fl : Nat := 33) (sup : Nat := 0) (ifs : Array Nat := #[]) (fds : Array FieldInfo := #[]) : ClassFile where
  minorVersion := 0
  majorVersion := 65
  constantPool := pool
  accessFlags := fl
  thisClass := this
  superClass := sup
  interfaces := ifs
  fields := fds
  methods := ms
  attributes := attrs
def plain (name : String) (sup : Option ClassId) : Class where
  name := name
  kind := .ordinary
  loader := none
  accessFlags := 33
  super := sup
  interfaces := #[]
  cf := none
  fields := #[]
  methods := #[]
  instanceTypes := #[]
  staticTypes := #[]
  resolved := #[]
  callSites := []
  init := .initialized
  statics := none
  mirror := none

def pool0 : Array CpInfo := pool [(5, u "<init>"), (0, u "()V"), (1, .class_ 10), (1, u "java/lang/Object")] 113

def k0c0 : Code := { maxStack := 0, maxLocals := 1, code := object_method_1_code, exceptionTable := #[], attributes := #[] }
def k0m0 : Method := { name := "<init>", desc := "()V", sig := { parameters := [], returnType := none }, accessFlags := 1, code := some k0c0 }
/-- java/lang/Object -/
def k0 : Class := { plain "java/lang/Object" none with
  accessFlags := 33
  interfaces := #[]
  cf := some (fileOf pool0 8 #[] #[{ accessFlags := 1, nameIndex := 5, descriptorIndex := 6, attributes := #[] }] 33 0 #[] #[])
  fields := #[]
  methods := #[k0m0]
  instanceTypes := #[]
  staticTypes := #[]
  resolved := Array.replicate 124 none
  statics := none }

def pool1 : Array CpInfo := pool [(2, .class_ 4), (1, u "java/lang/Object"), (0, u "<init>"), (0, u "()V"), (0, .class_ 8), (0, u "java/lang/String"), (0, .methodref 7 10), (0, .nameAndType 5 11), (0, u "([C)V"), (0, .methodref 13 14), (0, .class_ 15), (0, .nameAndType 16 17), (0, u "com/example/triplewright/triplewright/rdf/IriEqualsPinLaw"), (0, u "make"), (0, u "(ICC)Ljava/lang/String;"), (0, .class_ 19), (0, u "com/example/triplewright/triplewright/rdf/Iri"), (0, .methodref 18 21), (0, .nameAndType 5 22), (0, u "(Ljava/lang/String;)V"), (0, .methodref 18 24), (0, .nameAndType 25 26), (0, u "equals"), (0, u "(Ljava/lang/Object;)Z"), (0, .class_ 28), (0, u "com/example/triplewright/triplewright/rdf/BlankNode"), (0, .methodref 27 21), (3, u "law"), (0, u "(III)Z")] 2

def k1m0 : Method := { name := "<init>", desc := "()V", sig := { parameters := [], returnType := none }, accessFlags := 1, code := none }
def k1c1 : Code := { maxStack := 6, maxLocals := 3, code := method_2_code, exceptionTable := #[], attributes := #[] }
def k1m1 : Method := { name := "make", desc := "(ICC)Ljava/lang/String;", sig := { parameters := [.int, .char, .char], returnType := some (.object "java/lang/String") }, accessFlags := 10, code := some k1c1 }
def k1c2 : Code := { maxStack := 4, maxLocals := 14, code := code, exceptionTable := #[], attributes := #[] }
def k1m2 : Method := { name := "law", desc := "(III)Z", sig := { parameters := [.int, .int, .int], returnType := some .boolean }, accessFlags := 9, code := some k1c2 }
/-- com/example/triplewright/triplewright/rdf/IriEqualsPinLaw -/
def k1 : Class := { plain "com/example/triplewright/triplewright/rdf/IriEqualsPinLaw" (some 0) with
  accessFlags := 49
  interfaces := #[]
  cf := some (fileOf pool1 13 #[] #[{ accessFlags := 1, nameIndex := 5, descriptorIndex := 6, attributes := #[] }, { accessFlags := 10, nameIndex := 16, descriptorIndex := 17, attributes := #[] }, { accessFlags := 9, nameIndex := 33, descriptorIndex := 34, attributes := #[] }] 49 2 #[] #[])
  fields := #[]
  methods := #[k1m0, k1m1, k1m2]
  instanceTypes := #[]
  staticTypes := #[]
  resolved := Array.replicate 37 none
  statics := none }

def pool2 : Array CpInfo := pool [(1, .class_ 2), (0, u "java/io/Serializable"), (0, .class_ 4), (0, u "java/lang/Object")] 2

/-- java/io/Serializable -/
def k2 : Class := { plain "java/io/Serializable" (some 0) with
  accessFlags := 1537
  interfaces := #[]
  cf := some (fileOf pool2 1 #[] #[] 1537 3 #[] #[])
  fields := #[]
  methods := #[]
  instanceTypes := #[]
  staticTypes := #[]
  resolved := Array.replicate 7 none
  statics := none }

def pool3 : Array CpInfo := pool [(1, .class_ 2), (0, u "java/lang/Comparable"), (0, .class_ 4), (0, u "java/lang/Object")] 7

/-- java/lang/Comparable -/
def k3 : Class := { plain "java/lang/Comparable" (some 0) with
  accessFlags := 1537
  interfaces := #[]
  cf := some (fileOf pool3 1 #[] #[] 1537 3 #[] #[])
  fields := #[]
  methods := #[]
  instanceTypes := #[]
  staticTypes := #[]
  resolved := Array.replicate 12 none
  statics := none }

def pool4 : Array CpInfo := pool [(2, .class_ 4), (1, u "java/lang/CharSequence"), (42, .class_ 48), (0, u "java/lang/CharSequence$1CodePointIterator"), (10, .class_ 60), (0, u "java/lang/CharSequence$1CharIterator"), (5, .class_ 67), (0, u "java/lang/Object")] 63

/-- java/lang/CharSequence -/
def k4 : Class := { plain "java/lang/CharSequence" (some 0) with
  accessFlags := 1537
  interfaces := #[]
  cf := some (fileOf pool4 2 #[.nestMembers #[47, 59]] #[] 1537 66 #[] #[])
  fields := #[]
  methods := #[]
  instanceTypes := #[]
  staticTypes := #[]
  resolved := Array.replicate 131 none
  statics := none }

def pool5 : Array CpInfo := pool [(1, .class_ 2), (0, u "java/lang/constant/Constable"), (0, .class_ 4), (0, u "java/lang/Object")] 6

/-- java/lang/constant/Constable -/
def k5 : Class := { plain "java/lang/constant/Constable" (some 0) with
  accessFlags := 1537
  interfaces := #[]
  cf := some (fileOf pool5 1 #[] #[] 1537 3 #[] #[])
  fields := #[]
  methods := #[]
  instanceTypes := #[]
  staticTypes := #[]
  resolved := Array.replicate 11 none
  statics := none }

def pool6 : Array CpInfo := pool [(1, .class_ 2), (0, u "java/lang/constant/ConstantDesc"), (0, .class_ 4), (0, u "java/lang/Object")] 32

/-- java/lang/constant/ConstantDesc -/
def k6 : Class := { plain "java/lang/constant/ConstantDesc" (some 0) with
  accessFlags := 1537
  interfaces := #[]
  cf := some (fileOf pool6 1 #[] #[] 1537 3 #[] #[])
  fields := #[]
  methods := #[]
  instanceTypes := #[]
  staticTypes := #[]
  resolved := Array.replicate 37 none
  statics := none }

def pool7 : Array CpInfo := pool [(1, .methodref 2 3), (0, .class_ 4), (0, .nameAndType 5 6), (0, u "java/lang/Object"), (0, u "<init>"), (0, u "()V"), (0, .string 8), (0, u ""), (0, .fieldref 10 11), (0, .class_ 12), (0, .nameAndType 13 14), (0, u "java/lang/String"), (0, u "value"), (0, u "[B"), (0, .fieldref 10 16), (0, .nameAndType 17 18), (0, u "coder"), (0, u "B"), (2, u "hash"), (0, u "I"), (2, u "hashIsZero"), (0, u "Z"), (0, .methodref 10 28), (0, .nameAndType 5 29), (0, u "([CIILjava/lang/Void;)V"), (8, .fieldref 10 39), (0, .nameAndType 40 26), (0, u "COMPACT_STRINGS"), (1, .class_ 44), (1, u "java/lang/StringUTF16"), (0, u "compress"), (1, .methodref 42 48), (0, .nameAndType 49 50), (0, u "coderFromArrayLen"), (0, u "([BI)B"), (56, .class_ 109), (1, u "java/lang/StringLatin1"), (67, .methodref 42 178), (0, .nameAndType 45 179), (0, u "([CII)[B"), (361, .methodref 107 542), (0, .nameAndType 543 544), (0, u "equals"), (0, u "([B[B)Z"), (28, u "(Ljava/lang/Object;)Z"), (1, .class_ 576), (0, u "java/lang/CharSequence"), (22, u "CASE_INSENSITIVE_ORDER"), (0, u "Ljava/util/Comparator;"), (409, u "([C)V"), (90, u "serialPersistentFields"), (0, u "[Ljava/io/ObjectStreamField;"), (0, .class_ 1104), (0, u "java/lang/String$CaseInsensitiveComparator"), (1, .class_ 1107), (0, u "java/io/Serializable"), (0, .class_ 1109), (0, u "java/lang/Comparable"), (0, .class_ 1111), (0, u "java/lang/constant/Constable"), (0, .class_ 1113), (0, u "java/lang/constant/ConstantDesc"), (2, u "serialVersionUID"), (0, u "J"), (3, u "REPL"), (0, u "C"), (2, u "LATIN1"), (1, u "UTF16")] 323

def k7m0 : Method := { name := "<init>", desc := "()V", sig := { parameters := [], returnType := none }, accessFlags := 1, code := none }
def k7c1 : Code := { maxStack := 5, maxLocals := 2, code := jdk_42_method_3_code, exceptionTable := #[], attributes := #[] }
def k7m1 : Method := { name := "<init>", desc := "([C)V", sig := { parameters := [(.array .char)], returnType := none }, accessFlags := 1, code := some k7c1 }
def k7c2 : Code := { maxStack := 2, maxLocals := 3, code := jdk_42_method_66_code, exceptionTable := #[], attributes := #[] }
def k7m2 : Method := { name := "equals", desc := "(Ljava/lang/Object;)Z", sig := { parameters := [(.object "java/lang/Object")], returnType := some .boolean }, accessFlags := 1, code := some k7c2 }
def k7c3 : Code := { maxStack := 4, maxLocals := 6, code := jdk_42_method_149_code, exceptionTable := #[], attributes := #[] }
def k7m3 : Method := { name := "<init>", desc := "([CIILjava/lang/Void;)V", sig := { parameters := [(.array .char), .int, .int, (.object "java/lang/Void")], returnType := none }, accessFlags := 2, code := some k7c3 }
/-- java/lang/String -/
def k7 : Class := { plain "java/lang/String" (some 0) with
  accessFlags := 49
  interfaces := #[2, 3, 4, 5, 6]
  cf := some (fileOf pool7 10 #[.nestMembers #[1103]] #[{ accessFlags := 1, nameIndex := 5, descriptorIndex := 6, attributes := #[] }, { accessFlags := 1, nameIndex := 5, descriptorIndex := 1010, attributes := #[] }, { accessFlags := 1, nameIndex := 543, descriptorIndex := 573, attributes := #[] }, { accessFlags := 2, nameIndex := 5, descriptorIndex := 29, attributes := #[] }] 49 2 #[1106, 1108, 575, 1110, 1112] #[{ accessFlags := 18, nameIndex := 13, descriptorIndex := 14, attributes := #[] }, { accessFlags := 18, nameIndex := 17, descriptorIndex := 18, attributes := #[] }, { accessFlags := 2, nameIndex := 21, descriptorIndex := 22, attributes := #[] }, { accessFlags := 2, nameIndex := 25, descriptorIndex := 26, attributes := #[] }, { accessFlags := 26, nameIndex := 1116, descriptorIndex := 1117, attributes := #[] }, { accessFlags := 24, nameIndex := 40, descriptorIndex := 26, attributes := #[] }, { accessFlags := 26, nameIndex := 1101, descriptorIndex := 1102, attributes := #[] }, { accessFlags := 26, nameIndex := 1121, descriptorIndex := 1122, attributes := #[] }, { accessFlags := 25, nameIndex := 599, descriptorIndex := 600, attributes := #[] }, { accessFlags := 24, nameIndex := 1125, descriptorIndex := 18, attributes := #[] }, { accessFlags := 24, nameIndex := 1127, descriptorIndex := 18, attributes := #[] }])
  fields := #[{ name := "value", type := (.array .byte), accessFlags := 18, slot := 0, constantValue := 0 }, { name := "coder", type := .byte, accessFlags := 18, slot := 1, constantValue := 0 }, { name := "hash", type := .int, accessFlags := 2, slot := 2, constantValue := 0 }, { name := "hashIsZero", type := .boolean, accessFlags := 2, slot := 3, constantValue := 0 }, { name := "serialVersionUID", type := .long, accessFlags := 26, slot := 0, constantValue := 0 }, { name := "COMPACT_STRINGS", type := .boolean, accessFlags := 24, slot := 1, constantValue := 0 }, { name := "serialPersistentFields", type := (.array (.object "java/io/ObjectStreamField")), accessFlags := 26, slot := 2, constantValue := 0 }, { name := "REPL", type := .char, accessFlags := 26, slot := 3, constantValue := 0 }, { name := "CASE_INSENSITIVE_ORDER", type := (.object "java/util/Comparator"), accessFlags := 25, slot := 4, constantValue := 0 }, { name := "LATIN1", type := .byte, accessFlags := 24, slot := 5, constantValue := 0 }, { name := "UTF16", type := .byte, accessFlags := 24, slot := 6, constantValue := 0 }]
  methods := #[k7m0, k7m1, k7m2, k7m3]
  instanceTypes := #[(.array .byte), .byte, .int, .boolean]
  staticTypes := #[.long, .boolean, (.array (.object "java/io/ObjectStreamField")), .char, (.object "java/util/Comparator"), .byte, .byte]
  resolved := Array.replicate 1451 none
  statics := some 0 }

def pool8 : Array CpInfo := pool [(1, .class_ 2), (0, u "com/example/triplewright/triplewright/rdf/Term"), (0, .class_ 4), (0, u "java/lang/Object")] 11

/-- com/example/triplewright/triplewright/rdf/Term -/
def k8 : Class := { plain "com/example/triplewright/triplewright/rdf/Term" (some 0) with
  accessFlags := 1537
  interfaces := #[]
  cf := some (fileOf pool8 1 #[] #[] 1537 3 #[] #[])
  fields := #[]
  methods := #[]
  instanceTypes := #[]
  staticTypes := #[]
  resolved := Array.replicate 16 none
  statics := none }

def pool9 : Array CpInfo := pool [(1, .methodref 2 3), (0, .class_ 4), (0, .nameAndType 5 6), (0, u "java/lang/Object"), (0, u "<init>"), (0, u "()V"), (0, .string 8), (0, u "value"), (0, .methodref 10 11), (0, .class_ 12), (0, .nameAndType 13 14), (0, u "java/util/Objects"), (0, u "requireNonNull"), (0, u "(Ljava/lang/Object;Ljava/lang/String;)Ljava/lang/Object;"), (0, .class_ 16), (0, u "java/lang/String"), (0, .fieldref 18 19), (0, .class_ 20), (0, .nameAndType 8 21), (0, u "com/example/triplewright/triplewright/rdf/Iri"), (0, u "Ljava/lang/String;"), (2, u "written"), (15, .methodref 15 41), (0, .nameAndType 42 43), (0, u "equals"), (0, u "(Ljava/lang/Object;)Z"), (18, .class_ 63), (0, u "com/example/triplewright/triplewright/rdf/Term"), (0, u "(Ljava/lang/String;)V")] 5

def k9c0 : Code := { maxStack := 3, maxLocals := 2, code := prog_45_method_1_code, exceptionTable := #[], attributes := #[] }
def k9m0 : Method := { name := "<init>", desc := "(Ljava/lang/String;)V", sig := { parameters := [(.object "java/lang/String")], returnType := none }, accessFlags := 1, code := some k9c0 }
def k9c1 : Code := { maxStack := 2, maxLocals := 3, code := prog_45_method_4_code, exceptionTable := #[], attributes := #[] }
def k9m1 : Method := { name := "equals", desc := "(Ljava/lang/Object;)Z", sig := { parameters := [(.object "java/lang/Object")], returnType := some .boolean }, accessFlags := 1, code := some k9c1 }
/-- com/example/triplewright/triplewright/rdf/Iri -/
def k9 : Class := { plain "com/example/triplewright/triplewright/rdf/Iri" (some 0) with
  accessFlags := 49
  interfaces := #[8]
  cf := some (fileOf pool9 18 #[] #[{ accessFlags := 1, nameIndex := 5, descriptorIndex := 64, attributes := #[] }, { accessFlags := 1, nameIndex := 42, descriptorIndex := 43, attributes := #[] }] 49 2 #[62] #[{ accessFlags := 18, nameIndex := 8, descriptorIndex := 21, attributes := #[] }, { accessFlags := 2, nameIndex := 24, descriptorIndex := 21, attributes := #[] }])
  fields := #[{ name := "value", type := (.object "java/lang/String"), accessFlags := 18, slot := 0, constantValue := 0 }, { name := "written", type := (.object "java/lang/String"), accessFlags := 2, slot := 1, constantValue := 0 }]
  methods := #[k9m0, k9m1]
  instanceTypes := #[(.object "java/lang/String"), (.object "java/lang/String")]
  staticTypes := #[]
  resolved := Array.replicate 70 none
  statics := none }

def pool10 : Array CpInfo := pool [(2, .class_ 4), (1, u "java/lang/Object"), (0, u "<init>"), (0, u "()V"), (35, .class_ 44), (1, u "java/util/Objects"), (0, u "requireNonNull"), (48, u "(Ljava/lang/Object;Ljava/lang/String;)Ljava/lang/Object;")] 89

def k10m0 : Method := { name := "<init>", desc := "()V", sig := { parameters := [], returnType := none }, accessFlags := 2, code := none }
def k10c1 : Code := { maxStack := 3, maxLocals := 2, code := jdk_31_method_11_code, exceptionTable := #[], attributes := #[] }
def k10m1 : Method := { name := "requireNonNull", desc := "(Ljava/lang/Object;Ljava/lang/String;)Ljava/lang/Object;", sig := { parameters := [(.object "java/lang/Object"), (.object "java/lang/String")], returnType := some (.object "java/lang/Object") }, accessFlags := 9, code := some k10c1 }
/-- java/util/Objects -/
def k10 : Class := { plain "java/util/Objects" (some 0) with
  accessFlags := 49
  interfaces := #[]
  cf := some (fileOf pool10 42 #[] #[{ accessFlags := 2, nameIndex := 5, descriptorIndex := 6, attributes := #[] }, { accessFlags := 9, nameIndex := 45, descriptorIndex := 94, attributes := #[] }] 49 2 #[] #[])
  fields := #[]
  methods := #[k10m0, k10m1]
  instanceTypes := #[]
  staticTypes := #[]
  resolved := Array.replicate 184 none
  statics := none }

def pool11 : Array CpInfo := pool [(4, .class_ 6), (1, u "java/lang/Object"), (0, u "<init>"), (0, u "()V"), (5, .class_ 16), (1, u "java/lang/StringLatin1"), (104, u "$assertionsDisabled"), (0, u "Z"), (98, .class_ 223), (1, u "java/lang/StringLatin1$LinesSpliterator"), (57, u "equals"), (0, u "([B[B)Z"), (107, .class_ 391), (0, u "java/lang/StringLatin1$CharsSpliterator")] 3

def k11m0 : Method := { name := "<init>", desc := "()V", sig := { parameters := [], returnType := none }, accessFlags := 0, code := none }
def k11c1 : Code := { maxStack := 3, maxLocals := 3, code := jdk_43_method_13_code, exceptionTable := #[], attributes := #[] }
def k11m1 : Method := { name := "equals", desc := "([B[B)Z", sig := { parameters := [(.array .byte), (.array .byte)], returnType := some .boolean }, accessFlags := 9, code := some k11c1 }
/-- java/lang/StringLatin1 -/
def k11 : Class := { plain "java/lang/StringLatin1" (some 0) with
  accessFlags := 48
  interfaces := #[]
  cf := some (fileOf pool11 14 #[.nestMembers #[390, 221]] #[{ accessFlags := 0, nameIndex := 7, descriptorIndex := 8, attributes := #[] }, { accessFlags := 9, nameIndex := 281, descriptorIndex := 282, attributes := #[] }] 48 4 #[] #[{ accessFlags := 4120, nameIndex := 121, descriptorIndex := 122, attributes := #[] }])
  fields := #[{ name := "$assertionsDisabled", type := .boolean, accessFlags := 4120, slot := 0, constantValue := 0 }]
  methods := #[k11m0, k11m1]
  instanceTypes := #[]
  staticTypes := #[.boolean]
  resolved := Array.replicate 395 none
  statics := none }

def pool12 : Array CpInfo := pool [(1, .methodref 2 3), (0, .class_ 4), (0, .nameAndType 5 6), (0, u "java/lang/Object"), (0, u "<init>"), (0, u "()V"), (0, .class_ 8), (0, u "java/lang/Record")] 13

def k12c0 : Code := { maxStack := 1, maxLocals := 1, code := jdk_30_method_1_code, exceptionTable := #[], attributes := #[] }
def k12m0 : Method := { name := "<init>", desc := "()V", sig := { parameters := [], returnType := none }, accessFlags := 4, code := some k12c0 }
/-- java/lang/Record -/
def k12 : Class := { plain "java/lang/Record" (some 0) with
  accessFlags := 1057
  interfaces := #[]
  cf := some (fileOf pool12 7 #[] #[{ accessFlags := 4, nameIndex := 5, descriptorIndex := 6, attributes := #[] }] 1057 2 #[] #[])
  fields := #[]
  methods := #[k12m0]
  instanceTypes := #[]
  staticTypes := #[]
  resolved := Array.replicate 22 none
  statics := none }

def pool13 : Array CpInfo := pool [(1, .methodref 2 3), (0, .class_ 4), (0, .nameAndType 5 6), (0, u "java/lang/Record"), (0, u "<init>"), (0, u "()V"), (0, .string 8), (0, u "label"), (0, .methodref 10 11), (0, .class_ 12), (0, .nameAndType 13 14), (0, u "java/util/Objects"), (0, u "requireNonNull"), (0, u "(Ljava/lang/Object;Ljava/lang/String;)Ljava/lang/Object;"), (0, .fieldref 16 17), (0, .class_ 18), (0, .nameAndType 8 19), (0, u "com/example/triplewright/triplewright/rdf/BlankNode"), (0, u "Ljava/lang/String;"), (20, .class_ 41), (0, u "com/example/triplewright/triplewright/rdf/Term"), (0, u "(Ljava/lang/String;)V")] 35

def k13c0 : Code := { maxStack := 2, maxLocals := 2, code := prog_42_method_1_code, exceptionTable := #[], attributes := #[] }
def k13m0 : Method := { name := "<init>", desc := "(Ljava/lang/String;)V", sig := { parameters := [(.object "java/lang/String")], returnType := none }, accessFlags := 1, code := some k13c0 }
/-- com/example/triplewright/triplewright/rdf/BlankNode -/
def k13 : Class := { plain "com/example/triplewright/triplewright/rdf/BlankNode" (some 12) with
  accessFlags := 49
  interfaces := #[8]
  cf := some (fileOf pool13 16 #[] #[{ accessFlags := 1, nameIndex := 5, descriptorIndex := 42, attributes := #[] }] 49 2 #[40] #[{ accessFlags := 18, nameIndex := 8, descriptorIndex := 19, attributes := #[] }])
  fields := #[{ name := "label", type := (.object "java/lang/String"), accessFlags := 18, slot := 0, constantValue := 0 }]
  methods := #[k13m0]
  instanceTypes := #[(.object "java/lang/String")]
  staticTypes := #[]
  resolved := Array.replicate 78 none
  statics := none }

def pool14 : Array CpInfo := pool [(6, .class_ 8), (1, u "java/lang/Object"), (0, u "<init>"), (0, u "()V"), (1, .class_ 14), (1, u "java/lang/StringUTF16"), (31, u "$assertionsDisabled"), (0, u "Z"), (13, u "HI_BYTE_SHIFT"), (0, u "I"), (2, u "LO_BYTE_SHIFT"), (49, .methodref 12 116), (0, .nameAndType 117 118), (0, u "compress"), (0, u "([CI[BII)I"), (3, u "([CII)[B"), (138, u "coderFromArrayLen"), (0, u "([BI)B"), (106, .class_ 371), (1, u "java/lang/StringUTF16$LinesSpliterator"), (58, u "MAX_LENGTH"), (196, .class_ 628), (0, u "java/lang/StringUTF16$CodePointsSpliterator"), (0, .class_ 630), (0, u "java/lang/StringUTF16$CharsSpliterator")] 4

def k14m0 : Method := { name := "<init>", desc := "()V", sig := { parameters := [], returnType := none }, accessFlags := 0, code := none }
def k14c1 : Code := { maxStack := 2, maxLocals := 2, code := jdk_52_method_15_code, exceptionTable := #[], attributes := #[] }
def k14m1 : Method := { name := "coderFromArrayLen", desc := "([BI)B", sig := { parameters := [(.array .byte), .int], returnType := some .byte }, accessFlags := 8, code := some k14c1 }
def k14c2 : Code := { maxStack := 5, maxLocals := 6, code := jdk_52_method_16_code, exceptionTable := #[], attributes := #[] }
def k14m2 : Method := { name := "compress", desc := "([CII)[B", sig := { parameters := [(.array .char), .int, .int], returnType := some (.array .byte) }, accessFlags := 9, code := some k14c2 }
def k14c3 : Code := { maxStack := 3, maxLocals := 7, code := jdk_52_method_21_code, exceptionTable := #[], attributes := #[] }
def k14m3 : Method := { name := "compress", desc := "([CI[BII)I", sig := { parameters := [(.array .char), .int, (.array .byte), .int, .int], returnType := some .int }, accessFlags := 9, code := some k14c3 }
/-- java/lang/StringUTF16 -/
def k14 : Class := { plain "java/lang/StringUTF16" (some 0) with
  accessFlags := 48
  interfaces := #[]
  cf := some (fileOf pool14 12 #[.nestMembers #[627, 629, 369]] #[{ accessFlags := 0, nameIndex := 9, descriptorIndex := 10, attributes := #[] }, { accessFlags := 8, nameIndex := 261, descriptorIndex := 262, attributes := #[] }, { accessFlags := 9, nameIndex := 117, descriptorIndex := 122, attributes := #[] }, { accessFlags := 9, nameIndex := 117, descriptorIndex := 118, attributes := #[] }] 48 6 #[] #[{ accessFlags := 26, nameIndex := 61, descriptorIndex := 62, attributes := #[] }, { accessFlags := 26, nameIndex := 65, descriptorIndex := 62, attributes := #[] }, { accessFlags := 24, nameIndex := 430, descriptorIndex := 62, attributes := #[] }, { accessFlags := 4120, nameIndex := 46, descriptorIndex := 47, attributes := #[] }])
  fields := #[{ name := "HI_BYTE_SHIFT", type := .int, accessFlags := 26, slot := 0, constantValue := 0 }, { name := "LO_BYTE_SHIFT", type := .int, accessFlags := 26, slot := 1, constantValue := 0 }, { name := "MAX_LENGTH", type := .int, accessFlags := 24, slot := 2, constantValue := 0 }, { name := "$assertionsDisabled", type := .boolean, accessFlags := 4120, slot := 3, constantValue := 0 }]
  methods := #[k14m0, k14m1, k14m2, k14m3]
  instanceTypes := #[]
  staticTypes := #[.int, .int, .int, .boolean]
  resolved := Array.replicate 635 none
  statics := none }

def pool15 : Array CpInfo := pool [(2, .class_ 4), (1, u "java/lang/Object"), (0, u "<init>"), (0, u "()V"), (17, .class_ 26), (1, u "jdk/internal/util/Preconditions"), (28, .class_ 56), (0, u "jdk/internal/util/Preconditions$4"), (57, .class_ 115), (0, u "jdk/internal/util/Preconditions$1"), (7, u "SIOOBE_FORMATTER"), (0, u "Ljava/util/function/BiFunction;"), (0, .class_ 126), (0, u "jdk/internal/util/Preconditions$2"), (3, u "AIOOBE_FORMATTER"), (0, .class_ 132), (0, u "jdk/internal/util/Preconditions$3"), (3, u "IOOBE_FORMATTER")] 57

def k15m0 : Method := { name := "<init>", desc := "()V", sig := { parameters := [], returnType := none }, accessFlags := 1, code := none }
/-- jdk/internal/util/Preconditions -/
def k15 : Class := { plain "jdk/internal/util/Preconditions" (some 0) with
  accessFlags := 33
  interfaces := #[]
  cf := some (fileOf pool15 24 #[.nestMembers #[55, 131, 125, 114]] #[{ accessFlags := 1, nameIndex := 5, descriptorIndex := 6, attributes := #[] }] 33 2 #[] #[{ accessFlags := 25, nameIndex := 123, descriptorIndex := 124, attributes := #[] }, { accessFlags := 25, nameIndex := 130, descriptorIndex := 124, attributes := #[] }, { accessFlags := 25, nameIndex := 136, descriptorIndex := 124, attributes := #[] }])
  fields := #[{ name := "SIOOBE_FORMATTER", type := (.object "java/util/function/BiFunction"), accessFlags := 25, slot := 0, constantValue := 0 }, { name := "AIOOBE_FORMATTER", type := (.object "java/util/function/BiFunction"), accessFlags := 25, slot := 1, constantValue := 0 }, { name := "IOOBE_FORMATTER", type := (.object "java/util/function/BiFunction"), accessFlags := 25, slot := 2, constantValue := 0 }]
  methods := #[k15m0]
  instanceTypes := #[]
  staticTypes := #[(.object "java/util/function/BiFunction"), (.object "java/util/function/BiFunction"), (.object "java/util/function/BiFunction")]
  resolved := Array.replicate 194 none
  statics := some 1 }

def pool16 : Array CpInfo := pool [(9, u "<init>"), (6, .class_ 18), (1, u "java/lang/Object"), (0, u "()V"), (1, .class_ 23), (1, u "jdk/internal/util/ArraysSupport"), (0, u "LOG2_ARRAY_LONG_INDEX_SCALE"), (0, u "I"), (2, u "U"), (0, u "Ljdk/internal/misc/Unsafe;"), (8, u "BIG_ENDIAN"), (0, u "Z"), (8, u "LOG2_BYTE_BIT_SIZE"), (4, u "LOG2_ARRAY_INT_INDEX_SCALE"), (54, u "JLA"), (0, u "Ljdk/internal/access/JavaLangAccess;"), (11, u "LOG2_ARRAY_BOOLEAN_INDEX_SCALE"), (9, u "LOG2_ARRAY_BYTE_INDEX_SCALE"), (5, u "LOG2_ARRAY_CHAR_INDEX_SCALE"), (5, u "LOG2_ARRAY_SHORT_INDEX_SCALE"), (18, u "LOG2_ARRAY_FLOAT_INDEX_SCALE"), (24, u "LOG2_ARRAY_DOUBLE_INDEX_SCALE"), (89, u "T_BOOLEAN"), (2, u "T_CHAR"), (1, u "T_FLOAT"), (1, u "T_DOUBLE"), (1, u "T_BYTE"), (1, u "T_SHORT"), (1, u "T_INT"), (1, u "T_LONG"), (1, u "SOFT_MAX_ARRAY_LENGTH")] 83

def k16m0 : Method := { name := "<init>", desc := "()V", sig := { parameters := [], returnType := none }, accessFlags := 2, code := none }
/-- jdk/internal/util/ArraysSupport -/
def k16 : Class := { plain "jdk/internal/util/ArraysSupport" (some 0) with
  accessFlags := 33
  interfaces := #[]
  cf := some (fileOf pool16 21 #[] #[{ accessFlags := 2, nameIndex := 9, descriptorIndex := 19, attributes := #[] }] 33 16 #[] #[{ accessFlags := 24, nameIndex := 28, descriptorIndex := 29, attributes := #[] }, { accessFlags := 26, nameIndex := 38, descriptorIndex := 39, attributes := #[] }, { accessFlags := 25, nameIndex := 121, descriptorIndex := 25, attributes := #[] }, { accessFlags := 25, nameIndex := 131, descriptorIndex := 25, attributes := #[] }, { accessFlags := 25, nameIndex := 137, descriptorIndex := 25, attributes := #[] }, { accessFlags := 25, nameIndex := 143, descriptorIndex := 25, attributes := #[] }, { accessFlags := 25, nameIndex := 53, descriptorIndex := 25, attributes := #[] }, { accessFlags := 25, nameIndex := 24, descriptorIndex := 25, attributes := #[] }, { accessFlags := 25, nameIndex := 162, descriptorIndex := 25, attributes := #[] }, { accessFlags := 25, nameIndex := 187, descriptorIndex := 25, attributes := #[] }, { accessFlags := 26, nameIndex := 48, descriptorIndex := 25, attributes := #[] }, { accessFlags := 25, nameIndex := 277, descriptorIndex := 25, attributes := #[] }, { accessFlags := 25, nameIndex := 280, descriptorIndex := 25, attributes := #[] }, { accessFlags := 25, nameIndex := 282, descriptorIndex := 25, attributes := #[] }, { accessFlags := 25, nameIndex := 284, descriptorIndex := 25, attributes := #[] }, { accessFlags := 25, nameIndex := 286, descriptorIndex := 25, attributes := #[] }, { accessFlags := 25, nameIndex := 288, descriptorIndex := 25, attributes := #[] }, { accessFlags := 25, nameIndex := 290, descriptorIndex := 25, attributes := #[] }, { accessFlags := 25, nameIndex := 292, descriptorIndex := 25, attributes := #[] }, { accessFlags := 26, nameIndex := 108, descriptorIndex := 109, attributes := #[] }, { accessFlags := 25, nameIndex := 294, descriptorIndex := 25, attributes := #[] }])
  fields := #[{ name := "U", type := (.object "jdk/internal/misc/Unsafe"), accessFlags := 24, slot := 0, constantValue := 0 }, { name := "BIG_ENDIAN", type := .boolean, accessFlags := 26, slot := 1, constantValue := 0 }, { name := "LOG2_ARRAY_BOOLEAN_INDEX_SCALE", type := .int, accessFlags := 25, slot := 2, constantValue := 0 }, { name := "LOG2_ARRAY_BYTE_INDEX_SCALE", type := .int, accessFlags := 25, slot := 3, constantValue := 0 }, { name := "LOG2_ARRAY_CHAR_INDEX_SCALE", type := .int, accessFlags := 25, slot := 4, constantValue := 0 }, { name := "LOG2_ARRAY_SHORT_INDEX_SCALE", type := .int, accessFlags := 25, slot := 5, constantValue := 0 }, { name := "LOG2_ARRAY_INT_INDEX_SCALE", type := .int, accessFlags := 25, slot := 6, constantValue := 0 }, { name := "LOG2_ARRAY_LONG_INDEX_SCALE", type := .int, accessFlags := 25, slot := 7, constantValue := 0 }, { name := "LOG2_ARRAY_FLOAT_INDEX_SCALE", type := .int, accessFlags := 25, slot := 8, constantValue := 0 }, { name := "LOG2_ARRAY_DOUBLE_INDEX_SCALE", type := .int, accessFlags := 25, slot := 9, constantValue := 0 }, { name := "LOG2_BYTE_BIT_SIZE", type := .int, accessFlags := 26, slot := 10, constantValue := 0 }, { name := "T_BOOLEAN", type := .int, accessFlags := 25, slot := 11, constantValue := 0 }, { name := "T_CHAR", type := .int, accessFlags := 25, slot := 12, constantValue := 0 }, { name := "T_FLOAT", type := .int, accessFlags := 25, slot := 13, constantValue := 0 }, { name := "T_DOUBLE", type := .int, accessFlags := 25, slot := 14, constantValue := 0 }, { name := "T_BYTE", type := .int, accessFlags := 25, slot := 15, constantValue := 0 }, { name := "T_SHORT", type := .int, accessFlags := 25, slot := 16, constantValue := 0 }, { name := "T_INT", type := .int, accessFlags := 25, slot := 17, constantValue := 0 }, { name := "T_LONG", type := .int, accessFlags := 25, slot := 18, constantValue := 0 }, { name := "JLA", type := (.object "jdk/internal/access/JavaLangAccess"), accessFlags := 26, slot := 19, constantValue := 0 }, { name := "SOFT_MAX_ARRAY_LENGTH", type := .int, accessFlags := 25, slot := 20, constantValue := 0 }]
  methods := #[k16m0]
  instanceTypes := #[]
  staticTypes := #[(.object "jdk/internal/misc/Unsafe"), .boolean, .int, .int, .int, .int, .int, .int, .int, .int, .int, .int, .int, .int, .int, .int, .int, .int, .int, (.object "jdk/internal/access/JavaLangAccess"), .int]
  resolved := Array.replicate 378 none
  statics := none }

def pool17 : Array CpInfo := pool [(1, u "java/lang/Cloneable"), (0, .class_ 1), (0, u "java/lang/Object"), (0, .class_ 3)] 3

/-- java/lang/Cloneable -/
def k17 : Class := { plain "java/lang/Cloneable" (some 0) with
  accessFlags := 1537
  interfaces := #[]
  cf := some (fileOf pool17 2 #[] #[] 1537 4 #[] #[])
  fields := #[]
  methods := #[]
  instanceTypes := #[]
  staticTypes := #[]
  resolved := Array.replicate 8 none
  statics := none }

/-- the primitive byte -/
def k18 : Class := { plain "byte" none with kind := .primitive 'B', accessFlags := 0x411 }
/-- [B -/
def k19 : Class := { plain "[B" (some 0) with kind := .array 18 .byte, interfaces := #[17, 2], accessFlags := 1041 }

/-- the primitive char -/
def k20 : Class := { plain "char" none with kind := .primitive 'C', accessFlags := 0x411 }
/-- [C -/
def k21 : Class := { plain "[C" (some 0) with kind := .array 20 .char, interfaces := #[17, 2], accessFlags := 1041 }

/-- the primitive int -/
def k22 : Class := { plain "int" none with kind := .primitive 'I', accessFlags := 0x411 }
/-- [I -/
def k23 : Class := { plain "[I" (some 0) with kind := .array 22 .int, interfaces := #[17, 2], accessFlags := 1041 }

def heap : Heap := #[{ cls := 7, slots := #[.long 0, .int 1, .null, .int 0, .null, .int 0, .int 0], vm := .statics 7 },
  { cls := 15, slots := #[.null, .null, .null], vm := .statics 15 }]
def classes : Array Class := #[k0, k1, k2, k3, k4, k5, k6, k7, k8, k9, k10, k11, k12, k13, k14, k15, k16, k17, k18, k19, k20, k21, k22, k23]
def interned : List (Array UInt16 × Addr) := []
def slotsUsed : Nat := 10
def theMethod : MethodId := ⟨1, 2⟩
def args0 : Array Value := #[.int 5, .int 5, .int 5]
def aboutOver (below : List Frame) : State where
  vm := { classes := classes, interned := interned.toArray }
  heap := heap
  slotsUsed := slotsUsed
  threads := #[{ frames := .invoking theMethod args0 :: below }]
def below0 : List Frame := [.native { method := ⟨0, 0⟩, args := #[] }]
def about1 : State := aboutOver below0
def p0 : Program := .bare "" "" ""
def e0 : Env := launch0.env 0 0 0
theorem w_frames : about1.frames = Frame.invoking theMethod args0 :: below0 := rfl
set_option maxRecDepth 65536 in
theorem w_args : argsFit about1.vm theMethod args0 = true := by decide +kernel
set_option maxRecDepth 65536 in
theorem w_heap : heapFits about1 = true := by decide +kernel
set_option maxRecDepth 65536 in
theorem w_runnable : about1.curStatus? = some .runnable := by decide +kernel
set_option maxRecDepth 65536 in
theorem w_alone : about1.alone = true := by decide +kernel
set_option maxRecDepth 65536 in
theorem w_named : about1.methodNamed? x = some theMethod := by decide +kernel
set_option maxRecDepth 65536 in
theorem w_hears : about1.hears theMethod below0 = true := by decide +kernel
set_option maxRecDepth 65536 in
theorem w_ripe : about1.ripe theMethod args0 below0 = true := by decide +kernel
theorem w_running : about1.status = .running := rfl
set_option maxRecDepth 65536 in
theorem w_room : about1.hasRoom e0.platform room_1 = true :=
  launch0.hasRoom_least _ room_1 (by decide +kernel) (by decide +kernel) (by decide +kernel) (by decide +kernel) (by decide +kernel) (by decide +kernel)
theorem allAtoms_all (ts : List Jvm.Cond) (a : Array Jvm.Value) (st : Jvm.State) : (allAtoms ts).before a st = ts.all (fun c => c.before a st) := by
  induction ts with
  | nil => rfl
  | cons c t ih =>
    show (Jvm.Cond.and c (allAtoms t)).before a st = _
    rw [Jvm.Cond.before_and, ih, List.all_cons]
def words1 : List Jvm.Cond := Jvm.Cond.code x code maxLocals ret :: tables_1
/-- a 'code' word, met by the world's own term for the bytes: nothing is compared byte by byte -/
theorem code_word {y : MethodName} {bytes : ByteArray} {mx : Nat} {rt : Option FieldType} {a : Array Value} {s : State} {m : MethodId} {meth : Method} {c : Code} (h1 : s.methodNamed? y = some m) (h2 : s.vm.method? m = some meth) (h3 : meth.code = some c) (h4 : c.code = bytes)
    (h5 : (c.maxLocals == mx && c.exceptionTable.isEmpty && decide (c.maxStack ≤ mostOperands) && decide (meth.sig.returnType = rt) && !meth.locks && decide (parseMethodDescriptor y.desc = some meth.sig)) = true) : (Jvm.Cond.code y bytes mx rt).before a s = true := by
  simp only [Bool.and_eq_true, beq_iff_eq, Bool.not_eq_true', decide_eq_true_eq] at h5
  obtain ⟨⟨⟨⟨⟨g1, g2⟩, g3⟩, g4⟩, g5⟩, g6⟩ := h5
  simp [Cond.before, Cond.holds, Cond.value, h1, h2, h3, h4, g1, g2, g3, g4, g5, g6]
def isCode : Jvm.Cond → Bool
  | .code _ _ _ _ => true
  | _ => false
theorem all_split {L : List Jvm.Cond} {P : Jvm.Cond → Bool} (h1 : L.all (fun c => isCode c || P c) = true) (h2 : ∀ c ∈ L.filter isCode, P c = true) : L.all P = true := by
  refine List.all_eq_true.mpr fun c hc => ?_
  have h := List.all_eq_true.mp h1 c hc
  rcases Bool.eq_false_or_eq_true (isCode c) with hi | hi
  · exact h2 c (List.mem_filter.mpr ⟨hc, hi⟩)
  · simpa [hi] using h
set_option maxRecDepth 65536 in
theorem w_c0 : (Jvm.Cond.code x code maxLocals ret).before args0 about1 = true := code_word (m := ⟨1, 2⟩) (meth := k1m2) (c := k1c2) (by decide +kernel) rfl rfl rfl (by decide +kernel)
set_option maxRecDepth 65536 in
theorem w_c1 : (Jvm.Cond.code ({ cls := "com/example/triplewright/triplewright/rdf/IriEqualsPinLaw", name := "make", desc := "(ICC)Ljava/lang/String;" } : Jvm.MethodName) method_2_code (3 : Nat) (Option.some (Jvm.ClassFile.FieldType.object "java/lang/String"))).before args0 about1 = true := code_word (m := ⟨1, 1⟩) (meth := k1m1) (c := k1c1) (by decide +kernel) rfl rfl rfl (by decide +kernel)
set_option maxRecDepth 65536 in
theorem w_c2 : (Jvm.Cond.code ({ cls := "java/lang/String", name := "<init>", desc := "([C)V" } : Jvm.MethodName) jdk_42_method_3_code (2 : Nat) (Option.none : Option Jvm.ClassFile.FieldType)).before args0 about1 = true := code_word (m := ⟨7, 1⟩) (meth := k7m1) (c := k7c1) (by decide +kernel) rfl rfl rfl (by decide +kernel)
set_option maxRecDepth 65536 in
theorem w_c3 : (Jvm.Cond.code ({ cls := "java/lang/String", name := "<init>", desc := "([CIILjava/lang/Void;)V" } : Jvm.MethodName) jdk_42_method_149_code (6 : Nat) (Option.none : Option Jvm.ClassFile.FieldType)).before args0 about1 = true := code_word (m := ⟨7, 3⟩) (meth := k7m3) (c := k7c3) (by decide +kernel) rfl rfl rfl (by decide +kernel)
set_option maxRecDepth 65536 in
theorem w_c4 : (Jvm.Cond.code ({ cls := "java/lang/Object", name := "<init>", desc := "()V" } : Jvm.MethodName) object_method_1_code (1 : Nat) (Option.none : Option Jvm.ClassFile.FieldType)).before args0 about1 = true := code_word (m := ⟨0, 0⟩) (meth := k0m0) (c := k0c0) (by decide +kernel) rfl rfl rfl (by decide +kernel)
set_option maxRecDepth 65536 in
theorem w_c5 : (Jvm.Cond.code ({ cls := "com/example/triplewright/triplewright/rdf/Iri", name := "<init>", desc := "(Ljava/lang/String;)V" } : Jvm.MethodName) prog_45_method_1_code (2 : Nat) (Option.none : Option Jvm.ClassFile.FieldType)).before args0 about1 = true := code_word (m := ⟨9, 0⟩) (meth := k9m0) (c := k9c0) (by decide +kernel) rfl rfl rfl (by decide +kernel)
set_option maxRecDepth 65536 in
theorem w_c6 : (Jvm.Cond.code ({ cls := "java/util/Objects", name := "requireNonNull", desc := "(Ljava/lang/Object;Ljava/lang/String;)Ljava/lang/Object;" } : Jvm.MethodName) jdk_31_method_11_code (2 : Nat) (Option.some (Jvm.ClassFile.FieldType.object "java/lang/Object"))).before args0 about1 = true := code_word (m := ⟨10, 1⟩) (meth := k10m1) (c := k10c1) (by decide +kernel) rfl rfl rfl (by decide +kernel)
set_option maxRecDepth 65536 in
theorem w_c7 : (Jvm.Cond.code ({ cls := "com/example/triplewright/triplewright/rdf/Iri", name := "equals", desc := "(Ljava/lang/Object;)Z" } : Jvm.MethodName) prog_45_method_4_code (3 : Nat) (Option.some Jvm.ClassFile.FieldType.boolean)).before args0 about1 = true := code_word (m := ⟨9, 1⟩) (meth := k9m1) (c := k9c1) (by decide +kernel) rfl rfl rfl (by decide +kernel)
set_option maxRecDepth 65536 in
theorem w_c8 : (Jvm.Cond.code ({ cls := "java/lang/String", name := "equals", desc := "(Ljava/lang/Object;)Z" } : Jvm.MethodName) jdk_42_method_66_code (3 : Nat) (Option.some Jvm.ClassFile.FieldType.boolean)).before args0 about1 = true := code_word (m := ⟨7, 2⟩) (meth := k7m2) (c := k7c2) (by decide +kernel) rfl rfl rfl (by decide +kernel)
set_option maxRecDepth 65536 in
theorem w_c9 : (Jvm.Cond.code ({ cls := "java/lang/StringLatin1", name := "equals", desc := "([B[B)Z" } : Jvm.MethodName) jdk_43_method_13_code (3 : Nat) (Option.some Jvm.ClassFile.FieldType.boolean)).before args0 about1 = true := code_word (m := ⟨11, 1⟩) (meth := k11m1) (c := k11c1) (by decide +kernel) rfl rfl rfl (by decide +kernel)
set_option maxRecDepth 65536 in
theorem w_c10 : (Jvm.Cond.code ({ cls := "com/example/triplewright/triplewright/rdf/BlankNode", name := "<init>", desc := "(Ljava/lang/String;)V" } : Jvm.MethodName) prog_42_method_1_code (2 : Nat) (Option.none : Option Jvm.ClassFile.FieldType)).before args0 about1 = true := code_word (m := ⟨13, 0⟩) (meth := k13m0) (c := k13c0) (by decide +kernel) rfl rfl rfl (by decide +kernel)
set_option maxRecDepth 65536 in
theorem w_c11 : (Jvm.Cond.code ({ cls := "java/lang/Record", name := "<init>", desc := "()V" } : Jvm.MethodName) jdk_30_method_1_code (1 : Nat) (Option.none : Option Jvm.ClassFile.FieldType)).before args0 about1 = true := code_word (m := ⟨12, 0⟩) (meth := k12m0) (c := k12c0) (by decide +kernel) rfl rfl rfl (by decide +kernel)
set_option maxRecDepth 65536 in
theorem w_c12 : (Jvm.Cond.code ({ cls := "java/lang/StringUTF16", name := "compress", desc := "([CII)[B" } : Jvm.MethodName) jdk_52_method_16_code (6 : Nat) (Option.some (Jvm.ClassFile.FieldType.array Jvm.ClassFile.FieldType.byte))).before args0 about1 = true := code_word (m := ⟨14, 2⟩) (meth := k14m2) (c := k14c2) (by decide +kernel) rfl rfl rfl (by decide +kernel)
set_option maxRecDepth 65536 in
theorem w_c13 : (Jvm.Cond.code ({ cls := "java/lang/StringUTF16", name := "compress", desc := "([CI[BII)I" } : Jvm.MethodName) jdk_52_method_21_code (7 : Nat) (Option.some Jvm.ClassFile.FieldType.int)).before args0 about1 = true := code_word (m := ⟨14, 3⟩) (meth := k14m3) (c := k14c3) (by decide +kernel) rfl rfl rfl (by decide +kernel)
set_option maxRecDepth 65536 in
theorem w_c14 : (Jvm.Cond.code ({ cls := "java/lang/StringUTF16", name := "coderFromArrayLen", desc := "([BI)B" } : Jvm.MethodName) jdk_52_method_15_code (2 : Nat) (Option.some Jvm.ClassFile.FieldType.byte)).before args0 about1 = true := code_word (m := ⟨14, 1⟩) (meth := k14m1) (c := k14c1) (by decide +kernel) rfl rfl rfl (by decide +kernel)
def codes1 : List Jvm.Cond := [Jvm.Cond.code x code maxLocals ret, Jvm.Cond.code ({ cls := "com/example/triplewright/triplewright/rdf/IriEqualsPinLaw", name := "make", desc := "(ICC)Ljava/lang/String;" } : Jvm.MethodName) method_2_code (3 : Nat) (Option.some (Jvm.ClassFile.FieldType.object "java/lang/String")), Jvm.Cond.code ({ cls := "java/lang/String", name := "<init>", desc := "([C)V" } : Jvm.MethodName) jdk_42_method_3_code (2 : Nat) (Option.none : Option Jvm.ClassFile.FieldType), Jvm.Cond.code ({ cls := "java/lang/String", name := "<init>", desc := "([CIILjava/lang/Void;)V" } : Jvm.MethodName) jdk_42_method_149_code (6 : Nat) (Option.none : Option Jvm.ClassFile.FieldType), Jvm.Cond.code ({ cls := "java/lang/Object", name := "<init>", desc := "()V" } : Jvm.MethodName) object_method_1_code (1 : Nat) (Option.none : Option Jvm.ClassFile.FieldType), Jvm.Cond.code ({ cls := "com/example/triplewright/triplewright/rdf/Iri", name := "<init>", desc := "(Ljava/lang/String;)V" } : Jvm.MethodName) prog_45_method_1_code (2 : Nat) (Option.none : Option Jvm.ClassFile.FieldType), Jvm.Cond.code ({ cls := "java/util/Objects", name := "requireNonNull", desc := "(Ljava/lang/Object;Ljava/lang/String;)Ljava/lang/Object;" } : Jvm.MethodName) jdk_31_method_11_code (2 : Nat) (Option.some (Jvm.ClassFile.FieldType.object "java/lang/Object")), Jvm.Cond.code ({ cls := "com/example/triplewright/triplewright/rdf/Iri", name := "equals", desc := "(Ljava/lang/Object;)Z" } : Jvm.MethodName) prog_45_method_4_code (3 : Nat) (Option.some Jvm.ClassFile.FieldType.boolean), Jvm.Cond.code ({ cls := "java/lang/String", name := "equals", desc := "(Ljava/lang/Object;)Z" } : Jvm.MethodName) jdk_42_method_66_code (3 : Nat) (Option.some Jvm.ClassFile.FieldType.boolean), Jvm.Cond.code ({ cls := "java/lang/StringLatin1", name := "equals", desc := "([B[B)Z" } : Jvm.MethodName) jdk_43_method_13_code (3 : Nat) (Option.some Jvm.ClassFile.FieldType.boolean), Jvm.Cond.code ({ cls := "com/example/triplewright/triplewright/rdf/BlankNode", name := "<init>", desc := "(Ljava/lang/String;)V" } : Jvm.MethodName) prog_42_method_1_code (2 : Nat) (Option.none : Option Jvm.ClassFile.FieldType), Jvm.Cond.code ({ cls := "java/lang/Record", name := "<init>", desc := "()V" } : Jvm.MethodName) jdk_30_method_1_code (1 : Nat) (Option.none : Option Jvm.ClassFile.FieldType), Jvm.Cond.code ({ cls := "java/lang/StringUTF16", name := "compress", desc := "([CII)[B" } : Jvm.MethodName) jdk_52_method_16_code (6 : Nat) (Option.some (Jvm.ClassFile.FieldType.array Jvm.ClassFile.FieldType.byte)), Jvm.Cond.code ({ cls := "java/lang/StringUTF16", name := "compress", desc := "([CI[BII)I" } : Jvm.MethodName) jdk_52_method_21_code (7 : Nat) (Option.some Jvm.ClassFile.FieldType.int), Jvm.Cond.code ({ cls := "java/lang/StringUTF16", name := "coderFromArrayLen", desc := "([BI)B" } : Jvm.MethodName) jdk_52_method_15_code (2 : Nat) (Option.some Jvm.ClassFile.FieldType.byte)]
set_option maxRecDepth 65536 in
theorem codes_eq : words1.filter isCode = codes1 := rfl
theorem w_codes : ∀ c ∈ words1.filter isCode, c.before args0 about1 = true := by
  rw [codes_eq]
  intro c hc
  simp only [codes1, List.mem_cons, List.not_mem_nil, or_false] at hc
  rcases hc with rfl | rfl | rfl | rfl | rfl | rfl | rfl | rfl | rfl | rfl | rfl | rfl | rfl | rfl | rfl
  · exact w_c0
  · exact w_c1
  · exact w_c2
  · exact w_c3
  · exact w_c4
  · exact w_c5
  · exact w_c6
  · exact w_c7
  · exact w_c8
  · exact w_c9
  · exact w_c10
  · exact w_c11
  · exact w_c12
  · exact w_c13
  · exact w_c14
set_option maxRecDepth 65536 in
theorem w_t1 : (words1.take 24).all (fun c => isCode c || c.before args0 about1) = true := by decide +kernel
set_option maxRecDepth 65536 in
theorem w_t2 : ((words1.drop 24).take 24).all (fun c => isCode c || c.before args0 about1) = true := by decide +kernel
set_option maxRecDepth 65536 in
theorem w_t3 : (((words1.drop 24).drop 24).take 24).all (fun c => isCode c || c.before args0 about1) = true := by decide +kernel
set_option maxRecDepth 65536 in
theorem w_t4 : (((words1.drop 24).drop 24).drop 24).all (fun c => isCode c || c.before args0 about1) = true := by decide +kernel
theorem w_tables : (allAtoms (Jvm.Cond.code x code maxLocals ret :: tables_1)).before args0 about1 = true := by
  rw [allAtoms_all]
  show words1.all (fun c => c.before args0 about1) = true
  refine all_split ?_ w_codes
  rw [← List.take_append_drop 24 words1, List.all_append, w_t1, ← List.take_append_drop 24 (words1.drop 24), List.all_append, w_t2, ← List.take_append_drop 24 ((words1.drop 24).drop 24), List.all_append, w_t3, w_t4]
  rfl
set_option maxRecDepth 65536 in
theorem w_rest : rest_1_c.before args0 about1 = true := by decide +kernel
set_option maxRecDepth 65536 in
theorem w_case : (Jvm.Cond.and given_1 narrow_1).before args0 about1 = true := by decide +kernel
set_option maxRecDepth 65536 in
theorem w_consts : constsHeld consts_1 about1 := Jvm.Lit.constsHeldB_iff.mp (by decide +kernel)
theorem w_applies : (headSpec (Jvm.Cond.code x code maxLocals ret :: tables_1) room_1).applies x e0.platform about1 = true :=
  (Spec.applies_iff w_frames).mpr ⟨w_running, w_runnable, w_alone, w_named, w_hears, w_ripe, w_room, w_tables⟩
theorem atStart : AtStart classFile x code maxLocals ret World_1 tables_1 room_1 Calls_1 rest_1 Pre_1 launch0 p0 e0 about1 theMethod args0 below0 :=
  ⟨lists_1, trivial, launch0.admits_env _ _ _, launch0.least_env, fairChoices_fair.cas, fairChoices_fair.clock, w_frames, w_args, w_heap, w_applies, ⟨w_consts, trivial⟩, w_rest, w_case⟩
end start1
theorem witness_1 : WitnessClaimed_1 := ⟨start1.p0, start1.e0, start1.about1, start1.theMethod, start1.args0, start1.below0, start1.atStart⟩
end Jvm.Pilot.@@N@@
