import JvmDerived
import JvmDerived.Pilot.@@N@@Statement
import JvmDerived.Pilot.@@N@@Code
set_option linter.unusedVariables false
set_option linter.unusedSimpArgs false

namespace Jvm.RoadKit
open Sem ClassFile Op Lib Jvm.Stand Jvm.Free Jvm.LawKit
section New
variable {p : Program} {l : Launch} {e : Env} {R : Room} {s : State} {m : MethodId} {args : Array Value} {below : List Frame} {meth : Method} {c : Code} {T : State} {locs : List Loc} {cells slots : Nat}
theorem retI (X : Stand p l e R s m args below meth c T locs cells slots) (hx : p.tables.exec = Jvm.exec) {pc : Nat} {Ls : Array Slot} {z : Int32} {rest : List Value} (hret : meth.sig.returnType = some .int) (hd : decode c.code pc = .ok (.ireturn, 1)) {fs : List Frame}
    (hl : ∀ (f : JFrame) (acts : List Action), f.method = m → f.locked = none → f.entered = [] → (doReturn e (T.setTop f) acts (some (.int z))).1 = T.setFrames fs) : Steps p.tables e below (T.setTop (mkF m pc Ls (.int z :: rest))) (T.setFrames fs) := by
  have hm' : T.vm.method? m = some meth := X.method'
  have hn : narrow .int (.int z) = .int z := rfl
  show Steps p.tables e below (T.setTop { method := m, pc := pc, locals := Ls, stack := _ :: rest, locked := none }) _
  jvm_step X.here [X.here.top, hx, hd, hm', hret, hn]
  first | (intro acts; rw [hl _ acts rfl rfl rfl]) | rw [hl _ _ rfl rfl rfl]
  exact Steps.refl _
end New
end Jvm.RoadKit
namespace Jvm.Pilot.@@N@@
open Jvm Jvm.ClassFile Sem Op Lib Jvm.Free Jvm.Stand Jvm.LawKit Jvm.RoadKit Bundle Jvm.Pilot.@@N@@.Jvm.D
def Cel (Z : State) (h : Heap) (a : Addr) (ty : FieldType) (n : Int) (P : Int → Int32 → Prop) : Prop := ∃ c : Cell, Arr Z h a c ty ∧ (c.slots.size : Int) = n ∧ n < 2147483648 ∧ ∀ j : Nat, (j : Int) < n → ∃ x : Int32, c.slots[j]? = some (.int x) ∧ P j x
theorem Cel.lt {Z : State} {h : Heap} {a : Addr} {ty : FieldType} {n : Int} {P : Int → Int32 → Prop} (F : Cel Z h a ty n P) : a < h.size := by obtain ⟨c, A, -⟩ := F; exact A.lt
theorem Cel.ext {Z : State} {h h' : Heap} {a : Addr} {ty : FieldType} {n : Int} {P : Int → Int32 → Prop} (F : Cel Z h a ty n P) (E : Ext h h') : Cel Z h' a ty n P := by obtain ⟨c, A, r⟩ := F; exact ⟨c, A.ext E, r⟩
theorem Cel.other {Z : State} {h h' : Heap} {a b : Addr} {ty : FieldType} {n : Int} {P : Int → Int32 → Prop} {sl : Nat} {v : Value} (F : Cel Z h b ty n P) (W : Wr h h' a sl v) (q : b ≠ a) : Cel Z h' b ty n P := by obtain ⟨c, A, r⟩ := F; exact ⟨c, A.other W q, r⟩
theorem Cel.keep {Z : State} {h h' : Heap} {a : Addr} {ws : List Addr} {ty : FieldType} {n : Int} {P : Int → Int32 → Prop} (F : Cel Z h a ty n P) (K : Keep h h' ws) (q : a ∉ ws) : Cel Z h' a ty n P := by obtain ⟨c, A, r⟩ := F; exact ⟨c, ⟨K.2.1 a c A.1 q, A.2⟩, r⟩
theorem cel_clamp {j : Int32} (h : 0 ≤ j.toInt) : ((j.toNatClampNeg : Nat) : Int) = j.toInt := by simp only [Int32.toNatClampNeg]; omega
theorem cel_inb {c : Cell} {n : Int} {j : Int32} (S : (c.slots.size : Int) = n) (h1 : 0 ≤ j.toInt) (h2 : j.toInt < n) : ¬ (j < 0 ∨ c.slots.size ≤ j.toNatClampNeg) := by
  have e := cel_clamp h1
  have e0 : (0 : Int32).toInt = 0 := rfl
  rw [Int32.lt_iff_toInt_lt]
  omega
theorem cel_len {c : Cell} {n : Int} (S : (c.slots.size : Int) = n) (q : n < 2147483648) : c.slots.size.toInt32.toInt = n := by
  have e : c.slots.size.toInt32.toInt = Int.bmod (c.slots.size : Int) (2 ^ 32) := Int32.toInt_ofNat'
  rw [e, S, Int.bmod_def]
  have h0 : 0 ≤ n := by omega
  omega
theorem cel_get {c : Cell} {n : Int} {P : Int → Int32 → Prop} {j : Int32} (H : ∀ j : Nat, (j : Int) < n → ∃ x : Int32, c.slots[j]? = some (.int x) ∧ P j x) (h1 : 0 ≤ j.toInt) (h2 : j.toInt < n) : ∃ x : Int32, c.slots[j.toNatClampNeg]? = some (.int x) ∧ P j.toInt x := by
  have e := cel_clamp h1
  have q := H j.toNatClampNeg (by omega)
  rw [e] at q
  exact q
theorem cel_set {Z : State} {h h' : Heap} {a : Addr} {ty : FieldType} {n : Int} {P P' : Int → Int32 → Prop} {c : Cell} {j y : Int32} (A : Arr Z h a c ty) (S : (c.slots.size : Int) = n) (M : n < 2147483648) (H : ∀ j : Nat, (j : Int) < n → ∃ x : Int32, c.slots[j]? = some (.int x) ∧ P j x) (W : Wr h h' a j.toNatClampNeg (.int y)) (h1 : 0 ≤ j.toInt) (h2 : j.toInt < n) (hy : P' j.toInt y) (ho : ∀ i x, i ≠ j.toInt → P i x → P' i x) : Cel Z h' a ty n P' := by
  refine ⟨_, A.same W, by rw [sz_set]; exact S, M, fun i hi => ?_⟩
  have e := cel_clamp h1
  by_cases u : j.toNatClampNeg = i
  · refine ⟨y, ?_, ?_⟩
    · subst u
      have : j.toNatClampNeg < c.slots.size := by omega
      simp [Cell.setSlot, this]
    · rw [← u, e]; exact hy
  · obtain ⟨x, q1, q2⟩ := H i hi
    refine ⟨x, ?_, ho _ _ (fun q => u (by omega)) q2⟩
    simp only [Cell.setSlot]
    rw [Array.getElem?_setIfInBounds_ne u]
    exact q1
def upd (g : Int → Int) (j v : Int) : Int → Int := fun i => if i = j then v else g i
theorem upd_at (g : Int → Int) (j v : Int) : upd g j v j = v := if_pos rfl
theorem upd_ne (g : Int → Int) (j v : Int) {i : Int} (h : i ≠ j) : upd g j v i = g i := if_neg h
abbrev Byt (Z : State) (h : Heap) (a : Addr) (n : Int) (g : Int → Int) : Prop := Cel Z h a .byte n (fun i x => x.toInt % 256 = g i)
abbrev Nts (Z : State) (h : Heap) (a : Addr) (n : Int) (g : Int → Int) : Prop := Cel Z h a .int n (fun i x => x.toInt = g i)
theorem Byt.set {Z : State} {h h' : Heap} {a : Addr} {n : Int} {g : Int → Int} {c : Cell} {j y : Int32} (A : Arr Z h a c .byte) (S : (c.slots.size : Int) = n) (M : n < 2147483648) (H : ∀ j : Nat, (j : Int) < n → ∃ x : Int32, c.slots[j]? = some (.int x) ∧ x.toInt % 256 = g j) (h1 : 0 ≤ j.toInt) (h2 : j.toInt < n) (W : Wr h h' a j.toNatClampNeg (.int (nar .byte y))) : Byt Z h' a n (upd g j.toInt (y.toInt % 256)) := by
  refine cel_set (P := fun i x => x.toInt % 256 = g i) A S M H W h1 h2 ?_ ?_
  · show (nar .byte y).toInt % 256 = upd g j.toInt (y.toInt % 256) j.toInt
    rw [upd_at]
    have q := c_i2b y
    show (y.toInt8.toInt32).toInt % 256 = _
    omega
  · intro i x hi hp
    show x.toInt % 256 = upd g j.toInt (y.toInt % 256) i
    rw [upd_ne _ _ _ hi]; exact hp
theorem Nts.set {Z : State} {h h' : Heap} {a : Addr} {n : Int} {g : Int → Int} {c : Cell} {j y : Int32} (A : Arr Z h a c .int) (S : (c.slots.size : Int) = n) (M : n < 2147483648) (H : ∀ j : Nat, (j : Int) < n → ∃ x : Int32, c.slots[j]? = some (.int x) ∧ x.toInt = g j) (h1 : 0 ≤ j.toInt) (h2 : j.toInt < n) (W : Wr h h' a j.toNatClampNeg (.int y)) : Nts Z h' a n (upd g j.toInt y.toInt) := by
  refine cel_set (P := fun i x => x.toInt = g i) A S M H W h1 h2 ?_ ?_
  · show y.toInt = upd g j.toInt y.toInt j.toInt
    rw [upd_at]
  · intro i x hi hp
    show x.toInt = upd g j.toInt y.toInt i
    rw [upd_ne _ _ _ hi]; exact hp
theorem cel_new {Z : State} {h : Heap} {a : Addr} {k : ClassId} {z : Int32} {ty : FieldType} {P : Int → Int32 → Prop} (A : Arr Z h a (newA k ty z) ty) (hd : defaultValue ty = .int 0) (q : 0 ≤ z.toInt) (hp : ∀ i, P i 0) : Cel Z h a ty z.toInt P := by
  have e := cel_clamp q
  have sz : (newA k ty z).slots.size = z.toNatClampNeg := by simp [newA]
  have l := z.toInt_lt
  refine ⟨_, A, by rw [sz]; exact e, by omega, fun j hj => ⟨0, ?_, hp _⟩⟩
  have : j < z.toNatClampNeg := by omega
  simp [newA, hd, this]
theorem Byt.new {Z : State} {h : Heap} {a : Addr} {k : ClassId} {z : Int32} (A : Arr Z h a (newA k .byte z) .byte) (q : 0 ≤ z.toInt) : Byt Z h a z.toInt (fun _ => 0) := cel_new A rfl q (fun _ => rfl)
theorem Nts.new {Z : State} {h : Heap} {a : Addr} {k : ClassId} {z : Int32} (A : Arr Z h a (newA k .int z) .int) (q : 0 ≤ z.toInt) : Nts Z h a z.toInt (fun _ => 0) := cel_new A rfl q (fun _ => rfl)
def ls (x : Int) : Int := if x < 128 then 1 else if x < 256 then 2 else if x < 65536 then 3 else 4
theorem ls_b (x : Int) : 1 ≤ ls x ∧ ls x ≤ 4 := by unfold ls; repeat' split
                                                   all_goals omega
theorem ls_1 {x : Int} (h : x < 128) : ls x = 1 := if_pos h
theorem ls_2 {x : Int} (h : ¬ x < 128) (h' : x < 256) : ls x = 2 := by unfold ls; rw [if_neg h, if_pos h']
theorem ls_3 {x : Int} (h : ¬ x < 256) (h' : x < 65536) : ls x = 3 := by unfold ls; rw [if_neg (by omega), if_neg h, if_pos h']
theorem ls_4 {x : Int} (h : ¬ x < 65536) : ls x = 4 := by unfold ls; rw [if_neg (by omega), if_neg (by omega), if_neg h]
def TagOK (g : Int → Int) (p k c : Int) : Prop := (k = 0 → ¬ g p % 32 = 31) ∧ (1 ≤ k → g p % 32 = 31) ∧ (k = 1 → g (p + 1) < 128) ∧ (2 ≤ k → 128 ≤ g (p + 1)) ∧ (k = 2 → g (p + 2) < 128) ∧ (k = 3 → 128 ≤ g (p + 2) ∧ g (p + 3) < 128) ∧ (g p / 32) % 2 = c
def LenOK (g : Int → Int) (p n : Int) : Prop := (n < 128 → g p = n) ∧ (¬ n < 128 → n < 256 → g p = 129 ∧ g (p + 1) = n) ∧ (¬ n < 256 → n < 65536 → g p = 130 ∧ g (p + 1) = n / 256 ∧ g (p + 2) = n % 256) ∧ (¬ n < 65536 → g p = 131 ∧ g (p + 1) = n / 65536 ∧ g (p + 2) = n / 256 % 256 ∧ g (p + 3) = n % 256)
theorem TagOK.congr {g g' : Int → Int} {p k c : Int} (h : TagOK g p k c) (h1 : 0 ≤ k) (h2 : k ≤ 3) (q : ∀ i, p ≤ i → i < p + 1 + k → g' i = g i) : TagOK g' p k c := by
  obtain ⟨a1, a2, a3, a4, a5, a6, a7⟩ := h
  have q0 := q p (by omega) (by omega)
  refine ⟨fun z => ?_, fun z => ?_, fun z => ?_, fun z => ?_, fun z => ?_, fun z => ?_, ?_⟩
  · rw [q0]; exact a1 z
  · rw [q0]; exact a2 z
  · rw [q (p + 1) (by omega) (by omega)]; exact a3 z
  · rw [q (p + 1) (by omega) (by omega)]; exact a4 z
  · rw [q (p + 2) (by omega) (by omega)]; exact a5 z
  · rw [q (p + 2) (by omega) (by omega), q (p + 3) (by omega) (by omega)]; exact a6 z
  · rw [q0]; exact a7
theorem LenOK.congr {g g' : Int → Int} {p n : Int} (h : LenOK g p n) (q : ∀ i, p ≤ i → i < p + ls n → g' i = g i) : LenOK g' p n := by
  obtain ⟨a1, a2, a3, a4⟩ := h
  have b := ls_b n
  have q0 := q p (by omega) (by omega)
  refine ⟨fun z => ?_, fun z z' => ?_, fun z z' => ?_, fun z => ?_⟩
  · rw [q0]; exact a1 z
  · have e := ls_2 z z'
    rw [q0, q (p + 1) (by omega) (by omega)]; exact a2 z z'
  · have e := ls_3 z z'
    rw [q0, q (p + 1) (by omega) (by omega), q (p + 2) (by omega) (by omega)]; exact a3 z z'
  · have e := ls_4 z
    rw [q0, q (p + 1) (by omega) (by omega), q (p + 2) (by omega) (by omega), q (p + 3) (by omega) (by omega)]; exact a4 z
theorem own_m31 (w : Int32) : (w &&& (31 : Int32)).toInt = w.toInt % 32 := by
  have q := c_mask w 31 5 (by decide) (by decide)
  have e : ((2 ^ 5 : Nat) : Int) = 32 := by decide
  rw [e] at q; exact q
theorem own_m255 (w : Int32) : (w &&& (255 : Int32)).toInt = w.toInt % 256 := by
  have q := c_mask w 255 8 (by decide) (by decide)
  have e : ((2 ^ 8 : Nat) : Int) = 256 := by decide
  rw [e] at q; exact q
theorem own_byte : ∀ n : Fin 256, ((Int32.ofNat n.val &&& (128 : Int32)) = 0 ↔ n.val < 128) ∧ ((Int32.ofNat n.val &&& (32 : Int32)) = 0 ↔ n.val / 32 % 2 = 0) := by decide +kernel
theorem own_ofnat {w : Int32} (h1 : 0 ≤ w.toInt) (h2 : w.toInt < 256) : w = Int32.ofNat w.toInt.toNat := by
  apply Int32.toInt_inj.mp
  have e : (Int32.ofNat w.toInt.toNat).toInt = Int.bmod (w.toInt.toNat : Int) (2 ^ 32) := Int32.toInt_ofNat'
  rw [e, Int.bmod_def]
  omega
theorem own_128 {w : Int32} (h1 : 0 ≤ w.toInt) (h2 : w.toInt < 256) : (w &&& (128 : Int32)) = 0 ↔ w.toInt < 128 := by
  have q := (own_byte ⟨w.toInt.toNat, by omega⟩).1
  rw [show (Int32.ofNat (⟨w.toInt.toNat, by omega⟩ : Fin 256).val) = w from (own_ofnat h1 h2).symm] at q
  rw [q]
  show w.toInt.toNat < 128 ↔ _
  omega
theorem own_32 {w : Int32} (h1 : 0 ≤ w.toInt) (h2 : w.toInt < 256) : (w &&& (32 : Int32)) = 0 ↔ w.toInt / 32 % 2 = 0 := by
  have q := (own_byte ⟨w.toInt.toNat, by omega⟩).2
  rw [show (Int32.ofNat (⟨w.toInt.toNat, by omega⟩ : Fin 256).val) = w from (own_ofnat h1 h2).symm] at q
  rw [q]
  show w.toInt.toNat / 32 % 2 = 0 ↔ _
  omega
theorem own_iadd {a b : Int32} {x y : Int} (ha : a.toInt = x) (hb : b.toInt = y) (h1 : -2147483648 ≤ x + y) (h2 : x + y < 2147483648) : (a + b).toInt = x + y := by
  subst ha; subst hb
  have q := c_iadd a b
  have l := (a + b).toInt_lt
  have l2 := (a + b).le_toInt
  omega
theorem own_isub {a b : Int32} {x y : Int} (ha : a.toInt = x) (hb : b.toInt = y) (h1 : -2147483648 ≤ x - y) (h2 : x - y < 2147483648) : (a - b).toInt = x - y := by
  subst ha; subst hb
  have q := c_isub a b
  have l := (a - b).toInt_lt
  have l2 := (a - b).le_toInt
  omega
theorem own_lt1 {a b : Int32} {x y : Int} (ha : a.toInt = x) (hb : b.toInt = y) (h : a < b) : x < y := by subst ha; subst hb; exact Int32.lt_iff_toInt_lt.mp h
theorem own_lt0 {a b : Int32} {x y : Int} (ha : a.toInt = x) (hb : b.toInt = y) (h : ¬ a < b) : ¬ x < y := by subst ha; subst hb; exact fun q => h (Int32.lt_iff_toInt_lt.mpr q)
theorem own_eq1 {a b : Int32} {x y : Int} (ha : a.toInt = x) (hb : b.toInt = y) (h : a = b) : x = y := by subst ha; subst hb; rw [h]
theorem own_eq0 {a b : Int32} {x y : Int} (ha : a.toInt = x) (hb : b.toInt = y) (h : ¬ a = b) : ¬ x = y := by subst ha; subst hb; exact fun q => h (Int32.toInt_inj.mp q)
theorem own_lt1' {a b : Int32} {x y : Int} (ha : a.toInt = x) (hb : b.toInt = y) (h : x < y) : a < b := by subst ha; subst hb; exact Int32.lt_iff_toInt_lt.mpr h
theorem own_lt0' {a b : Int32} {x y : Int} (ha : a.toInt = x) (hb : b.toInt = y) (h : ¬ x < y) : ¬ a < b := by subst ha; subst hb; exact fun q => h (Int32.lt_iff_toInt_lt.mp q)
theorem own_eq1' {a b : Int32} {x y : Int} (ha : a.toInt = x) (hb : b.toInt = y) (h : x = y) : a = b := by subst ha; subst hb; exact Int32.toInt_inj.mp h
theorem own_eq0' {a b : Int32} {x y : Int} (ha : a.toInt = x) (hb : b.toInt = y) (h : ¬ x = y) : ¬ a = b := by subst ha; subst hb; exact fun q => h (by rw [q])
theorem own_nneg {a : Int32} {x : Int} (ha : a.toInt = x) (h : 0 ≤ x) : ¬ a < 0 := by subst ha; rw [Int32.lt_iff_toInt_lt]; have e : (0 : Int32).toInt = 0 := rfl; omega
theorem own_cap {a : Int32} {k : Nat} (h : 0 ≤ a.toInt) (q : a.toInt ≤ (k : Int)) : a.toNatClampNeg ≤ k := by have e := cel_clamp h; omega
def CF (x w : Int) : Prop := (1 ≤ x ∧ x ≤ 128 ∧ w = x - 1) ∨ (130 ≤ x ∧ x ≤ 257 ∧ w = x - 2) ∨ (259 ≤ x ∧ x ≤ 65538 ∧ w = x - 3) ∨ (65540 ≤ x ∧ w = x - 4) ∨ ((x < 1 ∨ x = 129 ∨ x = 258 ∨ x = 65539) ∧ w = -1)
theorem own_ushr {a q : Int32} {k : Nat} {P : Int} (hk : q.toBitVec.toNat % 32 = k) (hP : ((2 ^ k : Nat) : Int) = P) (h0 : 0 < k) (h : 0 ≤ a.toInt) : ((a.toUInt32 >>> (q &&& 31).toUInt32).toInt32).toInt = a.toInt / P := by
  have e := c_iushr a q k hk h0
  have l := a.toInt_lt
  rw [hP] at e
  rw [e]
  congr 1
  omega
theorem own_shl6 {a : Int32} (h1 : 0 ≤ a.toInt) (h2 : a.toInt ≤ 3) : (a <<< ((6 : Int32) &&& 31)).toInt = a.toInt * 64 := by
  have q := c_ishl a 6 6 (by decide)
  have e : ((2 ^ 6 : Nat) : Int) = 64 := by decide
  rw [e] at q
  have l := (a <<< ((6 : Int32) &&& 31)).toInt_lt
  have l2 := (a <<< ((6 : Int32) &&& 31)).le_toInt
  omega
theorem own_or {a b : Int32} {x y : Int} (k : Nat) (P : Int) (hk : k ≤ 31) (hP : P = (2 ^ k : Nat)) (ha : a.toInt = x) (hb : b.toInt = y) (h1 : x % P = 0) (h2 : 0 ≤ y) (h3 : y < P) (h4 : -2147483648 ≤ x + y) (h5 : x + y < 2147483648) : (a ||| b).toInt = x + y := by
  subst ha; subst hb
  have q := c_or a b k hk P hP h1 h2 h3
  have l := (a ||| b).toInt_lt
  have l2 := (a ||| b).le_toInt
  omega
theorem own_irem {a b : Int32} {d : Int} (hb : b.toInt = d) (hd : 0 < d) (h : 0 ≤ a.toInt) : 0 ≤ (a % b).toInt ∧ (a % b).toInt < d := by
  have q := (c_irem a b d hb).1 h
  rw [q]
  exact ⟨Int.emod_nonneg _ (by omega), Int.emod_lt_of_pos _ hd⟩
theorem cf_ok {x w : Int} (h : CF x w) (h1 : 14 ≤ x) (h2 : 0 ≤ w) : x = w + ls w ∧ 2 ≤ w := by
  rcases h with ⟨a, b, q⟩ | ⟨a, b, q⟩ | ⟨a, b, q⟩ | ⟨a, q⟩ | ⟨a, q⟩
  · have e := ls_1 (x := w) (by omega)
    omega
  · have e := ls_2 (x := w) (by omega) (by omega)
    omega
  · have e := ls_3 (x := w) (by omega) (by omega)
    omega
  · have e := ls_4 (x := w) (by omega)
    omega
  · omega
theorem cf_gap {x y w v : Int} (h : CF x w) (h1 : 14 ≤ x) (h2 : w < 0) (h3 : CF y v) (hy : y = x + 1 ∨ y = x - 1) : 14 ≤ y ∧ 0 ≤ v := by
  unfold CF at h h3
  omega
theorem own_shl8 {a : Int32} {x : Int} (ha : a.toInt = x) (h1 : 0 ≤ x) (h2 : x < 65536) : (a <<< ((8 : Int32) &&& 31)).toInt = x * 256 := by
  subst ha
  have q := c_ishl a 8 8 (by decide)
  have e : ((2 ^ 8 : Nat) : Int) = 256 := by decide
  rw [e] at q
  have l := (a <<< ((8 : Int32) &&& 31)).toInt_lt
  have l2 := (a <<< ((8 : Int32) &&& 31)).le_toInt
  omega
abbrev El : Type := Int × Int × Int × Nat
def Ok (gg : Int → Int) (nn mx : Int) : List El → Int → Int → (Int → Int) → Prop
  | [], p, _, _ => p = nn
  | y :: ys, p, d, ee => (p < nn ∧ 0 ≤ p ∧ d ≤ mx ∧ 0 ≤ d - y.2.2.2) ∧ (∀ i, d - y.2.2.2 < i → i ≤ d → ee i = p) ∧ (¬ ee (d - y.2.2.2) = p ∧ (d - y.2.2.2 = 0 → p = 0) ∧ 0 ≤ y.1 ∧ y.1 ≤ 3 ∧ 0 ≤ y.2.1) ∧ TagOK gg p y.1 y.2.2.1 ∧ LenOK gg (p + 1 + y.1) y.2.1 ∧ (p + 1 + y.1 + ls y.2.1 + y.2.1 ≤ ee (d - y.2.2.2) ∧ ee (d - y.2.2.2) ≤ nn) ∧ ((y.2.2.1 = 0 ∧ Ok gg nn mx ys (p + 1 + y.1 + ls y.2.1 + y.2.1) (d - y.2.2.2) ee) ∨ (y.2.2.1 = 1 ∧ d - y.2.2.2 < mx ∧ Ok gg nn mx ys (p + 1 + y.1 + ls y.2.1) (d - y.2.2.2 + 1) (upd ee (d - y.2.2.2 + 1) (p + 1 + y.1 + ls y.2.1 + y.2.1))))
def Stk (ee : Int → Int) (d q n : Int) : Prop := 1 ≤ d ∧ ee 1 = n ∧ ∀ i, 1 < i → i ≤ d → ee i = q
theorem Stk.push {ee : Int → Int} {d q n : Int} (I : Stk ee d q n) : Stk (upd ee (d + 1) q) (d + 1) q n := by
  obtain ⟨a1, a2, a3⟩ := I
  refine ⟨by omega, ?_, fun i h1 h2 => ?_⟩
  · rw [upd_ne _ _ _ (by omega)]; exact a2
  · by_cases u : i = d + 1
    · rw [u]; exact upd_at _ _ _
    · rw [upd_ne _ _ _ u]; exact a3 i h1 (by omega)
theorem Stk.top {ee : Int → Int} {d q n : Int} (I : Stk ee d q n) : ee d = q ∨ ee d = n := by
  obtain ⟨a1, a2, a3⟩ := I
  by_cases u : d = 1
  · rw [u]; exact Or.inr a2
  · exact Or.inl (a3 d (by omega) (by omega))
theorem okF {g : Int → Int} {n mx q d f c : Int} {ee : Int → Int} (I : Stk ee d q n) (ht : TagOK g q f 0) (hl : LenOK g (q + 1 + f) c) (he : q + 1 + f + ls c + c = n) (h0 : 1 ≤ q) (h1 : 0 ≤ f) (h2 : f ≤ 3) (h3 : 0 ≤ c) (hd : d ≤ mx) : Ok g n mx [⟨f, c, 0, (d - 1).toNat⟩] q d ee := by
  obtain ⟨a1, a2, a3⟩ := I
  have lb := ls_b c
  have z : d - ((d - 1).toNat : Int) = 1 := by omega
  unfold Ok
  dsimp only
  rw [z, a2]
  refine ⟨⟨by omega, by omega, by omega, by omega⟩, fun i h1 h2 => a3 i h1 h2, ⟨by omega, by omega, by omega, by omega, by omega⟩, ht, hl, ⟨by omega, by omega⟩, Or.inl ⟨rfl, ?_⟩⟩
  unfold Ok
  omega
theorem ok0 {g : Int → Int} {n mx f c : Int} (ht : TagOK g 0 f 0) (hl : LenOK g (1 + f) c) (he : 1 + f + ls c + c = n) (h1 : 0 ≤ f) (h2 : f ≤ 3) (h3 : 0 ≤ c) (hd : 0 ≤ mx) : Ok g n mx [⟨f, c, 0, 0⟩] 0 0 (upd (fun _ => 0) 0 n) := by
  have lb := ls_b c
  have z : (0 : Int) - ((0 : Nat) : Int) = 0 := by omega
  have z2 : (0 : Int) + 1 + f = 1 + f := by omega
  unfold Ok
  dsimp only
  rw [z, upd_at, z2]
  refine ⟨⟨by omega, by omega, by omega, by omega⟩, fun i h1 h2 => by omega, ⟨by omega, by omega, by omega, by omega, by omega⟩, ht, hl, ⟨by omega, by omega⟩, Or.inl ⟨rfl, ?_⟩⟩
  unfold Ok
  omega
theorem okP {g : Int → Int} {n mx q p d f c : Int} {ee : Int → Int} {ys : List El} (I : Stk ee d q n) (hq : q < n) (ht : TagOK g p f 0) (hl : LenOK g (p + 1 + f) c) (he : p + 1 + f + ls c + c = q) (h0 : 0 ≤ p) (h1 : 0 ≤ f) (h2 : f ≤ 3) (h3 : 0 ≤ c) (hd : d ≤ mx) (K : Ok g n mx ys q d ee) : Ok g n mx (⟨f, c, 0, 0⟩ :: ys) p d ee := by
  have tp := I.top
  have d1 := I.1
  have lb := ls_b c
  have z : d - ((0 : Nat) : Int) = d := by omega
  unfold Ok
  dsimp only
  rw [z, he]
  refine ⟨⟨by omega, by omega, by omega, by omega⟩, fun i h1 h2 => by omega, ⟨by omega, by omega, by omega, by omega, by omega⟩, ht, hl, ⟨by omega, by omega⟩, Or.inl ⟨rfl, K⟩⟩
theorem okW {g : Int → Int} {n mx q p d f c : Int} {ee : Int → Int} {ys : List El} (I : Stk ee d q n) (hq : q < n) (ht : TagOK g p f 1) (hl : LenOK g (p + 1 + f) c) (he : p + 1 + f + ls c + c = q) (h0 : 0 ≤ p) (h1 : 0 ≤ f) (h2 : f ≤ 3) (h3 : 0 ≤ c) (hd : d < mx) (K : Ok g n mx ys (p + 1 + f + ls c) (d + 1) (upd ee (d + 1) q)) : Ok g n mx (⟨f, c, 1, 0⟩ :: ys) p d ee := by
  have tp := I.top
  have d1 := I.1
  have lb := ls_b c
  have z : d - ((0 : Nat) : Int) = d := by omega
  unfold Ok
  dsimp only
  rw [z, he]
  refine ⟨⟨by omega, by omega, by omega, by omega⟩, fun i h1 h2 => by omega, ⟨by omega, by omega, by omega, by omega, by omega⟩, ht, hl, ⟨by omega, by omega⟩, Or.inr ⟨rfl, hd, K⟩⟩
theorem ok1 {g : Int → Int} {n mx f c : Int} {ys : List El} (ht : TagOK g 0 f 1) (hl : LenOK g (1 + f) c) (he : 1 + f + ls c + c = n) (h1 : 0 ≤ f) (h2 : f ≤ 3) (h3 : 0 ≤ c) (hd : 0 < mx) (K : Ok g n mx ys (1 + f + ls c) 1 (upd (upd (fun _ => 0) 0 n) 1 n)) : Ok g n mx (⟨f, c, 1, 0⟩ :: ys) 0 0 (upd (fun _ => 0) 0 n) := by
  have lb := ls_b c
  have z : (0 : Int) - ((0 : Nat) : Int) = 0 := by omega
  have z2 : (0 : Int) + 1 + f = 1 + f := by omega
  have z3 : (0 : Int) + 1 = 1 := by omega
  unfold Ok
  dsimp only
  rw [z, upd_at, z2, he, z3]
  refine ⟨⟨by omega, by omega, by omega, by omega⟩, fun i h1 h2 => by omega, ⟨by omega, by omega, by omega, by omega, by omega⟩, ht, hl, ⟨by omega, by omega⟩, Or.inr ⟨rfl, hd, K⟩⟩
theorem inv1 (q n : Int) : Stk (upd (upd (fun _ => 0) 0 n) 1 n) 1 q n := ⟨by omega, upd_at _ _ _, fun i h1 h2 => by omega⟩
theorem okA {g : Int → Int} {n mx q p d f c ac f' c' : Int} {ee : Int → Int} (I : Stk ee d q n) (hq : q < n) (ht : TagOK g p f ac) (hl : LenOK g (p + 1 + f) c) (he : p + 1 + f + ls c + c = q) (h0 : 0 ≤ p) (h1 : 0 ≤ f) (h2 : f ≤ 3) (h3 : 0 ≤ c) (hac : 0 ≤ ac ∧ ac ≤ 1) (hc : ac = 1 → c = 0) (hd : d + ac ≤ mx) (ht' : TagOK g q f' 0) (hl' : LenOK g (q + 1 + f') c') (he' : q + 1 + f' + ls c' + c' = n) (h1' : 0 ≤ f') (h2' : f' ≤ 3) (h3' : 0 ≤ c') : ∃ ys, Ok g n mx ys p d ee := by
  have lb := ls_b c
  by_cases u : ac = 0
  · subst u
    exact ⟨_, okP I hq ht hl he h0 h1 h2 h3 (by omega) (okF I ht' hl' he' (by omega) h1' h2' h3' (by omega))⟩
  · obtain rfl : ac = 1 := by omega
    have e := hc rfl
    refine ⟨_, okW (ys := [⟨f', c', 0, (d + 1 - 1).toNat⟩]) I hq ht hl he h0 h1 h2 h3 (by omega) ?_⟩
    rw [show p + 1 + f + ls c = q from by omega]
    exact okF I.push ht' hl' he' (by omega) h1' h2' h3' (by omega)
def BigN (b n : Int) : Prop := (b = 0 ∧ n = 300) ∨ (b = 1 ∧ n = 65600)
theorem ls_u2 {x : Int} (h : x < 256) : 1 ≤ ls x ∧ ls x ≤ 2 := by
  by_cases u : x < 128
  · have e := ls_1 u
    omega
  · have e := ls_2 u h
    omega
theorem ls_u3 {x : Int} (h : x < 65536) : 1 ≤ ls x ∧ ls x ≤ 3 := by
  by_cases u : x < 256
  · have e := ls_u2 u
    omega
  · have e := ls_3 u h
    omega
theorem plain1 {g : Int → Int} {n mx f1 l1 p fA a q ac f' c' : Int} (t1 : TagOK g 0 f1 1) (n1 : LenOK g (1 + f1) l1) (e1 : 1 + f1 + ls l1 + l1 = n) (b1 : 0 ≤ f1 ∧ f1 ≤ 3 ∧ 0 ≤ l1) (hp : p = 1 + f1 + ls l1) (tA : TagOK g p fA ac) (nA : LenOK g (p + 1 + fA) a) (eA : p + 1 + fA + ls a + a = q) (bA : 0 ≤ fA ∧ fA ≤ 3 ∧ 0 ≤ a) (tF : TagOK g q f' 0) (nF : LenOK g (q + 1 + f') c') (eF : q + 1 + f' + ls c' + c' = n) (bF : 0 ≤ f' ∧ f' ≤ 3 ∧ 0 ≤ c') (hac : 0 ≤ ac ∧ ac ≤ 1) (hc : ac = 1 → a = 0) (hmx : 1 + ac ≤ mx) : ∃ es, Ok g n mx es 0 0 (upd (fun _ => 0) 0 n) := by
  have lb := ls_b l1
  have lb2 := ls_b c'
  obtain ⟨ys, K⟩ := okA (mx := mx) (inv1 q n) (by omega) tA nA eA (by omega) bA.1 bA.2.1 bA.2.2 hac hc hmx tF nF eF bF.1 bF.2.1 bF.2.2
  subst hp
  exact ⟨_, ok1 t1 n1 e1 b1.1 b1.2.1 b1.2.2 (by omega) K⟩
theorem plain2 {g : Int → Int} {n mx f1 l1 p f2 l2 r fA a q ac f' c' : Int} (t1 : TagOK g 0 f1 1) (n1 : LenOK g (1 + f1) l1) (e1 : 1 + f1 + ls l1 + l1 = n) (b1 : 0 ≤ f1 ∧ f1 ≤ 3 ∧ 0 ≤ l1) (hp : p = 1 + f1 + ls l1) (t2 : TagOK g p f2 1) (n2 : LenOK g (p + 1 + f2) l2) (e2 : p + 1 + f2 + ls l2 + l2 = q) (b2 : 0 ≤ f2 ∧ f2 ≤ 3 ∧ 0 ≤ l2) (hr : r = p + 1 + f2 + ls l2) (tA : TagOK g r fA ac) (nA : LenOK g (r + 1 + fA) a) (eA : r + 1 + fA + ls a + a = q) (bA : 0 ≤ fA ∧ fA ≤ 3 ∧ 0 ≤ a) (tF : TagOK g q f' 0) (nF : LenOK g (q + 1 + f') c') (eF : q + 1 + f' + ls c' + c' = n) (bF : 0 ≤ f' ∧ f' ≤ 3 ∧ 0 ≤ c') (hac : 0 ≤ ac ∧ ac ≤ 1) (hc : ac = 1 → a = 0) (hmx : 2 + ac ≤ mx) : ∃ es, Ok g n mx es 0 0 (upd (fun _ => 0) 0 n) := by
  have lb := ls_b l1
  have lb2 := ls_b c'
  have lb3 := ls_b l2
  obtain ⟨ys, K⟩ := okA (mx := mx) (inv1 q n).push (by omega) tA nA eA (by omega) bA.1 bA.2.1 bA.2.2 hac hc (by omega) tF nF eF bF.1 bF.2.1 bF.2.2
  subst hr
  have K2 := okW (inv1 q n) (by omega) t2 n2 e2 (by omega) b2.1 b2.2.1 b2.2.2 (by omega) K
  subst hp
  exact ⟨_, ok1 t1 n1 e1 b1.1 b1.2.1 b1.2.2 (by omega) K2⟩
theorem plain3 {g : Int → Int} {n mx f1 l1 p f2 l2 r f3 l3 k fA a q ac f' c' : Int} (t1 : TagOK g 0 f1 1) (n1 : LenOK g (1 + f1) l1) (e1 : 1 + f1 + ls l1 + l1 = n) (b1 : 0 ≤ f1 ∧ f1 ≤ 3 ∧ 0 ≤ l1) (hp : p = 1 + f1 + ls l1) (t2 : TagOK g p f2 1) (n2 : LenOK g (p + 1 + f2) l2) (e2 : p + 1 + f2 + ls l2 + l2 = q) (b2 : 0 ≤ f2 ∧ f2 ≤ 3 ∧ 0 ≤ l2) (hr : r = p + 1 + f2 + ls l2) (t3 : TagOK g r f3 1) (n3 : LenOK g (r + 1 + f3) l3) (e3 : r + 1 + f3 + ls l3 + l3 = q) (b3 : 0 ≤ f3 ∧ f3 ≤ 3 ∧ 0 ≤ l3) (hk : k = r + 1 + f3 + ls l3) (tA : TagOK g k fA ac) (nA : LenOK g (k + 1 + fA) a) (eA : k + 1 + fA + ls a + a = q) (bA : 0 ≤ fA ∧ fA ≤ 3 ∧ 0 ≤ a) (tF : TagOK g q f' 0) (nF : LenOK g (q + 1 + f') c') (eF : q + 1 + f' + ls c' + c' = n) (bF : 0 ≤ f' ∧ f' ≤ 3 ∧ 0 ≤ c') (hac : 0 ≤ ac ∧ ac ≤ 1) (hc : ac = 1 → a = 0) (hmx : 3 + ac ≤ mx) : ∃ es, Ok g n mx es 0 0 (upd (fun _ => 0) 0 n) := by
  have lb := ls_b l1
  have lb2 := ls_b c'
  have lb3 := ls_b l2
  have lb4 := ls_b l3
  obtain ⟨ys, K⟩ := okA (mx := mx) (inv1 q n).push.push (by omega) tA nA eA (by omega) bA.1 bA.2.1 bA.2.2 hac hc (by omega) tF nF eF bF.1 bF.2.1 bF.2.2
  subst hk
  have K3 := okW (inv1 q n).push (by omega) t3 n3 e3 (by omega) b3.1 b3.2.1 b3.2.2 (by omega) K
  subst hr
  have K2 := okW (inv1 q n) (by omega) t2 n2 e2 (by omega) b2.1 b2.2.1 b2.2.2 (by omega) K3
  subst hp
  exact ⟨_, ok1 t1 n1 e1 b1.1 b1.2.1 b1.2.2 (by omega) K2⟩
def Pl (y : Slot) : Prop := y = .unset ∨ ∃ z : Int32, y = .val (.int z)
theorem d7_0 : decode method_2_code 0 = .ok (.iload_n 0, 1) := by decide +kernel
theorem d7_1 : decode method_2_code 1 = .ok (.sipush 128, 3) := by decide +kernel
theorem d7_4 : decode method_2_code 4 = .ok (.if_icmp .ge 5, 3) := by decide +kernel
theorem d7_7 : decode method_2_code 7 = .ok (.iconst 1, 1) := by decide +kernel
theorem d7_8 : decode method_2_code 8 = .ok (.ireturn, 1) := by decide +kernel
theorem d7_9 : decode method_2_code 9 = .ok (.iload_n 0, 1) := by decide +kernel
theorem d7_10 : decode method_2_code 10 = .ok (.sipush 256, 3) := by decide +kernel
theorem d7_13 : decode method_2_code 13 = .ok (.if_icmp .ge 5, 3) := by decide +kernel
theorem d7_16 : decode method_2_code 16 = .ok (.iconst 2, 1) := by decide +kernel
theorem d7_17 : decode method_2_code 17 = .ok (.ireturn, 1) := by decide +kernel
theorem d7_18 : decode method_2_code 18 = .ok (.iload_n 0, 1) := by decide +kernel
theorem d7_19 : decode method_2_code 19 = .ok (.ldc 7, 2) := by decide +kernel
theorem d7_21 : decode method_2_code 21 = .ok (.if_icmp .ge 5, 3) := by decide +kernel
theorem d7_24 : decode method_2_code 24 = .ok (.iconst 3, 1) := by decide +kernel
theorem d7_25 : decode method_2_code 25 = .ok (.ireturn, 1) := by decide +kernel
theorem d7_26 : decode method_2_code 26 = .ok (.iconst 4, 1) := by decide +kernel
theorem d7_27 : decode method_2_code 27 = .ok (.ireturn, 1) := by decide +kernel
theorem pn_com_example_fides_fides_DerRequireShapePinLaw : plainName "com/example/fides/fides/DerRequireShapePinLaw" = true := by first | (simp [plainName, overriddenIn]; done) | decide +kernel
theorem ef_7 (m : MethodId) (u0 : Int32) : entryFrame m #[(.int u0)] 1 = mkF m 0 #[.val (.int u0)] [] := by first | (simp [entryFrame, mkF, argsToLocals, Value.category]; done) | rfl
def Q7 (Z : State) (u0 : Int32) (h0 : Heap) (n0 : Nat) (v : Option Value) (h : Heap) (L : List Loc) : Prop := ∃ w : Int32, v = some (.int w) ∧ Fr n0 L ∧ w.toInt = ls u0.toInt ∧ h = h0
set_option maxRecDepth 65536 in
set_option maxHeartbeats 40000000 in
theorem rm7 (l : Launch) (Z : State) (a0 : Array Value) (hw : ∀ d ∈ tables_1, d.before a0 Z = true) (ws : List Jvm.Cond) (u0 : Int32) (h0 : Heap) (n0 : Nat) (Z0 : n0 ≤ h0.size) :
    MetFree l (⟨"com/example/fides/fides/DerRequireShapePinLaw", "lenSize", "(I)I"⟩ : MethodName) (head1 (Jvm.Cond.code (⟨"com/example/fides/fides/DerRequireShapePinLaw", "lenSize", "(I)I"⟩ : MethodName) method_2_code 1 (some .int) :: ws) ({ frames := 0, cells := 0, slots := 0, locals := 0 } : Room)) (fun a U => a = #[(.int u0)] ∧ Z.Warmed39 U.vm ∧ U.heap = h0) (fun _ _ _ _ _ => True) (fun _ U o U' => ∃ v L, o = .returned v ∧ Q7 Z u0 h0 n0 v U'.heap L ∧ FrameEnd U o U' L ({ frames := 0, cells := 0, slots := 0, locals := 0 } : Room).cells ({ frames := 0, cells := 0, slots := 0, locals := 0 } : Room).slots) := by
  refine MetFree.of_bodySF (plainFor_of_name pn_com_example_fides_fides_DerRequireShapePinLaw) hisR ?_
  intro p e s m args below meth c s₁ Bd hml0 hP hK
  obtain ⟨rfl, hZ, hh⟩ := hP
  have hx := Bd.exec
  have hby := Bd.bytes
  have hml : c.maxLocals = 1 := hml0
  have hown : s.vm.findClass "com/example/fides/fides/DerRequireShapePinLaw" = some m.cls := findClass_of_methodNamed Bd.named
  have hnm := (name_of_methodNamed Bd.named Bd.method).1
  have X0 : Stand p l e ({ frames := 0, cells := 0, slots := 0, locals := 0 } : Room) s m #[(.int u0)] below meth c s₁ [] 0 0 := Stand.of_body Bd
  have e0 : s₁.heap = h0 := by rw [← hh, Bd.state]; rfl
  have N0 := Fr.nil n0
  have pre0 : ∀ t, Steps p.tables e below (s₁.setTop (mkF m 0 #[.val (.int u0)] [])) t → Steps p.tables e below (s₁.setTop (entryFrame m #[(.int u0)] 1)) t := fun t k => castTop (ef_7 m u0) k
  by_cases hc4 : u0 < (128 : Int32)
  · have nhc4 : u0.toInt < (128 : Int) := own_lt1 rfl rfl hc4
    obtain ⟨fs, hr, hrun, hended, hW, hsame⟩ := X0.leave (v := some (.int (1 : Int32))) (fun h => by rw [Bd.returns] at h; cases h)
    refine ⟨_, _, pre0 _ ?_, hrun, hended, _, _, rfl, ?_, ⟨_, rfl⟩, hW, hsame.mono (by decide) (by decide)⟩
    · show Steps p.tables e below (s₁.setTop (mkF m 0 #[.val (.int u0)] [])) _
      refine XS.iloadN X0.here hx rfl (hb hby d7_0) rfl ?_
      refine XS.sipush X0.here hx rfl (hb hby d7_1) ?_
      refine XS.icmpNo X0.here hx rfl (hb hby d7_4) rfl (tlt hc4).2.1 ?_
      refine XS.iconst X0.here hx rfl (hb hby d7_7) ?_
      show Steps p.tables e below (s₁.setTop (mkF m 8 #[.val (.int u0)] [(.int (1 : Int32))])) _
      exact retI X0 hx Bd.returns (hb hby d7_8) hr
    · show Q7 Z u0 h0 n0 _ s₁.heap _
      rw [e0]
      exact ⟨_, rfl, N0, (by rw [ls_1 nhc4]; rfl), rfl⟩
  · have nhc4 : ¬ u0.toInt < (128 : Int) := own_lt0 rfl rfl hc4
    by_cases hc13 : u0 < (256 : Int32)
    · have nhc13 : u0.toInt < (256 : Int) := own_lt1 rfl rfl hc13
      obtain ⟨fs, hr, hrun, hended, hW, hsame⟩ := X0.leave (v := some (.int (2 : Int32))) (fun h => by rw [Bd.returns] at h; cases h)
      refine ⟨_, _, pre0 _ ?_, hrun, hended, _, _, rfl, ?_, ⟨_, rfl⟩, hW, hsame.mono (by decide) (by decide)⟩
      · show Steps p.tables e below (s₁.setTop (mkF m 0 #[.val (.int u0)] [])) _
        refine XS.iloadN X0.here hx rfl (hb hby d7_0) rfl ?_
        refine XS.sipush X0.here hx rfl (hb hby d7_1) ?_
        refine XS.icmpYes X0.here hx rfl (pc0 := 4) (pc' := 9) rfl (hb hby d7_4) rfl (flt hc4).2.1 (by decide) (by decide) ?_
        refine XS.iloadN X0.here hx rfl (hb hby d7_9) rfl ?_
        refine XS.sipush X0.here hx rfl (hb hby d7_10) ?_
        refine XS.icmpNo X0.here hx rfl (hb hby d7_13) rfl (tlt hc13).2.1 ?_
        refine XS.iconst X0.here hx rfl (hb hby d7_16) ?_
        show Steps p.tables e below (s₁.setTop (mkF m 17 #[.val (.int u0)] [(.int (2 : Int32))])) _
        exact retI X0 hx Bd.returns (hb hby d7_17) hr
      · show Q7 Z u0 h0 n0 _ s₁.heap _
        rw [e0]
        exact ⟨_, rfl, N0, (by rw [ls_2 nhc4 nhc13]; rfl), rfl⟩
    · have nhc13 : ¬ u0.toInt < (256 : Int) := own_lt0 rfl rfl hc13
      have st1 := X0.ldcInt hx hown (mvT hZ (hw _ (List.mem_of_getElem? (i := 8) rfl))) (g := (mkF m 19 #[.val (.int u0)] [(.int u0)])) rfl (hb hby d7_19)
      by_cases hc21 : u0 < (65536 : Int32)
      · have nhc21 : u0.toInt < (65536 : Int) := own_lt1 rfl rfl hc21
        obtain ⟨fs, hr, hrun, hended, hW, hsame⟩ := X0.leave (v := some (.int (3 : Int32))) (fun h => by rw [Bd.returns] at h; cases h)
        refine ⟨_, _, pre0 _ ?_, hrun, hended, _, _, rfl, ?_, ⟨_, rfl⟩, hW, hsame.mono (by decide) (by decide)⟩
        · show Steps p.tables e below (s₁.setTop (mkF m 0 #[.val (.int u0)] [])) _
          refine XS.iloadN X0.here hx rfl (hb hby d7_0) rfl ?_
          refine XS.sipush X0.here hx rfl (hb hby d7_1) ?_
          refine XS.icmpYes X0.here hx rfl (pc0 := 4) (pc' := 9) rfl (hb hby d7_4) rfl (flt hc4).2.1 (by decide) (by decide) ?_
          refine XS.iloadN X0.here hx rfl (hb hby d7_9) rfl ?_
          refine XS.sipush X0.here hx rfl (hb hby d7_10) ?_
          refine XS.icmpYes X0.here hx rfl (pc0 := 13) (pc' := 18) rfl (hb hby d7_13) rfl (flt hc13).2.1 (by decide) (by decide) ?_
          refine XS.iloadN X0.here hx rfl (hb hby d7_18) rfl ?_
          show Steps p.tables e below (s₁.setTop (mkF m 19 #[.val (.int u0)] [(.int u0)])) _
          refine st1 _ ?_
          show Steps p.tables e below (s₁.setTop (mkF m 21 #[.val (.int u0)] [(.int (65536 : Int32)), (.int u0)])) _
          refine XS.icmpNo X0.here hx rfl (hb hby d7_21) rfl (tlt hc21).2.1 ?_
          refine XS.iconst X0.here hx rfl (hb hby d7_24) ?_
          show Steps p.tables e below (s₁.setTop (mkF m 25 #[.val (.int u0)] [(.int (3 : Int32))])) _
          exact retI X0 hx Bd.returns (hb hby d7_25) hr
        · show Q7 Z u0 h0 n0 _ s₁.heap _
          rw [e0]
          exact ⟨_, rfl, N0, (by rw [ls_3 nhc13 nhc21]; rfl), rfl⟩
      · have nhc21 : ¬ u0.toInt < (65536 : Int) := own_lt0 rfl rfl hc21
        obtain ⟨fs, hr, hrun, hended, hW, hsame⟩ := X0.leave (v := some (.int (4 : Int32))) (fun h => by rw [Bd.returns] at h; cases h)
        refine ⟨_, _, pre0 _ ?_, hrun, hended, _, _, rfl, ?_, ⟨_, rfl⟩, hW, hsame.mono (by decide) (by decide)⟩
        · show Steps p.tables e below (s₁.setTop (mkF m 0 #[.val (.int u0)] [])) _
          refine XS.iloadN X0.here hx rfl (hb hby d7_0) rfl ?_
          refine XS.sipush X0.here hx rfl (hb hby d7_1) ?_
          refine XS.icmpYes X0.here hx rfl (pc0 := 4) (pc' := 9) rfl (hb hby d7_4) rfl (flt hc4).2.1 (by decide) (by decide) ?_
          refine XS.iloadN X0.here hx rfl (hb hby d7_9) rfl ?_
          refine XS.sipush X0.here hx rfl (hb hby d7_10) ?_
          refine XS.icmpYes X0.here hx rfl (pc0 := 13) (pc' := 18) rfl (hb hby d7_13) rfl (flt hc13).2.1 (by decide) (by decide) ?_
          refine XS.iloadN X0.here hx rfl (hb hby d7_18) rfl ?_
          show Steps p.tables e below (s₁.setTop (mkF m 19 #[.val (.int u0)] [(.int u0)])) _
          refine st1 _ ?_
          show Steps p.tables e below (s₁.setTop (mkF m 21 #[.val (.int u0)] [(.int (65536 : Int32)), (.int u0)])) _
          refine XS.icmpYes X0.here hx rfl (pc0 := 21) (pc' := 26) rfl (hb hby d7_21) rfl (flt hc21).2.1 (by decide) (by decide) ?_
          refine XS.iconst X0.here hx rfl (hb hby d7_26) ?_
          show Steps p.tables e below (s₁.setTop (mkF m 27 #[.val (.int u0)] [(.int (4 : Int32))])) _
          exact retI X0 hx Bd.returns (hb hby d7_27) hr
        · show Q7 Z u0 h0 n0 _ s₁.heap _
          rw [e0]
          exact ⟨_, rfl, N0, (by rw [ls_4 nhc21]; rfl), rfl⟩
theorem d2_0 : decode method_5_code 0 = .ok (.iload_n 0, 1) := by decide +kernel
theorem d2_1 : decode method_5_code 1 = .ok (.iconst 1, 1) := by decide +kernel
theorem d2_2 : decode method_5_code 2 = .ok (.if_icmp .lt 16, 3) := by decide +kernel
theorem d2_5 : decode method_5_code 5 = .ok (.iload_n 0, 1) := by decide +kernel
theorem d2_6 : decode method_5_code 6 = .ok (.iconst 1, 1) := by decide +kernel
theorem d2_7 : decode method_5_code 7 = .ok (.isub, 1) := by decide +kernel
theorem d2_8 : decode method_5_code 8 = .ok (.sipush 128, 3) := by decide +kernel
theorem d2_11 : decode method_5_code 11 = .ok (.if_icmp .ge 7, 3) := by decide +kernel
theorem d2_14 : decode method_5_code 14 = .ok (.iload_n 0, 1) := by decide +kernel
theorem d2_15 : decode method_5_code 15 = .ok (.iconst 1, 1) := by decide +kernel
theorem d2_16 : decode method_5_code 16 = .ok (.isub, 1) := by decide +kernel
theorem d2_17 : decode method_5_code 17 = .ok (.ireturn, 1) := by decide +kernel
theorem d2_18 : decode method_5_code 18 = .ok (.iload_n 0, 1) := by decide +kernel
theorem d2_19 : decode method_5_code 19 = .ok (.iconst 2, 1) := by decide +kernel
theorem d2_20 : decode method_5_code 20 = .ok (.isub, 1) := by decide +kernel
theorem d2_21 : decode method_5_code 21 = .ok (.sipush 128, 3) := by decide +kernel
theorem d2_24 : decode method_5_code 24 = .ok (.if_icmp .lt 16, 3) := by decide +kernel
theorem d2_27 : decode method_5_code 27 = .ok (.iload_n 0, 1) := by decide +kernel
theorem d2_28 : decode method_5_code 28 = .ok (.iconst 2, 1) := by decide +kernel
theorem d2_29 : decode method_5_code 29 = .ok (.isub, 1) := by decide +kernel
theorem d2_30 : decode method_5_code 30 = .ok (.sipush 256, 3) := by decide +kernel
theorem d2_33 : decode method_5_code 33 = .ok (.if_icmp .ge 7, 3) := by decide +kernel
theorem d2_36 : decode method_5_code 36 = .ok (.iload_n 0, 1) := by decide +kernel
theorem d2_37 : decode method_5_code 37 = .ok (.iconst 2, 1) := by decide +kernel
theorem d2_38 : decode method_5_code 38 = .ok (.isub, 1) := by decide +kernel
theorem d2_39 : decode method_5_code 39 = .ok (.ireturn, 1) := by decide +kernel
theorem d2_40 : decode method_5_code 40 = .ok (.iload_n 0, 1) := by decide +kernel
theorem d2_41 : decode method_5_code 41 = .ok (.iconst 3, 1) := by decide +kernel
theorem d2_42 : decode method_5_code 42 = .ok (.isub, 1) := by decide +kernel
theorem d2_43 : decode method_5_code 43 = .ok (.sipush 256, 3) := by decide +kernel
theorem d2_46 : decode method_5_code 46 = .ok (.if_icmp .lt 15, 3) := by decide +kernel
theorem d2_49 : decode method_5_code 49 = .ok (.iload_n 0, 1) := by decide +kernel
theorem d2_50 : decode method_5_code 50 = .ok (.iconst 3, 1) := by decide +kernel
theorem d2_51 : decode method_5_code 51 = .ok (.isub, 1) := by decide +kernel
theorem d2_52 : decode method_5_code 52 = .ok (.ldc 7, 2) := by decide +kernel
theorem d2_54 : decode method_5_code 54 = .ok (.if_icmp .ge 7, 3) := by decide +kernel
theorem d2_57 : decode method_5_code 57 = .ok (.iload_n 0, 1) := by decide +kernel
theorem d2_58 : decode method_5_code 58 = .ok (.iconst 3, 1) := by decide +kernel
theorem d2_59 : decode method_5_code 59 = .ok (.isub, 1) := by decide +kernel
theorem d2_60 : decode method_5_code 60 = .ok (.ireturn, 1) := by decide +kernel
theorem d2_61 : decode method_5_code 61 = .ok (.iload_n 0, 1) := by decide +kernel
theorem d2_62 : decode method_5_code 62 = .ok (.iconst 4, 1) := by decide +kernel
theorem d2_63 : decode method_5_code 63 = .ok (.isub, 1) := by decide +kernel
theorem d2_64 : decode method_5_code 64 = .ok (.ldc 7, 2) := by decide +kernel
theorem d2_66 : decode method_5_code 66 = .ok (.if_icmp .lt 7, 3) := by decide +kernel
theorem d2_69 : decode method_5_code 69 = .ok (.iload_n 0, 1) := by decide +kernel
theorem d2_70 : decode method_5_code 70 = .ok (.iconst 4, 1) := by decide +kernel
theorem d2_71 : decode method_5_code 71 = .ok (.isub, 1) := by decide +kernel
theorem d2_72 : decode method_5_code 72 = .ok (.ireturn, 1) := by decide +kernel
theorem d2_73 : decode method_5_code 73 = .ok (.iconst (-1), 1) := by decide +kernel
theorem d2_74 : decode method_5_code 74 = .ok (.ireturn, 1) := by decide +kernel
theorem ef_2 (m : MethodId) (u0 : Int32) : entryFrame m #[(.int u0)] 1 = mkF m 0 #[.val (.int u0)] [] := by first | (simp [entryFrame, mkF, argsToLocals, Value.category]; done) | rfl
def Q2 (Z : State) (u0 : Int32) (h0 : Heap) (n0 : Nat) (v : Option Value) (h : Heap) (L : List Loc) : Prop := ∃ w : Int32, v = some (.int w) ∧ Fr n0 L ∧ CF u0.toInt w.toInt ∧ h = h0
set_option maxRecDepth 65536 in
set_option maxHeartbeats 40000000 in
theorem rm2 (l : Launch) (Z : State) (a0 : Array Value) (hw : ∀ d ∈ tables_1, d.before a0 Z = true) (ws : List Jvm.Cond) (u0 : Int32) (h0 : Heap) (n0 : Nat) (Z0 : n0 ≤ h0.size) (hbd : 0 ≤ u0.toInt ∧ u0.toInt ≤ 65600) :
    MetFree l (⟨"com/example/fides/fides/DerRequireShapePinLaw", "contentFor", "(I)I"⟩ : MethodName) (head1 (Jvm.Cond.code (⟨"com/example/fides/fides/DerRequireShapePinLaw", "contentFor", "(I)I"⟩ : MethodName) method_5_code 1 (some .int) :: ws) ({ frames := 0, cells := 0, slots := 0, locals := 0 } : Room)) (fun a U => a = #[(.int u0)] ∧ Z.Warmed39 U.vm ∧ U.heap = h0) (fun _ _ _ _ _ => True) (fun _ U o U' => ∃ v L, o = .returned v ∧ Q2 Z u0 h0 n0 v U'.heap L ∧ FrameEnd U o U' L ({ frames := 0, cells := 0, slots := 0, locals := 0 } : Room).cells ({ frames := 0, cells := 0, slots := 0, locals := 0 } : Room).slots) := by
  refine MetFree.of_bodySF (plainFor_of_name pn_com_example_fides_fides_DerRequireShapePinLaw) hisR ?_
  intro p e s m args below meth c s₁ Bd hml0 hP hK
  obtain ⟨rfl, hZ, hh⟩ := hP
  have hx := Bd.exec
  have hby := Bd.bytes
  have hml : c.maxLocals = 1 := hml0
  have hown : s.vm.findClass "com/example/fides/fides/DerRequireShapePinLaw" = some m.cls := findClass_of_methodNamed Bd.named
  have hnm := (name_of_methodNamed Bd.named Bd.method).1
  have X0 : Stand p l e ({ frames := 0, cells := 0, slots := 0, locals := 0 } : Room) s m #[(.int u0)] below meth c s₁ [] 0 0 := Stand.of_body Bd
  have e0 : s₁.heap = h0 := by rw [← hh, Bd.state]; rfl
  have N0 := Fr.nil n0
  have pre0 : ∀ t, Steps p.tables e below (s₁.setTop (mkF m 0 #[.val (.int u0)] [])) t → Steps p.tables e below (s₁.setTop (entryFrame m #[(.int u0)] 1)) t := fun t k => castTop (ef_2 m u0) k
  by_cases hc2 : u0 < (1 : Int32)
  · have nhc2 : u0.toInt < (1 : Int) := own_lt1 rfl rfl hc2
    obtain ⟨z1, ez1⟩ : ∃ y : Int32, y = (u0 - (2 : Int32)) := ⟨_, rfl⟩
    have nz1 : z1.toInt = u0.toInt - (2 : Int) := by rw [ez1]; exact own_isub (x := u0.toInt) (y := (2 : Int)) rfl rfl (by omega) (by omega)
    by_cases hc24 : z1 < (128 : Int32)
    · have nhc24 : z1.toInt < (128 : Int) := own_lt1 rfl rfl hc24
      obtain ⟨z2, ez2⟩ : ∃ y : Int32, y = (u0 - (3 : Int32)) := ⟨_, rfl⟩
      have nz2 : z2.toInt = u0.toInt - (3 : Int) := by rw [ez2]; exact own_isub (x := u0.toInt) (y := (3 : Int)) rfl rfl (by omega) (by omega)
      by_cases hc46 : z2 < (256 : Int32)
      · have nhc46 : z2.toInt < (256 : Int) := own_lt1 rfl rfl hc46
        obtain ⟨z3, ez3⟩ : ∃ y : Int32, y = (u0 - (4 : Int32)) := ⟨_, rfl⟩
        have nz3 : z3.toInt = u0.toInt - (4 : Int) := by rw [ez3]; exact own_isub (x := u0.toInt) (y := (4 : Int)) rfl rfl (by omega) (by omega)
        have st4 := X0.ldcInt hx hown (mvT hZ (hw _ (List.mem_of_getElem? (i := 8) rfl))) (g := (mkF m 64 #[.val (.int u0)] [(.int z3)])) rfl (hb hby d2_64)
        by_cases hc66 : z3 < (65536 : Int32)
        · have nhc66 : z3.toInt < (65536 : Int) := own_lt1 rfl rfl hc66
          obtain ⟨fs, hr, hrun, hended, hW, hsame⟩ := X0.leave (v := some (.int (-1 : Int32))) (fun h => by rw [Bd.returns] at h; cases h)
          refine ⟨_, _, pre0 _ ?_, hrun, hended, _, _, rfl, ?_, ⟨_, rfl⟩, hW, hsame.mono (by decide) (by decide)⟩
          · show Steps p.tables e below (s₁.setTop (mkF m 0 #[.val (.int u0)] [])) _
            refine XS.iloadN X0.here hx rfl (hb hby d2_0) rfl ?_
            refine XS.iconst X0.here hx rfl (hb hby d2_1) ?_
            refine XS.icmpYes X0.here hx rfl (pc0 := 2) (pc' := 18) rfl (hb hby d2_2) rfl (tlt hc2).1 (by decide) (by decide) ?_
            refine XS.iloadN X0.here hx rfl (hb hby d2_18) rfl ?_
            refine XS.iconst X0.here hx rfl (hb hby d2_19) ?_
            show Steps p.tables e below (s₁.setTop (mkF m 20 #[.val (.int u0)] [(.int (2 : Int32)), (.int u0)])) _
            refine XS.isub X0.here hx rfl (hb hby d2_20) rfl ?_
            show Steps p.tables e below (s₁.setTop (mkF m 21 #[.val (.int u0)] [(.int (u0 - (2 : Int32)))])) _
            rw [← ez1]
            refine XS.sipush X0.here hx rfl (hb hby d2_21) ?_
            refine XS.icmpYes X0.here hx rfl (pc0 := 24) (pc' := 40) rfl (hb hby d2_24) rfl (tlt hc24).1 (by decide) (by decide) ?_
            refine XS.iloadN X0.here hx rfl (hb hby d2_40) rfl ?_
            refine XS.iconst X0.here hx rfl (hb hby d2_41) ?_
            show Steps p.tables e below (s₁.setTop (mkF m 42 #[.val (.int u0)] [(.int (3 : Int32)), (.int u0)])) _
            refine XS.isub X0.here hx rfl (hb hby d2_42) rfl ?_
            show Steps p.tables e below (s₁.setTop (mkF m 43 #[.val (.int u0)] [(.int (u0 - (3 : Int32)))])) _
            rw [← ez2]
            refine XS.sipush X0.here hx rfl (hb hby d2_43) ?_
            refine XS.icmpYes X0.here hx rfl (pc0 := 46) (pc' := 61) rfl (hb hby d2_46) rfl (tlt hc46).1 (by decide) (by decide) ?_
            refine XS.iloadN X0.here hx rfl (hb hby d2_61) rfl ?_
            refine XS.iconst X0.here hx rfl (hb hby d2_62) ?_
            show Steps p.tables e below (s₁.setTop (mkF m 63 #[.val (.int u0)] [(.int (4 : Int32)), (.int u0)])) _
            refine XS.isub X0.here hx rfl (hb hby d2_63) rfl ?_
            show Steps p.tables e below (s₁.setTop (mkF m 64 #[.val (.int u0)] [(.int (u0 - (4 : Int32)))])) _
            rw [← ez3]
            show Steps p.tables e below (s₁.setTop (mkF m 64 #[.val (.int u0)] [(.int z3)])) _
            refine st4 _ ?_
            show Steps p.tables e below (s₁.setTop (mkF m 66 #[.val (.int u0)] [(.int (65536 : Int32)), (.int z3)])) _
            refine XS.icmpYes X0.here hx rfl (pc0 := 66) (pc' := 73) rfl (hb hby d2_66) rfl (tlt hc66).1 (by decide) (by decide) ?_
            refine XS.iconst X0.here hx rfl (hb hby d2_73) ?_
            show Steps p.tables e below (s₁.setTop (mkF m 74 #[.val (.int u0)] [(.int (-1 : Int32))])) _
            exact retI X0 hx Bd.returns (hb hby d2_74) hr
          · show Q2 Z u0 h0 n0 _ s₁.heap _
            rw [e0]
            exact ⟨_, rfl, N0, (show CF u0.toInt (-1 : Int) from by unfold CF; omega), rfl⟩
        · have nhc66 : ¬ z3.toInt < (65536 : Int) := own_lt0 rfl rfl hc66
          obtain ⟨z5, ez5⟩ : ∃ y : Int32, y = (u0 - (4 : Int32)) := ⟨_, rfl⟩
          have nz5 : z5.toInt = u0.toInt - (4 : Int) := by rw [ez5]; exact own_isub (x := u0.toInt) (y := (4 : Int)) rfl rfl (by omega) (by omega)
          obtain ⟨fs, hr, hrun, hended, hW, hsame⟩ := X0.leave (v := some (.int z5)) (fun h => by rw [Bd.returns] at h; cases h)
          refine ⟨_, _, pre0 _ ?_, hrun, hended, _, _, rfl, ?_, ⟨_, rfl⟩, hW, hsame.mono (by decide) (by decide)⟩
          · show Steps p.tables e below (s₁.setTop (mkF m 0 #[.val (.int u0)] [])) _
            refine XS.iloadN X0.here hx rfl (hb hby d2_0) rfl ?_
            refine XS.iconst X0.here hx rfl (hb hby d2_1) ?_
            refine XS.icmpYes X0.here hx rfl (pc0 := 2) (pc' := 18) rfl (hb hby d2_2) rfl (tlt hc2).1 (by decide) (by decide) ?_
            refine XS.iloadN X0.here hx rfl (hb hby d2_18) rfl ?_
            refine XS.iconst X0.here hx rfl (hb hby d2_19) ?_
            show Steps p.tables e below (s₁.setTop (mkF m 20 #[.val (.int u0)] [(.int (2 : Int32)), (.int u0)])) _
            refine XS.isub X0.here hx rfl (hb hby d2_20) rfl ?_
            show Steps p.tables e below (s₁.setTop (mkF m 21 #[.val (.int u0)] [(.int (u0 - (2 : Int32)))])) _
            rw [← ez1]
            refine XS.sipush X0.here hx rfl (hb hby d2_21) ?_
            refine XS.icmpYes X0.here hx rfl (pc0 := 24) (pc' := 40) rfl (hb hby d2_24) rfl (tlt hc24).1 (by decide) (by decide) ?_
            refine XS.iloadN X0.here hx rfl (hb hby d2_40) rfl ?_
            refine XS.iconst X0.here hx rfl (hb hby d2_41) ?_
            show Steps p.tables e below (s₁.setTop (mkF m 42 #[.val (.int u0)] [(.int (3 : Int32)), (.int u0)])) _
            refine XS.isub X0.here hx rfl (hb hby d2_42) rfl ?_
            show Steps p.tables e below (s₁.setTop (mkF m 43 #[.val (.int u0)] [(.int (u0 - (3 : Int32)))])) _
            rw [← ez2]
            refine XS.sipush X0.here hx rfl (hb hby d2_43) ?_
            refine XS.icmpYes X0.here hx rfl (pc0 := 46) (pc' := 61) rfl (hb hby d2_46) rfl (tlt hc46).1 (by decide) (by decide) ?_
            refine XS.iloadN X0.here hx rfl (hb hby d2_61) rfl ?_
            refine XS.iconst X0.here hx rfl (hb hby d2_62) ?_
            show Steps p.tables e below (s₁.setTop (mkF m 63 #[.val (.int u0)] [(.int (4 : Int32)), (.int u0)])) _
            refine XS.isub X0.here hx rfl (hb hby d2_63) rfl ?_
            show Steps p.tables e below (s₁.setTop (mkF m 64 #[.val (.int u0)] [(.int (u0 - (4 : Int32)))])) _
            rw [← ez3]
            show Steps p.tables e below (s₁.setTop (mkF m 64 #[.val (.int u0)] [(.int z3)])) _
            refine st4 _ ?_
            show Steps p.tables e below (s₁.setTop (mkF m 66 #[.val (.int u0)] [(.int (65536 : Int32)), (.int z3)])) _
            refine XS.icmpNo X0.here hx rfl (hb hby d2_66) rfl (flt hc66).1 ?_
            refine XS.iloadN X0.here hx rfl (hb hby d2_69) rfl ?_
            refine XS.iconst X0.here hx rfl (hb hby d2_70) ?_
            show Steps p.tables e below (s₁.setTop (mkF m 71 #[.val (.int u0)] [(.int (4 : Int32)), (.int u0)])) _
            refine XS.isub X0.here hx rfl (hb hby d2_71) rfl ?_
            show Steps p.tables e below (s₁.setTop (mkF m 72 #[.val (.int u0)] [(.int (u0 - (4 : Int32)))])) _
            rw [← ez5]
            show Steps p.tables e below (s₁.setTop (mkF m 72 #[.val (.int u0)] [(.int z5)])) _
            exact retI X0 hx Bd.returns (hb hby d2_72) hr
          · show Q2 Z u0 h0 n0 _ s₁.heap _
            rw [e0]
            exact ⟨_, rfl, N0, (show CF u0.toInt z5.toInt from by unfold CF; omega), rfl⟩
      · have nhc46 : ¬ z2.toInt < (256 : Int) := own_lt0 rfl rfl hc46
        obtain ⟨z6, ez6⟩ : ∃ y : Int32, y = (u0 - (3 : Int32)) := ⟨_, rfl⟩
        have nz6 : z6.toInt = u0.toInt - (3 : Int) := by rw [ez6]; exact own_isub (x := u0.toInt) (y := (3 : Int)) rfl rfl (by omega) (by omega)
        have st7 := X0.ldcInt hx hown (mvT hZ (hw _ (List.mem_of_getElem? (i := 8) rfl))) (g := (mkF m 52 #[.val (.int u0)] [(.int z6)])) rfl (hb hby d2_52)
        by_cases hc54 : z6 < (65536 : Int32)
        · have nhc54 : z6.toInt < (65536 : Int) := own_lt1 rfl rfl hc54
          obtain ⟨z8, ez8⟩ : ∃ y : Int32, y = (u0 - (3 : Int32)) := ⟨_, rfl⟩
          have nz8 : z8.toInt = u0.toInt - (3 : Int) := by rw [ez8]; exact own_isub (x := u0.toInt) (y := (3 : Int)) rfl rfl (by omega) (by omega)
          obtain ⟨fs, hr, hrun, hended, hW, hsame⟩ := X0.leave (v := some (.int z8)) (fun h => by rw [Bd.returns] at h; cases h)
          refine ⟨_, _, pre0 _ ?_, hrun, hended, _, _, rfl, ?_, ⟨_, rfl⟩, hW, hsame.mono (by decide) (by decide)⟩
          · show Steps p.tables e below (s₁.setTop (mkF m 0 #[.val (.int u0)] [])) _
            refine XS.iloadN X0.here hx rfl (hb hby d2_0) rfl ?_
            refine XS.iconst X0.here hx rfl (hb hby d2_1) ?_
            refine XS.icmpYes X0.here hx rfl (pc0 := 2) (pc' := 18) rfl (hb hby d2_2) rfl (tlt hc2).1 (by decide) (by decide) ?_
            refine XS.iloadN X0.here hx rfl (hb hby d2_18) rfl ?_
            refine XS.iconst X0.here hx rfl (hb hby d2_19) ?_
            show Steps p.tables e below (s₁.setTop (mkF m 20 #[.val (.int u0)] [(.int (2 : Int32)), (.int u0)])) _
            refine XS.isub X0.here hx rfl (hb hby d2_20) rfl ?_
            show Steps p.tables e below (s₁.setTop (mkF m 21 #[.val (.int u0)] [(.int (u0 - (2 : Int32)))])) _
            rw [← ez1]
            refine XS.sipush X0.here hx rfl (hb hby d2_21) ?_
            refine XS.icmpYes X0.here hx rfl (pc0 := 24) (pc' := 40) rfl (hb hby d2_24) rfl (tlt hc24).1 (by decide) (by decide) ?_
            refine XS.iloadN X0.here hx rfl (hb hby d2_40) rfl ?_
            refine XS.iconst X0.here hx rfl (hb hby d2_41) ?_
            show Steps p.tables e below (s₁.setTop (mkF m 42 #[.val (.int u0)] [(.int (3 : Int32)), (.int u0)])) _
            refine XS.isub X0.here hx rfl (hb hby d2_42) rfl ?_
            show Steps p.tables e below (s₁.setTop (mkF m 43 #[.val (.int u0)] [(.int (u0 - (3 : Int32)))])) _
            rw [← ez2]
            refine XS.sipush X0.here hx rfl (hb hby d2_43) ?_
            refine XS.icmpNo X0.here hx rfl (hb hby d2_46) rfl (flt hc46).1 ?_
            refine XS.iloadN X0.here hx rfl (hb hby d2_49) rfl ?_
            refine XS.iconst X0.here hx rfl (hb hby d2_50) ?_
            show Steps p.tables e below (s₁.setTop (mkF m 51 #[.val (.int u0)] [(.int (3 : Int32)), (.int u0)])) _
            refine XS.isub X0.here hx rfl (hb hby d2_51) rfl ?_
            show Steps p.tables e below (s₁.setTop (mkF m 52 #[.val (.int u0)] [(.int (u0 - (3 : Int32)))])) _
            rw [← ez6]
            show Steps p.tables e below (s₁.setTop (mkF m 52 #[.val (.int u0)] [(.int z6)])) _
            refine st7 _ ?_
            show Steps p.tables e below (s₁.setTop (mkF m 54 #[.val (.int u0)] [(.int (65536 : Int32)), (.int z6)])) _
            refine XS.icmpNo X0.here hx rfl (hb hby d2_54) rfl (tlt hc54).2.1 ?_
            refine XS.iloadN X0.here hx rfl (hb hby d2_57) rfl ?_
            refine XS.iconst X0.here hx rfl (hb hby d2_58) ?_
            show Steps p.tables e below (s₁.setTop (mkF m 59 #[.val (.int u0)] [(.int (3 : Int32)), (.int u0)])) _
            refine XS.isub X0.here hx rfl (hb hby d2_59) rfl ?_
            show Steps p.tables e below (s₁.setTop (mkF m 60 #[.val (.int u0)] [(.int (u0 - (3 : Int32)))])) _
            rw [← ez8]
            show Steps p.tables e below (s₁.setTop (mkF m 60 #[.val (.int u0)] [(.int z8)])) _
            exact retI X0 hx Bd.returns (hb hby d2_60) hr
          · show Q2 Z u0 h0 n0 _ s₁.heap _
            rw [e0]
            exact ⟨_, rfl, N0, (show CF u0.toInt z8.toInt from by unfold CF; omega), rfl⟩
        · have nhc54 : ¬ z6.toInt < (65536 : Int) := own_lt0 rfl rfl hc54
          obtain ⟨z9, ez9⟩ : ∃ y : Int32, y = (u0 - (4 : Int32)) := ⟨_, rfl⟩
          have nz9 : z9.toInt = u0.toInt - (4 : Int) := by rw [ez9]; exact own_isub (x := u0.toInt) (y := (4 : Int)) rfl rfl (by omega) (by omega)
          have st10 := X0.ldcInt hx hown (mvT hZ (hw _ (List.mem_of_getElem? (i := 8) rfl))) (g := (mkF m 64 #[.val (.int u0)] [(.int z9)])) rfl (hb hby d2_64)
          by_cases hc66 : z9 < (65536 : Int32)
          · have nhc66 : z9.toInt < (65536 : Int) := own_lt1 rfl rfl hc66
            obtain ⟨fs, hr, hrun, hended, hW, hsame⟩ := X0.leave (v := some (.int (-1 : Int32))) (fun h => by rw [Bd.returns] at h; cases h)
            refine ⟨_, _, pre0 _ ?_, hrun, hended, _, _, rfl, ?_, ⟨_, rfl⟩, hW, hsame.mono (by decide) (by decide)⟩
            · show Steps p.tables e below (s₁.setTop (mkF m 0 #[.val (.int u0)] [])) _
              refine XS.iloadN X0.here hx rfl (hb hby d2_0) rfl ?_
              refine XS.iconst X0.here hx rfl (hb hby d2_1) ?_
              refine XS.icmpYes X0.here hx rfl (pc0 := 2) (pc' := 18) rfl (hb hby d2_2) rfl (tlt hc2).1 (by decide) (by decide) ?_
              refine XS.iloadN X0.here hx rfl (hb hby d2_18) rfl ?_
              refine XS.iconst X0.here hx rfl (hb hby d2_19) ?_
              show Steps p.tables e below (s₁.setTop (mkF m 20 #[.val (.int u0)] [(.int (2 : Int32)), (.int u0)])) _
              refine XS.isub X0.here hx rfl (hb hby d2_20) rfl ?_
              show Steps p.tables e below (s₁.setTop (mkF m 21 #[.val (.int u0)] [(.int (u0 - (2 : Int32)))])) _
              rw [← ez1]
              refine XS.sipush X0.here hx rfl (hb hby d2_21) ?_
              refine XS.icmpYes X0.here hx rfl (pc0 := 24) (pc' := 40) rfl (hb hby d2_24) rfl (tlt hc24).1 (by decide) (by decide) ?_
              refine XS.iloadN X0.here hx rfl (hb hby d2_40) rfl ?_
              refine XS.iconst X0.here hx rfl (hb hby d2_41) ?_
              show Steps p.tables e below (s₁.setTop (mkF m 42 #[.val (.int u0)] [(.int (3 : Int32)), (.int u0)])) _
              refine XS.isub X0.here hx rfl (hb hby d2_42) rfl ?_
              show Steps p.tables e below (s₁.setTop (mkF m 43 #[.val (.int u0)] [(.int (u0 - (3 : Int32)))])) _
              rw [← ez2]
              refine XS.sipush X0.here hx rfl (hb hby d2_43) ?_
              refine XS.icmpNo X0.here hx rfl (hb hby d2_46) rfl (flt hc46).1 ?_
              refine XS.iloadN X0.here hx rfl (hb hby d2_49) rfl ?_
              refine XS.iconst X0.here hx rfl (hb hby d2_50) ?_
              show Steps p.tables e below (s₁.setTop (mkF m 51 #[.val (.int u0)] [(.int (3 : Int32)), (.int u0)])) _
              refine XS.isub X0.here hx rfl (hb hby d2_51) rfl ?_
              show Steps p.tables e below (s₁.setTop (mkF m 52 #[.val (.int u0)] [(.int (u0 - (3 : Int32)))])) _
              rw [← ez6]
              show Steps p.tables e below (s₁.setTop (mkF m 52 #[.val (.int u0)] [(.int z6)])) _
              refine st7 _ ?_
              show Steps p.tables e below (s₁.setTop (mkF m 54 #[.val (.int u0)] [(.int (65536 : Int32)), (.int z6)])) _
              refine XS.icmpYes X0.here hx rfl (pc0 := 54) (pc' := 61) rfl (hb hby d2_54) rfl (flt hc54).2.1 (by decide) (by decide) ?_
              refine XS.iloadN X0.here hx rfl (hb hby d2_61) rfl ?_
              refine XS.iconst X0.here hx rfl (hb hby d2_62) ?_
              show Steps p.tables e below (s₁.setTop (mkF m 63 #[.val (.int u0)] [(.int (4 : Int32)), (.int u0)])) _
              refine XS.isub X0.here hx rfl (hb hby d2_63) rfl ?_
              show Steps p.tables e below (s₁.setTop (mkF m 64 #[.val (.int u0)] [(.int (u0 - (4 : Int32)))])) _
              rw [← ez9]
              show Steps p.tables e below (s₁.setTop (mkF m 64 #[.val (.int u0)] [(.int z9)])) _
              refine st10 _ ?_
              show Steps p.tables e below (s₁.setTop (mkF m 66 #[.val (.int u0)] [(.int (65536 : Int32)), (.int z9)])) _
              refine XS.icmpYes X0.here hx rfl (pc0 := 66) (pc' := 73) rfl (hb hby d2_66) rfl (tlt hc66).1 (by decide) (by decide) ?_
              refine XS.iconst X0.here hx rfl (hb hby d2_73) ?_
              show Steps p.tables e below (s₁.setTop (mkF m 74 #[.val (.int u0)] [(.int (-1 : Int32))])) _
              exact retI X0 hx Bd.returns (hb hby d2_74) hr
            · show Q2 Z u0 h0 n0 _ s₁.heap _
              rw [e0]
              exact ⟨_, rfl, N0, (show CF u0.toInt (-1 : Int) from by unfold CF; omega), rfl⟩
          · have nhc66 : ¬ z9.toInt < (65536 : Int) := own_lt0 rfl rfl hc66
            obtain ⟨z11, ez11⟩ : ∃ y : Int32, y = (u0 - (4 : Int32)) := ⟨_, rfl⟩
            have nz11 : z11.toInt = u0.toInt - (4 : Int) := by rw [ez11]; exact own_isub (x := u0.toInt) (y := (4 : Int)) rfl rfl (by omega) (by omega)
            obtain ⟨fs, hr, hrun, hended, hW, hsame⟩ := X0.leave (v := some (.int z11)) (fun h => by rw [Bd.returns] at h; cases h)
            refine ⟨_, _, pre0 _ ?_, hrun, hended, _, _, rfl, ?_, ⟨_, rfl⟩, hW, hsame.mono (by decide) (by decide)⟩
            · show Steps p.tables e below (s₁.setTop (mkF m 0 #[.val (.int u0)] [])) _
              refine XS.iloadN X0.here hx rfl (hb hby d2_0) rfl ?_
              refine XS.iconst X0.here hx rfl (hb hby d2_1) ?_
              refine XS.icmpYes X0.here hx rfl (pc0 := 2) (pc' := 18) rfl (hb hby d2_2) rfl (tlt hc2).1 (by decide) (by decide) ?_
              refine XS.iloadN X0.here hx rfl (hb hby d2_18) rfl ?_
              refine XS.iconst X0.here hx rfl (hb hby d2_19) ?_
              show Steps p.tables e below (s₁.setTop (mkF m 20 #[.val (.int u0)] [(.int (2 : Int32)), (.int u0)])) _
              refine XS.isub X0.here hx rfl (hb hby d2_20) rfl ?_
              show Steps p.tables e below (s₁.setTop (mkF m 21 #[.val (.int u0)] [(.int (u0 - (2 : Int32)))])) _
              rw [← ez1]
              refine XS.sipush X0.here hx rfl (hb hby d2_21) ?_
              refine XS.icmpYes X0.here hx rfl (pc0 := 24) (pc' := 40) rfl (hb hby d2_24) rfl (tlt hc24).1 (by decide) (by decide) ?_
              refine XS.iloadN X0.here hx rfl (hb hby d2_40) rfl ?_
              refine XS.iconst X0.here hx rfl (hb hby d2_41) ?_
              show Steps p.tables e below (s₁.setTop (mkF m 42 #[.val (.int u0)] [(.int (3 : Int32)), (.int u0)])) _
              refine XS.isub X0.here hx rfl (hb hby d2_42) rfl ?_
              show Steps p.tables e below (s₁.setTop (mkF m 43 #[.val (.int u0)] [(.int (u0 - (3 : Int32)))])) _
              rw [← ez2]
              refine XS.sipush X0.here hx rfl (hb hby d2_43) ?_
              refine XS.icmpNo X0.here hx rfl (hb hby d2_46) rfl (flt hc46).1 ?_
              refine XS.iloadN X0.here hx rfl (hb hby d2_49) rfl ?_
              refine XS.iconst X0.here hx rfl (hb hby d2_50) ?_
              show Steps p.tables e below (s₁.setTop (mkF m 51 #[.val (.int u0)] [(.int (3 : Int32)), (.int u0)])) _
              refine XS.isub X0.here hx rfl (hb hby d2_51) rfl ?_
              show Steps p.tables e below (s₁.setTop (mkF m 52 #[.val (.int u0)] [(.int (u0 - (3 : Int32)))])) _
              rw [← ez6]
              show Steps p.tables e below (s₁.setTop (mkF m 52 #[.val (.int u0)] [(.int z6)])) _
              refine st7 _ ?_
              show Steps p.tables e below (s₁.setTop (mkF m 54 #[.val (.int u0)] [(.int (65536 : Int32)), (.int z6)])) _
              refine XS.icmpYes X0.here hx rfl (pc0 := 54) (pc' := 61) rfl (hb hby d2_54) rfl (flt hc54).2.1 (by decide) (by decide) ?_
              refine XS.iloadN X0.here hx rfl (hb hby d2_61) rfl ?_
              refine XS.iconst X0.here hx rfl (hb hby d2_62) ?_
              show Steps p.tables e below (s₁.setTop (mkF m 63 #[.val (.int u0)] [(.int (4 : Int32)), (.int u0)])) _
              refine XS.isub X0.here hx rfl (hb hby d2_63) rfl ?_
              show Steps p.tables e below (s₁.setTop (mkF m 64 #[.val (.int u0)] [(.int (u0 - (4 : Int32)))])) _
              rw [← ez9]
              show Steps p.tables e below (s₁.setTop (mkF m 64 #[.val (.int u0)] [(.int z9)])) _
              refine st10 _ ?_
              show Steps p.tables e below (s₁.setTop (mkF m 66 #[.val (.int u0)] [(.int (65536 : Int32)), (.int z9)])) _
              refine XS.icmpNo X0.here hx rfl (hb hby d2_66) rfl (flt hc66).1 ?_
              refine XS.iloadN X0.here hx rfl (hb hby d2_69) rfl ?_
              refine XS.iconst X0.here hx rfl (hb hby d2_70) ?_
              show Steps p.tables e below (s₁.setTop (mkF m 71 #[.val (.int u0)] [(.int (4 : Int32)), (.int u0)])) _
              refine XS.isub X0.here hx rfl (hb hby d2_71) rfl ?_
              show Steps p.tables e below (s₁.setTop (mkF m 72 #[.val (.int u0)] [(.int (u0 - (4 : Int32)))])) _
              rw [← ez11]
              show Steps p.tables e below (s₁.setTop (mkF m 72 #[.val (.int u0)] [(.int z11)])) _
              exact retI X0 hx Bd.returns (hb hby d2_72) hr
            · show Q2 Z u0 h0 n0 _ s₁.heap _
              rw [e0]
              exact ⟨_, rfl, N0, (show CF u0.toInt z11.toInt from by unfold CF; omega), rfl⟩
    · have nhc24 : ¬ z1.toInt < (128 : Int) := own_lt0 rfl rfl hc24
      obtain ⟨z12, ez12⟩ : ∃ y : Int32, y = (u0 - (2 : Int32)) := ⟨_, rfl⟩
      have nz12 : z12.toInt = u0.toInt - (2 : Int) := by rw [ez12]; exact own_isub (x := u0.toInt) (y := (2 : Int)) rfl rfl (by omega) (by omega)
      by_cases hc33 : z12 < (256 : Int32)
      · have nhc33 : z12.toInt < (256 : Int) := own_lt1 rfl rfl hc33
        obtain ⟨z13, ez13⟩ : ∃ y : Int32, y = (u0 - (2 : Int32)) := ⟨_, rfl⟩
        have nz13 : z13.toInt = u0.toInt - (2 : Int) := by rw [ez13]; exact own_isub (x := u0.toInt) (y := (2 : Int)) rfl rfl (by omega) (by omega)
        obtain ⟨fs, hr, hrun, hended, hW, hsame⟩ := X0.leave (v := some (.int z13)) (fun h => by rw [Bd.returns] at h; cases h)
        refine ⟨_, _, pre0 _ ?_, hrun, hended, _, _, rfl, ?_, ⟨_, rfl⟩, hW, hsame.mono (by decide) (by decide)⟩
        · show Steps p.tables e below (s₁.setTop (mkF m 0 #[.val (.int u0)] [])) _
          refine XS.iloadN X0.here hx rfl (hb hby d2_0) rfl ?_
          refine XS.iconst X0.here hx rfl (hb hby d2_1) ?_
          refine XS.icmpYes X0.here hx rfl (pc0 := 2) (pc' := 18) rfl (hb hby d2_2) rfl (tlt hc2).1 (by decide) (by decide) ?_
          refine XS.iloadN X0.here hx rfl (hb hby d2_18) rfl ?_
          refine XS.iconst X0.here hx rfl (hb hby d2_19) ?_
          show Steps p.tables e below (s₁.setTop (mkF m 20 #[.val (.int u0)] [(.int (2 : Int32)), (.int u0)])) _
          refine XS.isub X0.here hx rfl (hb hby d2_20) rfl ?_
          show Steps p.tables e below (s₁.setTop (mkF m 21 #[.val (.int u0)] [(.int (u0 - (2 : Int32)))])) _
          rw [← ez1]
          refine XS.sipush X0.here hx rfl (hb hby d2_21) ?_
          refine XS.icmpNo X0.here hx rfl (hb hby d2_24) rfl (flt hc24).1 ?_
          refine XS.iloadN X0.here hx rfl (hb hby d2_27) rfl ?_
          refine XS.iconst X0.here hx rfl (hb hby d2_28) ?_
          show Steps p.tables e below (s₁.setTop (mkF m 29 #[.val (.int u0)] [(.int (2 : Int32)), (.int u0)])) _
          refine XS.isub X0.here hx rfl (hb hby d2_29) rfl ?_
          show Steps p.tables e below (s₁.setTop (mkF m 30 #[.val (.int u0)] [(.int (u0 - (2 : Int32)))])) _
          rw [← ez12]
          refine XS.sipush X0.here hx rfl (hb hby d2_30) ?_
          refine XS.icmpNo X0.here hx rfl (hb hby d2_33) rfl (tlt hc33).2.1 ?_
          refine XS.iloadN X0.here hx rfl (hb hby d2_36) rfl ?_
          refine XS.iconst X0.here hx rfl (hb hby d2_37) ?_
          show Steps p.tables e below (s₁.setTop (mkF m 38 #[.val (.int u0)] [(.int (2 : Int32)), (.int u0)])) _
          refine XS.isub X0.here hx rfl (hb hby d2_38) rfl ?_
          show Steps p.tables e below (s₁.setTop (mkF m 39 #[.val (.int u0)] [(.int (u0 - (2 : Int32)))])) _
          rw [← ez13]
          show Steps p.tables e below (s₁.setTop (mkF m 39 #[.val (.int u0)] [(.int z13)])) _
          exact retI X0 hx Bd.returns (hb hby d2_39) hr
        · show Q2 Z u0 h0 n0 _ s₁.heap _
          rw [e0]
          exact ⟨_, rfl, N0, (show CF u0.toInt z13.toInt from by unfold CF; omega), rfl⟩
      · have nhc33 : ¬ z12.toInt < (256 : Int) := own_lt0 rfl rfl hc33
        obtain ⟨z14, ez14⟩ : ∃ y : Int32, y = (u0 - (3 : Int32)) := ⟨_, rfl⟩
        have nz14 : z14.toInt = u0.toInt - (3 : Int) := by rw [ez14]; exact own_isub (x := u0.toInt) (y := (3 : Int)) rfl rfl (by omega) (by omega)
        by_cases hc46 : z14 < (256 : Int32)
        · have nhc46 : z14.toInt < (256 : Int) := own_lt1 rfl rfl hc46
          obtain ⟨z15, ez15⟩ : ∃ y : Int32, y = (u0 - (4 : Int32)) := ⟨_, rfl⟩
          have nz15 : z15.toInt = u0.toInt - (4 : Int) := by rw [ez15]; exact own_isub (x := u0.toInt) (y := (4 : Int)) rfl rfl (by omega) (by omega)
          have st16 := X0.ldcInt hx hown (mvT hZ (hw _ (List.mem_of_getElem? (i := 8) rfl))) (g := (mkF m 64 #[.val (.int u0)] [(.int z15)])) rfl (hb hby d2_64)
          by_cases hc66 : z15 < (65536 : Int32)
          · have nhc66 : z15.toInt < (65536 : Int) := own_lt1 rfl rfl hc66
            obtain ⟨fs, hr, hrun, hended, hW, hsame⟩ := X0.leave (v := some (.int (-1 : Int32))) (fun h => by rw [Bd.returns] at h; cases h)
            refine ⟨_, _, pre0 _ ?_, hrun, hended, _, _, rfl, ?_, ⟨_, rfl⟩, hW, hsame.mono (by decide) (by decide)⟩
            · show Steps p.tables e below (s₁.setTop (mkF m 0 #[.val (.int u0)] [])) _
              refine XS.iloadN X0.here hx rfl (hb hby d2_0) rfl ?_
              refine XS.iconst X0.here hx rfl (hb hby d2_1) ?_
              refine XS.icmpYes X0.here hx rfl (pc0 := 2) (pc' := 18) rfl (hb hby d2_2) rfl (tlt hc2).1 (by decide) (by decide) ?_
              refine XS.iloadN X0.here hx rfl (hb hby d2_18) rfl ?_
              refine XS.iconst X0.here hx rfl (hb hby d2_19) ?_
              show Steps p.tables e below (s₁.setTop (mkF m 20 #[.val (.int u0)] [(.int (2 : Int32)), (.int u0)])) _
              refine XS.isub X0.here hx rfl (hb hby d2_20) rfl ?_
              show Steps p.tables e below (s₁.setTop (mkF m 21 #[.val (.int u0)] [(.int (u0 - (2 : Int32)))])) _
              rw [← ez1]
              refine XS.sipush X0.here hx rfl (hb hby d2_21) ?_
              refine XS.icmpNo X0.here hx rfl (hb hby d2_24) rfl (flt hc24).1 ?_
              refine XS.iloadN X0.here hx rfl (hb hby d2_27) rfl ?_
              refine XS.iconst X0.here hx rfl (hb hby d2_28) ?_
              show Steps p.tables e below (s₁.setTop (mkF m 29 #[.val (.int u0)] [(.int (2 : Int32)), (.int u0)])) _
              refine XS.isub X0.here hx rfl (hb hby d2_29) rfl ?_
              show Steps p.tables e below (s₁.setTop (mkF m 30 #[.val (.int u0)] [(.int (u0 - (2 : Int32)))])) _
              rw [← ez12]
              refine XS.sipush X0.here hx rfl (hb hby d2_30) ?_
              refine XS.icmpYes X0.here hx rfl (pc0 := 33) (pc' := 40) rfl (hb hby d2_33) rfl (flt hc33).2.1 (by decide) (by decide) ?_
              refine XS.iloadN X0.here hx rfl (hb hby d2_40) rfl ?_
              refine XS.iconst X0.here hx rfl (hb hby d2_41) ?_
              show Steps p.tables e below (s₁.setTop (mkF m 42 #[.val (.int u0)] [(.int (3 : Int32)), (.int u0)])) _
              refine XS.isub X0.here hx rfl (hb hby d2_42) rfl ?_
              show Steps p.tables e below (s₁.setTop (mkF m 43 #[.val (.int u0)] [(.int (u0 - (3 : Int32)))])) _
              rw [← ez14]
              refine XS.sipush X0.here hx rfl (hb hby d2_43) ?_
              refine XS.icmpYes X0.here hx rfl (pc0 := 46) (pc' := 61) rfl (hb hby d2_46) rfl (tlt hc46).1 (by decide) (by decide) ?_
              refine XS.iloadN X0.here hx rfl (hb hby d2_61) rfl ?_
              refine XS.iconst X0.here hx rfl (hb hby d2_62) ?_
              show Steps p.tables e below (s₁.setTop (mkF m 63 #[.val (.int u0)] [(.int (4 : Int32)), (.int u0)])) _
              refine XS.isub X0.here hx rfl (hb hby d2_63) rfl ?_
              show Steps p.tables e below (s₁.setTop (mkF m 64 #[.val (.int u0)] [(.int (u0 - (4 : Int32)))])) _
              rw [← ez15]
              show Steps p.tables e below (s₁.setTop (mkF m 64 #[.val (.int u0)] [(.int z15)])) _
              refine st16 _ ?_
              show Steps p.tables e below (s₁.setTop (mkF m 66 #[.val (.int u0)] [(.int (65536 : Int32)), (.int z15)])) _
              refine XS.icmpYes X0.here hx rfl (pc0 := 66) (pc' := 73) rfl (hb hby d2_66) rfl (tlt hc66).1 (by decide) (by decide) ?_
              refine XS.iconst X0.here hx rfl (hb hby d2_73) ?_
              show Steps p.tables e below (s₁.setTop (mkF m 74 #[.val (.int u0)] [(.int (-1 : Int32))])) _
              exact retI X0 hx Bd.returns (hb hby d2_74) hr
            · show Q2 Z u0 h0 n0 _ s₁.heap _
              rw [e0]
              exact ⟨_, rfl, N0, (show CF u0.toInt (-1 : Int) from by unfold CF; omega), rfl⟩
          · have nhc66 : ¬ z15.toInt < (65536 : Int) := own_lt0 rfl rfl hc66
            obtain ⟨z17, ez17⟩ : ∃ y : Int32, y = (u0 - (4 : Int32)) := ⟨_, rfl⟩
            have nz17 : z17.toInt = u0.toInt - (4 : Int) := by rw [ez17]; exact own_isub (x := u0.toInt) (y := (4 : Int)) rfl rfl (by omega) (by omega)
            obtain ⟨fs, hr, hrun, hended, hW, hsame⟩ := X0.leave (v := some (.int z17)) (fun h => by rw [Bd.returns] at h; cases h)
            refine ⟨_, _, pre0 _ ?_, hrun, hended, _, _, rfl, ?_, ⟨_, rfl⟩, hW, hsame.mono (by decide) (by decide)⟩
            · show Steps p.tables e below (s₁.setTop (mkF m 0 #[.val (.int u0)] [])) _
              refine XS.iloadN X0.here hx rfl (hb hby d2_0) rfl ?_
              refine XS.iconst X0.here hx rfl (hb hby d2_1) ?_
              refine XS.icmpYes X0.here hx rfl (pc0 := 2) (pc' := 18) rfl (hb hby d2_2) rfl (tlt hc2).1 (by decide) (by decide) ?_
              refine XS.iloadN X0.here hx rfl (hb hby d2_18) rfl ?_
              refine XS.iconst X0.here hx rfl (hb hby d2_19) ?_
              show Steps p.tables e below (s₁.setTop (mkF m 20 #[.val (.int u0)] [(.int (2 : Int32)), (.int u0)])) _
              refine XS.isub X0.here hx rfl (hb hby d2_20) rfl ?_
              show Steps p.tables e below (s₁.setTop (mkF m 21 #[.val (.int u0)] [(.int (u0 - (2 : Int32)))])) _
              rw [← ez1]
              refine XS.sipush X0.here hx rfl (hb hby d2_21) ?_
              refine XS.icmpNo X0.here hx rfl (hb hby d2_24) rfl (flt hc24).1 ?_
              refine XS.iloadN X0.here hx rfl (hb hby d2_27) rfl ?_
              refine XS.iconst X0.here hx rfl (hb hby d2_28) ?_
              show Steps p.tables e below (s₁.setTop (mkF m 29 #[.val (.int u0)] [(.int (2 : Int32)), (.int u0)])) _
              refine XS.isub X0.here hx rfl (hb hby d2_29) rfl ?_
              show Steps p.tables e below (s₁.setTop (mkF m 30 #[.val (.int u0)] [(.int (u0 - (2 : Int32)))])) _
              rw [← ez12]
              refine XS.sipush X0.here hx rfl (hb hby d2_30) ?_
              refine XS.icmpYes X0.here hx rfl (pc0 := 33) (pc' := 40) rfl (hb hby d2_33) rfl (flt hc33).2.1 (by decide) (by decide) ?_
              refine XS.iloadN X0.here hx rfl (hb hby d2_40) rfl ?_
              refine XS.iconst X0.here hx rfl (hb hby d2_41) ?_
              show Steps p.tables e below (s₁.setTop (mkF m 42 #[.val (.int u0)] [(.int (3 : Int32)), (.int u0)])) _
              refine XS.isub X0.here hx rfl (hb hby d2_42) rfl ?_
              show Steps p.tables e below (s₁.setTop (mkF m 43 #[.val (.int u0)] [(.int (u0 - (3 : Int32)))])) _
              rw [← ez14]
              refine XS.sipush X0.here hx rfl (hb hby d2_43) ?_
              refine XS.icmpYes X0.here hx rfl (pc0 := 46) (pc' := 61) rfl (hb hby d2_46) rfl (tlt hc46).1 (by decide) (by decide) ?_
              refine XS.iloadN X0.here hx rfl (hb hby d2_61) rfl ?_
              refine XS.iconst X0.here hx rfl (hb hby d2_62) ?_
              show Steps p.tables e below (s₁.setTop (mkF m 63 #[.val (.int u0)] [(.int (4 : Int32)), (.int u0)])) _
              refine XS.isub X0.here hx rfl (hb hby d2_63) rfl ?_
              show Steps p.tables e below (s₁.setTop (mkF m 64 #[.val (.int u0)] [(.int (u0 - (4 : Int32)))])) _
              rw [← ez15]
              show Steps p.tables e below (s₁.setTop (mkF m 64 #[.val (.int u0)] [(.int z15)])) _
              refine st16 _ ?_
              show Steps p.tables e below (s₁.setTop (mkF m 66 #[.val (.int u0)] [(.int (65536 : Int32)), (.int z15)])) _
              refine XS.icmpNo X0.here hx rfl (hb hby d2_66) rfl (flt hc66).1 ?_
              refine XS.iloadN X0.here hx rfl (hb hby d2_69) rfl ?_
              refine XS.iconst X0.here hx rfl (hb hby d2_70) ?_
              show Steps p.tables e below (s₁.setTop (mkF m 71 #[.val (.int u0)] [(.int (4 : Int32)), (.int u0)])) _
              refine XS.isub X0.here hx rfl (hb hby d2_71) rfl ?_
              show Steps p.tables e below (s₁.setTop (mkF m 72 #[.val (.int u0)] [(.int (u0 - (4 : Int32)))])) _
              rw [← ez17]
              show Steps p.tables e below (s₁.setTop (mkF m 72 #[.val (.int u0)] [(.int z17)])) _
              exact retI X0 hx Bd.returns (hb hby d2_72) hr
            · show Q2 Z u0 h0 n0 _ s₁.heap _
              rw [e0]
              exact ⟨_, rfl, N0, (show CF u0.toInt z17.toInt from by unfold CF; omega), rfl⟩
        · have nhc46 : ¬ z14.toInt < (256 : Int) := own_lt0 rfl rfl hc46
          obtain ⟨z18, ez18⟩ : ∃ y : Int32, y = (u0 - (3 : Int32)) := ⟨_, rfl⟩
          have nz18 : z18.toInt = u0.toInt - (3 : Int) := by rw [ez18]; exact own_isub (x := u0.toInt) (y := (3 : Int)) rfl rfl (by omega) (by omega)
          have st19 := X0.ldcInt hx hown (mvT hZ (hw _ (List.mem_of_getElem? (i := 8) rfl))) (g := (mkF m 52 #[.val (.int u0)] [(.int z18)])) rfl (hb hby d2_52)
          by_cases hc54 : z18 < (65536 : Int32)
          · have nhc54 : z18.toInt < (65536 : Int) := own_lt1 rfl rfl hc54
            obtain ⟨z20, ez20⟩ : ∃ y : Int32, y = (u0 - (3 : Int32)) := ⟨_, rfl⟩
            have nz20 : z20.toInt = u0.toInt - (3 : Int) := by rw [ez20]; exact own_isub (x := u0.toInt) (y := (3 : Int)) rfl rfl (by omega) (by omega)
            obtain ⟨fs, hr, hrun, hended, hW, hsame⟩ := X0.leave (v := some (.int z20)) (fun h => by rw [Bd.returns] at h; cases h)
            refine ⟨_, _, pre0 _ ?_, hrun, hended, _, _, rfl, ?_, ⟨_, rfl⟩, hW, hsame.mono (by decide) (by decide)⟩
            · show Steps p.tables e below (s₁.setTop (mkF m 0 #[.val (.int u0)] [])) _
              refine XS.iloadN X0.here hx rfl (hb hby d2_0) rfl ?_
              refine XS.iconst X0.here hx rfl (hb hby d2_1) ?_
              refine XS.icmpYes X0.here hx rfl (pc0 := 2) (pc' := 18) rfl (hb hby d2_2) rfl (tlt hc2).1 (by decide) (by decide) ?_
              refine XS.iloadN X0.here hx rfl (hb hby d2_18) rfl ?_
              refine XS.iconst X0.here hx rfl (hb hby d2_19) ?_
              show Steps p.tables e below (s₁.setTop (mkF m 20 #[.val (.int u0)] [(.int (2 : Int32)), (.int u0)])) _
              refine XS.isub X0.here hx rfl (hb hby d2_20) rfl ?_
              show Steps p.tables e below (s₁.setTop (mkF m 21 #[.val (.int u0)] [(.int (u0 - (2 : Int32)))])) _
              rw [← ez1]
              refine XS.sipush X0.here hx rfl (hb hby d2_21) ?_
              refine XS.icmpNo X0.here hx rfl (hb hby d2_24) rfl (flt hc24).1 ?_
              refine XS.iloadN X0.here hx rfl (hb hby d2_27) rfl ?_
              refine XS.iconst X0.here hx rfl (hb hby d2_28) ?_
              show Steps p.tables e below (s₁.setTop (mkF m 29 #[.val (.int u0)] [(.int (2 : Int32)), (.int u0)])) _
              refine XS.isub X0.here hx rfl (hb hby d2_29) rfl ?_
              show Steps p.tables e below (s₁.setTop (mkF m 30 #[.val (.int u0)] [(.int (u0 - (2 : Int32)))])) _
              rw [← ez12]
              refine XS.sipush X0.here hx rfl (hb hby d2_30) ?_
              refine XS.icmpYes X0.here hx rfl (pc0 := 33) (pc' := 40) rfl (hb hby d2_33) rfl (flt hc33).2.1 (by decide) (by decide) ?_
              refine XS.iloadN X0.here hx rfl (hb hby d2_40) rfl ?_
              refine XS.iconst X0.here hx rfl (hb hby d2_41) ?_
              show Steps p.tables e below (s₁.setTop (mkF m 42 #[.val (.int u0)] [(.int (3 : Int32)), (.int u0)])) _
              refine XS.isub X0.here hx rfl (hb hby d2_42) rfl ?_
              show Steps p.tables e below (s₁.setTop (mkF m 43 #[.val (.int u0)] [(.int (u0 - (3 : Int32)))])) _
              rw [← ez14]
              refine XS.sipush X0.here hx rfl (hb hby d2_43) ?_
              refine XS.icmpNo X0.here hx rfl (hb hby d2_46) rfl (flt hc46).1 ?_
              refine XS.iloadN X0.here hx rfl (hb hby d2_49) rfl ?_
              refine XS.iconst X0.here hx rfl (hb hby d2_50) ?_
              show Steps p.tables e below (s₁.setTop (mkF m 51 #[.val (.int u0)] [(.int (3 : Int32)), (.int u0)])) _
              refine XS.isub X0.here hx rfl (hb hby d2_51) rfl ?_
              show Steps p.tables e below (s₁.setTop (mkF m 52 #[.val (.int u0)] [(.int (u0 - (3 : Int32)))])) _
              rw [← ez18]
              show Steps p.tables e below (s₁.setTop (mkF m 52 #[.val (.int u0)] [(.int z18)])) _
              refine st19 _ ?_
              show Steps p.tables e below (s₁.setTop (mkF m 54 #[.val (.int u0)] [(.int (65536 : Int32)), (.int z18)])) _
              refine XS.icmpNo X0.here hx rfl (hb hby d2_54) rfl (tlt hc54).2.1 ?_
              refine XS.iloadN X0.here hx rfl (hb hby d2_57) rfl ?_
              refine XS.iconst X0.here hx rfl (hb hby d2_58) ?_
              show Steps p.tables e below (s₁.setTop (mkF m 59 #[.val (.int u0)] [(.int (3 : Int32)), (.int u0)])) _
              refine XS.isub X0.here hx rfl (hb hby d2_59) rfl ?_
              show Steps p.tables e below (s₁.setTop (mkF m 60 #[.val (.int u0)] [(.int (u0 - (3 : Int32)))])) _
              rw [← ez20]
              show Steps p.tables e below (s₁.setTop (mkF m 60 #[.val (.int u0)] [(.int z20)])) _
              exact retI X0 hx Bd.returns (hb hby d2_60) hr
            · show Q2 Z u0 h0 n0 _ s₁.heap _
              rw [e0]
              exact ⟨_, rfl, N0, (show CF u0.toInt z20.toInt from by unfold CF; omega), rfl⟩
          · have nhc54 : ¬ z18.toInt < (65536 : Int) := own_lt0 rfl rfl hc54
            obtain ⟨z21, ez21⟩ : ∃ y : Int32, y = (u0 - (4 : Int32)) := ⟨_, rfl⟩
            have nz21 : z21.toInt = u0.toInt - (4 : Int) := by rw [ez21]; exact own_isub (x := u0.toInt) (y := (4 : Int)) rfl rfl (by omega) (by omega)
            have st22 := X0.ldcInt hx hown (mvT hZ (hw _ (List.mem_of_getElem? (i := 8) rfl))) (g := (mkF m 64 #[.val (.int u0)] [(.int z21)])) rfl (hb hby d2_64)
            by_cases hc66 : z21 < (65536 : Int32)
            · have nhc66 : z21.toInt < (65536 : Int) := own_lt1 rfl rfl hc66
              obtain ⟨fs, hr, hrun, hended, hW, hsame⟩ := X0.leave (v := some (.int (-1 : Int32))) (fun h => by rw [Bd.returns] at h; cases h)
              refine ⟨_, _, pre0 _ ?_, hrun, hended, _, _, rfl, ?_, ⟨_, rfl⟩, hW, hsame.mono (by decide) (by decide)⟩
              · show Steps p.tables e below (s₁.setTop (mkF m 0 #[.val (.int u0)] [])) _
                refine XS.iloadN X0.here hx rfl (hb hby d2_0) rfl ?_
                refine XS.iconst X0.here hx rfl (hb hby d2_1) ?_
                refine XS.icmpYes X0.here hx rfl (pc0 := 2) (pc' := 18) rfl (hb hby d2_2) rfl (tlt hc2).1 (by decide) (by decide) ?_
                refine XS.iloadN X0.here hx rfl (hb hby d2_18) rfl ?_
                refine XS.iconst X0.here hx rfl (hb hby d2_19) ?_
                show Steps p.tables e below (s₁.setTop (mkF m 20 #[.val (.int u0)] [(.int (2 : Int32)), (.int u0)])) _
                refine XS.isub X0.here hx rfl (hb hby d2_20) rfl ?_
                show Steps p.tables e below (s₁.setTop (mkF m 21 #[.val (.int u0)] [(.int (u0 - (2 : Int32)))])) _
                rw [← ez1]
                refine XS.sipush X0.here hx rfl (hb hby d2_21) ?_
                refine XS.icmpNo X0.here hx rfl (hb hby d2_24) rfl (flt hc24).1 ?_
                refine XS.iloadN X0.here hx rfl (hb hby d2_27) rfl ?_
                refine XS.iconst X0.here hx rfl (hb hby d2_28) ?_
                show Steps p.tables e below (s₁.setTop (mkF m 29 #[.val (.int u0)] [(.int (2 : Int32)), (.int u0)])) _
                refine XS.isub X0.here hx rfl (hb hby d2_29) rfl ?_
                show Steps p.tables e below (s₁.setTop (mkF m 30 #[.val (.int u0)] [(.int (u0 - (2 : Int32)))])) _
                rw [← ez12]
                refine XS.sipush X0.here hx rfl (hb hby d2_30) ?_
                refine XS.icmpYes X0.here hx rfl (pc0 := 33) (pc' := 40) rfl (hb hby d2_33) rfl (flt hc33).2.1 (by decide) (by decide) ?_
                refine XS.iloadN X0.here hx rfl (hb hby d2_40) rfl ?_
                refine XS.iconst X0.here hx rfl (hb hby d2_41) ?_
                show Steps p.tables e below (s₁.setTop (mkF m 42 #[.val (.int u0)] [(.int (3 : Int32)), (.int u0)])) _
                refine XS.isub X0.here hx rfl (hb hby d2_42) rfl ?_
                show Steps p.tables e below (s₁.setTop (mkF m 43 #[.val (.int u0)] [(.int (u0 - (3 : Int32)))])) _
                rw [← ez14]
                refine XS.sipush X0.here hx rfl (hb hby d2_43) ?_
                refine XS.icmpNo X0.here hx rfl (hb hby d2_46) rfl (flt hc46).1 ?_
                refine XS.iloadN X0.here hx rfl (hb hby d2_49) rfl ?_
                refine XS.iconst X0.here hx rfl (hb hby d2_50) ?_
                show Steps p.tables e below (s₁.setTop (mkF m 51 #[.val (.int u0)] [(.int (3 : Int32)), (.int u0)])) _
                refine XS.isub X0.here hx rfl (hb hby d2_51) rfl ?_
                show Steps p.tables e below (s₁.setTop (mkF m 52 #[.val (.int u0)] [(.int (u0 - (3 : Int32)))])) _
                rw [← ez18]
                show Steps p.tables e below (s₁.setTop (mkF m 52 #[.val (.int u0)] [(.int z18)])) _
                refine st19 _ ?_
                show Steps p.tables e below (s₁.setTop (mkF m 54 #[.val (.int u0)] [(.int (65536 : Int32)), (.int z18)])) _
                refine XS.icmpYes X0.here hx rfl (pc0 := 54) (pc' := 61) rfl (hb hby d2_54) rfl (flt hc54).2.1 (by decide) (by decide) ?_
                refine XS.iloadN X0.here hx rfl (hb hby d2_61) rfl ?_
                refine XS.iconst X0.here hx rfl (hb hby d2_62) ?_
                show Steps p.tables e below (s₁.setTop (mkF m 63 #[.val (.int u0)] [(.int (4 : Int32)), (.int u0)])) _
                refine XS.isub X0.here hx rfl (hb hby d2_63) rfl ?_
                show Steps p.tables e below (s₁.setTop (mkF m 64 #[.val (.int u0)] [(.int (u0 - (4 : Int32)))])) _
                rw [← ez21]
                show Steps p.tables e below (s₁.setTop (mkF m 64 #[.val (.int u0)] [(.int z21)])) _
                refine st22 _ ?_
                show Steps p.tables e below (s₁.setTop (mkF m 66 #[.val (.int u0)] [(.int (65536 : Int32)), (.int z21)])) _
                refine XS.icmpYes X0.here hx rfl (pc0 := 66) (pc' := 73) rfl (hb hby d2_66) rfl (tlt hc66).1 (by decide) (by decide) ?_
                refine XS.iconst X0.here hx rfl (hb hby d2_73) ?_
                show Steps p.tables e below (s₁.setTop (mkF m 74 #[.val (.int u0)] [(.int (-1 : Int32))])) _
                exact retI X0 hx Bd.returns (hb hby d2_74) hr
              · show Q2 Z u0 h0 n0 _ s₁.heap _
                rw [e0]
                exact ⟨_, rfl, N0, (show CF u0.toInt (-1 : Int) from by unfold CF; omega), rfl⟩
            · have nhc66 : ¬ z21.toInt < (65536 : Int) := own_lt0 rfl rfl hc66
              obtain ⟨z23, ez23⟩ : ∃ y : Int32, y = (u0 - (4 : Int32)) := ⟨_, rfl⟩
              have nz23 : z23.toInt = u0.toInt - (4 : Int) := by rw [ez23]; exact own_isub (x := u0.toInt) (y := (4 : Int)) rfl rfl (by omega) (by omega)
              obtain ⟨fs, hr, hrun, hended, hW, hsame⟩ := X0.leave (v := some (.int z23)) (fun h => by rw [Bd.returns] at h; cases h)
              refine ⟨_, _, pre0 _ ?_, hrun, hended, _, _, rfl, ?_, ⟨_, rfl⟩, hW, hsame.mono (by decide) (by decide)⟩
              · show Steps p.tables e below (s₁.setTop (mkF m 0 #[.val (.int u0)] [])) _
                refine XS.iloadN X0.here hx rfl (hb hby d2_0) rfl ?_
                refine XS.iconst X0.here hx rfl (hb hby d2_1) ?_
                refine XS.icmpYes X0.here hx rfl (pc0 := 2) (pc' := 18) rfl (hb hby d2_2) rfl (tlt hc2).1 (by decide) (by decide) ?_
                refine XS.iloadN X0.here hx rfl (hb hby d2_18) rfl ?_
                refine XS.iconst X0.here hx rfl (hb hby d2_19) ?_
                show Steps p.tables e below (s₁.setTop (mkF m 20 #[.val (.int u0)] [(.int (2 : Int32)), (.int u0)])) _
                refine XS.isub X0.here hx rfl (hb hby d2_20) rfl ?_
                show Steps p.tables e below (s₁.setTop (mkF m 21 #[.val (.int u0)] [(.int (u0 - (2 : Int32)))])) _
                rw [← ez1]
                refine XS.sipush X0.here hx rfl (hb hby d2_21) ?_
                refine XS.icmpNo X0.here hx rfl (hb hby d2_24) rfl (flt hc24).1 ?_
                refine XS.iloadN X0.here hx rfl (hb hby d2_27) rfl ?_
                refine XS.iconst X0.here hx rfl (hb hby d2_28) ?_
                show Steps p.tables e below (s₁.setTop (mkF m 29 #[.val (.int u0)] [(.int (2 : Int32)), (.int u0)])) _
                refine XS.isub X0.here hx rfl (hb hby d2_29) rfl ?_
                show Steps p.tables e below (s₁.setTop (mkF m 30 #[.val (.int u0)] [(.int (u0 - (2 : Int32)))])) _
                rw [← ez12]
                refine XS.sipush X0.here hx rfl (hb hby d2_30) ?_
                refine XS.icmpYes X0.here hx rfl (pc0 := 33) (pc' := 40) rfl (hb hby d2_33) rfl (flt hc33).2.1 (by decide) (by decide) ?_
                refine XS.iloadN X0.here hx rfl (hb hby d2_40) rfl ?_
                refine XS.iconst X0.here hx rfl (hb hby d2_41) ?_
                show Steps p.tables e below (s₁.setTop (mkF m 42 #[.val (.int u0)] [(.int (3 : Int32)), (.int u0)])) _
                refine XS.isub X0.here hx rfl (hb hby d2_42) rfl ?_
                show Steps p.tables e below (s₁.setTop (mkF m 43 #[.val (.int u0)] [(.int (u0 - (3 : Int32)))])) _
                rw [← ez14]
                refine XS.sipush X0.here hx rfl (hb hby d2_43) ?_
                refine XS.icmpNo X0.here hx rfl (hb hby d2_46) rfl (flt hc46).1 ?_
                refine XS.iloadN X0.here hx rfl (hb hby d2_49) rfl ?_
                refine XS.iconst X0.here hx rfl (hb hby d2_50) ?_
                show Steps p.tables e below (s₁.setTop (mkF m 51 #[.val (.int u0)] [(.int (3 : Int32)), (.int u0)])) _
                refine XS.isub X0.here hx rfl (hb hby d2_51) rfl ?_
                show Steps p.tables e below (s₁.setTop (mkF m 52 #[.val (.int u0)] [(.int (u0 - (3 : Int32)))])) _
                rw [← ez18]
                show Steps p.tables e below (s₁.setTop (mkF m 52 #[.val (.int u0)] [(.int z18)])) _
                refine st19 _ ?_
                show Steps p.tables e below (s₁.setTop (mkF m 54 #[.val (.int u0)] [(.int (65536 : Int32)), (.int z18)])) _
                refine XS.icmpYes X0.here hx rfl (pc0 := 54) (pc' := 61) rfl (hb hby d2_54) rfl (flt hc54).2.1 (by decide) (by decide) ?_
                refine XS.iloadN X0.here hx rfl (hb hby d2_61) rfl ?_
                refine XS.iconst X0.here hx rfl (hb hby d2_62) ?_
                show Steps p.tables e below (s₁.setTop (mkF m 63 #[.val (.int u0)] [(.int (4 : Int32)), (.int u0)])) _
                refine XS.isub X0.here hx rfl (hb hby d2_63) rfl ?_
                show Steps p.tables e below (s₁.setTop (mkF m 64 #[.val (.int u0)] [(.int (u0 - (4 : Int32)))])) _
                rw [← ez21]
                show Steps p.tables e below (s₁.setTop (mkF m 64 #[.val (.int u0)] [(.int z21)])) _
                refine st22 _ ?_
                show Steps p.tables e below (s₁.setTop (mkF m 66 #[.val (.int u0)] [(.int (65536 : Int32)), (.int z21)])) _
                refine XS.icmpNo X0.here hx rfl (hb hby d2_66) rfl (flt hc66).1 ?_
                refine XS.iloadN X0.here hx rfl (hb hby d2_69) rfl ?_
                refine XS.iconst X0.here hx rfl (hb hby d2_70) ?_
                show Steps p.tables e below (s₁.setTop (mkF m 71 #[.val (.int u0)] [(.int (4 : Int32)), (.int u0)])) _
                refine XS.isub X0.here hx rfl (hb hby d2_71) rfl ?_
                show Steps p.tables e below (s₁.setTop (mkF m 72 #[.val (.int u0)] [(.int (u0 - (4 : Int32)))])) _
                rw [← ez23]
                show Steps p.tables e below (s₁.setTop (mkF m 72 #[.val (.int u0)] [(.int z23)])) _
                exact retI X0 hx Bd.returns (hb hby d2_72) hr
              · show Q2 Z u0 h0 n0 _ s₁.heap _
                rw [e0]
                exact ⟨_, rfl, N0, (show CF u0.toInt z23.toInt from by unfold CF; omega), rfl⟩
  · have nhc2 : ¬ u0.toInt < (1 : Int) := own_lt0 rfl rfl hc2
    obtain ⟨z24, ez24⟩ : ∃ y : Int32, y = (u0 - (1 : Int32)) := ⟨_, rfl⟩
    have nz24 : z24.toInt = u0.toInt - (1 : Int) := by rw [ez24]; exact own_isub (x := u0.toInt) (y := (1 : Int)) rfl rfl (by omega) (by omega)
    by_cases hc11 : z24 < (128 : Int32)
    · have nhc11 : z24.toInt < (128 : Int) := own_lt1 rfl rfl hc11
      obtain ⟨z25, ez25⟩ : ∃ y : Int32, y = (u0 - (1 : Int32)) := ⟨_, rfl⟩
      have nz25 : z25.toInt = u0.toInt - (1 : Int) := by rw [ez25]; exact own_isub (x := u0.toInt) (y := (1 : Int)) rfl rfl (by omega) (by omega)
      obtain ⟨fs, hr, hrun, hended, hW, hsame⟩ := X0.leave (v := some (.int z25)) (fun h => by rw [Bd.returns] at h; cases h)
      refine ⟨_, _, pre0 _ ?_, hrun, hended, _, _, rfl, ?_, ⟨_, rfl⟩, hW, hsame.mono (by decide) (by decide)⟩
      · show Steps p.tables e below (s₁.setTop (mkF m 0 #[.val (.int u0)] [])) _
        refine XS.iloadN X0.here hx rfl (hb hby d2_0) rfl ?_
        refine XS.iconst X0.here hx rfl (hb hby d2_1) ?_
        refine XS.icmpNo X0.here hx rfl (hb hby d2_2) rfl (flt hc2).1 ?_
        refine XS.iloadN X0.here hx rfl (hb hby d2_5) rfl ?_
        refine XS.iconst X0.here hx rfl (hb hby d2_6) ?_
        show Steps p.tables e below (s₁.setTop (mkF m 7 #[.val (.int u0)] [(.int (1 : Int32)), (.int u0)])) _
        refine XS.isub X0.here hx rfl (hb hby d2_7) rfl ?_
        show Steps p.tables e below (s₁.setTop (mkF m 8 #[.val (.int u0)] [(.int (u0 - (1 : Int32)))])) _
        rw [← ez24]
        refine XS.sipush X0.here hx rfl (hb hby d2_8) ?_
        refine XS.icmpNo X0.here hx rfl (hb hby d2_11) rfl (tlt hc11).2.1 ?_
        refine XS.iloadN X0.here hx rfl (hb hby d2_14) rfl ?_
        refine XS.iconst X0.here hx rfl (hb hby d2_15) ?_
        show Steps p.tables e below (s₁.setTop (mkF m 16 #[.val (.int u0)] [(.int (1 : Int32)), (.int u0)])) _
        refine XS.isub X0.here hx rfl (hb hby d2_16) rfl ?_
        show Steps p.tables e below (s₁.setTop (mkF m 17 #[.val (.int u0)] [(.int (u0 - (1 : Int32)))])) _
        rw [← ez25]
        show Steps p.tables e below (s₁.setTop (mkF m 17 #[.val (.int u0)] [(.int z25)])) _
        exact retI X0 hx Bd.returns (hb hby d2_17) hr
      · show Q2 Z u0 h0 n0 _ s₁.heap _
        rw [e0]
        exact ⟨_, rfl, N0, (show CF u0.toInt z25.toInt from by unfold CF; omega), rfl⟩
    · have nhc11 : ¬ z24.toInt < (128 : Int) := own_lt0 rfl rfl hc11
      obtain ⟨z26, ez26⟩ : ∃ y : Int32, y = (u0 - (2 : Int32)) := ⟨_, rfl⟩
      have nz26 : z26.toInt = u0.toInt - (2 : Int) := by rw [ez26]; exact own_isub (x := u0.toInt) (y := (2 : Int)) rfl rfl (by omega) (by omega)
      by_cases hc24 : z26 < (128 : Int32)
      · have nhc24 : z26.toInt < (128 : Int) := own_lt1 rfl rfl hc24
        obtain ⟨z27, ez27⟩ : ∃ y : Int32, y = (u0 - (3 : Int32)) := ⟨_, rfl⟩
        have nz27 : z27.toInt = u0.toInt - (3 : Int) := by rw [ez27]; exact own_isub (x := u0.toInt) (y := (3 : Int)) rfl rfl (by omega) (by omega)
        by_cases hc46 : z27 < (256 : Int32)
        · have nhc46 : z27.toInt < (256 : Int) := own_lt1 rfl rfl hc46
          obtain ⟨z28, ez28⟩ : ∃ y : Int32, y = (u0 - (4 : Int32)) := ⟨_, rfl⟩
          have nz28 : z28.toInt = u0.toInt - (4 : Int) := by rw [ez28]; exact own_isub (x := u0.toInt) (y := (4 : Int)) rfl rfl (by omega) (by omega)
          have st29 := X0.ldcInt hx hown (mvT hZ (hw _ (List.mem_of_getElem? (i := 8) rfl))) (g := (mkF m 64 #[.val (.int u0)] [(.int z28)])) rfl (hb hby d2_64)
          by_cases hc66 : z28 < (65536 : Int32)
          · have nhc66 : z28.toInt < (65536 : Int) := own_lt1 rfl rfl hc66
            obtain ⟨fs, hr, hrun, hended, hW, hsame⟩ := X0.leave (v := some (.int (-1 : Int32))) (fun h => by rw [Bd.returns] at h; cases h)
            refine ⟨_, _, pre0 _ ?_, hrun, hended, _, _, rfl, ?_, ⟨_, rfl⟩, hW, hsame.mono (by decide) (by decide)⟩
            · show Steps p.tables e below (s₁.setTop (mkF m 0 #[.val (.int u0)] [])) _
              refine XS.iloadN X0.here hx rfl (hb hby d2_0) rfl ?_
              refine XS.iconst X0.here hx rfl (hb hby d2_1) ?_
              refine XS.icmpNo X0.here hx rfl (hb hby d2_2) rfl (flt hc2).1 ?_
              refine XS.iloadN X0.here hx rfl (hb hby d2_5) rfl ?_
              refine XS.iconst X0.here hx rfl (hb hby d2_6) ?_
              show Steps p.tables e below (s₁.setTop (mkF m 7 #[.val (.int u0)] [(.int (1 : Int32)), (.int u0)])) _
              refine XS.isub X0.here hx rfl (hb hby d2_7) rfl ?_
              show Steps p.tables e below (s₁.setTop (mkF m 8 #[.val (.int u0)] [(.int (u0 - (1 : Int32)))])) _
              rw [← ez24]
              refine XS.sipush X0.here hx rfl (hb hby d2_8) ?_
              refine XS.icmpYes X0.here hx rfl (pc0 := 11) (pc' := 18) rfl (hb hby d2_11) rfl (flt hc11).2.1 (by decide) (by decide) ?_
              refine XS.iloadN X0.here hx rfl (hb hby d2_18) rfl ?_
              refine XS.iconst X0.here hx rfl (hb hby d2_19) ?_
              show Steps p.tables e below (s₁.setTop (mkF m 20 #[.val (.int u0)] [(.int (2 : Int32)), (.int u0)])) _
              refine XS.isub X0.here hx rfl (hb hby d2_20) rfl ?_
              show Steps p.tables e below (s₁.setTop (mkF m 21 #[.val (.int u0)] [(.int (u0 - (2 : Int32)))])) _
              rw [← ez26]
              refine XS.sipush X0.here hx rfl (hb hby d2_21) ?_
              refine XS.icmpYes X0.here hx rfl (pc0 := 24) (pc' := 40) rfl (hb hby d2_24) rfl (tlt hc24).1 (by decide) (by decide) ?_
              refine XS.iloadN X0.here hx rfl (hb hby d2_40) rfl ?_
              refine XS.iconst X0.here hx rfl (hb hby d2_41) ?_
              show Steps p.tables e below (s₁.setTop (mkF m 42 #[.val (.int u0)] [(.int (3 : Int32)), (.int u0)])) _
              refine XS.isub X0.here hx rfl (hb hby d2_42) rfl ?_
              show Steps p.tables e below (s₁.setTop (mkF m 43 #[.val (.int u0)] [(.int (u0 - (3 : Int32)))])) _
              rw [← ez27]
              refine XS.sipush X0.here hx rfl (hb hby d2_43) ?_
              refine XS.icmpYes X0.here hx rfl (pc0 := 46) (pc' := 61) rfl (hb hby d2_46) rfl (tlt hc46).1 (by decide) (by decide) ?_
              refine XS.iloadN X0.here hx rfl (hb hby d2_61) rfl ?_
              refine XS.iconst X0.here hx rfl (hb hby d2_62) ?_
              show Steps p.tables e below (s₁.setTop (mkF m 63 #[.val (.int u0)] [(.int (4 : Int32)), (.int u0)])) _
              refine XS.isub X0.here hx rfl (hb hby d2_63) rfl ?_
              show Steps p.tables e below (s₁.setTop (mkF m 64 #[.val (.int u0)] [(.int (u0 - (4 : Int32)))])) _
              rw [← ez28]
              show Steps p.tables e below (s₁.setTop (mkF m 64 #[.val (.int u0)] [(.int z28)])) _
              refine st29 _ ?_
              show Steps p.tables e below (s₁.setTop (mkF m 66 #[.val (.int u0)] [(.int (65536 : Int32)), (.int z28)])) _
              refine XS.icmpYes X0.here hx rfl (pc0 := 66) (pc' := 73) rfl (hb hby d2_66) rfl (tlt hc66).1 (by decide) (by decide) ?_
              refine XS.iconst X0.here hx rfl (hb hby d2_73) ?_
              show Steps p.tables e below (s₁.setTop (mkF m 74 #[.val (.int u0)] [(.int (-1 : Int32))])) _
              exact retI X0 hx Bd.returns (hb hby d2_74) hr
            · show Q2 Z u0 h0 n0 _ s₁.heap _
              rw [e0]
              exact ⟨_, rfl, N0, (show CF u0.toInt (-1 : Int) from by unfold CF; omega), rfl⟩
          · have nhc66 : ¬ z28.toInt < (65536 : Int) := own_lt0 rfl rfl hc66
            obtain ⟨z30, ez30⟩ : ∃ y : Int32, y = (u0 - (4 : Int32)) := ⟨_, rfl⟩
            have nz30 : z30.toInt = u0.toInt - (4 : Int) := by rw [ez30]; exact own_isub (x := u0.toInt) (y := (4 : Int)) rfl rfl (by omega) (by omega)
            obtain ⟨fs, hr, hrun, hended, hW, hsame⟩ := X0.leave (v := some (.int z30)) (fun h => by rw [Bd.returns] at h; cases h)
            refine ⟨_, _, pre0 _ ?_, hrun, hended, _, _, rfl, ?_, ⟨_, rfl⟩, hW, hsame.mono (by decide) (by decide)⟩
            · show Steps p.tables e below (s₁.setTop (mkF m 0 #[.val (.int u0)] [])) _
              refine XS.iloadN X0.here hx rfl (hb hby d2_0) rfl ?_
              refine XS.iconst X0.here hx rfl (hb hby d2_1) ?_
              refine XS.icmpNo X0.here hx rfl (hb hby d2_2) rfl (flt hc2).1 ?_
              refine XS.iloadN X0.here hx rfl (hb hby d2_5) rfl ?_
              refine XS.iconst X0.here hx rfl (hb hby d2_6) ?_
              show Steps p.tables e below (s₁.setTop (mkF m 7 #[.val (.int u0)] [(.int (1 : Int32)), (.int u0)])) _
              refine XS.isub X0.here hx rfl (hb hby d2_7) rfl ?_
              show Steps p.tables e below (s₁.setTop (mkF m 8 #[.val (.int u0)] [(.int (u0 - (1 : Int32)))])) _
              rw [← ez24]
              refine XS.sipush X0.here hx rfl (hb hby d2_8) ?_
              refine XS.icmpYes X0.here hx rfl (pc0 := 11) (pc' := 18) rfl (hb hby d2_11) rfl (flt hc11).2.1 (by decide) (by decide) ?_
              refine XS.iloadN X0.here hx rfl (hb hby d2_18) rfl ?_
              refine XS.iconst X0.here hx rfl (hb hby d2_19) ?_
              show Steps p.tables e below (s₁.setTop (mkF m 20 #[.val (.int u0)] [(.int (2 : Int32)), (.int u0)])) _
              refine XS.isub X0.here hx rfl (hb hby d2_20) rfl ?_
              show Steps p.tables e below (s₁.setTop (mkF m 21 #[.val (.int u0)] [(.int (u0 - (2 : Int32)))])) _
              rw [← ez26]
              refine XS.sipush X0.here hx rfl (hb hby d2_21) ?_
              refine XS.icmpYes X0.here hx rfl (pc0 := 24) (pc' := 40) rfl (hb hby d2_24) rfl (tlt hc24).1 (by decide) (by decide) ?_
              refine XS.iloadN X0.here hx rfl (hb hby d2_40) rfl ?_
              refine XS.iconst X0.here hx rfl (hb hby d2_41) ?_
              show Steps p.tables e below (s₁.setTop (mkF m 42 #[.val (.int u0)] [(.int (3 : Int32)), (.int u0)])) _
              refine XS.isub X0.here hx rfl (hb hby d2_42) rfl ?_
              show Steps p.tables e below (s₁.setTop (mkF m 43 #[.val (.int u0)] [(.int (u0 - (3 : Int32)))])) _
              rw [← ez27]
              refine XS.sipush X0.here hx rfl (hb hby d2_43) ?_
              refine XS.icmpYes X0.here hx rfl (pc0 := 46) (pc' := 61) rfl (hb hby d2_46) rfl (tlt hc46).1 (by decide) (by decide) ?_
              refine XS.iloadN X0.here hx rfl (hb hby d2_61) rfl ?_
              refine XS.iconst X0.here hx rfl (hb hby d2_62) ?_
              show Steps p.tables e below (s₁.setTop (mkF m 63 #[.val (.int u0)] [(.int (4 : Int32)), (.int u0)])) _
              refine XS.isub X0.here hx rfl (hb hby d2_63) rfl ?_
              show Steps p.tables e below (s₁.setTop (mkF m 64 #[.val (.int u0)] [(.int (u0 - (4 : Int32)))])) _
              rw [← ez28]
              show Steps p.tables e below (s₁.setTop (mkF m 64 #[.val (.int u0)] [(.int z28)])) _
              refine st29 _ ?_
              show Steps p.tables e below (s₁.setTop (mkF m 66 #[.val (.int u0)] [(.int (65536 : Int32)), (.int z28)])) _
              refine XS.icmpNo X0.here hx rfl (hb hby d2_66) rfl (flt hc66).1 ?_
              refine XS.iloadN X0.here hx rfl (hb hby d2_69) rfl ?_
              refine XS.iconst X0.here hx rfl (hb hby d2_70) ?_
              show Steps p.tables e below (s₁.setTop (mkF m 71 #[.val (.int u0)] [(.int (4 : Int32)), (.int u0)])) _
              refine XS.isub X0.here hx rfl (hb hby d2_71) rfl ?_
              show Steps p.tables e below (s₁.setTop (mkF m 72 #[.val (.int u0)] [(.int (u0 - (4 : Int32)))])) _
              rw [← ez30]
              show Steps p.tables e below (s₁.setTop (mkF m 72 #[.val (.int u0)] [(.int z30)])) _
              exact retI X0 hx Bd.returns (hb hby d2_72) hr
            · show Q2 Z u0 h0 n0 _ s₁.heap _
              rw [e0]
              exact ⟨_, rfl, N0, (show CF u0.toInt z30.toInt from by unfold CF; omega), rfl⟩
        · have nhc46 : ¬ z27.toInt < (256 : Int) := own_lt0 rfl rfl hc46
          obtain ⟨z31, ez31⟩ : ∃ y : Int32, y = (u0 - (3 : Int32)) := ⟨_, rfl⟩
          have nz31 : z31.toInt = u0.toInt - (3 : Int) := by rw [ez31]; exact own_isub (x := u0.toInt) (y := (3 : Int)) rfl rfl (by omega) (by omega)
          have st32 := X0.ldcInt hx hown (mvT hZ (hw _ (List.mem_of_getElem? (i := 8) rfl))) (g := (mkF m 52 #[.val (.int u0)] [(.int z31)])) rfl (hb hby d2_52)
          by_cases hc54 : z31 < (65536 : Int32)
          · have nhc54 : z31.toInt < (65536 : Int) := own_lt1 rfl rfl hc54
            obtain ⟨z33, ez33⟩ : ∃ y : Int32, y = (u0 - (3 : Int32)) := ⟨_, rfl⟩
            have nz33 : z33.toInt = u0.toInt - (3 : Int) := by rw [ez33]; exact own_isub (x := u0.toInt) (y := (3 : Int)) rfl rfl (by omega) (by omega)
            obtain ⟨fs, hr, hrun, hended, hW, hsame⟩ := X0.leave (v := some (.int z33)) (fun h => by rw [Bd.returns] at h; cases h)
            refine ⟨_, _, pre0 _ ?_, hrun, hended, _, _, rfl, ?_, ⟨_, rfl⟩, hW, hsame.mono (by decide) (by decide)⟩
            · show Steps p.tables e below (s₁.setTop (mkF m 0 #[.val (.int u0)] [])) _
              refine XS.iloadN X0.here hx rfl (hb hby d2_0) rfl ?_
              refine XS.iconst X0.here hx rfl (hb hby d2_1) ?_
              refine XS.icmpNo X0.here hx rfl (hb hby d2_2) rfl (flt hc2).1 ?_
              refine XS.iloadN X0.here hx rfl (hb hby d2_5) rfl ?_
              refine XS.iconst X0.here hx rfl (hb hby d2_6) ?_
              show Steps p.tables e below (s₁.setTop (mkF m 7 #[.val (.int u0)] [(.int (1 : Int32)), (.int u0)])) _
              refine XS.isub X0.here hx rfl (hb hby d2_7) rfl ?_
              show Steps p.tables e below (s₁.setTop (mkF m 8 #[.val (.int u0)] [(.int (u0 - (1 : Int32)))])) _
              rw [← ez24]
              refine XS.sipush X0.here hx rfl (hb hby d2_8) ?_
              refine XS.icmpYes X0.here hx rfl (pc0 := 11) (pc' := 18) rfl (hb hby d2_11) rfl (flt hc11).2.1 (by decide) (by decide) ?_
              refine XS.iloadN X0.here hx rfl (hb hby d2_18) rfl ?_
              refine XS.iconst X0.here hx rfl (hb hby d2_19) ?_
              show Steps p.tables e below (s₁.setTop (mkF m 20 #[.val (.int u0)] [(.int (2 : Int32)), (.int u0)])) _
              refine XS.isub X0.here hx rfl (hb hby d2_20) rfl ?_
              show Steps p.tables e below (s₁.setTop (mkF m 21 #[.val (.int u0)] [(.int (u0 - (2 : Int32)))])) _
              rw [← ez26]
              refine XS.sipush X0.here hx rfl (hb hby d2_21) ?_
              refine XS.icmpYes X0.here hx rfl (pc0 := 24) (pc' := 40) rfl (hb hby d2_24) rfl (tlt hc24).1 (by decide) (by decide) ?_
              refine XS.iloadN X0.here hx rfl (hb hby d2_40) rfl ?_
              refine XS.iconst X0.here hx rfl (hb hby d2_41) ?_
              show Steps p.tables e below (s₁.setTop (mkF m 42 #[.val (.int u0)] [(.int (3 : Int32)), (.int u0)])) _
              refine XS.isub X0.here hx rfl (hb hby d2_42) rfl ?_
              show Steps p.tables e below (s₁.setTop (mkF m 43 #[.val (.int u0)] [(.int (u0 - (3 : Int32)))])) _
              rw [← ez27]
              refine XS.sipush X0.here hx rfl (hb hby d2_43) ?_
              refine XS.icmpNo X0.here hx rfl (hb hby d2_46) rfl (flt hc46).1 ?_
              refine XS.iloadN X0.here hx rfl (hb hby d2_49) rfl ?_
              refine XS.iconst X0.here hx rfl (hb hby d2_50) ?_
              show Steps p.tables e below (s₁.setTop (mkF m 51 #[.val (.int u0)] [(.int (3 : Int32)), (.int u0)])) _
              refine XS.isub X0.here hx rfl (hb hby d2_51) rfl ?_
              show Steps p.tables e below (s₁.setTop (mkF m 52 #[.val (.int u0)] [(.int (u0 - (3 : Int32)))])) _
              rw [← ez31]
              show Steps p.tables e below (s₁.setTop (mkF m 52 #[.val (.int u0)] [(.int z31)])) _
              refine st32 _ ?_
              show Steps p.tables e below (s₁.setTop (mkF m 54 #[.val (.int u0)] [(.int (65536 : Int32)), (.int z31)])) _
              refine XS.icmpNo X0.here hx rfl (hb hby d2_54) rfl (tlt hc54).2.1 ?_
              refine XS.iloadN X0.here hx rfl (hb hby d2_57) rfl ?_
              refine XS.iconst X0.here hx rfl (hb hby d2_58) ?_
              show Steps p.tables e below (s₁.setTop (mkF m 59 #[.val (.int u0)] [(.int (3 : Int32)), (.int u0)])) _
              refine XS.isub X0.here hx rfl (hb hby d2_59) rfl ?_
              show Steps p.tables e below (s₁.setTop (mkF m 60 #[.val (.int u0)] [(.int (u0 - (3 : Int32)))])) _
              rw [← ez33]
              show Steps p.tables e below (s₁.setTop (mkF m 60 #[.val (.int u0)] [(.int z33)])) _
              exact retI X0 hx Bd.returns (hb hby d2_60) hr
            · show Q2 Z u0 h0 n0 _ s₁.heap _
              rw [e0]
              exact ⟨_, rfl, N0, (show CF u0.toInt z33.toInt from by unfold CF; omega), rfl⟩
          · have nhc54 : ¬ z31.toInt < (65536 : Int) := own_lt0 rfl rfl hc54
            obtain ⟨z34, ez34⟩ : ∃ y : Int32, y = (u0 - (4 : Int32)) := ⟨_, rfl⟩
            have nz34 : z34.toInt = u0.toInt - (4 : Int) := by rw [ez34]; exact own_isub (x := u0.toInt) (y := (4 : Int)) rfl rfl (by omega) (by omega)
            have st35 := X0.ldcInt hx hown (mvT hZ (hw _ (List.mem_of_getElem? (i := 8) rfl))) (g := (mkF m 64 #[.val (.int u0)] [(.int z34)])) rfl (hb hby d2_64)
            by_cases hc66 : z34 < (65536 : Int32)
            · have nhc66 : z34.toInt < (65536 : Int) := own_lt1 rfl rfl hc66
              obtain ⟨fs, hr, hrun, hended, hW, hsame⟩ := X0.leave (v := some (.int (-1 : Int32))) (fun h => by rw [Bd.returns] at h; cases h)
              refine ⟨_, _, pre0 _ ?_, hrun, hended, _, _, rfl, ?_, ⟨_, rfl⟩, hW, hsame.mono (by decide) (by decide)⟩
              · show Steps p.tables e below (s₁.setTop (mkF m 0 #[.val (.int u0)] [])) _
                refine XS.iloadN X0.here hx rfl (hb hby d2_0) rfl ?_
                refine XS.iconst X0.here hx rfl (hb hby d2_1) ?_
                refine XS.icmpNo X0.here hx rfl (hb hby d2_2) rfl (flt hc2).1 ?_
                refine XS.iloadN X0.here hx rfl (hb hby d2_5) rfl ?_
                refine XS.iconst X0.here hx rfl (hb hby d2_6) ?_
                show Steps p.tables e below (s₁.setTop (mkF m 7 #[.val (.int u0)] [(.int (1 : Int32)), (.int u0)])) _
                refine XS.isub X0.here hx rfl (hb hby d2_7) rfl ?_
                show Steps p.tables e below (s₁.setTop (mkF m 8 #[.val (.int u0)] [(.int (u0 - (1 : Int32)))])) _
                rw [← ez24]
                refine XS.sipush X0.here hx rfl (hb hby d2_8) ?_
                refine XS.icmpYes X0.here hx rfl (pc0 := 11) (pc' := 18) rfl (hb hby d2_11) rfl (flt hc11).2.1 (by decide) (by decide) ?_
                refine XS.iloadN X0.here hx rfl (hb hby d2_18) rfl ?_
                refine XS.iconst X0.here hx rfl (hb hby d2_19) ?_
                show Steps p.tables e below (s₁.setTop (mkF m 20 #[.val (.int u0)] [(.int (2 : Int32)), (.int u0)])) _
                refine XS.isub X0.here hx rfl (hb hby d2_20) rfl ?_
                show Steps p.tables e below (s₁.setTop (mkF m 21 #[.val (.int u0)] [(.int (u0 - (2 : Int32)))])) _
                rw [← ez26]
                refine XS.sipush X0.here hx rfl (hb hby d2_21) ?_
                refine XS.icmpYes X0.here hx rfl (pc0 := 24) (pc' := 40) rfl (hb hby d2_24) rfl (tlt hc24).1 (by decide) (by decide) ?_
                refine XS.iloadN X0.here hx rfl (hb hby d2_40) rfl ?_
                refine XS.iconst X0.here hx rfl (hb hby d2_41) ?_
                show Steps p.tables e below (s₁.setTop (mkF m 42 #[.val (.int u0)] [(.int (3 : Int32)), (.int u0)])) _
                refine XS.isub X0.here hx rfl (hb hby d2_42) rfl ?_
                show Steps p.tables e below (s₁.setTop (mkF m 43 #[.val (.int u0)] [(.int (u0 - (3 : Int32)))])) _
                rw [← ez27]
                refine XS.sipush X0.here hx rfl (hb hby d2_43) ?_
                refine XS.icmpNo X0.here hx rfl (hb hby d2_46) rfl (flt hc46).1 ?_
                refine XS.iloadN X0.here hx rfl (hb hby d2_49) rfl ?_
                refine XS.iconst X0.here hx rfl (hb hby d2_50) ?_
                show Steps p.tables e below (s₁.setTop (mkF m 51 #[.val (.int u0)] [(.int (3 : Int32)), (.int u0)])) _
                refine XS.isub X0.here hx rfl (hb hby d2_51) rfl ?_
                show Steps p.tables e below (s₁.setTop (mkF m 52 #[.val (.int u0)] [(.int (u0 - (3 : Int32)))])) _
                rw [← ez31]
                show Steps p.tables e below (s₁.setTop (mkF m 52 #[.val (.int u0)] [(.int z31)])) _
                refine st32 _ ?_
                show Steps p.tables e below (s₁.setTop (mkF m 54 #[.val (.int u0)] [(.int (65536 : Int32)), (.int z31)])) _
                refine XS.icmpYes X0.here hx rfl (pc0 := 54) (pc' := 61) rfl (hb hby d2_54) rfl (flt hc54).2.1 (by decide) (by decide) ?_
                refine XS.iloadN X0.here hx rfl (hb hby d2_61) rfl ?_
                refine XS.iconst X0.here hx rfl (hb hby d2_62) ?_
                show Steps p.tables e below (s₁.setTop (mkF m 63 #[.val (.int u0)] [(.int (4 : Int32)), (.int u0)])) _
                refine XS.isub X0.here hx rfl (hb hby d2_63) rfl ?_
                show Steps p.tables e below (s₁.setTop (mkF m 64 #[.val (.int u0)] [(.int (u0 - (4 : Int32)))])) _
                rw [← ez34]
                show Steps p.tables e below (s₁.setTop (mkF m 64 #[.val (.int u0)] [(.int z34)])) _
                refine st35 _ ?_
                show Steps p.tables e below (s₁.setTop (mkF m 66 #[.val (.int u0)] [(.int (65536 : Int32)), (.int z34)])) _
                refine XS.icmpYes X0.here hx rfl (pc0 := 66) (pc' := 73) rfl (hb hby d2_66) rfl (tlt hc66).1 (by decide) (by decide) ?_
                refine XS.iconst X0.here hx rfl (hb hby d2_73) ?_
                show Steps p.tables e below (s₁.setTop (mkF m 74 #[.val (.int u0)] [(.int (-1 : Int32))])) _
                exact retI X0 hx Bd.returns (hb hby d2_74) hr
              · show Q2 Z u0 h0 n0 _ s₁.heap _
                rw [e0]
                exact ⟨_, rfl, N0, (show CF u0.toInt (-1 : Int) from by unfold CF; omega), rfl⟩
            · have nhc66 : ¬ z34.toInt < (65536 : Int) := own_lt0 rfl rfl hc66
              obtain ⟨z36, ez36⟩ : ∃ y : Int32, y = (u0 - (4 : Int32)) := ⟨_, rfl⟩
              have nz36 : z36.toInt = u0.toInt - (4 : Int) := by rw [ez36]; exact own_isub (x := u0.toInt) (y := (4 : Int)) rfl rfl (by omega) (by omega)
              obtain ⟨fs, hr, hrun, hended, hW, hsame⟩ := X0.leave (v := some (.int z36)) (fun h => by rw [Bd.returns] at h; cases h)
              refine ⟨_, _, pre0 _ ?_, hrun, hended, _, _, rfl, ?_, ⟨_, rfl⟩, hW, hsame.mono (by decide) (by decide)⟩
              · show Steps p.tables e below (s₁.setTop (mkF m 0 #[.val (.int u0)] [])) _
                refine XS.iloadN X0.here hx rfl (hb hby d2_0) rfl ?_
                refine XS.iconst X0.here hx rfl (hb hby d2_1) ?_
                refine XS.icmpNo X0.here hx rfl (hb hby d2_2) rfl (flt hc2).1 ?_
                refine XS.iloadN X0.here hx rfl (hb hby d2_5) rfl ?_
                refine XS.iconst X0.here hx rfl (hb hby d2_6) ?_
                show Steps p.tables e below (s₁.setTop (mkF m 7 #[.val (.int u0)] [(.int (1 : Int32)), (.int u0)])) _
                refine XS.isub X0.here hx rfl (hb hby d2_7) rfl ?_
                show Steps p.tables e below (s₁.setTop (mkF m 8 #[.val (.int u0)] [(.int (u0 - (1 : Int32)))])) _
                rw [← ez24]
                refine XS.sipush X0.here hx rfl (hb hby d2_8) ?_
                refine XS.icmpYes X0.here hx rfl (pc0 := 11) (pc' := 18) rfl (hb hby d2_11) rfl (flt hc11).2.1 (by decide) (by decide) ?_
                refine XS.iloadN X0.here hx rfl (hb hby d2_18) rfl ?_
                refine XS.iconst X0.here hx rfl (hb hby d2_19) ?_
                show Steps p.tables e below (s₁.setTop (mkF m 20 #[.val (.int u0)] [(.int (2 : Int32)), (.int u0)])) _
                refine XS.isub X0.here hx rfl (hb hby d2_20) rfl ?_
                show Steps p.tables e below (s₁.setTop (mkF m 21 #[.val (.int u0)] [(.int (u0 - (2 : Int32)))])) _
                rw [← ez26]
                refine XS.sipush X0.here hx rfl (hb hby d2_21) ?_
                refine XS.icmpYes X0.here hx rfl (pc0 := 24) (pc' := 40) rfl (hb hby d2_24) rfl (tlt hc24).1 (by decide) (by decide) ?_
                refine XS.iloadN X0.here hx rfl (hb hby d2_40) rfl ?_
                refine XS.iconst X0.here hx rfl (hb hby d2_41) ?_
                show Steps p.tables e below (s₁.setTop (mkF m 42 #[.val (.int u0)] [(.int (3 : Int32)), (.int u0)])) _
                refine XS.isub X0.here hx rfl (hb hby d2_42) rfl ?_
                show Steps p.tables e below (s₁.setTop (mkF m 43 #[.val (.int u0)] [(.int (u0 - (3 : Int32)))])) _
                rw [← ez27]
                refine XS.sipush X0.here hx rfl (hb hby d2_43) ?_
                refine XS.icmpNo X0.here hx rfl (hb hby d2_46) rfl (flt hc46).1 ?_
                refine XS.iloadN X0.here hx rfl (hb hby d2_49) rfl ?_
                refine XS.iconst X0.here hx rfl (hb hby d2_50) ?_
                show Steps p.tables e below (s₁.setTop (mkF m 51 #[.val (.int u0)] [(.int (3 : Int32)), (.int u0)])) _
                refine XS.isub X0.here hx rfl (hb hby d2_51) rfl ?_
                show Steps p.tables e below (s₁.setTop (mkF m 52 #[.val (.int u0)] [(.int (u0 - (3 : Int32)))])) _
                rw [← ez31]
                show Steps p.tables e below (s₁.setTop (mkF m 52 #[.val (.int u0)] [(.int z31)])) _
                refine st32 _ ?_
                show Steps p.tables e below (s₁.setTop (mkF m 54 #[.val (.int u0)] [(.int (65536 : Int32)), (.int z31)])) _
                refine XS.icmpYes X0.here hx rfl (pc0 := 54) (pc' := 61) rfl (hb hby d2_54) rfl (flt hc54).2.1 (by decide) (by decide) ?_
                refine XS.iloadN X0.here hx rfl (hb hby d2_61) rfl ?_
                refine XS.iconst X0.here hx rfl (hb hby d2_62) ?_
                show Steps p.tables e below (s₁.setTop (mkF m 63 #[.val (.int u0)] [(.int (4 : Int32)), (.int u0)])) _
                refine XS.isub X0.here hx rfl (hb hby d2_63) rfl ?_
                show Steps p.tables e below (s₁.setTop (mkF m 64 #[.val (.int u0)] [(.int (u0 - (4 : Int32)))])) _
                rw [← ez34]
                show Steps p.tables e below (s₁.setTop (mkF m 64 #[.val (.int u0)] [(.int z34)])) _
                refine st35 _ ?_
                show Steps p.tables e below (s₁.setTop (mkF m 66 #[.val (.int u0)] [(.int (65536 : Int32)), (.int z34)])) _
                refine XS.icmpNo X0.here hx rfl (hb hby d2_66) rfl (flt hc66).1 ?_
                refine XS.iloadN X0.here hx rfl (hb hby d2_69) rfl ?_
                refine XS.iconst X0.here hx rfl (hb hby d2_70) ?_
                show Steps p.tables e below (s₁.setTop (mkF m 71 #[.val (.int u0)] [(.int (4 : Int32)), (.int u0)])) _
                refine XS.isub X0.here hx rfl (hb hby d2_71) rfl ?_
                show Steps p.tables e below (s₁.setTop (mkF m 72 #[.val (.int u0)] [(.int (u0 - (4 : Int32)))])) _
                rw [← ez36]
                show Steps p.tables e below (s₁.setTop (mkF m 72 #[.val (.int u0)] [(.int z36)])) _
                exact retI X0 hx Bd.returns (hb hby d2_72) hr
              · show Q2 Z u0 h0 n0 _ s₁.heap _
                rw [e0]
                exact ⟨_, rfl, N0, (show CF u0.toInt z36.toInt from by unfold CF; omega), rfl⟩
      · have nhc24 : ¬ z26.toInt < (128 : Int) := own_lt0 rfl rfl hc24
        obtain ⟨z37, ez37⟩ : ∃ y : Int32, y = (u0 - (2 : Int32)) := ⟨_, rfl⟩
        have nz37 : z37.toInt = u0.toInt - (2 : Int) := by rw [ez37]; exact own_isub (x := u0.toInt) (y := (2 : Int)) rfl rfl (by omega) (by omega)
        by_cases hc33 : z37 < (256 : Int32)
        · have nhc33 : z37.toInt < (256 : Int) := own_lt1 rfl rfl hc33
          obtain ⟨z38, ez38⟩ : ∃ y : Int32, y = (u0 - (2 : Int32)) := ⟨_, rfl⟩
          have nz38 : z38.toInt = u0.toInt - (2 : Int) := by rw [ez38]; exact own_isub (x := u0.toInt) (y := (2 : Int)) rfl rfl (by omega) (by omega)
          obtain ⟨fs, hr, hrun, hended, hW, hsame⟩ := X0.leave (v := some (.int z38)) (fun h => by rw [Bd.returns] at h; cases h)
          refine ⟨_, _, pre0 _ ?_, hrun, hended, _, _, rfl, ?_, ⟨_, rfl⟩, hW, hsame.mono (by decide) (by decide)⟩
          · show Steps p.tables e below (s₁.setTop (mkF m 0 #[.val (.int u0)] [])) _
            refine XS.iloadN X0.here hx rfl (hb hby d2_0) rfl ?_
            refine XS.iconst X0.here hx rfl (hb hby d2_1) ?_
            refine XS.icmpNo X0.here hx rfl (hb hby d2_2) rfl (flt hc2).1 ?_
            refine XS.iloadN X0.here hx rfl (hb hby d2_5) rfl ?_
            refine XS.iconst X0.here hx rfl (hb hby d2_6) ?_
            show Steps p.tables e below (s₁.setTop (mkF m 7 #[.val (.int u0)] [(.int (1 : Int32)), (.int u0)])) _
            refine XS.isub X0.here hx rfl (hb hby d2_7) rfl ?_
            show Steps p.tables e below (s₁.setTop (mkF m 8 #[.val (.int u0)] [(.int (u0 - (1 : Int32)))])) _
            rw [← ez24]
            refine XS.sipush X0.here hx rfl (hb hby d2_8) ?_
            refine XS.icmpYes X0.here hx rfl (pc0 := 11) (pc' := 18) rfl (hb hby d2_11) rfl (flt hc11).2.1 (by decide) (by decide) ?_
            refine XS.iloadN X0.here hx rfl (hb hby d2_18) rfl ?_
            refine XS.iconst X0.here hx rfl (hb hby d2_19) ?_
            show Steps p.tables e below (s₁.setTop (mkF m 20 #[.val (.int u0)] [(.int (2 : Int32)), (.int u0)])) _
            refine XS.isub X0.here hx rfl (hb hby d2_20) rfl ?_
            show Steps p.tables e below (s₁.setTop (mkF m 21 #[.val (.int u0)] [(.int (u0 - (2 : Int32)))])) _
            rw [← ez26]
            refine XS.sipush X0.here hx rfl (hb hby d2_21) ?_
            refine XS.icmpNo X0.here hx rfl (hb hby d2_24) rfl (flt hc24).1 ?_
            refine XS.iloadN X0.here hx rfl (hb hby d2_27) rfl ?_
            refine XS.iconst X0.here hx rfl (hb hby d2_28) ?_
            show Steps p.tables e below (s₁.setTop (mkF m 29 #[.val (.int u0)] [(.int (2 : Int32)), (.int u0)])) _
            refine XS.isub X0.here hx rfl (hb hby d2_29) rfl ?_
            show Steps p.tables e below (s₁.setTop (mkF m 30 #[.val (.int u0)] [(.int (u0 - (2 : Int32)))])) _
            rw [← ez37]
            refine XS.sipush X0.here hx rfl (hb hby d2_30) ?_
            refine XS.icmpNo X0.here hx rfl (hb hby d2_33) rfl (tlt hc33).2.1 ?_
            refine XS.iloadN X0.here hx rfl (hb hby d2_36) rfl ?_
            refine XS.iconst X0.here hx rfl (hb hby d2_37) ?_
            show Steps p.tables e below (s₁.setTop (mkF m 38 #[.val (.int u0)] [(.int (2 : Int32)), (.int u0)])) _
            refine XS.isub X0.here hx rfl (hb hby d2_38) rfl ?_
            show Steps p.tables e below (s₁.setTop (mkF m 39 #[.val (.int u0)] [(.int (u0 - (2 : Int32)))])) _
            rw [← ez38]
            show Steps p.tables e below (s₁.setTop (mkF m 39 #[.val (.int u0)] [(.int z38)])) _
            exact retI X0 hx Bd.returns (hb hby d2_39) hr
          · show Q2 Z u0 h0 n0 _ s₁.heap _
            rw [e0]
            exact ⟨_, rfl, N0, (show CF u0.toInt z38.toInt from by unfold CF; omega), rfl⟩
        · have nhc33 : ¬ z37.toInt < (256 : Int) := own_lt0 rfl rfl hc33
          obtain ⟨z39, ez39⟩ : ∃ y : Int32, y = (u0 - (3 : Int32)) := ⟨_, rfl⟩
          have nz39 : z39.toInt = u0.toInt - (3 : Int) := by rw [ez39]; exact own_isub (x := u0.toInt) (y := (3 : Int)) rfl rfl (by omega) (by omega)
          by_cases hc46 : z39 < (256 : Int32)
          · have nhc46 : z39.toInt < (256 : Int) := own_lt1 rfl rfl hc46
            obtain ⟨z40, ez40⟩ : ∃ y : Int32, y = (u0 - (4 : Int32)) := ⟨_, rfl⟩
            have nz40 : z40.toInt = u0.toInt - (4 : Int) := by rw [ez40]; exact own_isub (x := u0.toInt) (y := (4 : Int)) rfl rfl (by omega) (by omega)
            have st41 := X0.ldcInt hx hown (mvT hZ (hw _ (List.mem_of_getElem? (i := 8) rfl))) (g := (mkF m 64 #[.val (.int u0)] [(.int z40)])) rfl (hb hby d2_64)
            by_cases hc66 : z40 < (65536 : Int32)
            · have nhc66 : z40.toInt < (65536 : Int) := own_lt1 rfl rfl hc66
              obtain ⟨fs, hr, hrun, hended, hW, hsame⟩ := X0.leave (v := some (.int (-1 : Int32))) (fun h => by rw [Bd.returns] at h; cases h)
              refine ⟨_, _, pre0 _ ?_, hrun, hended, _, _, rfl, ?_, ⟨_, rfl⟩, hW, hsame.mono (by decide) (by decide)⟩
              · show Steps p.tables e below (s₁.setTop (mkF m 0 #[.val (.int u0)] [])) _
                refine XS.iloadN X0.here hx rfl (hb hby d2_0) rfl ?_
                refine XS.iconst X0.here hx rfl (hb hby d2_1) ?_
                refine XS.icmpNo X0.here hx rfl (hb hby d2_2) rfl (flt hc2).1 ?_
                refine XS.iloadN X0.here hx rfl (hb hby d2_5) rfl ?_
                refine XS.iconst X0.here hx rfl (hb hby d2_6) ?_
                show Steps p.tables e below (s₁.setTop (mkF m 7 #[.val (.int u0)] [(.int (1 : Int32)), (.int u0)])) _
                refine XS.isub X0.here hx rfl (hb hby d2_7) rfl ?_
                show Steps p.tables e below (s₁.setTop (mkF m 8 #[.val (.int u0)] [(.int (u0 - (1 : Int32)))])) _
                rw [← ez24]
                refine XS.sipush X0.here hx rfl (hb hby d2_8) ?_
                refine XS.icmpYes X0.here hx rfl (pc0 := 11) (pc' := 18) rfl (hb hby d2_11) rfl (flt hc11).2.1 (by decide) (by decide) ?_
                refine XS.iloadN X0.here hx rfl (hb hby d2_18) rfl ?_
                refine XS.iconst X0.here hx rfl (hb hby d2_19) ?_
                show Steps p.tables e below (s₁.setTop (mkF m 20 #[.val (.int u0)] [(.int (2 : Int32)), (.int u0)])) _
                refine XS.isub X0.here hx rfl (hb hby d2_20) rfl ?_
                show Steps p.tables e below (s₁.setTop (mkF m 21 #[.val (.int u0)] [(.int (u0 - (2 : Int32)))])) _
                rw [← ez26]
                refine XS.sipush X0.here hx rfl (hb hby d2_21) ?_
                refine XS.icmpNo X0.here hx rfl (hb hby d2_24) rfl (flt hc24).1 ?_
                refine XS.iloadN X0.here hx rfl (hb hby d2_27) rfl ?_
                refine XS.iconst X0.here hx rfl (hb hby d2_28) ?_
                show Steps p.tables e below (s₁.setTop (mkF m 29 #[.val (.int u0)] [(.int (2 : Int32)), (.int u0)])) _
                refine XS.isub X0.here hx rfl (hb hby d2_29) rfl ?_
                show Steps p.tables e below (s₁.setTop (mkF m 30 #[.val (.int u0)] [(.int (u0 - (2 : Int32)))])) _
                rw [← ez37]
                refine XS.sipush X0.here hx rfl (hb hby d2_30) ?_
                refine XS.icmpYes X0.here hx rfl (pc0 := 33) (pc' := 40) rfl (hb hby d2_33) rfl (flt hc33).2.1 (by decide) (by decide) ?_
                refine XS.iloadN X0.here hx rfl (hb hby d2_40) rfl ?_
                refine XS.iconst X0.here hx rfl (hb hby d2_41) ?_
                show Steps p.tables e below (s₁.setTop (mkF m 42 #[.val (.int u0)] [(.int (3 : Int32)), (.int u0)])) _
                refine XS.isub X0.here hx rfl (hb hby d2_42) rfl ?_
                show Steps p.tables e below (s₁.setTop (mkF m 43 #[.val (.int u0)] [(.int (u0 - (3 : Int32)))])) _
                rw [← ez39]
                refine XS.sipush X0.here hx rfl (hb hby d2_43) ?_
                refine XS.icmpYes X0.here hx rfl (pc0 := 46) (pc' := 61) rfl (hb hby d2_46) rfl (tlt hc46).1 (by decide) (by decide) ?_
                refine XS.iloadN X0.here hx rfl (hb hby d2_61) rfl ?_
                refine XS.iconst X0.here hx rfl (hb hby d2_62) ?_
                show Steps p.tables e below (s₁.setTop (mkF m 63 #[.val (.int u0)] [(.int (4 : Int32)), (.int u0)])) _
                refine XS.isub X0.here hx rfl (hb hby d2_63) rfl ?_
                show Steps p.tables e below (s₁.setTop (mkF m 64 #[.val (.int u0)] [(.int (u0 - (4 : Int32)))])) _
                rw [← ez40]
                show Steps p.tables e below (s₁.setTop (mkF m 64 #[.val (.int u0)] [(.int z40)])) _
                refine st41 _ ?_
                show Steps p.tables e below (s₁.setTop (mkF m 66 #[.val (.int u0)] [(.int (65536 : Int32)), (.int z40)])) _
                refine XS.icmpYes X0.here hx rfl (pc0 := 66) (pc' := 73) rfl (hb hby d2_66) rfl (tlt hc66).1 (by decide) (by decide) ?_
                refine XS.iconst X0.here hx rfl (hb hby d2_73) ?_
                show Steps p.tables e below (s₁.setTop (mkF m 74 #[.val (.int u0)] [(.int (-1 : Int32))])) _
                exact retI X0 hx Bd.returns (hb hby d2_74) hr
              · show Q2 Z u0 h0 n0 _ s₁.heap _
                rw [e0]
                exact ⟨_, rfl, N0, (show CF u0.toInt (-1 : Int) from by unfold CF; omega), rfl⟩
            · have nhc66 : ¬ z40.toInt < (65536 : Int) := own_lt0 rfl rfl hc66
              obtain ⟨z42, ez42⟩ : ∃ y : Int32, y = (u0 - (4 : Int32)) := ⟨_, rfl⟩
              have nz42 : z42.toInt = u0.toInt - (4 : Int) := by rw [ez42]; exact own_isub (x := u0.toInt) (y := (4 : Int)) rfl rfl (by omega) (by omega)
              obtain ⟨fs, hr, hrun, hended, hW, hsame⟩ := X0.leave (v := some (.int z42)) (fun h => by rw [Bd.returns] at h; cases h)
              refine ⟨_, _, pre0 _ ?_, hrun, hended, _, _, rfl, ?_, ⟨_, rfl⟩, hW, hsame.mono (by decide) (by decide)⟩
              · show Steps p.tables e below (s₁.setTop (mkF m 0 #[.val (.int u0)] [])) _
                refine XS.iloadN X0.here hx rfl (hb hby d2_0) rfl ?_
                refine XS.iconst X0.here hx rfl (hb hby d2_1) ?_
                refine XS.icmpNo X0.here hx rfl (hb hby d2_2) rfl (flt hc2).1 ?_
                refine XS.iloadN X0.here hx rfl (hb hby d2_5) rfl ?_
                refine XS.iconst X0.here hx rfl (hb hby d2_6) ?_
                show Steps p.tables e below (s₁.setTop (mkF m 7 #[.val (.int u0)] [(.int (1 : Int32)), (.int u0)])) _
                refine XS.isub X0.here hx rfl (hb hby d2_7) rfl ?_
                show Steps p.tables e below (s₁.setTop (mkF m 8 #[.val (.int u0)] [(.int (u0 - (1 : Int32)))])) _
                rw [← ez24]
                refine XS.sipush X0.here hx rfl (hb hby d2_8) ?_
                refine XS.icmpYes X0.here hx rfl (pc0 := 11) (pc' := 18) rfl (hb hby d2_11) rfl (flt hc11).2.1 (by decide) (by decide) ?_
                refine XS.iloadN X0.here hx rfl (hb hby d2_18) rfl ?_
                refine XS.iconst X0.here hx rfl (hb hby d2_19) ?_
                show Steps p.tables e below (s₁.setTop (mkF m 20 #[.val (.int u0)] [(.int (2 : Int32)), (.int u0)])) _
                refine XS.isub X0.here hx rfl (hb hby d2_20) rfl ?_
                show Steps p.tables e below (s₁.setTop (mkF m 21 #[.val (.int u0)] [(.int (u0 - (2 : Int32)))])) _
                rw [← ez26]
                refine XS.sipush X0.here hx rfl (hb hby d2_21) ?_
                refine XS.icmpNo X0.here hx rfl (hb hby d2_24) rfl (flt hc24).1 ?_
                refine XS.iloadN X0.here hx rfl (hb hby d2_27) rfl ?_
                refine XS.iconst X0.here hx rfl (hb hby d2_28) ?_
                show Steps p.tables e below (s₁.setTop (mkF m 29 #[.val (.int u0)] [(.int (2 : Int32)), (.int u0)])) _
                refine XS.isub X0.here hx rfl (hb hby d2_29) rfl ?_
                show Steps p.tables e below (s₁.setTop (mkF m 30 #[.val (.int u0)] [(.int (u0 - (2 : Int32)))])) _
                rw [← ez37]
                refine XS.sipush X0.here hx rfl (hb hby d2_30) ?_
                refine XS.icmpYes X0.here hx rfl (pc0 := 33) (pc' := 40) rfl (hb hby d2_33) rfl (flt hc33).2.1 (by decide) (by decide) ?_
                refine XS.iloadN X0.here hx rfl (hb hby d2_40) rfl ?_
                refine XS.iconst X0.here hx rfl (hb hby d2_41) ?_
                show Steps p.tables e below (s₁.setTop (mkF m 42 #[.val (.int u0)] [(.int (3 : Int32)), (.int u0)])) _
                refine XS.isub X0.here hx rfl (hb hby d2_42) rfl ?_
                show Steps p.tables e below (s₁.setTop (mkF m 43 #[.val (.int u0)] [(.int (u0 - (3 : Int32)))])) _
                rw [← ez39]
                refine XS.sipush X0.here hx rfl (hb hby d2_43) ?_
                refine XS.icmpYes X0.here hx rfl (pc0 := 46) (pc' := 61) rfl (hb hby d2_46) rfl (tlt hc46).1 (by decide) (by decide) ?_
                refine XS.iloadN X0.here hx rfl (hb hby d2_61) rfl ?_
                refine XS.iconst X0.here hx rfl (hb hby d2_62) ?_
                show Steps p.tables e below (s₁.setTop (mkF m 63 #[.val (.int u0)] [(.int (4 : Int32)), (.int u0)])) _
                refine XS.isub X0.here hx rfl (hb hby d2_63) rfl ?_
                show Steps p.tables e below (s₁.setTop (mkF m 64 #[.val (.int u0)] [(.int (u0 - (4 : Int32)))])) _
                rw [← ez40]
                show Steps p.tables e below (s₁.setTop (mkF m 64 #[.val (.int u0)] [(.int z40)])) _
                refine st41 _ ?_
                show Steps p.tables e below (s₁.setTop (mkF m 66 #[.val (.int u0)] [(.int (65536 : Int32)), (.int z40)])) _
                refine XS.icmpNo X0.here hx rfl (hb hby d2_66) rfl (flt hc66).1 ?_
                refine XS.iloadN X0.here hx rfl (hb hby d2_69) rfl ?_
                refine XS.iconst X0.here hx rfl (hb hby d2_70) ?_
                show Steps p.tables e below (s₁.setTop (mkF m 71 #[.val (.int u0)] [(.int (4 : Int32)), (.int u0)])) _
                refine XS.isub X0.here hx rfl (hb hby d2_71) rfl ?_
                show Steps p.tables e below (s₁.setTop (mkF m 72 #[.val (.int u0)] [(.int (u0 - (4 : Int32)))])) _
                rw [← ez42]
                show Steps p.tables e below (s₁.setTop (mkF m 72 #[.val (.int u0)] [(.int z42)])) _
                exact retI X0 hx Bd.returns (hb hby d2_72) hr
              · show Q2 Z u0 h0 n0 _ s₁.heap _
                rw [e0]
                exact ⟨_, rfl, N0, (show CF u0.toInt z42.toInt from by unfold CF; omega), rfl⟩
          · have nhc46 : ¬ z39.toInt < (256 : Int) := own_lt0 rfl rfl hc46
            obtain ⟨z43, ez43⟩ : ∃ y : Int32, y = (u0 - (3 : Int32)) := ⟨_, rfl⟩
            have nz43 : z43.toInt = u0.toInt - (3 : Int) := by rw [ez43]; exact own_isub (x := u0.toInt) (y := (3 : Int)) rfl rfl (by omega) (by omega)
            have st44 := X0.ldcInt hx hown (mvT hZ (hw _ (List.mem_of_getElem? (i := 8) rfl))) (g := (mkF m 52 #[.val (.int u0)] [(.int z43)])) rfl (hb hby d2_52)
            by_cases hc54 : z43 < (65536 : Int32)
            · have nhc54 : z43.toInt < (65536 : Int) := own_lt1 rfl rfl hc54
              obtain ⟨z45, ez45⟩ : ∃ y : Int32, y = (u0 - (3 : Int32)) := ⟨_, rfl⟩
              have nz45 : z45.toInt = u0.toInt - (3 : Int) := by rw [ez45]; exact own_isub (x := u0.toInt) (y := (3 : Int)) rfl rfl (by omega) (by omega)
              obtain ⟨fs, hr, hrun, hended, hW, hsame⟩ := X0.leave (v := some (.int z45)) (fun h => by rw [Bd.returns] at h; cases h)
              refine ⟨_, _, pre0 _ ?_, hrun, hended, _, _, rfl, ?_, ⟨_, rfl⟩, hW, hsame.mono (by decide) (by decide)⟩
              · show Steps p.tables e below (s₁.setTop (mkF m 0 #[.val (.int u0)] [])) _
                refine XS.iloadN X0.here hx rfl (hb hby d2_0) rfl ?_
                refine XS.iconst X0.here hx rfl (hb hby d2_1) ?_
                refine XS.icmpNo X0.here hx rfl (hb hby d2_2) rfl (flt hc2).1 ?_
                refine XS.iloadN X0.here hx rfl (hb hby d2_5) rfl ?_
                refine XS.iconst X0.here hx rfl (hb hby d2_6) ?_
                show Steps p.tables e below (s₁.setTop (mkF m 7 #[.val (.int u0)] [(.int (1 : Int32)), (.int u0)])) _
                refine XS.isub X0.here hx rfl (hb hby d2_7) rfl ?_
                show Steps p.tables e below (s₁.setTop (mkF m 8 #[.val (.int u0)] [(.int (u0 - (1 : Int32)))])) _
                rw [← ez24]
                refine XS.sipush X0.here hx rfl (hb hby d2_8) ?_
                refine XS.icmpYes X0.here hx rfl (pc0 := 11) (pc' := 18) rfl (hb hby d2_11) rfl (flt hc11).2.1 (by decide) (by decide) ?_
                refine XS.iloadN X0.here hx rfl (hb hby d2_18) rfl ?_
                refine XS.iconst X0.here hx rfl (hb hby d2_19) ?_
                show Steps p.tables e below (s₁.setTop (mkF m 20 #[.val (.int u0)] [(.int (2 : Int32)), (.int u0)])) _
                refine XS.isub X0.here hx rfl (hb hby d2_20) rfl ?_
                show Steps p.tables e below (s₁.setTop (mkF m 21 #[.val (.int u0)] [(.int (u0 - (2 : Int32)))])) _
                rw [← ez26]
                refine XS.sipush X0.here hx rfl (hb hby d2_21) ?_
                refine XS.icmpNo X0.here hx rfl (hb hby d2_24) rfl (flt hc24).1 ?_
                refine XS.iloadN X0.here hx rfl (hb hby d2_27) rfl ?_
                refine XS.iconst X0.here hx rfl (hb hby d2_28) ?_
                show Steps p.tables e below (s₁.setTop (mkF m 29 #[.val (.int u0)] [(.int (2 : Int32)), (.int u0)])) _
                refine XS.isub X0.here hx rfl (hb hby d2_29) rfl ?_
                show Steps p.tables e below (s₁.setTop (mkF m 30 #[.val (.int u0)] [(.int (u0 - (2 : Int32)))])) _
                rw [← ez37]
                refine XS.sipush X0.here hx rfl (hb hby d2_30) ?_
                refine XS.icmpYes X0.here hx rfl (pc0 := 33) (pc' := 40) rfl (hb hby d2_33) rfl (flt hc33).2.1 (by decide) (by decide) ?_
                refine XS.iloadN X0.here hx rfl (hb hby d2_40) rfl ?_
                refine XS.iconst X0.here hx rfl (hb hby d2_41) ?_
                show Steps p.tables e below (s₁.setTop (mkF m 42 #[.val (.int u0)] [(.int (3 : Int32)), (.int u0)])) _
                refine XS.isub X0.here hx rfl (hb hby d2_42) rfl ?_
                show Steps p.tables e below (s₁.setTop (mkF m 43 #[.val (.int u0)] [(.int (u0 - (3 : Int32)))])) _
                rw [← ez39]
                refine XS.sipush X0.here hx rfl (hb hby d2_43) ?_
                refine XS.icmpNo X0.here hx rfl (hb hby d2_46) rfl (flt hc46).1 ?_
                refine XS.iloadN X0.here hx rfl (hb hby d2_49) rfl ?_
                refine XS.iconst X0.here hx rfl (hb hby d2_50) ?_
                show Steps p.tables e below (s₁.setTop (mkF m 51 #[.val (.int u0)] [(.int (3 : Int32)), (.int u0)])) _
                refine XS.isub X0.here hx rfl (hb hby d2_51) rfl ?_
                show Steps p.tables e below (s₁.setTop (mkF m 52 #[.val (.int u0)] [(.int (u0 - (3 : Int32)))])) _
                rw [← ez43]
                show Steps p.tables e below (s₁.setTop (mkF m 52 #[.val (.int u0)] [(.int z43)])) _
                refine st44 _ ?_
                show Steps p.tables e below (s₁.setTop (mkF m 54 #[.val (.int u0)] [(.int (65536 : Int32)), (.int z43)])) _
                refine XS.icmpNo X0.here hx rfl (hb hby d2_54) rfl (tlt hc54).2.1 ?_
                refine XS.iloadN X0.here hx rfl (hb hby d2_57) rfl ?_
                refine XS.iconst X0.here hx rfl (hb hby d2_58) ?_
                show Steps p.tables e below (s₁.setTop (mkF m 59 #[.val (.int u0)] [(.int (3 : Int32)), (.int u0)])) _
                refine XS.isub X0.here hx rfl (hb hby d2_59) rfl ?_
                show Steps p.tables e below (s₁.setTop (mkF m 60 #[.val (.int u0)] [(.int (u0 - (3 : Int32)))])) _
                rw [← ez45]
                show Steps p.tables e below (s₁.setTop (mkF m 60 #[.val (.int u0)] [(.int z45)])) _
                exact retI X0 hx Bd.returns (hb hby d2_60) hr
              · show Q2 Z u0 h0 n0 _ s₁.heap _
                rw [e0]
                exact ⟨_, rfl, N0, (show CF u0.toInt z45.toInt from by unfold CF; omega), rfl⟩
            · have nhc54 : ¬ z43.toInt < (65536 : Int) := own_lt0 rfl rfl hc54
              obtain ⟨z46, ez46⟩ : ∃ y : Int32, y = (u0 - (4 : Int32)) := ⟨_, rfl⟩
              have nz46 : z46.toInt = u0.toInt - (4 : Int) := by rw [ez46]; exact own_isub (x := u0.toInt) (y := (4 : Int)) rfl rfl (by omega) (by omega)
              have st47 := X0.ldcInt hx hown (mvT hZ (hw _ (List.mem_of_getElem? (i := 8) rfl))) (g := (mkF m 64 #[.val (.int u0)] [(.int z46)])) rfl (hb hby d2_64)
              by_cases hc66 : z46 < (65536 : Int32)
              · have nhc66 : z46.toInt < (65536 : Int) := own_lt1 rfl rfl hc66
                obtain ⟨fs, hr, hrun, hended, hW, hsame⟩ := X0.leave (v := some (.int (-1 : Int32))) (fun h => by rw [Bd.returns] at h; cases h)
                refine ⟨_, _, pre0 _ ?_, hrun, hended, _, _, rfl, ?_, ⟨_, rfl⟩, hW, hsame.mono (by decide) (by decide)⟩
                · show Steps p.tables e below (s₁.setTop (mkF m 0 #[.val (.int u0)] [])) _
                  refine XS.iloadN X0.here hx rfl (hb hby d2_0) rfl ?_
                  refine XS.iconst X0.here hx rfl (hb hby d2_1) ?_
                  refine XS.icmpNo X0.here hx rfl (hb hby d2_2) rfl (flt hc2).1 ?_
                  refine XS.iloadN X0.here hx rfl (hb hby d2_5) rfl ?_
                  refine XS.iconst X0.here hx rfl (hb hby d2_6) ?_
                  show Steps p.tables e below (s₁.setTop (mkF m 7 #[.val (.int u0)] [(.int (1 : Int32)), (.int u0)])) _
                  refine XS.isub X0.here hx rfl (hb hby d2_7) rfl ?_
                  show Steps p.tables e below (s₁.setTop (mkF m 8 #[.val (.int u0)] [(.int (u0 - (1 : Int32)))])) _
                  rw [← ez24]
                  refine XS.sipush X0.here hx rfl (hb hby d2_8) ?_
                  refine XS.icmpYes X0.here hx rfl (pc0 := 11) (pc' := 18) rfl (hb hby d2_11) rfl (flt hc11).2.1 (by decide) (by decide) ?_
                  refine XS.iloadN X0.here hx rfl (hb hby d2_18) rfl ?_
                  refine XS.iconst X0.here hx rfl (hb hby d2_19) ?_
                  show Steps p.tables e below (s₁.setTop (mkF m 20 #[.val (.int u0)] [(.int (2 : Int32)), (.int u0)])) _
                  refine XS.isub X0.here hx rfl (hb hby d2_20) rfl ?_
                  show Steps p.tables e below (s₁.setTop (mkF m 21 #[.val (.int u0)] [(.int (u0 - (2 : Int32)))])) _
                  rw [← ez26]
                  refine XS.sipush X0.here hx rfl (hb hby d2_21) ?_
                  refine XS.icmpNo X0.here hx rfl (hb hby d2_24) rfl (flt hc24).1 ?_
                  refine XS.iloadN X0.here hx rfl (hb hby d2_27) rfl ?_
                  refine XS.iconst X0.here hx rfl (hb hby d2_28) ?_
                  show Steps p.tables e below (s₁.setTop (mkF m 29 #[.val (.int u0)] [(.int (2 : Int32)), (.int u0)])) _
                  refine XS.isub X0.here hx rfl (hb hby d2_29) rfl ?_
                  show Steps p.tables e below (s₁.setTop (mkF m 30 #[.val (.int u0)] [(.int (u0 - (2 : Int32)))])) _
                  rw [← ez37]
                  refine XS.sipush X0.here hx rfl (hb hby d2_30) ?_
                  refine XS.icmpYes X0.here hx rfl (pc0 := 33) (pc' := 40) rfl (hb hby d2_33) rfl (flt hc33).2.1 (by decide) (by decide) ?_
                  refine XS.iloadN X0.here hx rfl (hb hby d2_40) rfl ?_
                  refine XS.iconst X0.here hx rfl (hb hby d2_41) ?_
                  show Steps p.tables e below (s₁.setTop (mkF m 42 #[.val (.int u0)] [(.int (3 : Int32)), (.int u0)])) _
                  refine XS.isub X0.here hx rfl (hb hby d2_42) rfl ?_
                  show Steps p.tables e below (s₁.setTop (mkF m 43 #[.val (.int u0)] [(.int (u0 - (3 : Int32)))])) _
                  rw [← ez39]
                  refine XS.sipush X0.here hx rfl (hb hby d2_43) ?_
                  refine XS.icmpNo X0.here hx rfl (hb hby d2_46) rfl (flt hc46).1 ?_
                  refine XS.iloadN X0.here hx rfl (hb hby d2_49) rfl ?_
                  refine XS.iconst X0.here hx rfl (hb hby d2_50) ?_
                  show Steps p.tables e below (s₁.setTop (mkF m 51 #[.val (.int u0)] [(.int (3 : Int32)), (.int u0)])) _
                  refine XS.isub X0.here hx rfl (hb hby d2_51) rfl ?_
                  show Steps p.tables e below (s₁.setTop (mkF m 52 #[.val (.int u0)] [(.int (u0 - (3 : Int32)))])) _
                  rw [← ez43]
                  show Steps p.tables e below (s₁.setTop (mkF m 52 #[.val (.int u0)] [(.int z43)])) _
                  refine st44 _ ?_
                  show Steps p.tables e below (s₁.setTop (mkF m 54 #[.val (.int u0)] [(.int (65536 : Int32)), (.int z43)])) _
                  refine XS.icmpYes X0.here hx rfl (pc0 := 54) (pc' := 61) rfl (hb hby d2_54) rfl (flt hc54).2.1 (by decide) (by decide) ?_
                  refine XS.iloadN X0.here hx rfl (hb hby d2_61) rfl ?_
                  refine XS.iconst X0.here hx rfl (hb hby d2_62) ?_
                  show Steps p.tables e below (s₁.setTop (mkF m 63 #[.val (.int u0)] [(.int (4 : Int32)), (.int u0)])) _
                  refine XS.isub X0.here hx rfl (hb hby d2_63) rfl ?_
                  show Steps p.tables e below (s₁.setTop (mkF m 64 #[.val (.int u0)] [(.int (u0 - (4 : Int32)))])) _
                  rw [← ez46]
                  show Steps p.tables e below (s₁.setTop (mkF m 64 #[.val (.int u0)] [(.int z46)])) _
                  refine st47 _ ?_
                  show Steps p.tables e below (s₁.setTop (mkF m 66 #[.val (.int u0)] [(.int (65536 : Int32)), (.int z46)])) _
                  refine XS.icmpYes X0.here hx rfl (pc0 := 66) (pc' := 73) rfl (hb hby d2_66) rfl (tlt hc66).1 (by decide) (by decide) ?_
                  refine XS.iconst X0.here hx rfl (hb hby d2_73) ?_
                  show Steps p.tables e below (s₁.setTop (mkF m 74 #[.val (.int u0)] [(.int (-1 : Int32))])) _
                  exact retI X0 hx Bd.returns (hb hby d2_74) hr
                · show Q2 Z u0 h0 n0 _ s₁.heap _
                  rw [e0]
                  exact ⟨_, rfl, N0, (show CF u0.toInt (-1 : Int) from by unfold CF; omega), rfl⟩
              · have nhc66 : ¬ z46.toInt < (65536 : Int) := own_lt0 rfl rfl hc66
                obtain ⟨z48, ez48⟩ : ∃ y : Int32, y = (u0 - (4 : Int32)) := ⟨_, rfl⟩
                have nz48 : z48.toInt = u0.toInt - (4 : Int) := by rw [ez48]; exact own_isub (x := u0.toInt) (y := (4 : Int)) rfl rfl (by omega) (by omega)
                obtain ⟨fs, hr, hrun, hended, hW, hsame⟩ := X0.leave (v := some (.int z48)) (fun h => by rw [Bd.returns] at h; cases h)
                refine ⟨_, _, pre0 _ ?_, hrun, hended, _, _, rfl, ?_, ⟨_, rfl⟩, hW, hsame.mono (by decide) (by decide)⟩
                · show Steps p.tables e below (s₁.setTop (mkF m 0 #[.val (.int u0)] [])) _
                  refine XS.iloadN X0.here hx rfl (hb hby d2_0) rfl ?_
                  refine XS.iconst X0.here hx rfl (hb hby d2_1) ?_
                  refine XS.icmpNo X0.here hx rfl (hb hby d2_2) rfl (flt hc2).1 ?_
                  refine XS.iloadN X0.here hx rfl (hb hby d2_5) rfl ?_
                  refine XS.iconst X0.here hx rfl (hb hby d2_6) ?_
                  show Steps p.tables e below (s₁.setTop (mkF m 7 #[.val (.int u0)] [(.int (1 : Int32)), (.int u0)])) _
                  refine XS.isub X0.here hx rfl (hb hby d2_7) rfl ?_
                  show Steps p.tables e below (s₁.setTop (mkF m 8 #[.val (.int u0)] [(.int (u0 - (1 : Int32)))])) _
                  rw [← ez24]
                  refine XS.sipush X0.here hx rfl (hb hby d2_8) ?_
                  refine XS.icmpYes X0.here hx rfl (pc0 := 11) (pc' := 18) rfl (hb hby d2_11) rfl (flt hc11).2.1 (by decide) (by decide) ?_
                  refine XS.iloadN X0.here hx rfl (hb hby d2_18) rfl ?_
                  refine XS.iconst X0.here hx rfl (hb hby d2_19) ?_
                  show Steps p.tables e below (s₁.setTop (mkF m 20 #[.val (.int u0)] [(.int (2 : Int32)), (.int u0)])) _
                  refine XS.isub X0.here hx rfl (hb hby d2_20) rfl ?_
                  show Steps p.tables e below (s₁.setTop (mkF m 21 #[.val (.int u0)] [(.int (u0 - (2 : Int32)))])) _
                  rw [← ez26]
                  refine XS.sipush X0.here hx rfl (hb hby d2_21) ?_
                  refine XS.icmpNo X0.here hx rfl (hb hby d2_24) rfl (flt hc24).1 ?_
                  refine XS.iloadN X0.here hx rfl (hb hby d2_27) rfl ?_
                  refine XS.iconst X0.here hx rfl (hb hby d2_28) ?_
                  show Steps p.tables e below (s₁.setTop (mkF m 29 #[.val (.int u0)] [(.int (2 : Int32)), (.int u0)])) _
                  refine XS.isub X0.here hx rfl (hb hby d2_29) rfl ?_
                  show Steps p.tables e below (s₁.setTop (mkF m 30 #[.val (.int u0)] [(.int (u0 - (2 : Int32)))])) _
                  rw [← ez37]
                  refine XS.sipush X0.here hx rfl (hb hby d2_30) ?_
                  refine XS.icmpYes X0.here hx rfl (pc0 := 33) (pc' := 40) rfl (hb hby d2_33) rfl (flt hc33).2.1 (by decide) (by decide) ?_
                  refine XS.iloadN X0.here hx rfl (hb hby d2_40) rfl ?_
                  refine XS.iconst X0.here hx rfl (hb hby d2_41) ?_
                  show Steps p.tables e below (s₁.setTop (mkF m 42 #[.val (.int u0)] [(.int (3 : Int32)), (.int u0)])) _
                  refine XS.isub X0.here hx rfl (hb hby d2_42) rfl ?_
                  show Steps p.tables e below (s₁.setTop (mkF m 43 #[.val (.int u0)] [(.int (u0 - (3 : Int32)))])) _
                  rw [← ez39]
                  refine XS.sipush X0.here hx rfl (hb hby d2_43) ?_
                  refine XS.icmpNo X0.here hx rfl (hb hby d2_46) rfl (flt hc46).1 ?_
                  refine XS.iloadN X0.here hx rfl (hb hby d2_49) rfl ?_
                  refine XS.iconst X0.here hx rfl (hb hby d2_50) ?_
                  show Steps p.tables e below (s₁.setTop (mkF m 51 #[.val (.int u0)] [(.int (3 : Int32)), (.int u0)])) _
                  refine XS.isub X0.here hx rfl (hb hby d2_51) rfl ?_
                  show Steps p.tables e below (s₁.setTop (mkF m 52 #[.val (.int u0)] [(.int (u0 - (3 : Int32)))])) _
                  rw [← ez43]
                  show Steps p.tables e below (s₁.setTop (mkF m 52 #[.val (.int u0)] [(.int z43)])) _
                  refine st44 _ ?_
                  show Steps p.tables e below (s₁.setTop (mkF m 54 #[.val (.int u0)] [(.int (65536 : Int32)), (.int z43)])) _
                  refine XS.icmpYes X0.here hx rfl (pc0 := 54) (pc' := 61) rfl (hb hby d2_54) rfl (flt hc54).2.1 (by decide) (by decide) ?_
                  refine XS.iloadN X0.here hx rfl (hb hby d2_61) rfl ?_
                  refine XS.iconst X0.here hx rfl (hb hby d2_62) ?_
                  show Steps p.tables e below (s₁.setTop (mkF m 63 #[.val (.int u0)] [(.int (4 : Int32)), (.int u0)])) _
                  refine XS.isub X0.here hx rfl (hb hby d2_63) rfl ?_
                  show Steps p.tables e below (s₁.setTop (mkF m 64 #[.val (.int u0)] [(.int (u0 - (4 : Int32)))])) _
                  rw [← ez46]
                  show Steps p.tables e below (s₁.setTop (mkF m 64 #[.val (.int u0)] [(.int z46)])) _
                  refine st47 _ ?_
                  show Steps p.tables e below (s₁.setTop (mkF m 66 #[.val (.int u0)] [(.int (65536 : Int32)), (.int z46)])) _
                  refine XS.icmpNo X0.here hx rfl (hb hby d2_66) rfl (flt hc66).1 ?_
                  refine XS.iloadN X0.here hx rfl (hb hby d2_69) rfl ?_
                  refine XS.iconst X0.here hx rfl (hb hby d2_70) ?_
                  show Steps p.tables e below (s₁.setTop (mkF m 71 #[.val (.int u0)] [(.int (4 : Int32)), (.int u0)])) _
                  refine XS.isub X0.here hx rfl (hb hby d2_71) rfl ?_
                  show Steps p.tables e below (s₁.setTop (mkF m 72 #[.val (.int u0)] [(.int (u0 - (4 : Int32)))])) _
                  rw [← ez48]
                  show Steps p.tables e below (s₁.setTop (mkF m 72 #[.val (.int u0)] [(.int z48)])) _
                  exact retI X0 hx Bd.returns (hb hby d2_72) hr
                · show Q2 Z u0 h0 n0 _ s₁.heap _
                  rw [e0]
                  exact ⟨_, rfl, N0, (show CF u0.toInt z48.toInt from by unfold CF; omega), rfl⟩
theorem d6_0 : decode prog_3_method_3_code 0 = .ok (.iload_n 1, 1) := by decide +kernel
theorem d6_1 : decode prog_3_method_3_code 1 = .ok (.iload_n 2, 1) := by decide +kernel
theorem d6_2 : decode prog_3_method_3_code 2 = .ok (.if_icmp .lt 13, 3) := by decide +kernel
theorem d6_15 : decode prog_3_method_3_code 15 = .ok (.aload_n 0, 1) := by decide +kernel
theorem d6_16 : decode prog_3_method_3_code 16 = .ok (.iload_n 1, 1) := by decide +kernel
theorem d6_17 : decode prog_3_method_3_code 17 = .ok (.baload, 1) := by decide +kernel
theorem d6_18 : decode prog_3_method_3_code 18 = .ok (.sipush 255, 3) := by decide +kernel
theorem d6_21 : decode prog_3_method_3_code 21 = .ok (.iand, 1) := by decide +kernel
theorem d6_22 : decode prog_3_method_3_code 22 = .ok (.ireturn, 1) := by decide +kernel
theorem pn_com_example_fides_fides_Der : plainName "com/example/fides/fides/Der" = true := by first | (simp [plainName, overriddenIn]; done) | decide +kernel
theorem ef_6 (m : MethodId) (u0 : Addr) (u1 : Int32) (u2 : Int32) : entryFrame m #[(.ref u0), (.int u1), (.int u2)] 3 = mkF m 0 #[.val (.ref u0), .val (.int u1), .val (.int u2)] [] := by first | (simp [entryFrame, mkF, argsToLocals, Value.category]; done) | rfl
def Q6 (Z : State) (u0 : Addr) (u1 : Int32) (u2 : Int32) (nn : Int) (gg : Int → Int) (h0 : Heap) (n0 : Nat) (v : Option Value) (h : Heap) (L : List Loc) : Prop := ∃ w : Int32, v = some (.int w) ∧ Fr n0 L ∧ w.toInt = gg u1.toInt ∧ 0 ≤ w.toInt ∧ w.toInt < 256 ∧ h = h0
set_option maxRecDepth 65536 in
set_option maxHeartbeats 40000000 in
theorem rm6 (l : Launch) (Z : State) (a0 : Array Value) (hw : ∀ d ∈ tables_1, d.before a0 Z = true) (ws : List Jvm.Cond) (u0 : Addr) (u1 : Int32) (u2 : Int32) (nn : Int) (gg : Int → Int) (h0 : Heap) (n0 : Nat) (Z0 : n0 ≤ h0.size) (V_u0 : Byt Z h0 u0 nn gg) (hb1 : 0 ≤ u1.toInt) (hb2 : u1.toInt < u2.toInt) (hb3 : u1.toInt < nn) :
    MetFree l (⟨"com/example/fides/fides/Der", "byteAt", "([BII)I"⟩ : MethodName) (head1 (Jvm.Cond.code (⟨"com/example/fides/fides/Der", "byteAt", "([BII)I"⟩ : MethodName) prog_3_method_3_code 3 (some .int) :: ws) ({ frames := 0, cells := 0, slots := 0, locals := 0 } : Room)) (fun a U => a = #[(.ref u0), (.int u1), (.int u2)] ∧ Z.Warmed39 U.vm ∧ U.heap = h0) (fun _ _ _ _ _ => True) (fun _ U o U' => ∃ v L, o = .returned v ∧ Q6 Z u0 u1 u2 nn gg h0 n0 v U'.heap L ∧ FrameEnd U o U' L ({ frames := 0, cells := 0, slots := 0, locals := 0 } : Room).cells ({ frames := 0, cells := 0, slots := 0, locals := 0 } : Room).slots) := by
  refine MetFree.of_bodySF (plainFor_of_name pn_com_example_fides_fides_Der) hisR ?_
  intro p e s m args below meth c s₁ Bd hml0 hP hK
  obtain ⟨rfl, hZ, hh⟩ := hP
  have hx := Bd.exec
  have hby := Bd.bytes
  have hml : c.maxLocals = 3 := hml0
  have hown : s.vm.findClass "com/example/fides/fides/Der" = some m.cls := findClass_of_methodNamed Bd.named
  have hnm := (name_of_methodNamed Bd.named Bd.method).1
  have X0 : Stand p l e ({ frames := 0, cells := 0, slots := 0, locals := 0 } : Room) s m #[(.ref u0), (.int u1), (.int u2)] below meth c s₁ [] 0 0 := Stand.of_body Bd
  have e0 : s₁.heap = h0 := by rw [← hh, Bd.state]; rfl
  have N0 := Fr.nil n0
  have pre0 : ∀ t, Steps p.tables e below (s₁.setTop (mkF m 0 #[.val (.ref u0), .val (.int u1), .val (.int u2)] [])) t → Steps p.tables e below (s₁.setTop (entryFrame m #[(.ref u0), (.int u1), (.int u2)] 3)) t := fun t k => castTop (ef_6 m u0 u1 u2) k
  obtain ⟨cl1, Ar1, Sa1, Ma1, Ha1⟩ := id V_u0
  have i1 : 0 ≤ (u1).toInt ∧ (u1).toInt < nn := by omega
  obtain ⟨w1, we1, wp1⟩ := cel_get (P := fun i x => x.toInt % 256 = gg i) Ha1 i1.1 i1.2
  replace wp1 : w1.toInt % 256 = gg u1.toInt := wp1
  have st1 := X0.baloadBytes hx (j := u1) (v := .int w1) (by rw [e0]; exact Ar1.1) (State.isArrayOf_alike hZ.alike Ar1.2.1) Ar1.2.2 (cel_inb Sa1 i1.1 i1.2) we1 (g := (mkF m 17 #[.val (.ref u0), .val (.int u1), .val (.int u2)] [(.int u1), (.ref u0)])) rfl rfl (hb hby d6_17)
  obtain ⟨z2, ez2⟩ : ∃ y : Int32, y = (w1 &&& (255 : Int32)) := ⟨_, rfl⟩
  have nz2 : z2.toInt = w1.toInt % 256 := by rw [ez2]; exact own_m255 w1
  obtain ⟨fs, hr, hrun, hended, hW, hsame⟩ := X0.leave (v := some (.int z2)) (fun h => by rw [Bd.returns] at h; cases h)
  refine ⟨_, _, pre0 _ ?_, hrun, hended, _, _, rfl, ?_, ⟨_, rfl⟩, hW, hsame.mono (by decide) (by decide)⟩
  · show Steps p.tables e below (s₁.setTop (mkF m 0 #[.val (.ref u0), .val (.int u1), .val (.int u2)] [])) _
    refine XS.iloadN X0.here hx rfl (hb hby d6_0) rfl ?_
    refine XS.iloadN X0.here hx rfl (hb hby d6_1) rfl ?_
    refine XS.icmpYes X0.here hx rfl (pc0 := 2) (pc' := 15) rfl (hb hby d6_2) rfl (tlt (own_lt1' rfl rfl hb2)).1 (by decide) (by decide) ?_
    refine XS.aloadN X0.here hx rfl (hb hby d6_15) rfl rfl ?_
    refine XS.iloadN X0.here hx rfl (hb hby d6_16) rfl ?_
    show Steps p.tables e below (s₁.setTop (mkF m 17 #[.val (.ref u0), .val (.int u1), .val (.int u2)] [(.int u1), (.ref u0)])) _
    refine st1 _ ?_
    show Steps p.tables e below (s₁.setTop (mkF m 18 #[.val (.ref u0), .val (.int u1), .val (.int u2)] [(.int w1)])) _
    refine XS.sipush X0.here hx rfl (hb hby d6_18) ?_
    show Steps p.tables e below (s₁.setTop (mkF m 21 #[.val (.ref u0), .val (.int u1), .val (.int u2)] [(.int (255 : Int32)), (.int w1)])) _
    refine XS.iand X0.here hx rfl (hb hby d6_21) rfl ?_
    show Steps p.tables e below (s₁.setTop (mkF m 22 #[.val (.ref u0), .val (.int u1), .val (.int u2)] [(.int (w1 &&& (255 : Int32)))])) _
    rw [← ez2]
    show Steps p.tables e below (s₁.setTop (mkF m 22 #[.val (.ref u0), .val (.int u1), .val (.int u2)] [(.int z2)])) _
    exact retI X0 hx Bd.returns (hb hby d6_22) hr
  · show Q6 Z u0 u1 u2 nn gg h0 n0 _ s₁.heap _
    rw [e0]
    exact ⟨_, rfl, N0, (nz2.trans wp1), (by omega), (by omega), rfl⟩
theorem d4_0 : decode method_3_code 0 = .ok (.iload_n 2, 1) := by decide +kernel
theorem d4_1 : decode method_3_code 1 = .ok (.sipush 128, 3) := by decide +kernel
theorem d4_4 : decode method_3_code 4 = .ok (.if_icmp .ge 12, 3) := by decide +kernel
theorem d4_7 : decode method_3_code 7 = .ok (.aload_n 0, 1) := by decide +kernel
theorem d4_8 : decode method_3_code 8 = .ok (.iload_n 1, 1) := by decide +kernel
theorem d4_9 : decode method_3_code 9 = .ok (.iload_n 2, 1) := by decide +kernel
theorem d4_10 : decode method_3_code 10 = .ok (.i2b, 1) := by decide +kernel
theorem d4_11 : decode method_3_code 11 = .ok (.bastore, 1) := by decide +kernel
theorem d4_12 : decode method_3_code 12 = .ok (.iload_n 1, 1) := by decide +kernel
theorem d4_13 : decode method_3_code 13 = .ok (.iconst 1, 1) := by decide +kernel
theorem d4_14 : decode method_3_code 14 = .ok (.iadd, 1) := by decide +kernel
theorem d4_15 : decode method_3_code 15 = .ok (.ireturn, 1) := by decide +kernel
theorem d4_16 : decode method_3_code 16 = .ok (.iload_n 2, 1) := by decide +kernel
theorem d4_17 : decode method_3_code 17 = .ok (.sipush 256, 3) := by decide +kernel
theorem d4_20 : decode method_3_code 20 = .ok (.if_icmp .ge 19, 3) := by decide +kernel
theorem d4_23 : decode method_3_code 23 = .ok (.aload_n 0, 1) := by decide +kernel
theorem d4_24 : decode method_3_code 24 = .ok (.iload_n 1, 1) := by decide +kernel
theorem d4_25 : decode method_3_code 25 = .ok (.bipush (-127), 2) := by decide +kernel
theorem d4_27 : decode method_3_code 27 = .ok (.bastore, 1) := by decide +kernel
theorem d4_28 : decode method_3_code 28 = .ok (.aload_n 0, 1) := by decide +kernel
theorem d4_29 : decode method_3_code 29 = .ok (.iload_n 1, 1) := by decide +kernel
theorem d4_30 : decode method_3_code 30 = .ok (.iconst 1, 1) := by decide +kernel
theorem d4_31 : decode method_3_code 31 = .ok (.iadd, 1) := by decide +kernel
theorem d4_32 : decode method_3_code 32 = .ok (.iload_n 2, 1) := by decide +kernel
theorem d4_33 : decode method_3_code 33 = .ok (.i2b, 1) := by decide +kernel
theorem d4_34 : decode method_3_code 34 = .ok (.bastore, 1) := by decide +kernel
theorem d4_35 : decode method_3_code 35 = .ok (.iload_n 1, 1) := by decide +kernel
theorem d4_36 : decode method_3_code 36 = .ok (.iconst 2, 1) := by decide +kernel
theorem d4_37 : decode method_3_code 37 = .ok (.iadd, 1) := by decide +kernel
theorem d4_38 : decode method_3_code 38 = .ok (.ireturn, 1) := by decide +kernel
theorem d4_39 : decode method_3_code 39 = .ok (.iload_n 2, 1) := by decide +kernel
theorem d4_40 : decode method_3_code 40 = .ok (.ldc 7, 2) := by decide +kernel
theorem d4_42 : decode method_3_code 42 = .ok (.if_icmp .ge 29, 3) := by decide +kernel
theorem d4_45 : decode method_3_code 45 = .ok (.aload_n 0, 1) := by decide +kernel
theorem d4_46 : decode method_3_code 46 = .ok (.iload_n 1, 1) := by decide +kernel
theorem d4_47 : decode method_3_code 47 = .ok (.bipush (-126), 2) := by decide +kernel
theorem d4_49 : decode method_3_code 49 = .ok (.bastore, 1) := by decide +kernel
theorem d4_50 : decode method_3_code 50 = .ok (.aload_n 0, 1) := by decide +kernel
theorem d4_51 : decode method_3_code 51 = .ok (.iload_n 1, 1) := by decide +kernel
theorem d4_52 : decode method_3_code 52 = .ok (.iconst 1, 1) := by decide +kernel
theorem d4_53 : decode method_3_code 53 = .ok (.iadd, 1) := by decide +kernel
theorem d4_54 : decode method_3_code 54 = .ok (.iload_n 2, 1) := by decide +kernel
theorem d4_55 : decode method_3_code 55 = .ok (.bipush 8, 2) := by decide +kernel
theorem d4_57 : decode method_3_code 57 = .ok (.iushr, 1) := by decide +kernel
theorem d4_58 : decode method_3_code 58 = .ok (.i2b, 1) := by decide +kernel
theorem d4_59 : decode method_3_code 59 = .ok (.bastore, 1) := by decide +kernel
theorem d4_60 : decode method_3_code 60 = .ok (.aload_n 0, 1) := by decide +kernel
theorem d4_61 : decode method_3_code 61 = .ok (.iload_n 1, 1) := by decide +kernel
theorem d4_62 : decode method_3_code 62 = .ok (.iconst 2, 1) := by decide +kernel
theorem d4_63 : decode method_3_code 63 = .ok (.iadd, 1) := by decide +kernel
theorem d4_64 : decode method_3_code 64 = .ok (.iload_n 2, 1) := by decide +kernel
theorem d4_65 : decode method_3_code 65 = .ok (.i2b, 1) := by decide +kernel
theorem d4_66 : decode method_3_code 66 = .ok (.bastore, 1) := by decide +kernel
theorem d4_67 : decode method_3_code 67 = .ok (.iload_n 1, 1) := by decide +kernel
theorem d4_68 : decode method_3_code 68 = .ok (.iconst 3, 1) := by decide +kernel
theorem d4_69 : decode method_3_code 69 = .ok (.iadd, 1) := by decide +kernel
theorem d4_70 : decode method_3_code 70 = .ok (.ireturn, 1) := by decide +kernel
theorem d4_71 : decode method_3_code 71 = .ok (.aload_n 0, 1) := by decide +kernel
theorem d4_72 : decode method_3_code 72 = .ok (.iload_n 1, 1) := by decide +kernel
theorem d4_73 : decode method_3_code 73 = .ok (.bipush (-125), 2) := by decide +kernel
theorem d4_75 : decode method_3_code 75 = .ok (.bastore, 1) := by decide +kernel
theorem d4_76 : decode method_3_code 76 = .ok (.aload_n 0, 1) := by decide +kernel
theorem d4_77 : decode method_3_code 77 = .ok (.iload_n 1, 1) := by decide +kernel
theorem d4_78 : decode method_3_code 78 = .ok (.iconst 1, 1) := by decide +kernel
theorem d4_79 : decode method_3_code 79 = .ok (.iadd, 1) := by decide +kernel
theorem d4_80 : decode method_3_code 80 = .ok (.iload_n 2, 1) := by decide +kernel
theorem d4_81 : decode method_3_code 81 = .ok (.bipush 16, 2) := by decide +kernel
theorem d4_83 : decode method_3_code 83 = .ok (.iushr, 1) := by decide +kernel
theorem d4_84 : decode method_3_code 84 = .ok (.i2b, 1) := by decide +kernel
theorem d4_85 : decode method_3_code 85 = .ok (.bastore, 1) := by decide +kernel
theorem d4_86 : decode method_3_code 86 = .ok (.aload_n 0, 1) := by decide +kernel
theorem d4_87 : decode method_3_code 87 = .ok (.iload_n 1, 1) := by decide +kernel
theorem d4_88 : decode method_3_code 88 = .ok (.iconst 2, 1) := by decide +kernel
theorem d4_89 : decode method_3_code 89 = .ok (.iadd, 1) := by decide +kernel
theorem d4_90 : decode method_3_code 90 = .ok (.iload_n 2, 1) := by decide +kernel
theorem d4_91 : decode method_3_code 91 = .ok (.bipush 8, 2) := by decide +kernel
theorem d4_93 : decode method_3_code 93 = .ok (.iushr, 1) := by decide +kernel
theorem d4_94 : decode method_3_code 94 = .ok (.i2b, 1) := by decide +kernel
theorem d4_95 : decode method_3_code 95 = .ok (.bastore, 1) := by decide +kernel
theorem d4_96 : decode method_3_code 96 = .ok (.aload_n 0, 1) := by decide +kernel
theorem d4_97 : decode method_3_code 97 = .ok (.iload_n 1, 1) := by decide +kernel
theorem d4_98 : decode method_3_code 98 = .ok (.iconst 3, 1) := by decide +kernel
theorem d4_99 : decode method_3_code 99 = .ok (.iadd, 1) := by decide +kernel
theorem d4_100 : decode method_3_code 100 = .ok (.iload_n 2, 1) := by decide +kernel
theorem d4_101 : decode method_3_code 101 = .ok (.i2b, 1) := by decide +kernel
theorem d4_102 : decode method_3_code 102 = .ok (.bastore, 1) := by decide +kernel
theorem d4_103 : decode method_3_code 103 = .ok (.iload_n 1, 1) := by decide +kernel
theorem d4_104 : decode method_3_code 104 = .ok (.iconst 4, 1) := by decide +kernel
theorem d4_105 : decode method_3_code 105 = .ok (.iadd, 1) := by decide +kernel
theorem d4_106 : decode method_3_code 106 = .ok (.ireturn, 1) := by decide +kernel
theorem ef_4 (m : MethodId) (u0 : Addr) (u1 : Int32) (u2 : Int32) : entryFrame m #[(.ref u0), (.int u1), (.int u2)] 3 = mkF m 0 #[.val (.ref u0), .val (.int u1), .val (.int u2)] [] := by first | (simp [entryFrame, mkF, argsToLocals, Value.category]; done) | rfl
def Q4 (Z : State) (u0 : Addr) (u1 : Int32) (u2 : Int32) (nn : Int) (gg : Int → Int) (h0 : Heap) (n0 : Nat) (v : Option Value) (h : Heap) (L : List Loc) : Prop := ∃ (w : Int32) (g' : Int → Int), v = some (.int w) ∧ Fr n0 L ∧ Keep h0 h [u0] ∧ Byt Z h u0 nn g' ∧ w.toInt = u1.toInt + ls u2.toInt ∧ (∀ i, i < u1.toInt ∨ u1.toInt + ls u2.toInt ≤ i → g' i = gg i) ∧ LenOK g' u1.toInt u2.toInt
set_option maxRecDepth 65536 in
set_option maxHeartbeats 40000000 in
theorem rm4 (l : Launch) (Z : State) (a0 : Array Value) (hw : ∀ d ∈ tables_1, d.before a0 Z = true) (ws : List Jvm.Cond) (u0 : Addr) (u1 : Int32) (u2 : Int32) (nn : Int) (gg : Int → Int) (h0 : Heap) (n0 : Nat) (Z0 : n0 ≤ h0.size) (g_u0 : n0 ≤ u0) (V_u0 : Byt Z h0 u0 nn gg) (hM : nn ≤ 65600) (hp : 0 ≤ u1.toInt) (hl : 0 ≤ u2.toInt ∧ u2.toInt < 16777216) (hq : u1.toInt + ls u2.toInt ≤ nn) :
    MetFree l (⟨"com/example/fides/fides/DerRequireShapePinLaw", "putLen", "([BII)I"⟩ : MethodName) (head1 (Jvm.Cond.code (⟨"com/example/fides/fides/DerRequireShapePinLaw", "putLen", "([BII)I"⟩ : MethodName) method_3_code 3 (some .int) :: ws) ({ frames := 0, cells := 0, slots := 0, locals := 0 } : Room)) (fun a U => a = #[(.ref u0), (.int u1), (.int u2)] ∧ Z.Warmed39 U.vm ∧ U.heap = h0) (fun _ _ _ _ _ => True) (fun _ U o U' => ∃ v L, o = .returned v ∧ Q4 Z u0 u1 u2 nn gg h0 n0 v U'.heap L ∧ FrameEnd U o U' L ({ frames := 0, cells := 0, slots := 0, locals := 0 } : Room).cells ({ frames := 0, cells := 0, slots := 0, locals := 0 } : Room).slots) := by
  refine MetFree.of_bodySF (plainFor_of_name pn_com_example_fides_fides_DerRequireShapePinLaw) hisR ?_
  intro p e s m args below meth c s₁ Bd hml0 hP hK
  obtain ⟨rfl, hZ, hh⟩ := hP
  have hx := Bd.exec
  have hby := Bd.bytes
  have hml : c.maxLocals = 3 := hml0
  have hown : s.vm.findClass "com/example/fides/fides/DerRequireShapePinLaw" = some m.cls := findClass_of_methodNamed Bd.named
  have hnm := (name_of_methodNamed Bd.named Bd.method).1
  have X0 : Stand p l e ({ frames := 0, cells := 0, slots := 0, locals := 0 } : Room) s m #[(.ref u0), (.int u1), (.int u2)] below meth c s₁ [] 0 0 := Stand.of_body Bd
  have e0 : s₁.heap = h0 := by rw [← hh, Bd.state]; rfl
  have N0 := Fr.nil n0
  have pre0 : ∀ t, Steps p.tables e below (s₁.setTop (mkF m 0 #[.val (.ref u0), .val (.int u1), .val (.int u2)] [])) t → Steps p.tables e below (s₁.setTop (entryFrame m #[(.ref u0), (.int u1), (.int u2)] 3)) t := fun t k => castTop (ef_4 m u0 u1 u2) k
  by_cases hc4 : u2 < (128 : Int32)
  · have nhc4 : u2.toInt < (128 : Int) := own_lt1 rfl rfl hc4
    have hls := ls_1 nhc4
    obtain ⟨z1, ez1⟩ : ∃ y : Int32, y = (u2.toInt8.toInt32) := ⟨_, rfl⟩
    have nz1 : (z1.toInt - u2.toInt) % 256 = 0 ∧ -128 ≤ z1.toInt ∧ z1.toInt < 128 := by rw [ez1]; exact c_i2b u2
    obtain ⟨cl2, Ar2, Sa2, Ma2, Ha2⟩ := id V_u0
    have i2 : 0 ≤ (u1).toInt ∧ (u1).toInt < nn := by omega
    obtain ⟨T3, h3, X3, e3, W3, st3⟩ := stB X0 hx hZ e0 Ar2 (j := u1) (cel_inb Sa2 i2.1 i2.2) (g := (mkF m 11 #[.val (.ref u0), .val (.int u1), .val (.int u2)] [(.int z1), (.int u1), (.ref u0)])) rfl rfl (hb hby d4_11)
    have V3 := Byt.set (g := gg) Ar2 Sa2 Ma2 Ha2 i2.1 i2.2 W3
    obtain ⟨g3, eg3⟩ : ∃ z, z = upd gg (u1).toInt ((z1).toInt % 256) := ⟨_, rfl⟩
    rw [← eg3] at V3
    have ga3 : g3 u1.toInt = z1.toInt % 256 := by rw [eg3]; exact upd_at _ _ _
    have gn3 : ∀ i, i ≠ u1.toInt → g3 i = gg i := fun i hi => by rw [eg3]; exact upd_ne _ _ _ hi
    have N3 := Fr.snoc X3 N0 g_u0
    have Z3 : n0 ≤ h3.size := Nat.le_trans Z0 (Keep.of_wr W3).1
    have KK3 := (Keep.refl h0 [u0]).wr W3 (Or.inl (List.mem_of_getElem? (i := 0) rfl))
    obtain ⟨z4, ez4⟩ : ∃ y : Int32, y = (u1 + (1 : Int32)) := ⟨_, rfl⟩
    have nz4 : z4.toInt = u1.toInt + (1 : Int) := by rw [ez4]; exact own_iadd (x := u1.toInt) (y := (1 : Int)) rfl rfl (by omega) (by omega)
    have va3 : g3 u1.toInt = z1.toInt % 256 := by exact ga3
    have vb3 : g3 u1.toInt = z1.toInt % 256 := va3
    obtain ⟨fs, hr, hrun, hended, hW, hsame⟩ := X3.leave (v := some (.int z4)) (fun h => by rw [Bd.returns] at h; cases h)
    refine ⟨_, _, pre0 _ ?_, hrun, hended, _, _, rfl, ?_, ⟨_, rfl⟩, hW, hsame.mono (by decide) (by decide)⟩
    · show Steps p.tables e below (s₁.setTop (mkF m 0 #[.val (.ref u0), .val (.int u1), .val (.int u2)] [])) _
      refine XS.iloadN X0.here hx rfl (hb hby d4_0) rfl ?_
      refine XS.sipush X0.here hx rfl (hb hby d4_1) ?_
      refine XS.icmpNo X0.here hx rfl (hb hby d4_4) rfl (tlt hc4).2.1 ?_
      refine XS.aloadN X0.here hx rfl (hb hby d4_7) rfl rfl ?_
      refine XS.iloadN X0.here hx rfl (hb hby d4_8) rfl ?_
      refine XS.iloadN X0.here hx rfl (hb hby d4_9) rfl ?_
      show Steps p.tables e below (s₁.setTop (mkF m 10 #[.val (.ref u0), .val (.int u1), .val (.int u2)] [(.int u2), (.int u1), (.ref u0)])) _
      refine XS.i2b X0.here hx rfl (hb hby d4_10) rfl ?_
      show Steps p.tables e below (s₁.setTop (mkF m 11 #[.val (.ref u0), .val (.int u1), .val (.int u2)] [(.int (u2.toInt8.toInt32)), (.int u1), (.ref u0)])) _
      rw [← ez1]
      show Steps p.tables e below (s₁.setTop (mkF m 11 #[.val (.ref u0), .val (.int u1), .val (.int u2)] [(.int z1), (.int u1), (.ref u0)])) _
      refine st3 _ ?_
      show Steps p.tables e below (T3.setTop (mkF m 12 #[.val (.ref u0), .val (.int u1), .val (.int u2)] [])) _
      refine XS.iloadN X3.here hx rfl (hb hby d4_12) rfl ?_
      refine XS.iconst X3.here hx rfl (hb hby d4_13) ?_
      show Steps p.tables e below (T3.setTop (mkF m 14 #[.val (.ref u0), .val (.int u1), .val (.int u2)] [(.int (1 : Int32)), (.int u1)])) _
      refine XS.iadd X3.here hx rfl (hb hby d4_14) rfl ?_
      show Steps p.tables e below (T3.setTop (mkF m 15 #[.val (.ref u0), .val (.int u1), .val (.int u2)] [(.int (u1 + (1 : Int32)))])) _
      rw [← ez4]
      show Steps p.tables e below (T3.setTop (mkF m 15 #[.val (.ref u0), .val (.int u1), .val (.int u2)] [(.int z4)])) _
      exact retI X3 hx Bd.returns (hb hby d4_15) hr
    · show Q4 Z u0 u1 u2 nn gg h0 n0 _ T3.heap _
      rw [e3]
      exact ⟨_, g3, rfl, N3, KK3, V3, (by omega), (fun i hi => by rw [gn3 i (by omega)]), (by unfold LenOK; refine ⟨fun _ => by omega, fun _ _ => ⟨by omega, by omega⟩, fun _ _ => ⟨by omega, by omega, by omega⟩, fun _ => ⟨by omega, by omega, by omega, by omega⟩⟩)⟩
  · have nhc4 : ¬ u2.toInt < (128 : Int) := own_lt0 rfl rfl hc4
    by_cases hc20 : u2 < (256 : Int32)
    · have nhc20 : u2.toInt < (256 : Int) := own_lt1 rfl rfl hc20
      have hls := ls_2 nhc4 nhc20
      obtain ⟨cl5, Ar5, Sa5, Ma5, Ha5⟩ := id V_u0
      have i5 : 0 ≤ (u1).toInt ∧ (u1).toInt < nn := by omega
      obtain ⟨T6, h6, X6, e6, W6, st6⟩ := stB X0 hx hZ e0 Ar5 (j := u1) (cel_inb Sa5 i5.1 i5.2) (g := (mkF m 27 #[.val (.ref u0), .val (.int u1), .val (.int u2)] [(.int (-127 : Int32)), (.int u1), (.ref u0)])) rfl rfl (hb hby d4_27)
      have V6 := Byt.set (g := gg) Ar5 Sa5 Ma5 Ha5 i5.1 i5.2 W6
      obtain ⟨g6, eg6⟩ : ∃ z, z = upd gg (u1).toInt (((-127 : Int32)).toInt % 256) := ⟨_, rfl⟩
      rw [← eg6] at V6
      have ga6 : g6 u1.toInt = (-127 : Int) % 256 := by rw [eg6]; exact upd_at _ _ _
      have gn6 : ∀ i, i ≠ u1.toInt → g6 i = gg i := fun i hi => by rw [eg6]; exact upd_ne _ _ _ hi
      have N6 := Fr.snoc X6 N0 g_u0
      have Z6 : n0 ≤ h6.size := Nat.le_trans Z0 (Keep.of_wr W6).1
      have KK6 := (Keep.refl h0 [u0]).wr W6 (Or.inl (List.mem_of_getElem? (i := 0) rfl))
      obtain ⟨z7, ez7⟩ : ∃ y : Int32, y = (u1 + (1 : Int32)) := ⟨_, rfl⟩
      have nz7 : z7.toInt = u1.toInt + (1 : Int) := by rw [ez7]; exact own_iadd (x := u1.toInt) (y := (1 : Int)) rfl rfl (by omega) (by omega)
      obtain ⟨z8, ez8⟩ : ∃ y : Int32, y = (u2.toInt8.toInt32) := ⟨_, rfl⟩
      have nz8 : (z8.toInt - u2.toInt) % 256 = 0 ∧ -128 ≤ z8.toInt ∧ z8.toInt < 128 := by rw [ez8]; exact c_i2b u2
      obtain ⟨cl9, Ar9, Sa9, Ma9, Ha9⟩ := id V6
      have i9 : 0 ≤ (z7).toInt ∧ (z7).toInt < nn := by omega
      obtain ⟨T10, h10, X10, e10, W10, st10⟩ := stB X6 hx hZ e6 Ar9 (j := z7) (cel_inb Sa9 i9.1 i9.2) (g := (mkF m 34 #[.val (.ref u0), .val (.int u1), .val (.int u2)] [(.int z8), (.int z7), (.ref u0)])) rfl rfl (hb hby d4_34)
      have V10 := Byt.set (g := g6) Ar9 Sa9 Ma9 Ha9 i9.1 i9.2 W10
      obtain ⟨g10, eg10⟩ : ∃ z, z = upd g6 (z7).toInt ((z8).toInt % 256) := ⟨_, rfl⟩
      rw [← eg10] at V10
      have ga10 : g10 z7.toInt = z8.toInt % 256 := by rw [eg10]; exact upd_at _ _ _
      have gn10 : ∀ i, i ≠ z7.toInt → g10 i = g6 i := fun i hi => by rw [eg10]; exact upd_ne _ _ _ hi
      have N10 := Fr.snoc X10 N6 g_u0
      have Z10 : n0 ≤ h10.size := Nat.le_trans Z6 (Keep.of_wr W10).1
      have KK10 := KK6.wr W10 (Or.inl (List.mem_of_getElem? (i := 0) rfl))
      obtain ⟨z11, ez11⟩ : ∃ y : Int32, y = (u1 + (2 : Int32)) := ⟨_, rfl⟩
      have nz11 : z11.toInt = u1.toInt + (2 : Int) := by rw [ez11]; exact own_iadd (x := u1.toInt) (y := (2 : Int)) rfl rfl (by omega) (by omega)
      have va6 : g10 u1.toInt = (-127 : Int) % 256 := by rw [gn10 u1.toInt (by omega)]; exact ga6
      have vb6 : g10 u1.toInt = (-127 : Int) % 256 := va6
      have va10 : g10 z7.toInt = z8.toInt % 256 := by exact ga10
      have vb10 : g10 (u1.toInt + 1) = z8.toInt % 256 := by have q := va10; rwa [show z7.toInt = u1.toInt + 1 from by omega] at q
      obtain ⟨fs, hr, hrun, hended, hW, hsame⟩ := X10.leave (v := some (.int z11)) (fun h => by rw [Bd.returns] at h; cases h)
      refine ⟨_, _, pre0 _ ?_, hrun, hended, _, _, rfl, ?_, ⟨_, rfl⟩, hW, hsame.mono (by decide) (by decide)⟩
      · show Steps p.tables e below (s₁.setTop (mkF m 0 #[.val (.ref u0), .val (.int u1), .val (.int u2)] [])) _
        refine XS.iloadN X0.here hx rfl (hb hby d4_0) rfl ?_
        refine XS.sipush X0.here hx rfl (hb hby d4_1) ?_
        refine XS.icmpYes X0.here hx rfl (pc0 := 4) (pc' := 16) rfl (hb hby d4_4) rfl (flt hc4).2.1 (by decide) (by decide) ?_
        refine XS.iloadN X0.here hx rfl (hb hby d4_16) rfl ?_
        refine XS.sipush X0.here hx rfl (hb hby d4_17) ?_
        refine XS.icmpNo X0.here hx rfl (hb hby d4_20) rfl (tlt hc20).2.1 ?_
        refine XS.aloadN X0.here hx rfl (hb hby d4_23) rfl rfl ?_
        refine XS.iloadN X0.here hx rfl (hb hby d4_24) rfl ?_
        refine XS.bipush X0.here hx rfl (hb hby d4_25) ?_
        show Steps p.tables e below (s₁.setTop (mkF m 27 #[.val (.ref u0), .val (.int u1), .val (.int u2)] [(.int (-127 : Int32)), (.int u1), (.ref u0)])) _
        refine st6 _ ?_
        show Steps p.tables e below (T6.setTop (mkF m 28 #[.val (.ref u0), .val (.int u1), .val (.int u2)] [])) _
        refine XS.aloadN X6.here hx rfl (hb hby d4_28) rfl rfl ?_
        refine XS.iloadN X6.here hx rfl (hb hby d4_29) rfl ?_
        refine XS.iconst X6.here hx rfl (hb hby d4_30) ?_
        show Steps p.tables e below (T6.setTop (mkF m 31 #[.val (.ref u0), .val (.int u1), .val (.int u2)] [(.int (1 : Int32)), (.int u1), (.ref u0)])) _
        refine XS.iadd X6.here hx rfl (hb hby d4_31) rfl ?_
        show Steps p.tables e below (T6.setTop (mkF m 32 #[.val (.ref u0), .val (.int u1), .val (.int u2)] [(.int (u1 + (1 : Int32))), (.ref u0)])) _
        rw [← ez7]
        refine XS.iloadN X6.here hx rfl (hb hby d4_32) rfl ?_
        show Steps p.tables e below (T6.setTop (mkF m 33 #[.val (.ref u0), .val (.int u1), .val (.int u2)] [(.int u2), (.int z7), (.ref u0)])) _
        refine XS.i2b X6.here hx rfl (hb hby d4_33) rfl ?_
        show Steps p.tables e below (T6.setTop (mkF m 34 #[.val (.ref u0), .val (.int u1), .val (.int u2)] [(.int (u2.toInt8.toInt32)), (.int z7), (.ref u0)])) _
        rw [← ez8]
        show Steps p.tables e below (T6.setTop (mkF m 34 #[.val (.ref u0), .val (.int u1), .val (.int u2)] [(.int z8), (.int z7), (.ref u0)])) _
        refine st10 _ ?_
        show Steps p.tables e below (T10.setTop (mkF m 35 #[.val (.ref u0), .val (.int u1), .val (.int u2)] [])) _
        refine XS.iloadN X10.here hx rfl (hb hby d4_35) rfl ?_
        refine XS.iconst X10.here hx rfl (hb hby d4_36) ?_
        show Steps p.tables e below (T10.setTop (mkF m 37 #[.val (.ref u0), .val (.int u1), .val (.int u2)] [(.int (2 : Int32)), (.int u1)])) _
        refine XS.iadd X10.here hx rfl (hb hby d4_37) rfl ?_
        show Steps p.tables e below (T10.setTop (mkF m 38 #[.val (.ref u0), .val (.int u1), .val (.int u2)] [(.int (u1 + (2 : Int32)))])) _
        rw [← ez11]
        show Steps p.tables e below (T10.setTop (mkF m 38 #[.val (.ref u0), .val (.int u1), .val (.int u2)] [(.int z11)])) _
        exact retI X10 hx Bd.returns (hb hby d4_38) hr
      · show Q4 Z u0 u1 u2 nn gg h0 n0 _ T10.heap _
        rw [e10]
        exact ⟨_, g10, rfl, N10, KK10, V10, (by omega), (fun i hi => by rw [gn10 i (by omega), gn6 i (by omega)]), (by unfold LenOK; refine ⟨fun _ => by omega, fun _ _ => ⟨by omega, by omega⟩, fun _ _ => ⟨by omega, by omega, by omega⟩, fun _ => ⟨by omega, by omega, by omega, by omega⟩⟩)⟩
    · have nhc20 : ¬ u2.toInt < (256 : Int) := own_lt0 rfl rfl hc20
      have st12 := X0.ldcInt hx hown (mvT hZ (hw _ (List.mem_of_getElem? (i := 8) rfl))) (g := (mkF m 40 #[.val (.ref u0), .val (.int u1), .val (.int u2)] [(.int u2)])) rfl (hb hby d4_40)
      by_cases hc42 : u2 < (65536 : Int32)
      · have nhc42 : u2.toInt < (65536 : Int) := own_lt1 rfl rfl hc42
        have hls := ls_3 nhc20 nhc42
        obtain ⟨cl13, Ar13, Sa13, Ma13, Ha13⟩ := id V_u0
        have i13 : 0 ≤ (u1).toInt ∧ (u1).toInt < nn := by omega
        obtain ⟨T14, h14, X14, e14, W14, st14⟩ := stB X0 hx hZ e0 Ar13 (j := u1) (cel_inb Sa13 i13.1 i13.2) (g := (mkF m 49 #[.val (.ref u0), .val (.int u1), .val (.int u2)] [(.int (-126 : Int32)), (.int u1), (.ref u0)])) rfl rfl (hb hby d4_49)
        have V14 := Byt.set (g := gg) Ar13 Sa13 Ma13 Ha13 i13.1 i13.2 W14
        obtain ⟨g14, eg14⟩ : ∃ z, z = upd gg (u1).toInt (((-126 : Int32)).toInt % 256) := ⟨_, rfl⟩
        rw [← eg14] at V14
        have ga14 : g14 u1.toInt = (-126 : Int) % 256 := by rw [eg14]; exact upd_at _ _ _
        have gn14 : ∀ i, i ≠ u1.toInt → g14 i = gg i := fun i hi => by rw [eg14]; exact upd_ne _ _ _ hi
        have N14 := Fr.snoc X14 N0 g_u0
        have Z14 : n0 ≤ h14.size := Nat.le_trans Z0 (Keep.of_wr W14).1
        have KK14 := (Keep.refl h0 [u0]).wr W14 (Or.inl (List.mem_of_getElem? (i := 0) rfl))
        obtain ⟨z15, ez15⟩ : ∃ y : Int32, y = (u1 + (1 : Int32)) := ⟨_, rfl⟩
        have nz15 : z15.toInt = u1.toInt + (1 : Int) := by rw [ez15]; exact own_iadd (x := u1.toInt) (y := (1 : Int)) rfl rfl (by omega) (by omega)
        obtain ⟨z16, ez16⟩ : ∃ y : Int32, y = ((u2.toUInt32 >>> ((8 : Int32) &&& 31).toUInt32).toInt32) := ⟨_, rfl⟩
        have nz16 : z16.toInt = u2.toInt / 256 := by rw [ez16]; exact own_ushr (k := 8) (by decide) (by decide) (by decide) (by omega)
        obtain ⟨z17, ez17⟩ : ∃ y : Int32, y = (z16.toInt8.toInt32) := ⟨_, rfl⟩
        have nz17 : (z17.toInt - z16.toInt) % 256 = 0 ∧ -128 ≤ z17.toInt ∧ z17.toInt < 128 := by rw [ez17]; exact c_i2b z16
        obtain ⟨cl18, Ar18, Sa18, Ma18, Ha18⟩ := id V14
        have i18 : 0 ≤ (z15).toInt ∧ (z15).toInt < nn := by omega
        obtain ⟨T19, h19, X19, e19, W19, st19⟩ := stB X14 hx hZ e14 Ar18 (j := z15) (cel_inb Sa18 i18.1 i18.2) (g := (mkF m 59 #[.val (.ref u0), .val (.int u1), .val (.int u2)] [(.int z17), (.int z15), (.ref u0)])) rfl rfl (hb hby d4_59)
        have V19 := Byt.set (g := g14) Ar18 Sa18 Ma18 Ha18 i18.1 i18.2 W19
        obtain ⟨g19, eg19⟩ : ∃ z, z = upd g14 (z15).toInt ((z17).toInt % 256) := ⟨_, rfl⟩
        rw [← eg19] at V19
        have ga19 : g19 z15.toInt = z17.toInt % 256 := by rw [eg19]; exact upd_at _ _ _
        have gn19 : ∀ i, i ≠ z15.toInt → g19 i = g14 i := fun i hi => by rw [eg19]; exact upd_ne _ _ _ hi
        have N19 := Fr.snoc X19 N14 g_u0
        have Z19 : n0 ≤ h19.size := Nat.le_trans Z14 (Keep.of_wr W19).1
        have KK19 := KK14.wr W19 (Or.inl (List.mem_of_getElem? (i := 0) rfl))
        obtain ⟨z20, ez20⟩ : ∃ y : Int32, y = (u1 + (2 : Int32)) := ⟨_, rfl⟩
        have nz20 : z20.toInt = u1.toInt + (2 : Int) := by rw [ez20]; exact own_iadd (x := u1.toInt) (y := (2 : Int)) rfl rfl (by omega) (by omega)
        obtain ⟨z21, ez21⟩ : ∃ y : Int32, y = (u2.toInt8.toInt32) := ⟨_, rfl⟩
        have nz21 : (z21.toInt - u2.toInt) % 256 = 0 ∧ -128 ≤ z21.toInt ∧ z21.toInt < 128 := by rw [ez21]; exact c_i2b u2
        obtain ⟨cl22, Ar22, Sa22, Ma22, Ha22⟩ := id V19
        have i22 : 0 ≤ (z20).toInt ∧ (z20).toInt < nn := by omega
        obtain ⟨T23, h23, X23, e23, W23, st23⟩ := stB X19 hx hZ e19 Ar22 (j := z20) (cel_inb Sa22 i22.1 i22.2) (g := (mkF m 66 #[.val (.ref u0), .val (.int u1), .val (.int u2)] [(.int z21), (.int z20), (.ref u0)])) rfl rfl (hb hby d4_66)
        have V23 := Byt.set (g := g19) Ar22 Sa22 Ma22 Ha22 i22.1 i22.2 W23
        obtain ⟨g23, eg23⟩ : ∃ z, z = upd g19 (z20).toInt ((z21).toInt % 256) := ⟨_, rfl⟩
        rw [← eg23] at V23
        have ga23 : g23 z20.toInt = z21.toInt % 256 := by rw [eg23]; exact upd_at _ _ _
        have gn23 : ∀ i, i ≠ z20.toInt → g23 i = g19 i := fun i hi => by rw [eg23]; exact upd_ne _ _ _ hi
        have N23 := Fr.snoc X23 N19 g_u0
        have Z23 : n0 ≤ h23.size := Nat.le_trans Z19 (Keep.of_wr W23).1
        have KK23 := KK19.wr W23 (Or.inl (List.mem_of_getElem? (i := 0) rfl))
        obtain ⟨z24, ez24⟩ : ∃ y : Int32, y = (u1 + (3 : Int32)) := ⟨_, rfl⟩
        have nz24 : z24.toInt = u1.toInt + (3 : Int) := by rw [ez24]; exact own_iadd (x := u1.toInt) (y := (3 : Int)) rfl rfl (by omega) (by omega)
        have va14 : g23 u1.toInt = (-126 : Int) % 256 := by rw [gn23 u1.toInt (by omega), gn19 u1.toInt (by omega)]; exact ga14
        have vb14 : g23 u1.toInt = (-126 : Int) % 256 := va14
        have va19 : g23 z15.toInt = z17.toInt % 256 := by rw [gn23 z15.toInt (by omega)]; exact ga19
        have vb19 : g23 (u1.toInt + 1) = z17.toInt % 256 := by have q := va19; rwa [show z15.toInt = u1.toInt + 1 from by omega] at q
        have va23 : g23 z20.toInt = z21.toInt % 256 := by exact ga23
        have vb23 : g23 (u1.toInt + 2) = z21.toInt % 256 := by have q := va23; rwa [show z20.toInt = u1.toInt + 2 from by omega] at q
        obtain ⟨fs, hr, hrun, hended, hW, hsame⟩ := X23.leave (v := some (.int z24)) (fun h => by rw [Bd.returns] at h; cases h)
        refine ⟨_, _, pre0 _ ?_, hrun, hended, _, _, rfl, ?_, ⟨_, rfl⟩, hW, hsame.mono (by decide) (by decide)⟩
        · show Steps p.tables e below (s₁.setTop (mkF m 0 #[.val (.ref u0), .val (.int u1), .val (.int u2)] [])) _
          refine XS.iloadN X0.here hx rfl (hb hby d4_0) rfl ?_
          refine XS.sipush X0.here hx rfl (hb hby d4_1) ?_
          refine XS.icmpYes X0.here hx rfl (pc0 := 4) (pc' := 16) rfl (hb hby d4_4) rfl (flt hc4).2.1 (by decide) (by decide) ?_
          refine XS.iloadN X0.here hx rfl (hb hby d4_16) rfl ?_
          refine XS.sipush X0.here hx rfl (hb hby d4_17) ?_
          refine XS.icmpYes X0.here hx rfl (pc0 := 20) (pc' := 39) rfl (hb hby d4_20) rfl (flt hc20).2.1 (by decide) (by decide) ?_
          refine XS.iloadN X0.here hx rfl (hb hby d4_39) rfl ?_
          show Steps p.tables e below (s₁.setTop (mkF m 40 #[.val (.ref u0), .val (.int u1), .val (.int u2)] [(.int u2)])) _
          refine st12 _ ?_
          show Steps p.tables e below (s₁.setTop (mkF m 42 #[.val (.ref u0), .val (.int u1), .val (.int u2)] [(.int (65536 : Int32)), (.int u2)])) _
          refine XS.icmpNo X0.here hx rfl (hb hby d4_42) rfl (tlt hc42).2.1 ?_
          refine XS.aloadN X0.here hx rfl (hb hby d4_45) rfl rfl ?_
          refine XS.iloadN X0.here hx rfl (hb hby d4_46) rfl ?_
          refine XS.bipush X0.here hx rfl (hb hby d4_47) ?_
          show Steps p.tables e below (s₁.setTop (mkF m 49 #[.val (.ref u0), .val (.int u1), .val (.int u2)] [(.int (-126 : Int32)), (.int u1), (.ref u0)])) _
          refine st14 _ ?_
          show Steps p.tables e below (T14.setTop (mkF m 50 #[.val (.ref u0), .val (.int u1), .val (.int u2)] [])) _
          refine XS.aloadN X14.here hx rfl (hb hby d4_50) rfl rfl ?_
          refine XS.iloadN X14.here hx rfl (hb hby d4_51) rfl ?_
          refine XS.iconst X14.here hx rfl (hb hby d4_52) ?_
          show Steps p.tables e below (T14.setTop (mkF m 53 #[.val (.ref u0), .val (.int u1), .val (.int u2)] [(.int (1 : Int32)), (.int u1), (.ref u0)])) _
          refine XS.iadd X14.here hx rfl (hb hby d4_53) rfl ?_
          show Steps p.tables e below (T14.setTop (mkF m 54 #[.val (.ref u0), .val (.int u1), .val (.int u2)] [(.int (u1 + (1 : Int32))), (.ref u0)])) _
          rw [← ez15]
          refine XS.iloadN X14.here hx rfl (hb hby d4_54) rfl ?_
          refine XS.bipush X14.here hx rfl (hb hby d4_55) ?_
          show Steps p.tables e below (T14.setTop (mkF m 57 #[.val (.ref u0), .val (.int u1), .val (.int u2)] [(.int (8 : Int32)), (.int u2), (.int z15), (.ref u0)])) _
          refine XS.iushr X14.here hx rfl (hb hby d4_57) rfl ?_
          show Steps p.tables e below (T14.setTop (mkF m 58 #[.val (.ref u0), .val (.int u1), .val (.int u2)] [(.int ((u2.toUInt32 >>> ((8 : Int32) &&& 31).toUInt32).toInt32)), (.int z15), (.ref u0)])) _
          rw [← ez16]
          show Steps p.tables e below (T14.setTop (mkF m 58 #[.val (.ref u0), .val (.int u1), .val (.int u2)] [(.int z16), (.int z15), (.ref u0)])) _
          refine XS.i2b X14.here hx rfl (hb hby d4_58) rfl ?_
          show Steps p.tables e below (T14.setTop (mkF m 59 #[.val (.ref u0), .val (.int u1), .val (.int u2)] [(.int (z16.toInt8.toInt32)), (.int z15), (.ref u0)])) _
          rw [← ez17]
          show Steps p.tables e below (T14.setTop (mkF m 59 #[.val (.ref u0), .val (.int u1), .val (.int u2)] [(.int z17), (.int z15), (.ref u0)])) _
          refine st19 _ ?_
          show Steps p.tables e below (T19.setTop (mkF m 60 #[.val (.ref u0), .val (.int u1), .val (.int u2)] [])) _
          refine XS.aloadN X19.here hx rfl (hb hby d4_60) rfl rfl ?_
          refine XS.iloadN X19.here hx rfl (hb hby d4_61) rfl ?_
          refine XS.iconst X19.here hx rfl (hb hby d4_62) ?_
          show Steps p.tables e below (T19.setTop (mkF m 63 #[.val (.ref u0), .val (.int u1), .val (.int u2)] [(.int (2 : Int32)), (.int u1), (.ref u0)])) _
          refine XS.iadd X19.here hx rfl (hb hby d4_63) rfl ?_
          show Steps p.tables e below (T19.setTop (mkF m 64 #[.val (.ref u0), .val (.int u1), .val (.int u2)] [(.int (u1 + (2 : Int32))), (.ref u0)])) _
          rw [← ez20]
          refine XS.iloadN X19.here hx rfl (hb hby d4_64) rfl ?_
          show Steps p.tables e below (T19.setTop (mkF m 65 #[.val (.ref u0), .val (.int u1), .val (.int u2)] [(.int u2), (.int z20), (.ref u0)])) _
          refine XS.i2b X19.here hx rfl (hb hby d4_65) rfl ?_
          show Steps p.tables e below (T19.setTop (mkF m 66 #[.val (.ref u0), .val (.int u1), .val (.int u2)] [(.int (u2.toInt8.toInt32)), (.int z20), (.ref u0)])) _
          rw [← ez21]
          show Steps p.tables e below (T19.setTop (mkF m 66 #[.val (.ref u0), .val (.int u1), .val (.int u2)] [(.int z21), (.int z20), (.ref u0)])) _
          refine st23 _ ?_
          show Steps p.tables e below (T23.setTop (mkF m 67 #[.val (.ref u0), .val (.int u1), .val (.int u2)] [])) _
          refine XS.iloadN X23.here hx rfl (hb hby d4_67) rfl ?_
          refine XS.iconst X23.here hx rfl (hb hby d4_68) ?_
          show Steps p.tables e below (T23.setTop (mkF m 69 #[.val (.ref u0), .val (.int u1), .val (.int u2)] [(.int (3 : Int32)), (.int u1)])) _
          refine XS.iadd X23.here hx rfl (hb hby d4_69) rfl ?_
          show Steps p.tables e below (T23.setTop (mkF m 70 #[.val (.ref u0), .val (.int u1), .val (.int u2)] [(.int (u1 + (3 : Int32)))])) _
          rw [← ez24]
          show Steps p.tables e below (T23.setTop (mkF m 70 #[.val (.ref u0), .val (.int u1), .val (.int u2)] [(.int z24)])) _
          exact retI X23 hx Bd.returns (hb hby d4_70) hr
        · show Q4 Z u0 u1 u2 nn gg h0 n0 _ T23.heap _
          rw [e23]
          exact ⟨_, g23, rfl, N23, KK23, V23, (by omega), (fun i hi => by rw [gn23 i (by omega), gn19 i (by omega), gn14 i (by omega)]), (by unfold LenOK; refine ⟨fun _ => by omega, fun _ _ => ⟨by omega, by omega⟩, fun _ _ => ⟨by omega, by omega, by omega⟩, fun _ => ⟨by omega, by omega, by omega, by omega⟩⟩)⟩
      · have nhc42 : ¬ u2.toInt < (65536 : Int) := own_lt0 rfl rfl hc42
        have hls := ls_4 nhc42
        obtain ⟨cl25, Ar25, Sa25, Ma25, Ha25⟩ := id V_u0
        have i25 : 0 ≤ (u1).toInt ∧ (u1).toInt < nn := by omega
        obtain ⟨T26, h26, X26, e26, W26, st26⟩ := stB X0 hx hZ e0 Ar25 (j := u1) (cel_inb Sa25 i25.1 i25.2) (g := (mkF m 75 #[.val (.ref u0), .val (.int u1), .val (.int u2)] [(.int (-125 : Int32)), (.int u1), (.ref u0)])) rfl rfl (hb hby d4_75)
        have V26 := Byt.set (g := gg) Ar25 Sa25 Ma25 Ha25 i25.1 i25.2 W26
        obtain ⟨g26, eg26⟩ : ∃ z, z = upd gg (u1).toInt (((-125 : Int32)).toInt % 256) := ⟨_, rfl⟩
        rw [← eg26] at V26
        have ga26 : g26 u1.toInt = (-125 : Int) % 256 := by rw [eg26]; exact upd_at _ _ _
        have gn26 : ∀ i, i ≠ u1.toInt → g26 i = gg i := fun i hi => by rw [eg26]; exact upd_ne _ _ _ hi
        have N26 := Fr.snoc X26 N0 g_u0
        have Z26 : n0 ≤ h26.size := Nat.le_trans Z0 (Keep.of_wr W26).1
        have KK26 := (Keep.refl h0 [u0]).wr W26 (Or.inl (List.mem_of_getElem? (i := 0) rfl))
        obtain ⟨z27, ez27⟩ : ∃ y : Int32, y = (u1 + (1 : Int32)) := ⟨_, rfl⟩
        have nz27 : z27.toInt = u1.toInt + (1 : Int) := by rw [ez27]; exact own_iadd (x := u1.toInt) (y := (1 : Int)) rfl rfl (by omega) (by omega)
        obtain ⟨z28, ez28⟩ : ∃ y : Int32, y = ((u2.toUInt32 >>> ((16 : Int32) &&& 31).toUInt32).toInt32) := ⟨_, rfl⟩
        have nz28 : z28.toInt = u2.toInt / 65536 := by rw [ez28]; exact own_ushr (k := 16) (by decide) (by decide) (by decide) (by omega)
        obtain ⟨z29, ez29⟩ : ∃ y : Int32, y = (z28.toInt8.toInt32) := ⟨_, rfl⟩
        have nz29 : (z29.toInt - z28.toInt) % 256 = 0 ∧ -128 ≤ z29.toInt ∧ z29.toInt < 128 := by rw [ez29]; exact c_i2b z28
        obtain ⟨cl30, Ar30, Sa30, Ma30, Ha30⟩ := id V26
        have i30 : 0 ≤ (z27).toInt ∧ (z27).toInt < nn := by omega
        obtain ⟨T31, h31, X31, e31, W31, st31⟩ := stB X26 hx hZ e26 Ar30 (j := z27) (cel_inb Sa30 i30.1 i30.2) (g := (mkF m 85 #[.val (.ref u0), .val (.int u1), .val (.int u2)] [(.int z29), (.int z27), (.ref u0)])) rfl rfl (hb hby d4_85)
        have V31 := Byt.set (g := g26) Ar30 Sa30 Ma30 Ha30 i30.1 i30.2 W31
        obtain ⟨g31, eg31⟩ : ∃ z, z = upd g26 (z27).toInt ((z29).toInt % 256) := ⟨_, rfl⟩
        rw [← eg31] at V31
        have ga31 : g31 z27.toInt = z29.toInt % 256 := by rw [eg31]; exact upd_at _ _ _
        have gn31 : ∀ i, i ≠ z27.toInt → g31 i = g26 i := fun i hi => by rw [eg31]; exact upd_ne _ _ _ hi
        have N31 := Fr.snoc X31 N26 g_u0
        have Z31 : n0 ≤ h31.size := Nat.le_trans Z26 (Keep.of_wr W31).1
        have KK31 := KK26.wr W31 (Or.inl (List.mem_of_getElem? (i := 0) rfl))
        obtain ⟨z32, ez32⟩ : ∃ y : Int32, y = (u1 + (2 : Int32)) := ⟨_, rfl⟩
        have nz32 : z32.toInt = u1.toInt + (2 : Int) := by rw [ez32]; exact own_iadd (x := u1.toInt) (y := (2 : Int)) rfl rfl (by omega) (by omega)
        obtain ⟨z33, ez33⟩ : ∃ y : Int32, y = ((u2.toUInt32 >>> ((8 : Int32) &&& 31).toUInt32).toInt32) := ⟨_, rfl⟩
        have nz33 : z33.toInt = u2.toInt / 256 := by rw [ez33]; exact own_ushr (k := 8) (by decide) (by decide) (by decide) (by omega)
        obtain ⟨z34, ez34⟩ : ∃ y : Int32, y = (z33.toInt8.toInt32) := ⟨_, rfl⟩
        have nz34 : (z34.toInt - z33.toInt) % 256 = 0 ∧ -128 ≤ z34.toInt ∧ z34.toInt < 128 := by rw [ez34]; exact c_i2b z33
        obtain ⟨cl35, Ar35, Sa35, Ma35, Ha35⟩ := id V31
        have i35 : 0 ≤ (z32).toInt ∧ (z32).toInt < nn := by omega
        obtain ⟨T36, h36, X36, e36, W36, st36⟩ := stB X31 hx hZ e31 Ar35 (j := z32) (cel_inb Sa35 i35.1 i35.2) (g := (mkF m 95 #[.val (.ref u0), .val (.int u1), .val (.int u2)] [(.int z34), (.int z32), (.ref u0)])) rfl rfl (hb hby d4_95)
        have V36 := Byt.set (g := g31) Ar35 Sa35 Ma35 Ha35 i35.1 i35.2 W36
        obtain ⟨g36, eg36⟩ : ∃ z, z = upd g31 (z32).toInt ((z34).toInt % 256) := ⟨_, rfl⟩
        rw [← eg36] at V36
        have ga36 : g36 z32.toInt = z34.toInt % 256 := by rw [eg36]; exact upd_at _ _ _
        have gn36 : ∀ i, i ≠ z32.toInt → g36 i = g31 i := fun i hi => by rw [eg36]; exact upd_ne _ _ _ hi
        have N36 := Fr.snoc X36 N31 g_u0
        have Z36 : n0 ≤ h36.size := Nat.le_trans Z31 (Keep.of_wr W36).1
        have KK36 := KK31.wr W36 (Or.inl (List.mem_of_getElem? (i := 0) rfl))
        obtain ⟨z37, ez37⟩ : ∃ y : Int32, y = (u1 + (3 : Int32)) := ⟨_, rfl⟩
        have nz37 : z37.toInt = u1.toInt + (3 : Int) := by rw [ez37]; exact own_iadd (x := u1.toInt) (y := (3 : Int)) rfl rfl (by omega) (by omega)
        obtain ⟨z38, ez38⟩ : ∃ y : Int32, y = (u2.toInt8.toInt32) := ⟨_, rfl⟩
        have nz38 : (z38.toInt - u2.toInt) % 256 = 0 ∧ -128 ≤ z38.toInt ∧ z38.toInt < 128 := by rw [ez38]; exact c_i2b u2
        obtain ⟨cl39, Ar39, Sa39, Ma39, Ha39⟩ := id V36
        have i39 : 0 ≤ (z37).toInt ∧ (z37).toInt < nn := by omega
        obtain ⟨T40, h40, X40, e40, W40, st40⟩ := stB X36 hx hZ e36 Ar39 (j := z37) (cel_inb Sa39 i39.1 i39.2) (g := (mkF m 102 #[.val (.ref u0), .val (.int u1), .val (.int u2)] [(.int z38), (.int z37), (.ref u0)])) rfl rfl (hb hby d4_102)
        have V40 := Byt.set (g := g36) Ar39 Sa39 Ma39 Ha39 i39.1 i39.2 W40
        obtain ⟨g40, eg40⟩ : ∃ z, z = upd g36 (z37).toInt ((z38).toInt % 256) := ⟨_, rfl⟩
        rw [← eg40] at V40
        have ga40 : g40 z37.toInt = z38.toInt % 256 := by rw [eg40]; exact upd_at _ _ _
        have gn40 : ∀ i, i ≠ z37.toInt → g40 i = g36 i := fun i hi => by rw [eg40]; exact upd_ne _ _ _ hi
        have N40 := Fr.snoc X40 N36 g_u0
        have Z40 : n0 ≤ h40.size := Nat.le_trans Z36 (Keep.of_wr W40).1
        have KK40 := KK36.wr W40 (Or.inl (List.mem_of_getElem? (i := 0) rfl))
        obtain ⟨z41, ez41⟩ : ∃ y : Int32, y = (u1 + (4 : Int32)) := ⟨_, rfl⟩
        have nz41 : z41.toInt = u1.toInt + (4 : Int) := by rw [ez41]; exact own_iadd (x := u1.toInt) (y := (4 : Int)) rfl rfl (by omega) (by omega)
        have va26 : g40 u1.toInt = (-125 : Int) % 256 := by rw [gn40 u1.toInt (by omega), gn36 u1.toInt (by omega), gn31 u1.toInt (by omega)]; exact ga26
        have vb26 : g40 u1.toInt = (-125 : Int) % 256 := va26
        have va31 : g40 z27.toInt = z29.toInt % 256 := by rw [gn40 z27.toInt (by omega), gn36 z27.toInt (by omega)]; exact ga31
        have vb31 : g40 (u1.toInt + 1) = z29.toInt % 256 := by have q := va31; rwa [show z27.toInt = u1.toInt + 1 from by omega] at q
        have va36 : g40 z32.toInt = z34.toInt % 256 := by rw [gn40 z32.toInt (by omega)]; exact ga36
        have vb36 : g40 (u1.toInt + 2) = z34.toInt % 256 := by have q := va36; rwa [show z32.toInt = u1.toInt + 2 from by omega] at q
        have va40 : g40 z37.toInt = z38.toInt % 256 := by exact ga40
        have vb40 : g40 (u1.toInt + 3) = z38.toInt % 256 := by have q := va40; rwa [show z37.toInt = u1.toInt + 3 from by omega] at q
        obtain ⟨fs, hr, hrun, hended, hW, hsame⟩ := X40.leave (v := some (.int z41)) (fun h => by rw [Bd.returns] at h; cases h)
        refine ⟨_, _, pre0 _ ?_, hrun, hended, _, _, rfl, ?_, ⟨_, rfl⟩, hW, hsame.mono (by decide) (by decide)⟩
        · show Steps p.tables e below (s₁.setTop (mkF m 0 #[.val (.ref u0), .val (.int u1), .val (.int u2)] [])) _
          refine XS.iloadN X0.here hx rfl (hb hby d4_0) rfl ?_
          refine XS.sipush X0.here hx rfl (hb hby d4_1) ?_
          refine XS.icmpYes X0.here hx rfl (pc0 := 4) (pc' := 16) rfl (hb hby d4_4) rfl (flt hc4).2.1 (by decide) (by decide) ?_
          refine XS.iloadN X0.here hx rfl (hb hby d4_16) rfl ?_
          refine XS.sipush X0.here hx rfl (hb hby d4_17) ?_
          refine XS.icmpYes X0.here hx rfl (pc0 := 20) (pc' := 39) rfl (hb hby d4_20) rfl (flt hc20).2.1 (by decide) (by decide) ?_
          refine XS.iloadN X0.here hx rfl (hb hby d4_39) rfl ?_
          show Steps p.tables e below (s₁.setTop (mkF m 40 #[.val (.ref u0), .val (.int u1), .val (.int u2)] [(.int u2)])) _
          refine st12 _ ?_
          show Steps p.tables e below (s₁.setTop (mkF m 42 #[.val (.ref u0), .val (.int u1), .val (.int u2)] [(.int (65536 : Int32)), (.int u2)])) _
          refine XS.icmpYes X0.here hx rfl (pc0 := 42) (pc' := 71) rfl (hb hby d4_42) rfl (flt hc42).2.1 (by decide) (by decide) ?_
          refine XS.aloadN X0.here hx rfl (hb hby d4_71) rfl rfl ?_
          refine XS.iloadN X0.here hx rfl (hb hby d4_72) rfl ?_
          refine XS.bipush X0.here hx rfl (hb hby d4_73) ?_
          show Steps p.tables e below (s₁.setTop (mkF m 75 #[.val (.ref u0), .val (.int u1), .val (.int u2)] [(.int (-125 : Int32)), (.int u1), (.ref u0)])) _
          refine st26 _ ?_
          show Steps p.tables e below (T26.setTop (mkF m 76 #[.val (.ref u0), .val (.int u1), .val (.int u2)] [])) _
          refine XS.aloadN X26.here hx rfl (hb hby d4_76) rfl rfl ?_
          refine XS.iloadN X26.here hx rfl (hb hby d4_77) rfl ?_
          refine XS.iconst X26.here hx rfl (hb hby d4_78) ?_
          show Steps p.tables e below (T26.setTop (mkF m 79 #[.val (.ref u0), .val (.int u1), .val (.int u2)] [(.int (1 : Int32)), (.int u1), (.ref u0)])) _
          refine XS.iadd X26.here hx rfl (hb hby d4_79) rfl ?_
          show Steps p.tables e below (T26.setTop (mkF m 80 #[.val (.ref u0), .val (.int u1), .val (.int u2)] [(.int (u1 + (1 : Int32))), (.ref u0)])) _
          rw [← ez27]
          refine XS.iloadN X26.here hx rfl (hb hby d4_80) rfl ?_
          refine XS.bipush X26.here hx rfl (hb hby d4_81) ?_
          show Steps p.tables e below (T26.setTop (mkF m 83 #[.val (.ref u0), .val (.int u1), .val (.int u2)] [(.int (16 : Int32)), (.int u2), (.int z27), (.ref u0)])) _
          refine XS.iushr X26.here hx rfl (hb hby d4_83) rfl ?_
          show Steps p.tables e below (T26.setTop (mkF m 84 #[.val (.ref u0), .val (.int u1), .val (.int u2)] [(.int ((u2.toUInt32 >>> ((16 : Int32) &&& 31).toUInt32).toInt32)), (.int z27), (.ref u0)])) _
          rw [← ez28]
          show Steps p.tables e below (T26.setTop (mkF m 84 #[.val (.ref u0), .val (.int u1), .val (.int u2)] [(.int z28), (.int z27), (.ref u0)])) _
          refine XS.i2b X26.here hx rfl (hb hby d4_84) rfl ?_
          show Steps p.tables e below (T26.setTop (mkF m 85 #[.val (.ref u0), .val (.int u1), .val (.int u2)] [(.int (z28.toInt8.toInt32)), (.int z27), (.ref u0)])) _
          rw [← ez29]
          show Steps p.tables e below (T26.setTop (mkF m 85 #[.val (.ref u0), .val (.int u1), .val (.int u2)] [(.int z29), (.int z27), (.ref u0)])) _
          refine st31 _ ?_
          show Steps p.tables e below (T31.setTop (mkF m 86 #[.val (.ref u0), .val (.int u1), .val (.int u2)] [])) _
          refine XS.aloadN X31.here hx rfl (hb hby d4_86) rfl rfl ?_
          refine XS.iloadN X31.here hx rfl (hb hby d4_87) rfl ?_
          refine XS.iconst X31.here hx rfl (hb hby d4_88) ?_
          show Steps p.tables e below (T31.setTop (mkF m 89 #[.val (.ref u0), .val (.int u1), .val (.int u2)] [(.int (2 : Int32)), (.int u1), (.ref u0)])) _
          refine XS.iadd X31.here hx rfl (hb hby d4_89) rfl ?_
          show Steps p.tables e below (T31.setTop (mkF m 90 #[.val (.ref u0), .val (.int u1), .val (.int u2)] [(.int (u1 + (2 : Int32))), (.ref u0)])) _
          rw [← ez32]
          refine XS.iloadN X31.here hx rfl (hb hby d4_90) rfl ?_
          refine XS.bipush X31.here hx rfl (hb hby d4_91) ?_
          show Steps p.tables e below (T31.setTop (mkF m 93 #[.val (.ref u0), .val (.int u1), .val (.int u2)] [(.int (8 : Int32)), (.int u2), (.int z32), (.ref u0)])) _
          refine XS.iushr X31.here hx rfl (hb hby d4_93) rfl ?_
          show Steps p.tables e below (T31.setTop (mkF m 94 #[.val (.ref u0), .val (.int u1), .val (.int u2)] [(.int ((u2.toUInt32 >>> ((8 : Int32) &&& 31).toUInt32).toInt32)), (.int z32), (.ref u0)])) _
          rw [← ez33]
          show Steps p.tables e below (T31.setTop (mkF m 94 #[.val (.ref u0), .val (.int u1), .val (.int u2)] [(.int z33), (.int z32), (.ref u0)])) _
          refine XS.i2b X31.here hx rfl (hb hby d4_94) rfl ?_
          show Steps p.tables e below (T31.setTop (mkF m 95 #[.val (.ref u0), .val (.int u1), .val (.int u2)] [(.int (z33.toInt8.toInt32)), (.int z32), (.ref u0)])) _
          rw [← ez34]
          show Steps p.tables e below (T31.setTop (mkF m 95 #[.val (.ref u0), .val (.int u1), .val (.int u2)] [(.int z34), (.int z32), (.ref u0)])) _
          refine st36 _ ?_
          show Steps p.tables e below (T36.setTop (mkF m 96 #[.val (.ref u0), .val (.int u1), .val (.int u2)] [])) _
          refine XS.aloadN X36.here hx rfl (hb hby d4_96) rfl rfl ?_
          refine XS.iloadN X36.here hx rfl (hb hby d4_97) rfl ?_
          refine XS.iconst X36.here hx rfl (hb hby d4_98) ?_
          show Steps p.tables e below (T36.setTop (mkF m 99 #[.val (.ref u0), .val (.int u1), .val (.int u2)] [(.int (3 : Int32)), (.int u1), (.ref u0)])) _
          refine XS.iadd X36.here hx rfl (hb hby d4_99) rfl ?_
          show Steps p.tables e below (T36.setTop (mkF m 100 #[.val (.ref u0), .val (.int u1), .val (.int u2)] [(.int (u1 + (3 : Int32))), (.ref u0)])) _
          rw [← ez37]
          refine XS.iloadN X36.here hx rfl (hb hby d4_100) rfl ?_
          show Steps p.tables e below (T36.setTop (mkF m 101 #[.val (.ref u0), .val (.int u1), .val (.int u2)] [(.int u2), (.int z37), (.ref u0)])) _
          refine XS.i2b X36.here hx rfl (hb hby d4_101) rfl ?_
          show Steps p.tables e below (T36.setTop (mkF m 102 #[.val (.ref u0), .val (.int u1), .val (.int u2)] [(.int (u2.toInt8.toInt32)), (.int z37), (.ref u0)])) _
          rw [← ez38]
          show Steps p.tables e below (T36.setTop (mkF m 102 #[.val (.ref u0), .val (.int u1), .val (.int u2)] [(.int z38), (.int z37), (.ref u0)])) _
          refine st40 _ ?_
          show Steps p.tables e below (T40.setTop (mkF m 103 #[.val (.ref u0), .val (.int u1), .val (.int u2)] [])) _
          refine XS.iloadN X40.here hx rfl (hb hby d4_103) rfl ?_
          refine XS.iconst X40.here hx rfl (hb hby d4_104) ?_
          show Steps p.tables e below (T40.setTop (mkF m 105 #[.val (.ref u0), .val (.int u1), .val (.int u2)] [(.int (4 : Int32)), (.int u1)])) _
          refine XS.iadd X40.here hx rfl (hb hby d4_105) rfl ?_
          show Steps p.tables e below (T40.setTop (mkF m 106 #[.val (.ref u0), .val (.int u1), .val (.int u2)] [(.int (u1 + (4 : Int32)))])) _
          rw [← ez41]
          show Steps p.tables e below (T40.setTop (mkF m 106 #[.val (.ref u0), .val (.int u1), .val (.int u2)] [(.int z41)])) _
          exact retI X40 hx Bd.returns (hb hby d4_106) hr
        · show Q4 Z u0 u1 u2 nn gg h0 n0 _ T40.heap _
          rw [e40]
          exact ⟨_, g40, rfl, N40, KK40, V40, (by omega), (fun i hi => by rw [gn40 i (by omega), gn36 i (by omega), gn31 i (by omega), gn26 i (by omega)]), (by unfold LenOK; refine ⟨fun _ => by omega, fun _ _ => ⟨by omega, by omega⟩, fun _ _ => ⟨by omega, by omega, by omega⟩, fun _ => ⟨by omega, by omega, by omega, by omega⟩⟩)⟩
theorem d3_0 : decode method_4_code 0 = .ok (.iload_n 3, 1) := by decide +kernel
theorem d3_1 : decode method_4_code 1 = .ok (.iconst 3, 1) := by decide +kernel
theorem d3_2 : decode method_4_code 2 = .ok (.iand, 1) := by decide +kernel
theorem d3_3 : decode method_4_code 3 = .ok (.bipush 6, 2) := by decide +kernel
theorem d3_5 : decode method_4_code 5 = .ok (.ishl, 1) := by decide +kernel
theorem d3_6 : decode method_4_code 6 = .ok (.iload 4, 2) := by decide +kernel
theorem d3_8 : decode method_4_code 8 = .ok (.ifCond .eq 8, 3) := by decide +kernel
theorem d3_11 : decode method_4_code 11 = .ok (.bipush 32, 2) := by decide +kernel
theorem d3_13 : decode method_4_code 13 = .ok (.goto 4, 3) := by decide +kernel
theorem d3_16 : decode method_4_code 16 = .ok (.iconst 0, 1) := by decide +kernel
theorem d3_17 : decode method_4_code 17 = .ok (.ior, 1) := by decide +kernel
theorem d3_18 : decode method_4_code 18 = .ok (.istore 6, 2) := by decide +kernel
theorem d3_20 : decode method_4_code 20 = .ok (.iload 5, 2) := by decide +kernel
theorem d3_22 : decode method_4_code 22 = .ok (.ldc 8, 2) := by decide +kernel
theorem d3_24 : decode method_4_code 24 = .ok (.iand, 1) := by decide +kernel
theorem d3_25 : decode method_4_code 25 = .ok (.istore 7, 2) := by decide +kernel
theorem d3_27 : decode method_4_code 27 = .ok (.iload_n 2, 1) := by decide +kernel
theorem d3_28 : decode method_4_code 28 = .ok (.ifCond .ne 21, 3) := by decide +kernel
theorem d3_31 : decode method_4_code 31 = .ok (.aload_n 0, 1) := by decide +kernel
theorem d3_32 : decode method_4_code 32 = .ok (.iload_n 1, 1) := by decide +kernel
theorem d3_33 : decode method_4_code 33 = .ok (.iload 6, 2) := by decide +kernel
theorem d3_35 : decode method_4_code 35 = .ok (.iconst 1, 1) := by decide +kernel
theorem d3_36 : decode method_4_code 36 = .ok (.iload 7, 2) := by decide +kernel
theorem d3_38 : decode method_4_code 38 = .ok (.bipush 30, 2) := by decide +kernel
theorem d3_40 : decode method_4_code 40 = .ok (.irem, 1) := by decide +kernel
theorem d3_41 : decode method_4_code 41 = .ok (.iadd, 1) := by decide +kernel
theorem d3_42 : decode method_4_code 42 = .ok (.ior, 1) := by decide +kernel
theorem d3_43 : decode method_4_code 43 = .ok (.i2b, 1) := by decide +kernel
theorem d3_44 : decode method_4_code 44 = .ok (.bastore, 1) := by decide +kernel
theorem d3_45 : decode method_4_code 45 = .ok (.iload_n 1, 1) := by decide +kernel
theorem d3_46 : decode method_4_code 46 = .ok (.iconst 1, 1) := by decide +kernel
theorem d3_47 : decode method_4_code 47 = .ok (.iadd, 1) := by decide +kernel
theorem d3_48 : decode method_4_code 48 = .ok (.ireturn, 1) := by decide +kernel
theorem d3_49 : decode method_4_code 49 = .ok (.aload_n 0, 1) := by decide +kernel
theorem d3_50 : decode method_4_code 50 = .ok (.iload_n 1, 1) := by decide +kernel
theorem d3_51 : decode method_4_code 51 = .ok (.iload 6, 2) := by decide +kernel
theorem d3_53 : decode method_4_code 53 = .ok (.bipush 31, 2) := by decide +kernel
theorem d3_55 : decode method_4_code 55 = .ok (.ior, 1) := by decide +kernel
theorem d3_56 : decode method_4_code 56 = .ok (.i2b, 1) := by decide +kernel
theorem d3_57 : decode method_4_code 57 = .ok (.bastore, 1) := by decide +kernel
theorem d3_58 : decode method_4_code 58 = .ok (.iload_n 2, 1) := by decide +kernel
theorem d3_59 : decode method_4_code 59 = .ok (.iconst 1, 1) := by decide +kernel
theorem d3_60 : decode method_4_code 60 = .ok (.if_icmp .ne 21, 3) := by decide +kernel
theorem d3_63 : decode method_4_code 63 = .ok (.aload_n 0, 1) := by decide +kernel
theorem d3_64 : decode method_4_code 64 = .ok (.iload_n 1, 1) := by decide +kernel
theorem d3_65 : decode method_4_code 65 = .ok (.iconst 1, 1) := by decide +kernel
theorem d3_66 : decode method_4_code 66 = .ok (.iadd, 1) := by decide +kernel
theorem d3_67 : decode method_4_code 67 = .ok (.bipush 31, 2) := by decide +kernel
theorem d3_69 : decode method_4_code 69 = .ok (.iload 7, 2) := by decide +kernel
theorem d3_71 : decode method_4_code 71 = .ok (.bipush 97, 2) := by decide +kernel
theorem d3_73 : decode method_4_code 73 = .ok (.irem, 1) := by decide +kernel
theorem d3_74 : decode method_4_code 74 = .ok (.iadd, 1) := by decide +kernel
theorem d3_75 : decode method_4_code 75 = .ok (.i2b, 1) := by decide +kernel
theorem d3_76 : decode method_4_code 76 = .ok (.bastore, 1) := by decide +kernel
theorem d3_77 : decode method_4_code 77 = .ok (.iload_n 1, 1) := by decide +kernel
theorem d3_78 : decode method_4_code 78 = .ok (.iconst 2, 1) := by decide +kernel
theorem d3_79 : decode method_4_code 79 = .ok (.iadd, 1) := by decide +kernel
theorem d3_80 : decode method_4_code 80 = .ok (.ireturn, 1) := by decide +kernel
theorem d3_81 : decode method_4_code 81 = .ok (.aload_n 0, 1) := by decide +kernel
theorem d3_82 : decode method_4_code 82 = .ok (.iload_n 1, 1) := by decide +kernel
theorem d3_83 : decode method_4_code 83 = .ok (.iconst 1, 1) := by decide +kernel
theorem d3_84 : decode method_4_code 84 = .ok (.iadd, 1) := by decide +kernel
theorem d3_85 : decode method_4_code 85 = .ok (.sipush 129, 3) := by decide +kernel
theorem d3_88 : decode method_4_code 88 = .ok (.iload 7, 2) := by decide +kernel
theorem d3_90 : decode method_4_code 90 = .ok (.bipush 127, 2) := by decide +kernel
theorem d3_92 : decode method_4_code 92 = .ok (.irem, 1) := by decide +kernel
theorem d3_93 : decode method_4_code 93 = .ok (.iadd, 1) := by decide +kernel
theorem d3_94 : decode method_4_code 94 = .ok (.i2b, 1) := by decide +kernel
theorem d3_95 : decode method_4_code 95 = .ok (.bastore, 1) := by decide +kernel
theorem d3_96 : decode method_4_code 96 = .ok (.iload_n 2, 1) := by decide +kernel
theorem d3_97 : decode method_4_code 97 = .ok (.iconst 2, 1) := by decide +kernel
theorem d3_98 : decode method_4_code 98 = .ok (.if_icmp .ne 21, 3) := by decide +kernel
theorem d3_101 : decode method_4_code 101 = .ok (.aload_n 0, 1) := by decide +kernel
theorem d3_102 : decode method_4_code 102 = .ok (.iload_n 1, 1) := by decide +kernel
theorem d3_103 : decode method_4_code 103 = .ok (.iconst 2, 1) := by decide +kernel
theorem d3_104 : decode method_4_code 104 = .ok (.iadd, 1) := by decide +kernel
theorem d3_105 : decode method_4_code 105 = .ok (.iload 5, 2) := by decide +kernel
theorem d3_107 : decode method_4_code 107 = .ok (.bipush 8, 2) := by decide +kernel
theorem d3_109 : decode method_4_code 109 = .ok (.iushr, 1) := by decide +kernel
theorem d3_110 : decode method_4_code 110 = .ok (.bipush 127, 2) := by decide +kernel
theorem d3_112 : decode method_4_code 112 = .ok (.iand, 1) := by decide +kernel
theorem d3_113 : decode method_4_code 113 = .ok (.i2b, 1) := by decide +kernel
theorem d3_114 : decode method_4_code 114 = .ok (.bastore, 1) := by decide +kernel
theorem d3_115 : decode method_4_code 115 = .ok (.iload_n 1, 1) := by decide +kernel
theorem d3_116 : decode method_4_code 116 = .ok (.iconst 3, 1) := by decide +kernel
theorem d3_117 : decode method_4_code 117 = .ok (.iadd, 1) := by decide +kernel
theorem d3_118 : decode method_4_code 118 = .ok (.ireturn, 1) := by decide +kernel
theorem d3_119 : decode method_4_code 119 = .ok (.aload_n 0, 1) := by decide +kernel
theorem d3_120 : decode method_4_code 120 = .ok (.iload_n 1, 1) := by decide +kernel
theorem d3_121 : decode method_4_code 121 = .ok (.iconst 2, 1) := by decide +kernel
theorem d3_122 : decode method_4_code 122 = .ok (.iadd, 1) := by decide +kernel
theorem d3_123 : decode method_4_code 123 = .ok (.sipush 128, 3) := by decide +kernel
theorem d3_126 : decode method_4_code 126 = .ok (.iload 5, 2) := by decide +kernel
theorem d3_128 : decode method_4_code 128 = .ok (.bipush 16, 2) := by decide +kernel
theorem d3_130 : decode method_4_code 130 = .ok (.iushr, 1) := by decide +kernel
theorem d3_131 : decode method_4_code 131 = .ok (.bipush 127, 2) := by decide +kernel
theorem d3_133 : decode method_4_code 133 = .ok (.iand, 1) := by decide +kernel
theorem d3_134 : decode method_4_code 134 = .ok (.ior, 1) := by decide +kernel
theorem d3_135 : decode method_4_code 135 = .ok (.i2b, 1) := by decide +kernel
theorem d3_136 : decode method_4_code 136 = .ok (.bastore, 1) := by decide +kernel
theorem d3_137 : decode method_4_code 137 = .ok (.aload_n 0, 1) := by decide +kernel
theorem d3_138 : decode method_4_code 138 = .ok (.iload_n 1, 1) := by decide +kernel
theorem d3_139 : decode method_4_code 139 = .ok (.iconst 3, 1) := by decide +kernel
theorem d3_140 : decode method_4_code 140 = .ok (.iadd, 1) := by decide +kernel
theorem d3_141 : decode method_4_code 141 = .ok (.iload 5, 2) := by decide +kernel
theorem d3_143 : decode method_4_code 143 = .ok (.bipush 24, 2) := by decide +kernel
theorem d3_145 : decode method_4_code 145 = .ok (.iushr, 1) := by decide +kernel
theorem d3_146 : decode method_4_code 146 = .ok (.bipush 127, 2) := by decide +kernel
theorem d3_148 : decode method_4_code 148 = .ok (.iand, 1) := by decide +kernel
theorem d3_149 : decode method_4_code 149 = .ok (.i2b, 1) := by decide +kernel
theorem d3_150 : decode method_4_code 150 = .ok (.bastore, 1) := by decide +kernel
theorem d3_151 : decode method_4_code 151 = .ok (.iload_n 1, 1) := by decide +kernel
theorem d3_152 : decode method_4_code 152 = .ok (.iconst 4, 1) := by decide +kernel
theorem d3_153 : decode method_4_code 153 = .ok (.iadd, 1) := by decide +kernel
theorem d3_154 : decode method_4_code 154 = .ok (.ireturn, 1) := by decide +kernel
theorem ef_3 (m : MethodId) (u0 : Addr) (u1 : Int32) (u2 : Int32) (u3 : Int32) (u4 : Int32) (u5 : Int32) : entryFrame m #[(.ref u0), (.int u1), (.int u2), (.int u3), (.int u4), (.int u5)] 8 = mkF m 0 #[.val (.ref u0), .val (.int u1), .val (.int u2), .val (.int u3), .val (.int u4), .val (.int u5), .unset, .unset] [] := by first | (simp [entryFrame, mkF, argsToLocals, Value.category]; done) | rfl
def Q3 (Z : State) (u0 : Addr) (u1 : Int32) (u2 : Int32) (u3 : Int32) (u4 : Int32) (u5 : Int32) (nn : Int) (gg : Int → Int) (h0 : Heap) (n0 : Nat) (v : Option Value) (h : Heap) (L : List Loc) : Prop := ∃ (w : Int32) (g' : Int → Int), v = some (.int w) ∧ Fr n0 L ∧ Keep h0 h [u0] ∧ Byt Z h u0 nn g' ∧ w.toInt = u1.toInt + 1 + u2.toInt ∧ (∀ i, i < u1.toInt ∨ u1.toInt + 1 + u2.toInt ≤ i → g' i = gg i) ∧ TagOK g' u1.toInt u2.toInt u4.toInt
set_option maxRecDepth 65536 in
set_option maxHeartbeats 40000000 in
theorem rm3 (l : Launch) (Z : State) (a0 : Array Value) (hw : ∀ d ∈ tables_1, d.before a0 Z = true) (ws : List Jvm.Cond) (u0 : Addr) (u1 : Int32) (u2 : Int32) (u3 : Int32) (u4 : Int32) (u5 : Int32) (nn : Int) (gg : Int → Int) (h0 : Heap) (n0 : Nat) (Z0 : n0 ≤ h0.size) (g_u0 : n0 ≤ u0) (V_u0 : Byt Z h0 u0 nn gg) (hM : nn ≤ 65600) (hp : 0 ≤ u1.toInt) (hl : 0 ≤ u2.toInt ∧ u2.toInt ≤ 3) (hc : 0 ≤ u4.toInt ∧ u4.toInt ≤ 1) (hq : u1.toInt + 1 + u2.toInt ≤ nn) :
    MetFree l (⟨"com/example/fides/fides/DerRequireShapePinLaw", "putTag", "([BIIIZI)I"⟩ : MethodName) (head1 (Jvm.Cond.code (⟨"com/example/fides/fides/DerRequireShapePinLaw", "putTag", "([BIIIZI)I"⟩ : MethodName) method_4_code 8 (some .int) :: ws) ({ frames := 0, cells := 0, slots := 0, locals := 0 } : Room)) (fun a U => a = #[(.ref u0), (.int u1), (.int u2), (.int u3), (.int u4), (.int u5)] ∧ Z.Warmed39 U.vm ∧ U.heap = h0) (fun _ _ _ _ _ => True) (fun _ U o U' => ∃ v L, o = .returned v ∧ Q3 Z u0 u1 u2 u3 u4 u5 nn gg h0 n0 v U'.heap L ∧ FrameEnd U o U' L ({ frames := 0, cells := 0, slots := 0, locals := 0 } : Room).cells ({ frames := 0, cells := 0, slots := 0, locals := 0 } : Room).slots) := by
  refine MetFree.of_bodySF (plainFor_of_name pn_com_example_fides_fides_DerRequireShapePinLaw) hisR ?_
  intro p e s m args below meth c s₁ Bd hml0 hP hK
  obtain ⟨rfl, hZ, hh⟩ := hP
  have hx := Bd.exec
  have hby := Bd.bytes
  have hml : c.maxLocals = 8 := hml0
  have hown : s.vm.findClass "com/example/fides/fides/DerRequireShapePinLaw" = some m.cls := findClass_of_methodNamed Bd.named
  have hnm := (name_of_methodNamed Bd.named Bd.method).1
  have X0 : Stand p l e ({ frames := 0, cells := 0, slots := 0, locals := 0 } : Room) s m #[(.ref u0), (.int u1), (.int u2), (.int u3), (.int u4), (.int u5)] below meth c s₁ [] 0 0 := Stand.of_body Bd
  have e0 : s₁.heap = h0 := by rw [← hh, Bd.state]; rfl
  have N0 := Fr.nil n0
  have pre0 : ∀ t, Steps p.tables e below (s₁.setTop (mkF m 0 #[.val (.ref u0), .val (.int u1), .val (.int u2), .val (.int u3), .val (.int u4), .val (.int u5), .unset, .unset] [])) t → Steps p.tables e below (s₁.setTop (entryFrame m #[(.ref u0), (.int u1), (.int u2), (.int u3), (.int u4), (.int u5)] 8)) t := fun t k => castTop (ef_3 m u0 u1 u2 u3 u4 u5) k
  obtain ⟨z1, ez1⟩ : ∃ y : Int32, y = (u3 &&& (3 : Int32)) := ⟨_, rfl⟩
  have nz1 : 0 ≤ z1.toInt ∧ z1.toInt ≤ 3 := by rw [ez1]; exact c_and u3 (3 : Int32) (by decide)
  obtain ⟨z2, ez2⟩ : ∃ y : Int32, y = (z1 <<< ((6 : Int32) &&& 31)) := ⟨_, rfl⟩
  have nz2 : z2.toInt = z1.toInt * 64 := by rw [ez2]; exact own_shl6 (by omega) (by omega)
  by_cases hc8 : u4 = (0 : Int32)
  · have nhc8 : u4.toInt = (0 : Int) := own_eq1 rfl rfl hc8
    obtain ⟨z3, ez3⟩ : ∃ y : Int32, y = (z2 ||| (0 : Int32)) := ⟨_, rfl⟩
    have nz3 : z3.toInt = z2.toInt + (0 : Int) := by rw [ez3]; exact own_or 6 64 (by decide) (by decide) (x := z2.toInt) (y := (0 : Int)) rfl rfl (by omega) (by omega) (by omega) (by omega) (by omega)
    have st4 := X0.ldcInt hx hown (mvT hZ (hw _ (List.mem_of_getElem? (i := 12) rfl))) (g := (mkF m 22 #[.val (.ref u0), .val (.int u1), .val (.int u2), .val (.int u3), .val (.int u4), .val (.int u5), .val (.int z3), .unset] [(.int u5)])) rfl (hb hby d3_22)
    obtain ⟨z5, ez5⟩ : ∃ y : Int32, y = (u5 &&& (2147483647 : Int32)) := ⟨_, rfl⟩
    have nz5 : 0 ≤ z5.toInt ∧ z5.toInt ≤ 2147483647 := by rw [ez5]; exact c_and u5 (2147483647 : Int32) (by decide)
    by_cases hc28 : u2 = (0 : Int32)
    · have nhc28 : u2.toInt = (0 : Int) := own_eq1 rfl rfl hc28
      obtain ⟨z6, ez6⟩ : ∃ y : Int32, y = (z5 % (30 : Int32)) := ⟨_, rfl⟩
      have nz6 : 0 ≤ z6.toInt ∧ z6.toInt < 30 := by rw [ez6]; exact own_irem rfl (by decide) (by omega)
      obtain ⟨z7, ez7⟩ : ∃ y : Int32, y = ((1 : Int32) + z6) := ⟨_, rfl⟩
      have nz7 : z7.toInt = (1 : Int) + z6.toInt := by rw [ez7]; exact own_iadd (x := (1 : Int)) (y := z6.toInt) rfl rfl (by omega) (by omega)
      obtain ⟨z8, ez8⟩ : ∃ y : Int32, y = (z3 ||| z7) := ⟨_, rfl⟩
      have nz8 : z8.toInt = z3.toInt + z7.toInt := by rw [ez8]; exact own_or 5 32 (by decide) (by decide) (x := z3.toInt) (y := z7.toInt) rfl rfl (by omega) (by omega) (by omega) (by omega) (by omega)
      obtain ⟨z9, ez9⟩ : ∃ y : Int32, y = (z8.toInt8.toInt32) := ⟨_, rfl⟩
      have nz9 : (z9.toInt - z8.toInt) % 256 = 0 ∧ -128 ≤ z9.toInt ∧ z9.toInt < 128 := by rw [ez9]; exact c_i2b z8
      obtain ⟨cl10, Ar10, Sa10, Ma10, Ha10⟩ := id V_u0
      have i10 : 0 ≤ (u1).toInt ∧ (u1).toInt < nn := by omega
      obtain ⟨T11, h11, X11, e11, W11, st11⟩ := stB X0 hx hZ e0 Ar10 (j := u1) (cel_inb Sa10 i10.1 i10.2) (g := (mkF m 44 #[.val (.ref u0), .val (.int u1), .val (.int u2), .val (.int u3), .val (.int u4), .val (.int u5), .val (.int z3), .val (.int z5)] [(.int z9), (.int u1), (.ref u0)])) rfl rfl (hb hby d3_44)
      have V11 := Byt.set (g := gg) Ar10 Sa10 Ma10 Ha10 i10.1 i10.2 W11
      obtain ⟨g11, eg11⟩ : ∃ z, z = upd gg (u1).toInt ((z9).toInt % 256) := ⟨_, rfl⟩
      rw [← eg11] at V11
      have ga11 : g11 u1.toInt = z9.toInt % 256 := by rw [eg11]; exact upd_at _ _ _
      have gn11 : ∀ i, i ≠ u1.toInt → g11 i = gg i := fun i hi => by rw [eg11]; exact upd_ne _ _ _ hi
      have N11 := Fr.snoc X11 N0 g_u0
      have Z11 : n0 ≤ h11.size := Nat.le_trans Z0 (Keep.of_wr W11).1
      have KK11 := (Keep.refl h0 [u0]).wr W11 (Or.inl (List.mem_of_getElem? (i := 0) rfl))
      obtain ⟨z12, ez12⟩ : ∃ y : Int32, y = (u1 + (1 : Int32)) := ⟨_, rfl⟩
      have nz12 : z12.toInt = u1.toInt + (1 : Int) := by rw [ez12]; exact own_iadd (x := u1.toInt) (y := (1 : Int)) rfl rfl (by omega) (by omega)
      have va11 : g11 u1.toInt = z9.toInt % 256 := by exact ga11
      have vb11 : g11 u1.toInt = z9.toInt % 256 := va11
      obtain ⟨fs, hr, hrun, hended, hW, hsame⟩ := X11.leave (v := some (.int z12)) (fun h => by rw [Bd.returns] at h; cases h)
      refine ⟨_, _, pre0 _ ?_, hrun, hended, _, _, rfl, ?_, ⟨_, rfl⟩, hW, hsame.mono (by decide) (by decide)⟩
      · show Steps p.tables e below (s₁.setTop (mkF m 0 #[.val (.ref u0), .val (.int u1), .val (.int u2), .val (.int u3), .val (.int u4), .val (.int u5), .unset, .unset] [])) _
        refine XS.iloadN X0.here hx rfl (hb hby d3_0) rfl ?_
        refine XS.iconst X0.here hx rfl (hb hby d3_1) ?_
        show Steps p.tables e below (s₁.setTop (mkF m 2 #[.val (.ref u0), .val (.int u1), .val (.int u2), .val (.int u3), .val (.int u4), .val (.int u5), .unset, .unset] [(.int (3 : Int32)), (.int u3)])) _
        refine XS.iand X0.here hx rfl (hb hby d3_2) rfl ?_
        show Steps p.tables e below (s₁.setTop (mkF m 3 #[.val (.ref u0), .val (.int u1), .val (.int u2), .val (.int u3), .val (.int u4), .val (.int u5), .unset, .unset] [(.int (u3 &&& (3 : Int32)))])) _
        rw [← ez1]
        refine XS.bipush X0.here hx rfl (hb hby d3_3) ?_
        show Steps p.tables e below (s₁.setTop (mkF m 5 #[.val (.ref u0), .val (.int u1), .val (.int u2), .val (.int u3), .val (.int u4), .val (.int u5), .unset, .unset] [(.int (6 : Int32)), (.int z1)])) _
        refine XS.ishl X0.here hx rfl (hb hby d3_5) rfl ?_
        show Steps p.tables e below (s₁.setTop (mkF m 6 #[.val (.ref u0), .val (.int u1), .val (.int u2), .val (.int u3), .val (.int u4), .val (.int u5), .unset, .unset] [(.int (z1 <<< ((6 : Int32) &&& 31)))])) _
        rw [← ez2]
        refine XS.iload X0.here hx rfl (hb hby d3_6) rfl ?_
        refine XS.ifYes X0.here hx rfl (pc0 := 8) (pc' := 16) rfl (hb hby d3_8) rfl ((if0 _ _).trans (teq hc8).1) (by decide) (by decide) ?_
        refine XS.iconst X0.here hx rfl (hb hby d3_16) ?_
        show Steps p.tables e below (s₁.setTop (mkF m 17 #[.val (.ref u0), .val (.int u1), .val (.int u2), .val (.int u3), .val (.int u4), .val (.int u5), .unset, .unset] [(.int (0 : Int32)), (.int z2)])) _
        refine XS.ior X0.here hx rfl (hb hby d3_17) rfl ?_
        show Steps p.tables e below (s₁.setTop (mkF m 18 #[.val (.ref u0), .val (.int u1), .val (.int u2), .val (.int u3), .val (.int u4), .val (.int u5), .unset, .unset] [(.int (z2 ||| (0 : Int32)))])) _
        rw [← ez3]
        refine XS.istore X0.here hx rfl (hb hby d3_18) rfl (l' := #[.val (.ref u0), .val (.int u1), .val (.int u2), .val (.int u3), .val (.int u4), .val (.int u5), .val (.int z3), .unset]) rfl ?_
        refine XS.iload X0.here hx rfl (hb hby d3_20) rfl ?_
        show Steps p.tables e below (s₁.setTop (mkF m 22 #[.val (.ref u0), .val (.int u1), .val (.int u2), .val (.int u3), .val (.int u4), .val (.int u5), .val (.int z3), .unset] [(.int u5)])) _
        refine st4 _ ?_
        show Steps p.tables e below (s₁.setTop (mkF m 24 #[.val (.ref u0), .val (.int u1), .val (.int u2), .val (.int u3), .val (.int u4), .val (.int u5), .val (.int z3), .unset] [(.int (2147483647 : Int32)), (.int u5)])) _
        refine XS.iand X0.here hx rfl (hb hby d3_24) rfl ?_
        show Steps p.tables e below (s₁.setTop (mkF m 25 #[.val (.ref u0), .val (.int u1), .val (.int u2), .val (.int u3), .val (.int u4), .val (.int u5), .val (.int z3), .unset] [(.int (u5 &&& (2147483647 : Int32)))])) _
        rw [← ez5]
        refine XS.istore X0.here hx rfl (hb hby d3_25) rfl (l' := #[.val (.ref u0), .val (.int u1), .val (.int u2), .val (.int u3), .val (.int u4), .val (.int u5), .val (.int z3), .val (.int z5)]) rfl ?_
        refine XS.iloadN X0.here hx rfl (hb hby d3_27) rfl ?_
        refine XS.ifNo X0.here hx rfl (hb hby d3_28) rfl ((if0 _ _).trans (teq hc28).2) ?_
        refine XS.aloadN X0.here hx rfl (hb hby d3_31) rfl rfl ?_
        refine XS.iloadN X0.here hx rfl (hb hby d3_32) rfl ?_
        refine XS.iload X0.here hx rfl (hb hby d3_33) rfl ?_
        refine XS.iconst X0.here hx rfl (hb hby d3_35) ?_
        refine XS.iload X0.here hx rfl (hb hby d3_36) rfl ?_
        refine XS.bipush X0.here hx rfl (hb hby d3_38) ?_
        show Steps p.tables e below (s₁.setTop (mkF m 40 #[.val (.ref u0), .val (.int u1), .val (.int u2), .val (.int u3), .val (.int u4), .val (.int u5), .val (.int z3), .val (.int z5)] [(.int (30 : Int32)), (.int z5), (.int (1 : Int32)), (.int z3), (.int u1), (.ref u0)])) _
        refine iremM X0 hx rfl (hb hby d3_40) rfl (by decide) ?_
        show Steps p.tables e below (s₁.setTop (mkF m 41 #[.val (.ref u0), .val (.int u1), .val (.int u2), .val (.int u3), .val (.int u4), .val (.int u5), .val (.int z3), .val (.int z5)] [(.int (z5 % (30 : Int32))), (.int (1 : Int32)), (.int z3), (.int u1), (.ref u0)])) _
        rw [← ez6]
        show Steps p.tables e below (s₁.setTop (mkF m 41 #[.val (.ref u0), .val (.int u1), .val (.int u2), .val (.int u3), .val (.int u4), .val (.int u5), .val (.int z3), .val (.int z5)] [(.int z6), (.int (1 : Int32)), (.int z3), (.int u1), (.ref u0)])) _
        refine XS.iadd X0.here hx rfl (hb hby d3_41) rfl ?_
        show Steps p.tables e below (s₁.setTop (mkF m 42 #[.val (.ref u0), .val (.int u1), .val (.int u2), .val (.int u3), .val (.int u4), .val (.int u5), .val (.int z3), .val (.int z5)] [(.int ((1 : Int32) + z6)), (.int z3), (.int u1), (.ref u0)])) _
        rw [← ez7]
        show Steps p.tables e below (s₁.setTop (mkF m 42 #[.val (.ref u0), .val (.int u1), .val (.int u2), .val (.int u3), .val (.int u4), .val (.int u5), .val (.int z3), .val (.int z5)] [(.int z7), (.int z3), (.int u1), (.ref u0)])) _
        refine XS.ior X0.here hx rfl (hb hby d3_42) rfl ?_
        show Steps p.tables e below (s₁.setTop (mkF m 43 #[.val (.ref u0), .val (.int u1), .val (.int u2), .val (.int u3), .val (.int u4), .val (.int u5), .val (.int z3), .val (.int z5)] [(.int (z3 ||| z7)), (.int u1), (.ref u0)])) _
        rw [← ez8]
        show Steps p.tables e below (s₁.setTop (mkF m 43 #[.val (.ref u0), .val (.int u1), .val (.int u2), .val (.int u3), .val (.int u4), .val (.int u5), .val (.int z3), .val (.int z5)] [(.int z8), (.int u1), (.ref u0)])) _
        refine XS.i2b X0.here hx rfl (hb hby d3_43) rfl ?_
        show Steps p.tables e below (s₁.setTop (mkF m 44 #[.val (.ref u0), .val (.int u1), .val (.int u2), .val (.int u3), .val (.int u4), .val (.int u5), .val (.int z3), .val (.int z5)] [(.int (z8.toInt8.toInt32)), (.int u1), (.ref u0)])) _
        rw [← ez9]
        show Steps p.tables e below (s₁.setTop (mkF m 44 #[.val (.ref u0), .val (.int u1), .val (.int u2), .val (.int u3), .val (.int u4), .val (.int u5), .val (.int z3), .val (.int z5)] [(.int z9), (.int u1), (.ref u0)])) _
        refine st11 _ ?_
        show Steps p.tables e below (T11.setTop (mkF m 45 #[.val (.ref u0), .val (.int u1), .val (.int u2), .val (.int u3), .val (.int u4), .val (.int u5), .val (.int z3), .val (.int z5)] [])) _
        refine XS.iloadN X11.here hx rfl (hb hby d3_45) rfl ?_
        refine XS.iconst X11.here hx rfl (hb hby d3_46) ?_
        show Steps p.tables e below (T11.setTop (mkF m 47 #[.val (.ref u0), .val (.int u1), .val (.int u2), .val (.int u3), .val (.int u4), .val (.int u5), .val (.int z3), .val (.int z5)] [(.int (1 : Int32)), (.int u1)])) _
        refine XS.iadd X11.here hx rfl (hb hby d3_47) rfl ?_
        show Steps p.tables e below (T11.setTop (mkF m 48 #[.val (.ref u0), .val (.int u1), .val (.int u2), .val (.int u3), .val (.int u4), .val (.int u5), .val (.int z3), .val (.int z5)] [(.int (u1 + (1 : Int32)))])) _
        rw [← ez12]
        show Steps p.tables e below (T11.setTop (mkF m 48 #[.val (.ref u0), .val (.int u1), .val (.int u2), .val (.int u3), .val (.int u4), .val (.int u5), .val (.int z3), .val (.int z5)] [(.int z12)])) _
        exact retI X11 hx Bd.returns (hb hby d3_48) hr
      · show Q3 Z u0 u1 u2 u3 u4 u5 nn gg h0 n0 _ T11.heap _
        rw [e11]
        exact ⟨_, g11, rfl, N11, KK11, V11, (by omega), (fun i hi => by rw [gn11 i (by omega)]), (by unfold TagOK; refine ⟨fun _ => by omega, fun _ => by omega, fun _ => by omega, fun _ => by omega, fun _ => by omega, fun _ => ⟨by omega, by omega⟩, by omega⟩)⟩
    · have nhc28 : ¬ u2.toInt = (0 : Int) := own_eq0 rfl rfl hc28
      obtain ⟨z13, ez13⟩ : ∃ y : Int32, y = (z3 ||| (31 : Int32)) := ⟨_, rfl⟩
      have nz13 : z13.toInt = z3.toInt + (31 : Int) := by rw [ez13]; exact own_or 5 32 (by decide) (by decide) (x := z3.toInt) (y := (31 : Int)) rfl rfl (by omega) (by omega) (by omega) (by omega) (by omega)
      obtain ⟨z14, ez14⟩ : ∃ y : Int32, y = (z13.toInt8.toInt32) := ⟨_, rfl⟩
      have nz14 : (z14.toInt - z13.toInt) % 256 = 0 ∧ -128 ≤ z14.toInt ∧ z14.toInt < 128 := by rw [ez14]; exact c_i2b z13
      obtain ⟨cl15, Ar15, Sa15, Ma15, Ha15⟩ := id V_u0
      have i15 : 0 ≤ (u1).toInt ∧ (u1).toInt < nn := by omega
      obtain ⟨T16, h16, X16, e16, W16, st16⟩ := stB X0 hx hZ e0 Ar15 (j := u1) (cel_inb Sa15 i15.1 i15.2) (g := (mkF m 57 #[.val (.ref u0), .val (.int u1), .val (.int u2), .val (.int u3), .val (.int u4), .val (.int u5), .val (.int z3), .val (.int z5)] [(.int z14), (.int u1), (.ref u0)])) rfl rfl (hb hby d3_57)
      have V16 := Byt.set (g := gg) Ar15 Sa15 Ma15 Ha15 i15.1 i15.2 W16
      obtain ⟨g16, eg16⟩ : ∃ z, z = upd gg (u1).toInt ((z14).toInt % 256) := ⟨_, rfl⟩
      rw [← eg16] at V16
      have ga16 : g16 u1.toInt = z14.toInt % 256 := by rw [eg16]; exact upd_at _ _ _
      have gn16 : ∀ i, i ≠ u1.toInt → g16 i = gg i := fun i hi => by rw [eg16]; exact upd_ne _ _ _ hi
      have N16 := Fr.snoc X16 N0 g_u0
      have Z16 : n0 ≤ h16.size := Nat.le_trans Z0 (Keep.of_wr W16).1
      have KK16 := (Keep.refl h0 [u0]).wr W16 (Or.inl (List.mem_of_getElem? (i := 0) rfl))
      by_cases hc60 : u2 = (1 : Int32)
      · have nhc60 : u2.toInt = (1 : Int) := own_eq1 rfl rfl hc60
        obtain ⟨z17, ez17⟩ : ∃ y : Int32, y = (u1 + (1 : Int32)) := ⟨_, rfl⟩
        have nz17 : z17.toInt = u1.toInt + (1 : Int) := by rw [ez17]; exact own_iadd (x := u1.toInt) (y := (1 : Int)) rfl rfl (by omega) (by omega)
        obtain ⟨z18, ez18⟩ : ∃ y : Int32, y = (z5 % (97 : Int32)) := ⟨_, rfl⟩
        have nz18 : 0 ≤ z18.toInt ∧ z18.toInt < 97 := by rw [ez18]; exact own_irem rfl (by decide) (by omega)
        obtain ⟨z19, ez19⟩ : ∃ y : Int32, y = ((31 : Int32) + z18) := ⟨_, rfl⟩
        have nz19 : z19.toInt = (31 : Int) + z18.toInt := by rw [ez19]; exact own_iadd (x := (31 : Int)) (y := z18.toInt) rfl rfl (by omega) (by omega)
        obtain ⟨z20, ez20⟩ : ∃ y : Int32, y = (z19.toInt8.toInt32) := ⟨_, rfl⟩
        have nz20 : (z20.toInt - z19.toInt) % 256 = 0 ∧ -128 ≤ z20.toInt ∧ z20.toInt < 128 := by rw [ez20]; exact c_i2b z19
        obtain ⟨cl21, Ar21, Sa21, Ma21, Ha21⟩ := id V16
        have i21 : 0 ≤ (z17).toInt ∧ (z17).toInt < nn := by omega
        obtain ⟨T22, h22, X22, e22, W22, st22⟩ := stB X16 hx hZ e16 Ar21 (j := z17) (cel_inb Sa21 i21.1 i21.2) (g := (mkF m 76 #[.val (.ref u0), .val (.int u1), .val (.int u2), .val (.int u3), .val (.int u4), .val (.int u5), .val (.int z3), .val (.int z5)] [(.int z20), (.int z17), (.ref u0)])) rfl rfl (hb hby d3_76)
        have V22 := Byt.set (g := g16) Ar21 Sa21 Ma21 Ha21 i21.1 i21.2 W22
        obtain ⟨g22, eg22⟩ : ∃ z, z = upd g16 (z17).toInt ((z20).toInt % 256) := ⟨_, rfl⟩
        rw [← eg22] at V22
        have ga22 : g22 z17.toInt = z20.toInt % 256 := by rw [eg22]; exact upd_at _ _ _
        have gn22 : ∀ i, i ≠ z17.toInt → g22 i = g16 i := fun i hi => by rw [eg22]; exact upd_ne _ _ _ hi
        have N22 := Fr.snoc X22 N16 g_u0
        have Z22 : n0 ≤ h22.size := Nat.le_trans Z16 (Keep.of_wr W22).1
        have KK22 := KK16.wr W22 (Or.inl (List.mem_of_getElem? (i := 0) rfl))
        obtain ⟨z23, ez23⟩ : ∃ y : Int32, y = (u1 + (2 : Int32)) := ⟨_, rfl⟩
        have nz23 : z23.toInt = u1.toInt + (2 : Int) := by rw [ez23]; exact own_iadd (x := u1.toInt) (y := (2 : Int)) rfl rfl (by omega) (by omega)
        have va16 : g22 u1.toInt = z14.toInt % 256 := by rw [gn22 u1.toInt (by omega)]; exact ga16
        have vb16 : g22 u1.toInt = z14.toInt % 256 := va16
        have va22 : g22 z17.toInt = z20.toInt % 256 := by exact ga22
        have vb22 : g22 (u1.toInt + 1) = z20.toInt % 256 := by have q := va22; rwa [show z17.toInt = u1.toInt + 1 from by omega] at q
        obtain ⟨fs, hr, hrun, hended, hW, hsame⟩ := X22.leave (v := some (.int z23)) (fun h => by rw [Bd.returns] at h; cases h)
        refine ⟨_, _, pre0 _ ?_, hrun, hended, _, _, rfl, ?_, ⟨_, rfl⟩, hW, hsame.mono (by decide) (by decide)⟩
        · show Steps p.tables e below (s₁.setTop (mkF m 0 #[.val (.ref u0), .val (.int u1), .val (.int u2), .val (.int u3), .val (.int u4), .val (.int u5), .unset, .unset] [])) _
          refine XS.iloadN X0.here hx rfl (hb hby d3_0) rfl ?_
          refine XS.iconst X0.here hx rfl (hb hby d3_1) ?_
          show Steps p.tables e below (s₁.setTop (mkF m 2 #[.val (.ref u0), .val (.int u1), .val (.int u2), .val (.int u3), .val (.int u4), .val (.int u5), .unset, .unset] [(.int (3 : Int32)), (.int u3)])) _
          refine XS.iand X0.here hx rfl (hb hby d3_2) rfl ?_
          show Steps p.tables e below (s₁.setTop (mkF m 3 #[.val (.ref u0), .val (.int u1), .val (.int u2), .val (.int u3), .val (.int u4), .val (.int u5), .unset, .unset] [(.int (u3 &&& (3 : Int32)))])) _
          rw [← ez1]
          refine XS.bipush X0.here hx rfl (hb hby d3_3) ?_
          show Steps p.tables e below (s₁.setTop (mkF m 5 #[.val (.ref u0), .val (.int u1), .val (.int u2), .val (.int u3), .val (.int u4), .val (.int u5), .unset, .unset] [(.int (6 : Int32)), (.int z1)])) _
          refine XS.ishl X0.here hx rfl (hb hby d3_5) rfl ?_
          show Steps p.tables e below (s₁.setTop (mkF m 6 #[.val (.ref u0), .val (.int u1), .val (.int u2), .val (.int u3), .val (.int u4), .val (.int u5), .unset, .unset] [(.int (z1 <<< ((6 : Int32) &&& 31)))])) _
          rw [← ez2]
          refine XS.iload X0.here hx rfl (hb hby d3_6) rfl ?_
          refine XS.ifYes X0.here hx rfl (pc0 := 8) (pc' := 16) rfl (hb hby d3_8) rfl ((if0 _ _).trans (teq hc8).1) (by decide) (by decide) ?_
          refine XS.iconst X0.here hx rfl (hb hby d3_16) ?_
          show Steps p.tables e below (s₁.setTop (mkF m 17 #[.val (.ref u0), .val (.int u1), .val (.int u2), .val (.int u3), .val (.int u4), .val (.int u5), .unset, .unset] [(.int (0 : Int32)), (.int z2)])) _
          refine XS.ior X0.here hx rfl (hb hby d3_17) rfl ?_
          show Steps p.tables e below (s₁.setTop (mkF m 18 #[.val (.ref u0), .val (.int u1), .val (.int u2), .val (.int u3), .val (.int u4), .val (.int u5), .unset, .unset] [(.int (z2 ||| (0 : Int32)))])) _
          rw [← ez3]
          refine XS.istore X0.here hx rfl (hb hby d3_18) rfl (l' := #[.val (.ref u0), .val (.int u1), .val (.int u2), .val (.int u3), .val (.int u4), .val (.int u5), .val (.int z3), .unset]) rfl ?_
          refine XS.iload X0.here hx rfl (hb hby d3_20) rfl ?_
          show Steps p.tables e below (s₁.setTop (mkF m 22 #[.val (.ref u0), .val (.int u1), .val (.int u2), .val (.int u3), .val (.int u4), .val (.int u5), .val (.int z3), .unset] [(.int u5)])) _
          refine st4 _ ?_
          show Steps p.tables e below (s₁.setTop (mkF m 24 #[.val (.ref u0), .val (.int u1), .val (.int u2), .val (.int u3), .val (.int u4), .val (.int u5), .val (.int z3), .unset] [(.int (2147483647 : Int32)), (.int u5)])) _
          refine XS.iand X0.here hx rfl (hb hby d3_24) rfl ?_
          show Steps p.tables e below (s₁.setTop (mkF m 25 #[.val (.ref u0), .val (.int u1), .val (.int u2), .val (.int u3), .val (.int u4), .val (.int u5), .val (.int z3), .unset] [(.int (u5 &&& (2147483647 : Int32)))])) _
          rw [← ez5]
          refine XS.istore X0.here hx rfl (hb hby d3_25) rfl (l' := #[.val (.ref u0), .val (.int u1), .val (.int u2), .val (.int u3), .val (.int u4), .val (.int u5), .val (.int z3), .val (.int z5)]) rfl ?_
          refine XS.iloadN X0.here hx rfl (hb hby d3_27) rfl ?_
          refine XS.ifYes X0.here hx rfl (pc0 := 28) (pc' := 49) rfl (hb hby d3_28) rfl ((if0 _ _).trans (feq hc28).2) (by decide) (by decide) ?_
          refine XS.aloadN X0.here hx rfl (hb hby d3_49) rfl rfl ?_
          refine XS.iloadN X0.here hx rfl (hb hby d3_50) rfl ?_
          refine XS.iload X0.here hx rfl (hb hby d3_51) rfl ?_
          refine XS.bipush X0.here hx rfl (hb hby d3_53) ?_
          show Steps p.tables e below (s₁.setTop (mkF m 55 #[.val (.ref u0), .val (.int u1), .val (.int u2), .val (.int u3), .val (.int u4), .val (.int u5), .val (.int z3), .val (.int z5)] [(.int (31 : Int32)), (.int z3), (.int u1), (.ref u0)])) _
          refine XS.ior X0.here hx rfl (hb hby d3_55) rfl ?_
          show Steps p.tables e below (s₁.setTop (mkF m 56 #[.val (.ref u0), .val (.int u1), .val (.int u2), .val (.int u3), .val (.int u4), .val (.int u5), .val (.int z3), .val (.int z5)] [(.int (z3 ||| (31 : Int32))), (.int u1), (.ref u0)])) _
          rw [← ez13]
          show Steps p.tables e below (s₁.setTop (mkF m 56 #[.val (.ref u0), .val (.int u1), .val (.int u2), .val (.int u3), .val (.int u4), .val (.int u5), .val (.int z3), .val (.int z5)] [(.int z13), (.int u1), (.ref u0)])) _
          refine XS.i2b X0.here hx rfl (hb hby d3_56) rfl ?_
          show Steps p.tables e below (s₁.setTop (mkF m 57 #[.val (.ref u0), .val (.int u1), .val (.int u2), .val (.int u3), .val (.int u4), .val (.int u5), .val (.int z3), .val (.int z5)] [(.int (z13.toInt8.toInt32)), (.int u1), (.ref u0)])) _
          rw [← ez14]
          show Steps p.tables e below (s₁.setTop (mkF m 57 #[.val (.ref u0), .val (.int u1), .val (.int u2), .val (.int u3), .val (.int u4), .val (.int u5), .val (.int z3), .val (.int z5)] [(.int z14), (.int u1), (.ref u0)])) _
          refine st16 _ ?_
          show Steps p.tables e below (T16.setTop (mkF m 58 #[.val (.ref u0), .val (.int u1), .val (.int u2), .val (.int u3), .val (.int u4), .val (.int u5), .val (.int z3), .val (.int z5)] [])) _
          refine XS.iloadN X16.here hx rfl (hb hby d3_58) rfl ?_
          refine XS.iconst X16.here hx rfl (hb hby d3_59) ?_
          refine XS.icmpNo X16.here hx rfl (hb hby d3_60) rfl (teq hc60).2 ?_
          refine XS.aloadN X16.here hx rfl (hb hby d3_63) rfl rfl ?_
          refine XS.iloadN X16.here hx rfl (hb hby d3_64) rfl ?_
          refine XS.iconst X16.here hx rfl (hb hby d3_65) ?_
          show Steps p.tables e below (T16.setTop (mkF m 66 #[.val (.ref u0), .val (.int u1), .val (.int u2), .val (.int u3), .val (.int u4), .val (.int u5), .val (.int z3), .val (.int z5)] [(.int (1 : Int32)), (.int u1), (.ref u0)])) _
          refine XS.iadd X16.here hx rfl (hb hby d3_66) rfl ?_
          show Steps p.tables e below (T16.setTop (mkF m 67 #[.val (.ref u0), .val (.int u1), .val (.int u2), .val (.int u3), .val (.int u4), .val (.int u5), .val (.int z3), .val (.int z5)] [(.int (u1 + (1 : Int32))), (.ref u0)])) _
          rw [← ez17]
          refine XS.bipush X16.here hx rfl (hb hby d3_67) ?_
          refine XS.iload X16.here hx rfl (hb hby d3_69) rfl ?_
          refine XS.bipush X16.here hx rfl (hb hby d3_71) ?_
          show Steps p.tables e below (T16.setTop (mkF m 73 #[.val (.ref u0), .val (.int u1), .val (.int u2), .val (.int u3), .val (.int u4), .val (.int u5), .val (.int z3), .val (.int z5)] [(.int (97 : Int32)), (.int z5), (.int (31 : Int32)), (.int z17), (.ref u0)])) _
          refine iremM X16 hx rfl (hb hby d3_73) rfl (by decide) ?_
          show Steps p.tables e below (T16.setTop (mkF m 74 #[.val (.ref u0), .val (.int u1), .val (.int u2), .val (.int u3), .val (.int u4), .val (.int u5), .val (.int z3), .val (.int z5)] [(.int (z5 % (97 : Int32))), (.int (31 : Int32)), (.int z17), (.ref u0)])) _
          rw [← ez18]
          show Steps p.tables e below (T16.setTop (mkF m 74 #[.val (.ref u0), .val (.int u1), .val (.int u2), .val (.int u3), .val (.int u4), .val (.int u5), .val (.int z3), .val (.int z5)] [(.int z18), (.int (31 : Int32)), (.int z17), (.ref u0)])) _
          refine XS.iadd X16.here hx rfl (hb hby d3_74) rfl ?_
          show Steps p.tables e below (T16.setTop (mkF m 75 #[.val (.ref u0), .val (.int u1), .val (.int u2), .val (.int u3), .val (.int u4), .val (.int u5), .val (.int z3), .val (.int z5)] [(.int ((31 : Int32) + z18)), (.int z17), (.ref u0)])) _
          rw [← ez19]
          show Steps p.tables e below (T16.setTop (mkF m 75 #[.val (.ref u0), .val (.int u1), .val (.int u2), .val (.int u3), .val (.int u4), .val (.int u5), .val (.int z3), .val (.int z5)] [(.int z19), (.int z17), (.ref u0)])) _
          refine XS.i2b X16.here hx rfl (hb hby d3_75) rfl ?_
          show Steps p.tables e below (T16.setTop (mkF m 76 #[.val (.ref u0), .val (.int u1), .val (.int u2), .val (.int u3), .val (.int u4), .val (.int u5), .val (.int z3), .val (.int z5)] [(.int (z19.toInt8.toInt32)), (.int z17), (.ref u0)])) _
          rw [← ez20]
          show Steps p.tables e below (T16.setTop (mkF m 76 #[.val (.ref u0), .val (.int u1), .val (.int u2), .val (.int u3), .val (.int u4), .val (.int u5), .val (.int z3), .val (.int z5)] [(.int z20), (.int z17), (.ref u0)])) _
          refine st22 _ ?_
          show Steps p.tables e below (T22.setTop (mkF m 77 #[.val (.ref u0), .val (.int u1), .val (.int u2), .val (.int u3), .val (.int u4), .val (.int u5), .val (.int z3), .val (.int z5)] [])) _
          refine XS.iloadN X22.here hx rfl (hb hby d3_77) rfl ?_
          refine XS.iconst X22.here hx rfl (hb hby d3_78) ?_
          show Steps p.tables e below (T22.setTop (mkF m 79 #[.val (.ref u0), .val (.int u1), .val (.int u2), .val (.int u3), .val (.int u4), .val (.int u5), .val (.int z3), .val (.int z5)] [(.int (2 : Int32)), (.int u1)])) _
          refine XS.iadd X22.here hx rfl (hb hby d3_79) rfl ?_
          show Steps p.tables e below (T22.setTop (mkF m 80 #[.val (.ref u0), .val (.int u1), .val (.int u2), .val (.int u3), .val (.int u4), .val (.int u5), .val (.int z3), .val (.int z5)] [(.int (u1 + (2 : Int32)))])) _
          rw [← ez23]
          show Steps p.tables e below (T22.setTop (mkF m 80 #[.val (.ref u0), .val (.int u1), .val (.int u2), .val (.int u3), .val (.int u4), .val (.int u5), .val (.int z3), .val (.int z5)] [(.int z23)])) _
          exact retI X22 hx Bd.returns (hb hby d3_80) hr
        · show Q3 Z u0 u1 u2 u3 u4 u5 nn gg h0 n0 _ T22.heap _
          rw [e22]
          exact ⟨_, g22, rfl, N22, KK22, V22, (by omega), (fun i hi => by rw [gn22 i (by omega), gn16 i (by omega)]), (by unfold TagOK; refine ⟨fun _ => by omega, fun _ => by omega, fun _ => by omega, fun _ => by omega, fun _ => by omega, fun _ => ⟨by omega, by omega⟩, by omega⟩)⟩
      · have nhc60 : ¬ u2.toInt = (1 : Int) := own_eq0 rfl rfl hc60
        obtain ⟨z24, ez24⟩ : ∃ y : Int32, y = (u1 + (1 : Int32)) := ⟨_, rfl⟩
        have nz24 : z24.toInt = u1.toInt + (1 : Int) := by rw [ez24]; exact own_iadd (x := u1.toInt) (y := (1 : Int)) rfl rfl (by omega) (by omega)
        obtain ⟨z25, ez25⟩ : ∃ y : Int32, y = (z5 % (127 : Int32)) := ⟨_, rfl⟩
        have nz25 : 0 ≤ z25.toInt ∧ z25.toInt < 127 := by rw [ez25]; exact own_irem rfl (by decide) (by omega)
        obtain ⟨z26, ez26⟩ : ∃ y : Int32, y = ((129 : Int32) + z25) := ⟨_, rfl⟩
        have nz26 : z26.toInt = (129 : Int) + z25.toInt := by rw [ez26]; exact own_iadd (x := (129 : Int)) (y := z25.toInt) rfl rfl (by omega) (by omega)
        obtain ⟨z27, ez27⟩ : ∃ y : Int32, y = (z26.toInt8.toInt32) := ⟨_, rfl⟩
        have nz27 : (z27.toInt - z26.toInt) % 256 = 0 ∧ -128 ≤ z27.toInt ∧ z27.toInt < 128 := by rw [ez27]; exact c_i2b z26
        obtain ⟨cl28, Ar28, Sa28, Ma28, Ha28⟩ := id V16
        have i28 : 0 ≤ (z24).toInt ∧ (z24).toInt < nn := by omega
        obtain ⟨T29, h29, X29, e29, W29, st29⟩ := stB X16 hx hZ e16 Ar28 (j := z24) (cel_inb Sa28 i28.1 i28.2) (g := (mkF m 95 #[.val (.ref u0), .val (.int u1), .val (.int u2), .val (.int u3), .val (.int u4), .val (.int u5), .val (.int z3), .val (.int z5)] [(.int z27), (.int z24), (.ref u0)])) rfl rfl (hb hby d3_95)
        have V29 := Byt.set (g := g16) Ar28 Sa28 Ma28 Ha28 i28.1 i28.2 W29
        obtain ⟨g29, eg29⟩ : ∃ z, z = upd g16 (z24).toInt ((z27).toInt % 256) := ⟨_, rfl⟩
        rw [← eg29] at V29
        have ga29 : g29 z24.toInt = z27.toInt % 256 := by rw [eg29]; exact upd_at _ _ _
        have gn29 : ∀ i, i ≠ z24.toInt → g29 i = g16 i := fun i hi => by rw [eg29]; exact upd_ne _ _ _ hi
        have N29 := Fr.snoc X29 N16 g_u0
        have Z29 : n0 ≤ h29.size := Nat.le_trans Z16 (Keep.of_wr W29).1
        have KK29 := KK16.wr W29 (Or.inl (List.mem_of_getElem? (i := 0) rfl))
        by_cases hc98 : u2 = (2 : Int32)
        · have nhc98 : u2.toInt = (2 : Int) := own_eq1 rfl rfl hc98
          obtain ⟨z30, ez30⟩ : ∃ y : Int32, y = (u1 + (2 : Int32)) := ⟨_, rfl⟩
          have nz30 : z30.toInt = u1.toInt + (2 : Int) := by rw [ez30]; exact own_iadd (x := u1.toInt) (y := (2 : Int)) rfl rfl (by omega) (by omega)
          obtain ⟨z31, ez31⟩ : ∃ y : Int32, y = ((u5.toUInt32 >>> ((8 : Int32) &&& 31).toUInt32).toInt32) := ⟨_, rfl⟩
          obtain ⟨z32, ez32⟩ : ∃ y : Int32, y = (z31 &&& (127 : Int32)) := ⟨_, rfl⟩
          have nz32 : 0 ≤ z32.toInt ∧ z32.toInt ≤ 127 := by rw [ez32]; exact c_and z31 (127 : Int32) (by decide)
          obtain ⟨z33, ez33⟩ : ∃ y : Int32, y = (z32.toInt8.toInt32) := ⟨_, rfl⟩
          have nz33 : (z33.toInt - z32.toInt) % 256 = 0 ∧ -128 ≤ z33.toInt ∧ z33.toInt < 128 := by rw [ez33]; exact c_i2b z32
          obtain ⟨cl34, Ar34, Sa34, Ma34, Ha34⟩ := id V29
          have i34 : 0 ≤ (z30).toInt ∧ (z30).toInt < nn := by omega
          obtain ⟨T35, h35, X35, e35, W35, st35⟩ := stB X29 hx hZ e29 Ar34 (j := z30) (cel_inb Sa34 i34.1 i34.2) (g := (mkF m 114 #[.val (.ref u0), .val (.int u1), .val (.int u2), .val (.int u3), .val (.int u4), .val (.int u5), .val (.int z3), .val (.int z5)] [(.int z33), (.int z30), (.ref u0)])) rfl rfl (hb hby d3_114)
          have V35 := Byt.set (g := g29) Ar34 Sa34 Ma34 Ha34 i34.1 i34.2 W35
          obtain ⟨g35, eg35⟩ : ∃ z, z = upd g29 (z30).toInt ((z33).toInt % 256) := ⟨_, rfl⟩
          rw [← eg35] at V35
          have ga35 : g35 z30.toInt = z33.toInt % 256 := by rw [eg35]; exact upd_at _ _ _
          have gn35 : ∀ i, i ≠ z30.toInt → g35 i = g29 i := fun i hi => by rw [eg35]; exact upd_ne _ _ _ hi
          have N35 := Fr.snoc X35 N29 g_u0
          have Z35 : n0 ≤ h35.size := Nat.le_trans Z29 (Keep.of_wr W35).1
          have KK35 := KK29.wr W35 (Or.inl (List.mem_of_getElem? (i := 0) rfl))
          obtain ⟨z36, ez36⟩ : ∃ y : Int32, y = (u1 + (3 : Int32)) := ⟨_, rfl⟩
          have nz36 : z36.toInt = u1.toInt + (3 : Int) := by rw [ez36]; exact own_iadd (x := u1.toInt) (y := (3 : Int)) rfl rfl (by omega) (by omega)
          have va16 : g35 u1.toInt = z14.toInt % 256 := by rw [gn35 u1.toInt (by omega), gn29 u1.toInt (by omega)]; exact ga16
          have vb16 : g35 u1.toInt = z14.toInt % 256 := va16
          have va29 : g35 z24.toInt = z27.toInt % 256 := by rw [gn35 z24.toInt (by omega)]; exact ga29
          have vb29 : g35 (u1.toInt + 1) = z27.toInt % 256 := by have q := va29; rwa [show z24.toInt = u1.toInt + 1 from by omega] at q
          have va35 : g35 z30.toInt = z33.toInt % 256 := by exact ga35
          have vb35 : g35 (u1.toInt + 2) = z33.toInt % 256 := by have q := va35; rwa [show z30.toInt = u1.toInt + 2 from by omega] at q
          obtain ⟨fs, hr, hrun, hended, hW, hsame⟩ := X35.leave (v := some (.int z36)) (fun h => by rw [Bd.returns] at h; cases h)
          refine ⟨_, _, pre0 _ ?_, hrun, hended, _, _, rfl, ?_, ⟨_, rfl⟩, hW, hsame.mono (by decide) (by decide)⟩
          · show Steps p.tables e below (s₁.setTop (mkF m 0 #[.val (.ref u0), .val (.int u1), .val (.int u2), .val (.int u3), .val (.int u4), .val (.int u5), .unset, .unset] [])) _
            refine XS.iloadN X0.here hx rfl (hb hby d3_0) rfl ?_
            refine XS.iconst X0.here hx rfl (hb hby d3_1) ?_
            show Steps p.tables e below (s₁.setTop (mkF m 2 #[.val (.ref u0), .val (.int u1), .val (.int u2), .val (.int u3), .val (.int u4), .val (.int u5), .unset, .unset] [(.int (3 : Int32)), (.int u3)])) _
            refine XS.iand X0.here hx rfl (hb hby d3_2) rfl ?_
            show Steps p.tables e below (s₁.setTop (mkF m 3 #[.val (.ref u0), .val (.int u1), .val (.int u2), .val (.int u3), .val (.int u4), .val (.int u5), .unset, .unset] [(.int (u3 &&& (3 : Int32)))])) _
            rw [← ez1]
            refine XS.bipush X0.here hx rfl (hb hby d3_3) ?_
            show Steps p.tables e below (s₁.setTop (mkF m 5 #[.val (.ref u0), .val (.int u1), .val (.int u2), .val (.int u3), .val (.int u4), .val (.int u5), .unset, .unset] [(.int (6 : Int32)), (.int z1)])) _
            refine XS.ishl X0.here hx rfl (hb hby d3_5) rfl ?_
            show Steps p.tables e below (s₁.setTop (mkF m 6 #[.val (.ref u0), .val (.int u1), .val (.int u2), .val (.int u3), .val (.int u4), .val (.int u5), .unset, .unset] [(.int (z1 <<< ((6 : Int32) &&& 31)))])) _
            rw [← ez2]
            refine XS.iload X0.here hx rfl (hb hby d3_6) rfl ?_
            refine XS.ifYes X0.here hx rfl (pc0 := 8) (pc' := 16) rfl (hb hby d3_8) rfl ((if0 _ _).trans (teq hc8).1) (by decide) (by decide) ?_
            refine XS.iconst X0.here hx rfl (hb hby d3_16) ?_
            show Steps p.tables e below (s₁.setTop (mkF m 17 #[.val (.ref u0), .val (.int u1), .val (.int u2), .val (.int u3), .val (.int u4), .val (.int u5), .unset, .unset] [(.int (0 : Int32)), (.int z2)])) _
            refine XS.ior X0.here hx rfl (hb hby d3_17) rfl ?_
            show Steps p.tables e below (s₁.setTop (mkF m 18 #[.val (.ref u0), .val (.int u1), .val (.int u2), .val (.int u3), .val (.int u4), .val (.int u5), .unset, .unset] [(.int (z2 ||| (0 : Int32)))])) _
            rw [← ez3]
            refine XS.istore X0.here hx rfl (hb hby d3_18) rfl (l' := #[.val (.ref u0), .val (.int u1), .val (.int u2), .val (.int u3), .val (.int u4), .val (.int u5), .val (.int z3), .unset]) rfl ?_
            refine XS.iload X0.here hx rfl (hb hby d3_20) rfl ?_
            show Steps p.tables e below (s₁.setTop (mkF m 22 #[.val (.ref u0), .val (.int u1), .val (.int u2), .val (.int u3), .val (.int u4), .val (.int u5), .val (.int z3), .unset] [(.int u5)])) _
            refine st4 _ ?_
            show Steps p.tables e below (s₁.setTop (mkF m 24 #[.val (.ref u0), .val (.int u1), .val (.int u2), .val (.int u3), .val (.int u4), .val (.int u5), .val (.int z3), .unset] [(.int (2147483647 : Int32)), (.int u5)])) _
            refine XS.iand X0.here hx rfl (hb hby d3_24) rfl ?_
            show Steps p.tables e below (s₁.setTop (mkF m 25 #[.val (.ref u0), .val (.int u1), .val (.int u2), .val (.int u3), .val (.int u4), .val (.int u5), .val (.int z3), .unset] [(.int (u5 &&& (2147483647 : Int32)))])) _
            rw [← ez5]
            refine XS.istore X0.here hx rfl (hb hby d3_25) rfl (l' := #[.val (.ref u0), .val (.int u1), .val (.int u2), .val (.int u3), .val (.int u4), .val (.int u5), .val (.int z3), .val (.int z5)]) rfl ?_
            refine XS.iloadN X0.here hx rfl (hb hby d3_27) rfl ?_
            refine XS.ifYes X0.here hx rfl (pc0 := 28) (pc' := 49) rfl (hb hby d3_28) rfl ((if0 _ _).trans (feq hc28).2) (by decide) (by decide) ?_
            refine XS.aloadN X0.here hx rfl (hb hby d3_49) rfl rfl ?_
            refine XS.iloadN X0.here hx rfl (hb hby d3_50) rfl ?_
            refine XS.iload X0.here hx rfl (hb hby d3_51) rfl ?_
            refine XS.bipush X0.here hx rfl (hb hby d3_53) ?_
            show Steps p.tables e below (s₁.setTop (mkF m 55 #[.val (.ref u0), .val (.int u1), .val (.int u2), .val (.int u3), .val (.int u4), .val (.int u5), .val (.int z3), .val (.int z5)] [(.int (31 : Int32)), (.int z3), (.int u1), (.ref u0)])) _
            refine XS.ior X0.here hx rfl (hb hby d3_55) rfl ?_
            show Steps p.tables e below (s₁.setTop (mkF m 56 #[.val (.ref u0), .val (.int u1), .val (.int u2), .val (.int u3), .val (.int u4), .val (.int u5), .val (.int z3), .val (.int z5)] [(.int (z3 ||| (31 : Int32))), (.int u1), (.ref u0)])) _
            rw [← ez13]
            show Steps p.tables e below (s₁.setTop (mkF m 56 #[.val (.ref u0), .val (.int u1), .val (.int u2), .val (.int u3), .val (.int u4), .val (.int u5), .val (.int z3), .val (.int z5)] [(.int z13), (.int u1), (.ref u0)])) _
            refine XS.i2b X0.here hx rfl (hb hby d3_56) rfl ?_
            show Steps p.tables e below (s₁.setTop (mkF m 57 #[.val (.ref u0), .val (.int u1), .val (.int u2), .val (.int u3), .val (.int u4), .val (.int u5), .val (.int z3), .val (.int z5)] [(.int (z13.toInt8.toInt32)), (.int u1), (.ref u0)])) _
            rw [← ez14]
            show Steps p.tables e below (s₁.setTop (mkF m 57 #[.val (.ref u0), .val (.int u1), .val (.int u2), .val (.int u3), .val (.int u4), .val (.int u5), .val (.int z3), .val (.int z5)] [(.int z14), (.int u1), (.ref u0)])) _
            refine st16 _ ?_
            show Steps p.tables e below (T16.setTop (mkF m 58 #[.val (.ref u0), .val (.int u1), .val (.int u2), .val (.int u3), .val (.int u4), .val (.int u5), .val (.int z3), .val (.int z5)] [])) _
            refine XS.iloadN X16.here hx rfl (hb hby d3_58) rfl ?_
            refine XS.iconst X16.here hx rfl (hb hby d3_59) ?_
            refine XS.icmpYes X16.here hx rfl (pc0 := 60) (pc' := 81) rfl (hb hby d3_60) rfl (feq hc60).2 (by decide) (by decide) ?_
            refine XS.aloadN X16.here hx rfl (hb hby d3_81) rfl rfl ?_
            refine XS.iloadN X16.here hx rfl (hb hby d3_82) rfl ?_
            refine XS.iconst X16.here hx rfl (hb hby d3_83) ?_
            show Steps p.tables e below (T16.setTop (mkF m 84 #[.val (.ref u0), .val (.int u1), .val (.int u2), .val (.int u3), .val (.int u4), .val (.int u5), .val (.int z3), .val (.int z5)] [(.int (1 : Int32)), (.int u1), (.ref u0)])) _
            refine XS.iadd X16.here hx rfl (hb hby d3_84) rfl ?_
            show Steps p.tables e below (T16.setTop (mkF m 85 #[.val (.ref u0), .val (.int u1), .val (.int u2), .val (.int u3), .val (.int u4), .val (.int u5), .val (.int z3), .val (.int z5)] [(.int (u1 + (1 : Int32))), (.ref u0)])) _
            rw [← ez24]
            refine XS.sipush X16.here hx rfl (hb hby d3_85) ?_
            refine XS.iload X16.here hx rfl (hb hby d3_88) rfl ?_
            refine XS.bipush X16.here hx rfl (hb hby d3_90) ?_
            show Steps p.tables e below (T16.setTop (mkF m 92 #[.val (.ref u0), .val (.int u1), .val (.int u2), .val (.int u3), .val (.int u4), .val (.int u5), .val (.int z3), .val (.int z5)] [(.int (127 : Int32)), (.int z5), (.int (129 : Int32)), (.int z24), (.ref u0)])) _
            refine iremM X16 hx rfl (hb hby d3_92) rfl (by decide) ?_
            show Steps p.tables e below (T16.setTop (mkF m 93 #[.val (.ref u0), .val (.int u1), .val (.int u2), .val (.int u3), .val (.int u4), .val (.int u5), .val (.int z3), .val (.int z5)] [(.int (z5 % (127 : Int32))), (.int (129 : Int32)), (.int z24), (.ref u0)])) _
            rw [← ez25]
            show Steps p.tables e below (T16.setTop (mkF m 93 #[.val (.ref u0), .val (.int u1), .val (.int u2), .val (.int u3), .val (.int u4), .val (.int u5), .val (.int z3), .val (.int z5)] [(.int z25), (.int (129 : Int32)), (.int z24), (.ref u0)])) _
            refine XS.iadd X16.here hx rfl (hb hby d3_93) rfl ?_
            show Steps p.tables e below (T16.setTop (mkF m 94 #[.val (.ref u0), .val (.int u1), .val (.int u2), .val (.int u3), .val (.int u4), .val (.int u5), .val (.int z3), .val (.int z5)] [(.int ((129 : Int32) + z25)), (.int z24), (.ref u0)])) _
            rw [← ez26]
            show Steps p.tables e below (T16.setTop (mkF m 94 #[.val (.ref u0), .val (.int u1), .val (.int u2), .val (.int u3), .val (.int u4), .val (.int u5), .val (.int z3), .val (.int z5)] [(.int z26), (.int z24), (.ref u0)])) _
            refine XS.i2b X16.here hx rfl (hb hby d3_94) rfl ?_
            show Steps p.tables e below (T16.setTop (mkF m 95 #[.val (.ref u0), .val (.int u1), .val (.int u2), .val (.int u3), .val (.int u4), .val (.int u5), .val (.int z3), .val (.int z5)] [(.int (z26.toInt8.toInt32)), (.int z24), (.ref u0)])) _
            rw [← ez27]
            show Steps p.tables e below (T16.setTop (mkF m 95 #[.val (.ref u0), .val (.int u1), .val (.int u2), .val (.int u3), .val (.int u4), .val (.int u5), .val (.int z3), .val (.int z5)] [(.int z27), (.int z24), (.ref u0)])) _
            refine st29 _ ?_
            show Steps p.tables e below (T29.setTop (mkF m 96 #[.val (.ref u0), .val (.int u1), .val (.int u2), .val (.int u3), .val (.int u4), .val (.int u5), .val (.int z3), .val (.int z5)] [])) _
            refine XS.iloadN X29.here hx rfl (hb hby d3_96) rfl ?_
            refine XS.iconst X29.here hx rfl (hb hby d3_97) ?_
            refine XS.icmpNo X29.here hx rfl (hb hby d3_98) rfl (teq hc98).2 ?_
            refine XS.aloadN X29.here hx rfl (hb hby d3_101) rfl rfl ?_
            refine XS.iloadN X29.here hx rfl (hb hby d3_102) rfl ?_
            refine XS.iconst X29.here hx rfl (hb hby d3_103) ?_
            show Steps p.tables e below (T29.setTop (mkF m 104 #[.val (.ref u0), .val (.int u1), .val (.int u2), .val (.int u3), .val (.int u4), .val (.int u5), .val (.int z3), .val (.int z5)] [(.int (2 : Int32)), (.int u1), (.ref u0)])) _
            refine XS.iadd X29.here hx rfl (hb hby d3_104) rfl ?_
            show Steps p.tables e below (T29.setTop (mkF m 105 #[.val (.ref u0), .val (.int u1), .val (.int u2), .val (.int u3), .val (.int u4), .val (.int u5), .val (.int z3), .val (.int z5)] [(.int (u1 + (2 : Int32))), (.ref u0)])) _
            rw [← ez30]
            refine XS.iload X29.here hx rfl (hb hby d3_105) rfl ?_
            refine XS.bipush X29.here hx rfl (hb hby d3_107) ?_
            show Steps p.tables e below (T29.setTop (mkF m 109 #[.val (.ref u0), .val (.int u1), .val (.int u2), .val (.int u3), .val (.int u4), .val (.int u5), .val (.int z3), .val (.int z5)] [(.int (8 : Int32)), (.int u5), (.int z30), (.ref u0)])) _
            refine XS.iushr X29.here hx rfl (hb hby d3_109) rfl ?_
            show Steps p.tables e below (T29.setTop (mkF m 110 #[.val (.ref u0), .val (.int u1), .val (.int u2), .val (.int u3), .val (.int u4), .val (.int u5), .val (.int z3), .val (.int z5)] [(.int ((u5.toUInt32 >>> ((8 : Int32) &&& 31).toUInt32).toInt32)), (.int z30), (.ref u0)])) _
            rw [← ez31]
            refine XS.bipush X29.here hx rfl (hb hby d3_110) ?_
            show Steps p.tables e below (T29.setTop (mkF m 112 #[.val (.ref u0), .val (.int u1), .val (.int u2), .val (.int u3), .val (.int u4), .val (.int u5), .val (.int z3), .val (.int z5)] [(.int (127 : Int32)), (.int z31), (.int z30), (.ref u0)])) _
            refine XS.iand X29.here hx rfl (hb hby d3_112) rfl ?_
            show Steps p.tables e below (T29.setTop (mkF m 113 #[.val (.ref u0), .val (.int u1), .val (.int u2), .val (.int u3), .val (.int u4), .val (.int u5), .val (.int z3), .val (.int z5)] [(.int (z31 &&& (127 : Int32))), (.int z30), (.ref u0)])) _
            rw [← ez32]
            show Steps p.tables e below (T29.setTop (mkF m 113 #[.val (.ref u0), .val (.int u1), .val (.int u2), .val (.int u3), .val (.int u4), .val (.int u5), .val (.int z3), .val (.int z5)] [(.int z32), (.int z30), (.ref u0)])) _
            refine XS.i2b X29.here hx rfl (hb hby d3_113) rfl ?_
            show Steps p.tables e below (T29.setTop (mkF m 114 #[.val (.ref u0), .val (.int u1), .val (.int u2), .val (.int u3), .val (.int u4), .val (.int u5), .val (.int z3), .val (.int z5)] [(.int (z32.toInt8.toInt32)), (.int z30), (.ref u0)])) _
            rw [← ez33]
            show Steps p.tables e below (T29.setTop (mkF m 114 #[.val (.ref u0), .val (.int u1), .val (.int u2), .val (.int u3), .val (.int u4), .val (.int u5), .val (.int z3), .val (.int z5)] [(.int z33), (.int z30), (.ref u0)])) _
            refine st35 _ ?_
            show Steps p.tables e below (T35.setTop (mkF m 115 #[.val (.ref u0), .val (.int u1), .val (.int u2), .val (.int u3), .val (.int u4), .val (.int u5), .val (.int z3), .val (.int z5)] [])) _
            refine XS.iloadN X35.here hx rfl (hb hby d3_115) rfl ?_
            refine XS.iconst X35.here hx rfl (hb hby d3_116) ?_
            show Steps p.tables e below (T35.setTop (mkF m 117 #[.val (.ref u0), .val (.int u1), .val (.int u2), .val (.int u3), .val (.int u4), .val (.int u5), .val (.int z3), .val (.int z5)] [(.int (3 : Int32)), (.int u1)])) _
            refine XS.iadd X35.here hx rfl (hb hby d3_117) rfl ?_
            show Steps p.tables e below (T35.setTop (mkF m 118 #[.val (.ref u0), .val (.int u1), .val (.int u2), .val (.int u3), .val (.int u4), .val (.int u5), .val (.int z3), .val (.int z5)] [(.int (u1 + (3 : Int32)))])) _
            rw [← ez36]
            show Steps p.tables e below (T35.setTop (mkF m 118 #[.val (.ref u0), .val (.int u1), .val (.int u2), .val (.int u3), .val (.int u4), .val (.int u5), .val (.int z3), .val (.int z5)] [(.int z36)])) _
            exact retI X35 hx Bd.returns (hb hby d3_118) hr
          · show Q3 Z u0 u1 u2 u3 u4 u5 nn gg h0 n0 _ T35.heap _
            rw [e35]
            exact ⟨_, g35, rfl, N35, KK35, V35, (by omega), (fun i hi => by rw [gn35 i (by omega), gn29 i (by omega), gn16 i (by omega)]), (by unfold TagOK; refine ⟨fun _ => by omega, fun _ => by omega, fun _ => by omega, fun _ => by omega, fun _ => by omega, fun _ => ⟨by omega, by omega⟩, by omega⟩)⟩
        · have nhc98 : ¬ u2.toInt = (2 : Int) := own_eq0 rfl rfl hc98
          obtain ⟨z37, ez37⟩ : ∃ y : Int32, y = (u1 + (2 : Int32)) := ⟨_, rfl⟩
          have nz37 : z37.toInt = u1.toInt + (2 : Int) := by rw [ez37]; exact own_iadd (x := u1.toInt) (y := (2 : Int)) rfl rfl (by omega) (by omega)
          obtain ⟨z38, ez38⟩ : ∃ y : Int32, y = ((u5.toUInt32 >>> ((16 : Int32) &&& 31).toUInt32).toInt32) := ⟨_, rfl⟩
          obtain ⟨z39, ez39⟩ : ∃ y : Int32, y = (z38 &&& (127 : Int32)) := ⟨_, rfl⟩
          have nz39 : 0 ≤ z39.toInt ∧ z39.toInt ≤ 127 := by rw [ez39]; exact c_and z38 (127 : Int32) (by decide)
          obtain ⟨z40, ez40⟩ : ∃ y : Int32, y = ((128 : Int32) ||| z39) := ⟨_, rfl⟩
          have nz40 : z40.toInt = (128 : Int) + z39.toInt := by rw [ez40]; exact own_or 7 128 (by decide) (by decide) (x := (128 : Int)) (y := z39.toInt) rfl rfl (by omega) (by omega) (by omega) (by omega) (by omega)
          obtain ⟨z41, ez41⟩ : ∃ y : Int32, y = (z40.toInt8.toInt32) := ⟨_, rfl⟩
          have nz41 : (z41.toInt - z40.toInt) % 256 = 0 ∧ -128 ≤ z41.toInt ∧ z41.toInt < 128 := by rw [ez41]; exact c_i2b z40
          obtain ⟨cl42, Ar42, Sa42, Ma42, Ha42⟩ := id V29
          have i42 : 0 ≤ (z37).toInt ∧ (z37).toInt < nn := by omega
          obtain ⟨T43, h43, X43, e43, W43, st43⟩ := stB X29 hx hZ e29 Ar42 (j := z37) (cel_inb Sa42 i42.1 i42.2) (g := (mkF m 136 #[.val (.ref u0), .val (.int u1), .val (.int u2), .val (.int u3), .val (.int u4), .val (.int u5), .val (.int z3), .val (.int z5)] [(.int z41), (.int z37), (.ref u0)])) rfl rfl (hb hby d3_136)
          have V43 := Byt.set (g := g29) Ar42 Sa42 Ma42 Ha42 i42.1 i42.2 W43
          obtain ⟨g43, eg43⟩ : ∃ z, z = upd g29 (z37).toInt ((z41).toInt % 256) := ⟨_, rfl⟩
          rw [← eg43] at V43
          have ga43 : g43 z37.toInt = z41.toInt % 256 := by rw [eg43]; exact upd_at _ _ _
          have gn43 : ∀ i, i ≠ z37.toInt → g43 i = g29 i := fun i hi => by rw [eg43]; exact upd_ne _ _ _ hi
          have N43 := Fr.snoc X43 N29 g_u0
          have Z43 : n0 ≤ h43.size := Nat.le_trans Z29 (Keep.of_wr W43).1
          have KK43 := KK29.wr W43 (Or.inl (List.mem_of_getElem? (i := 0) rfl))
          obtain ⟨z44, ez44⟩ : ∃ y : Int32, y = (u1 + (3 : Int32)) := ⟨_, rfl⟩
          have nz44 : z44.toInt = u1.toInt + (3 : Int) := by rw [ez44]; exact own_iadd (x := u1.toInt) (y := (3 : Int)) rfl rfl (by omega) (by omega)
          obtain ⟨z45, ez45⟩ : ∃ y : Int32, y = ((u5.toUInt32 >>> ((24 : Int32) &&& 31).toUInt32).toInt32) := ⟨_, rfl⟩
          obtain ⟨z46, ez46⟩ : ∃ y : Int32, y = (z45 &&& (127 : Int32)) := ⟨_, rfl⟩
          have nz46 : 0 ≤ z46.toInt ∧ z46.toInt ≤ 127 := by rw [ez46]; exact c_and z45 (127 : Int32) (by decide)
          obtain ⟨z47, ez47⟩ : ∃ y : Int32, y = (z46.toInt8.toInt32) := ⟨_, rfl⟩
          have nz47 : (z47.toInt - z46.toInt) % 256 = 0 ∧ -128 ≤ z47.toInt ∧ z47.toInt < 128 := by rw [ez47]; exact c_i2b z46
          obtain ⟨cl48, Ar48, Sa48, Ma48, Ha48⟩ := id V43
          have i48 : 0 ≤ (z44).toInt ∧ (z44).toInt < nn := by omega
          obtain ⟨T49, h49, X49, e49, W49, st49⟩ := stB X43 hx hZ e43 Ar48 (j := z44) (cel_inb Sa48 i48.1 i48.2) (g := (mkF m 150 #[.val (.ref u0), .val (.int u1), .val (.int u2), .val (.int u3), .val (.int u4), .val (.int u5), .val (.int z3), .val (.int z5)] [(.int z47), (.int z44), (.ref u0)])) rfl rfl (hb hby d3_150)
          have V49 := Byt.set (g := g43) Ar48 Sa48 Ma48 Ha48 i48.1 i48.2 W49
          obtain ⟨g49, eg49⟩ : ∃ z, z = upd g43 (z44).toInt ((z47).toInt % 256) := ⟨_, rfl⟩
          rw [← eg49] at V49
          have ga49 : g49 z44.toInt = z47.toInt % 256 := by rw [eg49]; exact upd_at _ _ _
          have gn49 : ∀ i, i ≠ z44.toInt → g49 i = g43 i := fun i hi => by rw [eg49]; exact upd_ne _ _ _ hi
          have N49 := Fr.snoc X49 N43 g_u0
          have Z49 : n0 ≤ h49.size := Nat.le_trans Z43 (Keep.of_wr W49).1
          have KK49 := KK43.wr W49 (Or.inl (List.mem_of_getElem? (i := 0) rfl))
          obtain ⟨z50, ez50⟩ : ∃ y : Int32, y = (u1 + (4 : Int32)) := ⟨_, rfl⟩
          have nz50 : z50.toInt = u1.toInt + (4 : Int) := by rw [ez50]; exact own_iadd (x := u1.toInt) (y := (4 : Int)) rfl rfl (by omega) (by omega)
          have va16 : g49 u1.toInt = z14.toInt % 256 := by rw [gn49 u1.toInt (by omega), gn43 u1.toInt (by omega), gn29 u1.toInt (by omega)]; exact ga16
          have vb16 : g49 u1.toInt = z14.toInt % 256 := va16
          have va29 : g49 z24.toInt = z27.toInt % 256 := by rw [gn49 z24.toInt (by omega), gn43 z24.toInt (by omega)]; exact ga29
          have vb29 : g49 (u1.toInt + 1) = z27.toInt % 256 := by have q := va29; rwa [show z24.toInt = u1.toInt + 1 from by omega] at q
          have va43 : g49 z37.toInt = z41.toInt % 256 := by rw [gn49 z37.toInt (by omega)]; exact ga43
          have vb43 : g49 (u1.toInt + 2) = z41.toInt % 256 := by have q := va43; rwa [show z37.toInt = u1.toInt + 2 from by omega] at q
          have va49 : g49 z44.toInt = z47.toInt % 256 := by exact ga49
          have vb49 : g49 (u1.toInt + 3) = z47.toInt % 256 := by have q := va49; rwa [show z44.toInt = u1.toInt + 3 from by omega] at q
          obtain ⟨fs, hr, hrun, hended, hW, hsame⟩ := X49.leave (v := some (.int z50)) (fun h => by rw [Bd.returns] at h; cases h)
          refine ⟨_, _, pre0 _ ?_, hrun, hended, _, _, rfl, ?_, ⟨_, rfl⟩, hW, hsame.mono (by decide) (by decide)⟩
          · show Steps p.tables e below (s₁.setTop (mkF m 0 #[.val (.ref u0), .val (.int u1), .val (.int u2), .val (.int u3), .val (.int u4), .val (.int u5), .unset, .unset] [])) _
            refine XS.iloadN X0.here hx rfl (hb hby d3_0) rfl ?_
            refine XS.iconst X0.here hx rfl (hb hby d3_1) ?_
            show Steps p.tables e below (s₁.setTop (mkF m 2 #[.val (.ref u0), .val (.int u1), .val (.int u2), .val (.int u3), .val (.int u4), .val (.int u5), .unset, .unset] [(.int (3 : Int32)), (.int u3)])) _
            refine XS.iand X0.here hx rfl (hb hby d3_2) rfl ?_
            show Steps p.tables e below (s₁.setTop (mkF m 3 #[.val (.ref u0), .val (.int u1), .val (.int u2), .val (.int u3), .val (.int u4), .val (.int u5), .unset, .unset] [(.int (u3 &&& (3 : Int32)))])) _
            rw [← ez1]
            refine XS.bipush X0.here hx rfl (hb hby d3_3) ?_
            show Steps p.tables e below (s₁.setTop (mkF m 5 #[.val (.ref u0), .val (.int u1), .val (.int u2), .val (.int u3), .val (.int u4), .val (.int u5), .unset, .unset] [(.int (6 : Int32)), (.int z1)])) _
            refine XS.ishl X0.here hx rfl (hb hby d3_5) rfl ?_
            show Steps p.tables e below (s₁.setTop (mkF m 6 #[.val (.ref u0), .val (.int u1), .val (.int u2), .val (.int u3), .val (.int u4), .val (.int u5), .unset, .unset] [(.int (z1 <<< ((6 : Int32) &&& 31)))])) _
            rw [← ez2]
            refine XS.iload X0.here hx rfl (hb hby d3_6) rfl ?_
            refine XS.ifYes X0.here hx rfl (pc0 := 8) (pc' := 16) rfl (hb hby d3_8) rfl ((if0 _ _).trans (teq hc8).1) (by decide) (by decide) ?_
            refine XS.iconst X0.here hx rfl (hb hby d3_16) ?_
            show Steps p.tables e below (s₁.setTop (mkF m 17 #[.val (.ref u0), .val (.int u1), .val (.int u2), .val (.int u3), .val (.int u4), .val (.int u5), .unset, .unset] [(.int (0 : Int32)), (.int z2)])) _
            refine XS.ior X0.here hx rfl (hb hby d3_17) rfl ?_
            show Steps p.tables e below (s₁.setTop (mkF m 18 #[.val (.ref u0), .val (.int u1), .val (.int u2), .val (.int u3), .val (.int u4), .val (.int u5), .unset, .unset] [(.int (z2 ||| (0 : Int32)))])) _
            rw [← ez3]
            refine XS.istore X0.here hx rfl (hb hby d3_18) rfl (l' := #[.val (.ref u0), .val (.int u1), .val (.int u2), .val (.int u3), .val (.int u4), .val (.int u5), .val (.int z3), .unset]) rfl ?_
            refine XS.iload X0.here hx rfl (hb hby d3_20) rfl ?_
            show Steps p.tables e below (s₁.setTop (mkF m 22 #[.val (.ref u0), .val (.int u1), .val (.int u2), .val (.int u3), .val (.int u4), .val (.int u5), .val (.int z3), .unset] [(.int u5)])) _
            refine st4 _ ?_
            show Steps p.tables e below (s₁.setTop (mkF m 24 #[.val (.ref u0), .val (.int u1), .val (.int u2), .val (.int u3), .val (.int u4), .val (.int u5), .val (.int z3), .unset] [(.int (2147483647 : Int32)), (.int u5)])) _
            refine XS.iand X0.here hx rfl (hb hby d3_24) rfl ?_
            show Steps p.tables e below (s₁.setTop (mkF m 25 #[.val (.ref u0), .val (.int u1), .val (.int u2), .val (.int u3), .val (.int u4), .val (.int u5), .val (.int z3), .unset] [(.int (u5 &&& (2147483647 : Int32)))])) _
            rw [← ez5]
            refine XS.istore X0.here hx rfl (hb hby d3_25) rfl (l' := #[.val (.ref u0), .val (.int u1), .val (.int u2), .val (.int u3), .val (.int u4), .val (.int u5), .val (.int z3), .val (.int z5)]) rfl ?_
            refine XS.iloadN X0.here hx rfl (hb hby d3_27) rfl ?_
            refine XS.ifYes X0.here hx rfl (pc0 := 28) (pc' := 49) rfl (hb hby d3_28) rfl ((if0 _ _).trans (feq hc28).2) (by decide) (by decide) ?_
            refine XS.aloadN X0.here hx rfl (hb hby d3_49) rfl rfl ?_
            refine XS.iloadN X0.here hx rfl (hb hby d3_50) rfl ?_
            refine XS.iload X0.here hx rfl (hb hby d3_51) rfl ?_
            refine XS.bipush X0.here hx rfl (hb hby d3_53) ?_
            show Steps p.tables e below (s₁.setTop (mkF m 55 #[.val (.ref u0), .val (.int u1), .val (.int u2), .val (.int u3), .val (.int u4), .val (.int u5), .val (.int z3), .val (.int z5)] [(.int (31 : Int32)), (.int z3), (.int u1), (.ref u0)])) _
            refine XS.ior X0.here hx rfl (hb hby d3_55) rfl ?_
            show Steps p.tables e below (s₁.setTop (mkF m 56 #[.val (.ref u0), .val (.int u1), .val (.int u2), .val (.int u3), .val (.int u4), .val (.int u5), .val (.int z3), .val (.int z5)] [(.int (z3 ||| (31 : Int32))), (.int u1), (.ref u0)])) _
            rw [← ez13]
            show Steps p.tables e below (s₁.setTop (mkF m 56 #[.val (.ref u0), .val (.int u1), .val (.int u2), .val (.int u3), .val (.int u4), .val (.int u5), .val (.int z3), .val (.int z5)] [(.int z13), (.int u1), (.ref u0)])) _
            refine XS.i2b X0.here hx rfl (hb hby d3_56) rfl ?_
            show Steps p.tables e below (s₁.setTop (mkF m 57 #[.val (.ref u0), .val (.int u1), .val (.int u2), .val (.int u3), .val (.int u4), .val (.int u5), .val (.int z3), .val (.int z5)] [(.int (z13.toInt8.toInt32)), (.int u1), (.ref u0)])) _
            rw [← ez14]
            show Steps p.tables e below (s₁.setTop (mkF m 57 #[.val (.ref u0), .val (.int u1), .val (.int u2), .val (.int u3), .val (.int u4), .val (.int u5), .val (.int z3), .val (.int z5)] [(.int z14), (.int u1), (.ref u0)])) _
            refine st16 _ ?_
            show Steps p.tables e below (T16.setTop (mkF m 58 #[.val (.ref u0), .val (.int u1), .val (.int u2), .val (.int u3), .val (.int u4), .val (.int u5), .val (.int z3), .val (.int z5)] [])) _
            refine XS.iloadN X16.here hx rfl (hb hby d3_58) rfl ?_
            refine XS.iconst X16.here hx rfl (hb hby d3_59) ?_
            refine XS.icmpYes X16.here hx rfl (pc0 := 60) (pc' := 81) rfl (hb hby d3_60) rfl (feq hc60).2 (by decide) (by decide) ?_
            refine XS.aloadN X16.here hx rfl (hb hby d3_81) rfl rfl ?_
            refine XS.iloadN X16.here hx rfl (hb hby d3_82) rfl ?_
            refine XS.iconst X16.here hx rfl (hb hby d3_83) ?_
            show Steps p.tables e below (T16.setTop (mkF m 84 #[.val (.ref u0), .val (.int u1), .val (.int u2), .val (.int u3), .val (.int u4), .val (.int u5), .val (.int z3), .val (.int z5)] [(.int (1 : Int32)), (.int u1), (.ref u0)])) _
            refine XS.iadd X16.here hx rfl (hb hby d3_84) rfl ?_
            show Steps p.tables e below (T16.setTop (mkF m 85 #[.val (.ref u0), .val (.int u1), .val (.int u2), .val (.int u3), .val (.int u4), .val (.int u5), .val (.int z3), .val (.int z5)] [(.int (u1 + (1 : Int32))), (.ref u0)])) _
            rw [← ez24]
            refine XS.sipush X16.here hx rfl (hb hby d3_85) ?_
            refine XS.iload X16.here hx rfl (hb hby d3_88) rfl ?_
            refine XS.bipush X16.here hx rfl (hb hby d3_90) ?_
            show Steps p.tables e below (T16.setTop (mkF m 92 #[.val (.ref u0), .val (.int u1), .val (.int u2), .val (.int u3), .val (.int u4), .val (.int u5), .val (.int z3), .val (.int z5)] [(.int (127 : Int32)), (.int z5), (.int (129 : Int32)), (.int z24), (.ref u0)])) _
            refine iremM X16 hx rfl (hb hby d3_92) rfl (by decide) ?_
            show Steps p.tables e below (T16.setTop (mkF m 93 #[.val (.ref u0), .val (.int u1), .val (.int u2), .val (.int u3), .val (.int u4), .val (.int u5), .val (.int z3), .val (.int z5)] [(.int (z5 % (127 : Int32))), (.int (129 : Int32)), (.int z24), (.ref u0)])) _
            rw [← ez25]
            show Steps p.tables e below (T16.setTop (mkF m 93 #[.val (.ref u0), .val (.int u1), .val (.int u2), .val (.int u3), .val (.int u4), .val (.int u5), .val (.int z3), .val (.int z5)] [(.int z25), (.int (129 : Int32)), (.int z24), (.ref u0)])) _
            refine XS.iadd X16.here hx rfl (hb hby d3_93) rfl ?_
            show Steps p.tables e below (T16.setTop (mkF m 94 #[.val (.ref u0), .val (.int u1), .val (.int u2), .val (.int u3), .val (.int u4), .val (.int u5), .val (.int z3), .val (.int z5)] [(.int ((129 : Int32) + z25)), (.int z24), (.ref u0)])) _
            rw [← ez26]
            show Steps p.tables e below (T16.setTop (mkF m 94 #[.val (.ref u0), .val (.int u1), .val (.int u2), .val (.int u3), .val (.int u4), .val (.int u5), .val (.int z3), .val (.int z5)] [(.int z26), (.int z24), (.ref u0)])) _
            refine XS.i2b X16.here hx rfl (hb hby d3_94) rfl ?_
            show Steps p.tables e below (T16.setTop (mkF m 95 #[.val (.ref u0), .val (.int u1), .val (.int u2), .val (.int u3), .val (.int u4), .val (.int u5), .val (.int z3), .val (.int z5)] [(.int (z26.toInt8.toInt32)), (.int z24), (.ref u0)])) _
            rw [← ez27]
            show Steps p.tables e below (T16.setTop (mkF m 95 #[.val (.ref u0), .val (.int u1), .val (.int u2), .val (.int u3), .val (.int u4), .val (.int u5), .val (.int z3), .val (.int z5)] [(.int z27), (.int z24), (.ref u0)])) _
            refine st29 _ ?_
            show Steps p.tables e below (T29.setTop (mkF m 96 #[.val (.ref u0), .val (.int u1), .val (.int u2), .val (.int u3), .val (.int u4), .val (.int u5), .val (.int z3), .val (.int z5)] [])) _
            refine XS.iloadN X29.here hx rfl (hb hby d3_96) rfl ?_
            refine XS.iconst X29.here hx rfl (hb hby d3_97) ?_
            refine XS.icmpYes X29.here hx rfl (pc0 := 98) (pc' := 119) rfl (hb hby d3_98) rfl (feq hc98).2 (by decide) (by decide) ?_
            refine XS.aloadN X29.here hx rfl (hb hby d3_119) rfl rfl ?_
            refine XS.iloadN X29.here hx rfl (hb hby d3_120) rfl ?_
            refine XS.iconst X29.here hx rfl (hb hby d3_121) ?_
            show Steps p.tables e below (T29.setTop (mkF m 122 #[.val (.ref u0), .val (.int u1), .val (.int u2), .val (.int u3), .val (.int u4), .val (.int u5), .val (.int z3), .val (.int z5)] [(.int (2 : Int32)), (.int u1), (.ref u0)])) _
            refine XS.iadd X29.here hx rfl (hb hby d3_122) rfl ?_
            show Steps p.tables e below (T29.setTop (mkF m 123 #[.val (.ref u0), .val (.int u1), .val (.int u2), .val (.int u3), .val (.int u4), .val (.int u5), .val (.int z3), .val (.int z5)] [(.int (u1 + (2 : Int32))), (.ref u0)])) _
            rw [← ez37]
            refine XS.sipush X29.here hx rfl (hb hby d3_123) ?_
            refine XS.iload X29.here hx rfl (hb hby d3_126) rfl ?_
            refine XS.bipush X29.here hx rfl (hb hby d3_128) ?_
            show Steps p.tables e below (T29.setTop (mkF m 130 #[.val (.ref u0), .val (.int u1), .val (.int u2), .val (.int u3), .val (.int u4), .val (.int u5), .val (.int z3), .val (.int z5)] [(.int (16 : Int32)), (.int u5), (.int (128 : Int32)), (.int z37), (.ref u0)])) _
            refine XS.iushr X29.here hx rfl (hb hby d3_130) rfl ?_
            show Steps p.tables e below (T29.setTop (mkF m 131 #[.val (.ref u0), .val (.int u1), .val (.int u2), .val (.int u3), .val (.int u4), .val (.int u5), .val (.int z3), .val (.int z5)] [(.int ((u5.toUInt32 >>> ((16 : Int32) &&& 31).toUInt32).toInt32)), (.int (128 : Int32)), (.int z37), (.ref u0)])) _
            rw [← ez38]
            refine XS.bipush X29.here hx rfl (hb hby d3_131) ?_
            show Steps p.tables e below (T29.setTop (mkF m 133 #[.val (.ref u0), .val (.int u1), .val (.int u2), .val (.int u3), .val (.int u4), .val (.int u5), .val (.int z3), .val (.int z5)] [(.int (127 : Int32)), (.int z38), (.int (128 : Int32)), (.int z37), (.ref u0)])) _
            refine XS.iand X29.here hx rfl (hb hby d3_133) rfl ?_
            show Steps p.tables e below (T29.setTop (mkF m 134 #[.val (.ref u0), .val (.int u1), .val (.int u2), .val (.int u3), .val (.int u4), .val (.int u5), .val (.int z3), .val (.int z5)] [(.int (z38 &&& (127 : Int32))), (.int (128 : Int32)), (.int z37), (.ref u0)])) _
            rw [← ez39]
            show Steps p.tables e below (T29.setTop (mkF m 134 #[.val (.ref u0), .val (.int u1), .val (.int u2), .val (.int u3), .val (.int u4), .val (.int u5), .val (.int z3), .val (.int z5)] [(.int z39), (.int (128 : Int32)), (.int z37), (.ref u0)])) _
            refine XS.ior X29.here hx rfl (hb hby d3_134) rfl ?_
            show Steps p.tables e below (T29.setTop (mkF m 135 #[.val (.ref u0), .val (.int u1), .val (.int u2), .val (.int u3), .val (.int u4), .val (.int u5), .val (.int z3), .val (.int z5)] [(.int ((128 : Int32) ||| z39)), (.int z37), (.ref u0)])) _
            rw [← ez40]
            show Steps p.tables e below (T29.setTop (mkF m 135 #[.val (.ref u0), .val (.int u1), .val (.int u2), .val (.int u3), .val (.int u4), .val (.int u5), .val (.int z3), .val (.int z5)] [(.int z40), (.int z37), (.ref u0)])) _
            refine XS.i2b X29.here hx rfl (hb hby d3_135) rfl ?_
            show Steps p.tables e below (T29.setTop (mkF m 136 #[.val (.ref u0), .val (.int u1), .val (.int u2), .val (.int u3), .val (.int u4), .val (.int u5), .val (.int z3), .val (.int z5)] [(.int (z40.toInt8.toInt32)), (.int z37), (.ref u0)])) _
            rw [← ez41]
            show Steps p.tables e below (T29.setTop (mkF m 136 #[.val (.ref u0), .val (.int u1), .val (.int u2), .val (.int u3), .val (.int u4), .val (.int u5), .val (.int z3), .val (.int z5)] [(.int z41), (.int z37), (.ref u0)])) _
            refine st43 _ ?_
            show Steps p.tables e below (T43.setTop (mkF m 137 #[.val (.ref u0), .val (.int u1), .val (.int u2), .val (.int u3), .val (.int u4), .val (.int u5), .val (.int z3), .val (.int z5)] [])) _
            refine XS.aloadN X43.here hx rfl (hb hby d3_137) rfl rfl ?_
            refine XS.iloadN X43.here hx rfl (hb hby d3_138) rfl ?_
            refine XS.iconst X43.here hx rfl (hb hby d3_139) ?_
            show Steps p.tables e below (T43.setTop (mkF m 140 #[.val (.ref u0), .val (.int u1), .val (.int u2), .val (.int u3), .val (.int u4), .val (.int u5), .val (.int z3), .val (.int z5)] [(.int (3 : Int32)), (.int u1), (.ref u0)])) _
            refine XS.iadd X43.here hx rfl (hb hby d3_140) rfl ?_
            show Steps p.tables e below (T43.setTop (mkF m 141 #[.val (.ref u0), .val (.int u1), .val (.int u2), .val (.int u3), .val (.int u4), .val (.int u5), .val (.int z3), .val (.int z5)] [(.int (u1 + (3 : Int32))), (.ref u0)])) _
            rw [← ez44]
            refine XS.iload X43.here hx rfl (hb hby d3_141) rfl ?_
            refine XS.bipush X43.here hx rfl (hb hby d3_143) ?_
            show Steps p.tables e below (T43.setTop (mkF m 145 #[.val (.ref u0), .val (.int u1), .val (.int u2), .val (.int u3), .val (.int u4), .val (.int u5), .val (.int z3), .val (.int z5)] [(.int (24 : Int32)), (.int u5), (.int z44), (.ref u0)])) _
            refine XS.iushr X43.here hx rfl (hb hby d3_145) rfl ?_
            show Steps p.tables e below (T43.setTop (mkF m 146 #[.val (.ref u0), .val (.int u1), .val (.int u2), .val (.int u3), .val (.int u4), .val (.int u5), .val (.int z3), .val (.int z5)] [(.int ((u5.toUInt32 >>> ((24 : Int32) &&& 31).toUInt32).toInt32)), (.int z44), (.ref u0)])) _
            rw [← ez45]
            refine XS.bipush X43.here hx rfl (hb hby d3_146) ?_
            show Steps p.tables e below (T43.setTop (mkF m 148 #[.val (.ref u0), .val (.int u1), .val (.int u2), .val (.int u3), .val (.int u4), .val (.int u5), .val (.int z3), .val (.int z5)] [(.int (127 : Int32)), (.int z45), (.int z44), (.ref u0)])) _
            refine XS.iand X43.here hx rfl (hb hby d3_148) rfl ?_
            show Steps p.tables e below (T43.setTop (mkF m 149 #[.val (.ref u0), .val (.int u1), .val (.int u2), .val (.int u3), .val (.int u4), .val (.int u5), .val (.int z3), .val (.int z5)] [(.int (z45 &&& (127 : Int32))), (.int z44), (.ref u0)])) _
            rw [← ez46]
            show Steps p.tables e below (T43.setTop (mkF m 149 #[.val (.ref u0), .val (.int u1), .val (.int u2), .val (.int u3), .val (.int u4), .val (.int u5), .val (.int z3), .val (.int z5)] [(.int z46), (.int z44), (.ref u0)])) _
            refine XS.i2b X43.here hx rfl (hb hby d3_149) rfl ?_
            show Steps p.tables e below (T43.setTop (mkF m 150 #[.val (.ref u0), .val (.int u1), .val (.int u2), .val (.int u3), .val (.int u4), .val (.int u5), .val (.int z3), .val (.int z5)] [(.int (z46.toInt8.toInt32)), (.int z44), (.ref u0)])) _
            rw [← ez47]
            show Steps p.tables e below (T43.setTop (mkF m 150 #[.val (.ref u0), .val (.int u1), .val (.int u2), .val (.int u3), .val (.int u4), .val (.int u5), .val (.int z3), .val (.int z5)] [(.int z47), (.int z44), (.ref u0)])) _
            refine st49 _ ?_
            show Steps p.tables e below (T49.setTop (mkF m 151 #[.val (.ref u0), .val (.int u1), .val (.int u2), .val (.int u3), .val (.int u4), .val (.int u5), .val (.int z3), .val (.int z5)] [])) _
            refine XS.iloadN X49.here hx rfl (hb hby d3_151) rfl ?_
            refine XS.iconst X49.here hx rfl (hb hby d3_152) ?_
            show Steps p.tables e below (T49.setTop (mkF m 153 #[.val (.ref u0), .val (.int u1), .val (.int u2), .val (.int u3), .val (.int u4), .val (.int u5), .val (.int z3), .val (.int z5)] [(.int (4 : Int32)), (.int u1)])) _
            refine XS.iadd X49.here hx rfl (hb hby d3_153) rfl ?_
            show Steps p.tables e below (T49.setTop (mkF m 154 #[.val (.ref u0), .val (.int u1), .val (.int u2), .val (.int u3), .val (.int u4), .val (.int u5), .val (.int z3), .val (.int z5)] [(.int (u1 + (4 : Int32)))])) _
            rw [← ez50]
            show Steps p.tables e below (T49.setTop (mkF m 154 #[.val (.ref u0), .val (.int u1), .val (.int u2), .val (.int u3), .val (.int u4), .val (.int u5), .val (.int z3), .val (.int z5)] [(.int z50)])) _
            exact retI X49 hx Bd.returns (hb hby d3_154) hr
          · show Q3 Z u0 u1 u2 u3 u4 u5 nn gg h0 n0 _ T49.heap _
            rw [e49]
            exact ⟨_, g49, rfl, N49, KK49, V49, (by omega), (fun i hi => by rw [gn49 i (by omega), gn43 i (by omega), gn29 i (by omega), gn16 i (by omega)]), (by unfold TagOK; refine ⟨fun _ => by omega, fun _ => by omega, fun _ => by omega, fun _ => by omega, fun _ => by omega, fun _ => ⟨by omega, by omega⟩, by omega⟩)⟩
  · have nhc8 : ¬ u4.toInt = (0 : Int) := own_eq0 rfl rfl hc8
    obtain ⟨z51, ez51⟩ : ∃ y : Int32, y = (z2 ||| (32 : Int32)) := ⟨_, rfl⟩
    have nz51 : z51.toInt = z2.toInt + (32 : Int) := by rw [ez51]; exact own_or 6 64 (by decide) (by decide) (x := z2.toInt) (y := (32 : Int)) rfl rfl (by omega) (by omega) (by omega) (by omega) (by omega)
    have st52 := X0.ldcInt hx hown (mvT hZ (hw _ (List.mem_of_getElem? (i := 12) rfl))) (g := (mkF m 22 #[.val (.ref u0), .val (.int u1), .val (.int u2), .val (.int u3), .val (.int u4), .val (.int u5), .val (.int z51), .unset] [(.int u5)])) rfl (hb hby d3_22)
    obtain ⟨z53, ez53⟩ : ∃ y : Int32, y = (u5 &&& (2147483647 : Int32)) := ⟨_, rfl⟩
    have nz53 : 0 ≤ z53.toInt ∧ z53.toInt ≤ 2147483647 := by rw [ez53]; exact c_and u5 (2147483647 : Int32) (by decide)
    by_cases hc28 : u2 = (0 : Int32)
    · have nhc28 : u2.toInt = (0 : Int) := own_eq1 rfl rfl hc28
      obtain ⟨z54, ez54⟩ : ∃ y : Int32, y = (z53 % (30 : Int32)) := ⟨_, rfl⟩
      have nz54 : 0 ≤ z54.toInt ∧ z54.toInt < 30 := by rw [ez54]; exact own_irem rfl (by decide) (by omega)
      obtain ⟨z55, ez55⟩ : ∃ y : Int32, y = ((1 : Int32) + z54) := ⟨_, rfl⟩
      have nz55 : z55.toInt = (1 : Int) + z54.toInt := by rw [ez55]; exact own_iadd (x := (1 : Int)) (y := z54.toInt) rfl rfl (by omega) (by omega)
      obtain ⟨z56, ez56⟩ : ∃ y : Int32, y = (z51 ||| z55) := ⟨_, rfl⟩
      have nz56 : z56.toInt = z51.toInt + z55.toInt := by rw [ez56]; exact own_or 5 32 (by decide) (by decide) (x := z51.toInt) (y := z55.toInt) rfl rfl (by omega) (by omega) (by omega) (by omega) (by omega)
      obtain ⟨z57, ez57⟩ : ∃ y : Int32, y = (z56.toInt8.toInt32) := ⟨_, rfl⟩
      have nz57 : (z57.toInt - z56.toInt) % 256 = 0 ∧ -128 ≤ z57.toInt ∧ z57.toInt < 128 := by rw [ez57]; exact c_i2b z56
      obtain ⟨cl58, Ar58, Sa58, Ma58, Ha58⟩ := id V_u0
      have i58 : 0 ≤ (u1).toInt ∧ (u1).toInt < nn := by omega
      obtain ⟨T59, h59, X59, e59, W59, st59⟩ := stB X0 hx hZ e0 Ar58 (j := u1) (cel_inb Sa58 i58.1 i58.2) (g := (mkF m 44 #[.val (.ref u0), .val (.int u1), .val (.int u2), .val (.int u3), .val (.int u4), .val (.int u5), .val (.int z51), .val (.int z53)] [(.int z57), (.int u1), (.ref u0)])) rfl rfl (hb hby d3_44)
      have V59 := Byt.set (g := gg) Ar58 Sa58 Ma58 Ha58 i58.1 i58.2 W59
      obtain ⟨g59, eg59⟩ : ∃ z, z = upd gg (u1).toInt ((z57).toInt % 256) := ⟨_, rfl⟩
      rw [← eg59] at V59
      have ga59 : g59 u1.toInt = z57.toInt % 256 := by rw [eg59]; exact upd_at _ _ _
      have gn59 : ∀ i, i ≠ u1.toInt → g59 i = gg i := fun i hi => by rw [eg59]; exact upd_ne _ _ _ hi
      have N59 := Fr.snoc X59 N0 g_u0
      have Z59 : n0 ≤ h59.size := Nat.le_trans Z0 (Keep.of_wr W59).1
      have KK59 := (Keep.refl h0 [u0]).wr W59 (Or.inl (List.mem_of_getElem? (i := 0) rfl))
      obtain ⟨z60, ez60⟩ : ∃ y : Int32, y = (u1 + (1 : Int32)) := ⟨_, rfl⟩
      have nz60 : z60.toInt = u1.toInt + (1 : Int) := by rw [ez60]; exact own_iadd (x := u1.toInt) (y := (1 : Int)) rfl rfl (by omega) (by omega)
      have va59 : g59 u1.toInt = z57.toInt % 256 := by exact ga59
      have vb59 : g59 u1.toInt = z57.toInt % 256 := va59
      obtain ⟨fs, hr, hrun, hended, hW, hsame⟩ := X59.leave (v := some (.int z60)) (fun h => by rw [Bd.returns] at h; cases h)
      refine ⟨_, _, pre0 _ ?_, hrun, hended, _, _, rfl, ?_, ⟨_, rfl⟩, hW, hsame.mono (by decide) (by decide)⟩
      · show Steps p.tables e below (s₁.setTop (mkF m 0 #[.val (.ref u0), .val (.int u1), .val (.int u2), .val (.int u3), .val (.int u4), .val (.int u5), .unset, .unset] [])) _
        refine XS.iloadN X0.here hx rfl (hb hby d3_0) rfl ?_
        refine XS.iconst X0.here hx rfl (hb hby d3_1) ?_
        show Steps p.tables e below (s₁.setTop (mkF m 2 #[.val (.ref u0), .val (.int u1), .val (.int u2), .val (.int u3), .val (.int u4), .val (.int u5), .unset, .unset] [(.int (3 : Int32)), (.int u3)])) _
        refine XS.iand X0.here hx rfl (hb hby d3_2) rfl ?_
        show Steps p.tables e below (s₁.setTop (mkF m 3 #[.val (.ref u0), .val (.int u1), .val (.int u2), .val (.int u3), .val (.int u4), .val (.int u5), .unset, .unset] [(.int (u3 &&& (3 : Int32)))])) _
        rw [← ez1]
        refine XS.bipush X0.here hx rfl (hb hby d3_3) ?_
        show Steps p.tables e below (s₁.setTop (mkF m 5 #[.val (.ref u0), .val (.int u1), .val (.int u2), .val (.int u3), .val (.int u4), .val (.int u5), .unset, .unset] [(.int (6 : Int32)), (.int z1)])) _
        refine XS.ishl X0.here hx rfl (hb hby d3_5) rfl ?_
        show Steps p.tables e below (s₁.setTop (mkF m 6 #[.val (.ref u0), .val (.int u1), .val (.int u2), .val (.int u3), .val (.int u4), .val (.int u5), .unset, .unset] [(.int (z1 <<< ((6 : Int32) &&& 31)))])) _
        rw [← ez2]
        refine XS.iload X0.here hx rfl (hb hby d3_6) rfl ?_
        refine XS.ifNo X0.here hx rfl (hb hby d3_8) rfl ((if0 _ _).trans (feq hc8).1) ?_
        refine XS.bipush X0.here hx rfl (hb hby d3_11) ?_
        refine XS.goto X0.here hx rfl (pc0 := 13) (pc' := 17) rfl (hb hby d3_13) (by decide) (by decide) ?_
        show Steps p.tables e below (s₁.setTop (mkF m 17 #[.val (.ref u0), .val (.int u1), .val (.int u2), .val (.int u3), .val (.int u4), .val (.int u5), .unset, .unset] [(.int (32 : Int32)), (.int z2)])) _
        refine XS.ior X0.here hx rfl (hb hby d3_17) rfl ?_
        show Steps p.tables e below (s₁.setTop (mkF m 18 #[.val (.ref u0), .val (.int u1), .val (.int u2), .val (.int u3), .val (.int u4), .val (.int u5), .unset, .unset] [(.int (z2 ||| (32 : Int32)))])) _
        rw [← ez51]
        refine XS.istore X0.here hx rfl (hb hby d3_18) rfl (l' := #[.val (.ref u0), .val (.int u1), .val (.int u2), .val (.int u3), .val (.int u4), .val (.int u5), .val (.int z51), .unset]) rfl ?_
        refine XS.iload X0.here hx rfl (hb hby d3_20) rfl ?_
        show Steps p.tables e below (s₁.setTop (mkF m 22 #[.val (.ref u0), .val (.int u1), .val (.int u2), .val (.int u3), .val (.int u4), .val (.int u5), .val (.int z51), .unset] [(.int u5)])) _
        refine st52 _ ?_
        show Steps p.tables e below (s₁.setTop (mkF m 24 #[.val (.ref u0), .val (.int u1), .val (.int u2), .val (.int u3), .val (.int u4), .val (.int u5), .val (.int z51), .unset] [(.int (2147483647 : Int32)), (.int u5)])) _
        refine XS.iand X0.here hx rfl (hb hby d3_24) rfl ?_
        show Steps p.tables e below (s₁.setTop (mkF m 25 #[.val (.ref u0), .val (.int u1), .val (.int u2), .val (.int u3), .val (.int u4), .val (.int u5), .val (.int z51), .unset] [(.int (u5 &&& (2147483647 : Int32)))])) _
        rw [← ez53]
        refine XS.istore X0.here hx rfl (hb hby d3_25) rfl (l' := #[.val (.ref u0), .val (.int u1), .val (.int u2), .val (.int u3), .val (.int u4), .val (.int u5), .val (.int z51), .val (.int z53)]) rfl ?_
        refine XS.iloadN X0.here hx rfl (hb hby d3_27) rfl ?_
        refine XS.ifNo X0.here hx rfl (hb hby d3_28) rfl ((if0 _ _).trans (teq hc28).2) ?_
        refine XS.aloadN X0.here hx rfl (hb hby d3_31) rfl rfl ?_
        refine XS.iloadN X0.here hx rfl (hb hby d3_32) rfl ?_
        refine XS.iload X0.here hx rfl (hb hby d3_33) rfl ?_
        refine XS.iconst X0.here hx rfl (hb hby d3_35) ?_
        refine XS.iload X0.here hx rfl (hb hby d3_36) rfl ?_
        refine XS.bipush X0.here hx rfl (hb hby d3_38) ?_
        show Steps p.tables e below (s₁.setTop (mkF m 40 #[.val (.ref u0), .val (.int u1), .val (.int u2), .val (.int u3), .val (.int u4), .val (.int u5), .val (.int z51), .val (.int z53)] [(.int (30 : Int32)), (.int z53), (.int (1 : Int32)), (.int z51), (.int u1), (.ref u0)])) _
        refine iremM X0 hx rfl (hb hby d3_40) rfl (by decide) ?_
        show Steps p.tables e below (s₁.setTop (mkF m 41 #[.val (.ref u0), .val (.int u1), .val (.int u2), .val (.int u3), .val (.int u4), .val (.int u5), .val (.int z51), .val (.int z53)] [(.int (z53 % (30 : Int32))), (.int (1 : Int32)), (.int z51), (.int u1), (.ref u0)])) _
        rw [← ez54]
        show Steps p.tables e below (s₁.setTop (mkF m 41 #[.val (.ref u0), .val (.int u1), .val (.int u2), .val (.int u3), .val (.int u4), .val (.int u5), .val (.int z51), .val (.int z53)] [(.int z54), (.int (1 : Int32)), (.int z51), (.int u1), (.ref u0)])) _
        refine XS.iadd X0.here hx rfl (hb hby d3_41) rfl ?_
        show Steps p.tables e below (s₁.setTop (mkF m 42 #[.val (.ref u0), .val (.int u1), .val (.int u2), .val (.int u3), .val (.int u4), .val (.int u5), .val (.int z51), .val (.int z53)] [(.int ((1 : Int32) + z54)), (.int z51), (.int u1), (.ref u0)])) _
        rw [← ez55]
        show Steps p.tables e below (s₁.setTop (mkF m 42 #[.val (.ref u0), .val (.int u1), .val (.int u2), .val (.int u3), .val (.int u4), .val (.int u5), .val (.int z51), .val (.int z53)] [(.int z55), (.int z51), (.int u1), (.ref u0)])) _
        refine XS.ior X0.here hx rfl (hb hby d3_42) rfl ?_
        show Steps p.tables e below (s₁.setTop (mkF m 43 #[.val (.ref u0), .val (.int u1), .val (.int u2), .val (.int u3), .val (.int u4), .val (.int u5), .val (.int z51), .val (.int z53)] [(.int (z51 ||| z55)), (.int u1), (.ref u0)])) _
        rw [← ez56]
        show Steps p.tables e below (s₁.setTop (mkF m 43 #[.val (.ref u0), .val (.int u1), .val (.int u2), .val (.int u3), .val (.int u4), .val (.int u5), .val (.int z51), .val (.int z53)] [(.int z56), (.int u1), (.ref u0)])) _
        refine XS.i2b X0.here hx rfl (hb hby d3_43) rfl ?_
        show Steps p.tables e below (s₁.setTop (mkF m 44 #[.val (.ref u0), .val (.int u1), .val (.int u2), .val (.int u3), .val (.int u4), .val (.int u5), .val (.int z51), .val (.int z53)] [(.int (z56.toInt8.toInt32)), (.int u1), (.ref u0)])) _
        rw [← ez57]
        show Steps p.tables e below (s₁.setTop (mkF m 44 #[.val (.ref u0), .val (.int u1), .val (.int u2), .val (.int u3), .val (.int u4), .val (.int u5), .val (.int z51), .val (.int z53)] [(.int z57), (.int u1), (.ref u0)])) _
        refine st59 _ ?_
        show Steps p.tables e below (T59.setTop (mkF m 45 #[.val (.ref u0), .val (.int u1), .val (.int u2), .val (.int u3), .val (.int u4), .val (.int u5), .val (.int z51), .val (.int z53)] [])) _
        refine XS.iloadN X59.here hx rfl (hb hby d3_45) rfl ?_
        refine XS.iconst X59.here hx rfl (hb hby d3_46) ?_
        show Steps p.tables e below (T59.setTop (mkF m 47 #[.val (.ref u0), .val (.int u1), .val (.int u2), .val (.int u3), .val (.int u4), .val (.int u5), .val (.int z51), .val (.int z53)] [(.int (1 : Int32)), (.int u1)])) _
        refine XS.iadd X59.here hx rfl (hb hby d3_47) rfl ?_
        show Steps p.tables e below (T59.setTop (mkF m 48 #[.val (.ref u0), .val (.int u1), .val (.int u2), .val (.int u3), .val (.int u4), .val (.int u5), .val (.int z51), .val (.int z53)] [(.int (u1 + (1 : Int32)))])) _
        rw [← ez60]
        show Steps p.tables e below (T59.setTop (mkF m 48 #[.val (.ref u0), .val (.int u1), .val (.int u2), .val (.int u3), .val (.int u4), .val (.int u5), .val (.int z51), .val (.int z53)] [(.int z60)])) _
        exact retI X59 hx Bd.returns (hb hby d3_48) hr
      · show Q3 Z u0 u1 u2 u3 u4 u5 nn gg h0 n0 _ T59.heap _
        rw [e59]
        exact ⟨_, g59, rfl, N59, KK59, V59, (by omega), (fun i hi => by rw [gn59 i (by omega)]), (by unfold TagOK; refine ⟨fun _ => by omega, fun _ => by omega, fun _ => by omega, fun _ => by omega, fun _ => by omega, fun _ => ⟨by omega, by omega⟩, by omega⟩)⟩
    · have nhc28 : ¬ u2.toInt = (0 : Int) := own_eq0 rfl rfl hc28
      obtain ⟨z61, ez61⟩ : ∃ y : Int32, y = (z51 ||| (31 : Int32)) := ⟨_, rfl⟩
      have nz61 : z61.toInt = z51.toInt + (31 : Int) := by rw [ez61]; exact own_or 5 32 (by decide) (by decide) (x := z51.toInt) (y := (31 : Int)) rfl rfl (by omega) (by omega) (by omega) (by omega) (by omega)
      obtain ⟨z62, ez62⟩ : ∃ y : Int32, y = (z61.toInt8.toInt32) := ⟨_, rfl⟩
      have nz62 : (z62.toInt - z61.toInt) % 256 = 0 ∧ -128 ≤ z62.toInt ∧ z62.toInt < 128 := by rw [ez62]; exact c_i2b z61
      obtain ⟨cl63, Ar63, Sa63, Ma63, Ha63⟩ := id V_u0
      have i63 : 0 ≤ (u1).toInt ∧ (u1).toInt < nn := by omega
      obtain ⟨T64, h64, X64, e64, W64, st64⟩ := stB X0 hx hZ e0 Ar63 (j := u1) (cel_inb Sa63 i63.1 i63.2) (g := (mkF m 57 #[.val (.ref u0), .val (.int u1), .val (.int u2), .val (.int u3), .val (.int u4), .val (.int u5), .val (.int z51), .val (.int z53)] [(.int z62), (.int u1), (.ref u0)])) rfl rfl (hb hby d3_57)
      have V64 := Byt.set (g := gg) Ar63 Sa63 Ma63 Ha63 i63.1 i63.2 W64
      obtain ⟨g64, eg64⟩ : ∃ z, z = upd gg (u1).toInt ((z62).toInt % 256) := ⟨_, rfl⟩
      rw [← eg64] at V64
      have ga64 : g64 u1.toInt = z62.toInt % 256 := by rw [eg64]; exact upd_at _ _ _
      have gn64 : ∀ i, i ≠ u1.toInt → g64 i = gg i := fun i hi => by rw [eg64]; exact upd_ne _ _ _ hi
      have N64 := Fr.snoc X64 N0 g_u0
      have Z64 : n0 ≤ h64.size := Nat.le_trans Z0 (Keep.of_wr W64).1
      have KK64 := (Keep.refl h0 [u0]).wr W64 (Or.inl (List.mem_of_getElem? (i := 0) rfl))
      by_cases hc60 : u2 = (1 : Int32)
      · have nhc60 : u2.toInt = (1 : Int) := own_eq1 rfl rfl hc60
        obtain ⟨z65, ez65⟩ : ∃ y : Int32, y = (u1 + (1 : Int32)) := ⟨_, rfl⟩
        have nz65 : z65.toInt = u1.toInt + (1 : Int) := by rw [ez65]; exact own_iadd (x := u1.toInt) (y := (1 : Int)) rfl rfl (by omega) (by omega)
        obtain ⟨z66, ez66⟩ : ∃ y : Int32, y = (z53 % (97 : Int32)) := ⟨_, rfl⟩
        have nz66 : 0 ≤ z66.toInt ∧ z66.toInt < 97 := by rw [ez66]; exact own_irem rfl (by decide) (by omega)
        obtain ⟨z67, ez67⟩ : ∃ y : Int32, y = ((31 : Int32) + z66) := ⟨_, rfl⟩
        have nz67 : z67.toInt = (31 : Int) + z66.toInt := by rw [ez67]; exact own_iadd (x := (31 : Int)) (y := z66.toInt) rfl rfl (by omega) (by omega)
        obtain ⟨z68, ez68⟩ : ∃ y : Int32, y = (z67.toInt8.toInt32) := ⟨_, rfl⟩
        have nz68 : (z68.toInt - z67.toInt) % 256 = 0 ∧ -128 ≤ z68.toInt ∧ z68.toInt < 128 := by rw [ez68]; exact c_i2b z67
        obtain ⟨cl69, Ar69, Sa69, Ma69, Ha69⟩ := id V64
        have i69 : 0 ≤ (z65).toInt ∧ (z65).toInt < nn := by omega
        obtain ⟨T70, h70, X70, e70, W70, st70⟩ := stB X64 hx hZ e64 Ar69 (j := z65) (cel_inb Sa69 i69.1 i69.2) (g := (mkF m 76 #[.val (.ref u0), .val (.int u1), .val (.int u2), .val (.int u3), .val (.int u4), .val (.int u5), .val (.int z51), .val (.int z53)] [(.int z68), (.int z65), (.ref u0)])) rfl rfl (hb hby d3_76)
        have V70 := Byt.set (g := g64) Ar69 Sa69 Ma69 Ha69 i69.1 i69.2 W70
        obtain ⟨g70, eg70⟩ : ∃ z, z = upd g64 (z65).toInt ((z68).toInt % 256) := ⟨_, rfl⟩
        rw [← eg70] at V70
        have ga70 : g70 z65.toInt = z68.toInt % 256 := by rw [eg70]; exact upd_at _ _ _
        have gn70 : ∀ i, i ≠ z65.toInt → g70 i = g64 i := fun i hi => by rw [eg70]; exact upd_ne _ _ _ hi
        have N70 := Fr.snoc X70 N64 g_u0
        have Z70 : n0 ≤ h70.size := Nat.le_trans Z64 (Keep.of_wr W70).1
        have KK70 := KK64.wr W70 (Or.inl (List.mem_of_getElem? (i := 0) rfl))
        obtain ⟨z71, ez71⟩ : ∃ y : Int32, y = (u1 + (2 : Int32)) := ⟨_, rfl⟩
        have nz71 : z71.toInt = u1.toInt + (2 : Int) := by rw [ez71]; exact own_iadd (x := u1.toInt) (y := (2 : Int)) rfl rfl (by omega) (by omega)
        have va64 : g70 u1.toInt = z62.toInt % 256 := by rw [gn70 u1.toInt (by omega)]; exact ga64
        have vb64 : g70 u1.toInt = z62.toInt % 256 := va64
        have va70 : g70 z65.toInt = z68.toInt % 256 := by exact ga70
        have vb70 : g70 (u1.toInt + 1) = z68.toInt % 256 := by have q := va70; rwa [show z65.toInt = u1.toInt + 1 from by omega] at q
        obtain ⟨fs, hr, hrun, hended, hW, hsame⟩ := X70.leave (v := some (.int z71)) (fun h => by rw [Bd.returns] at h; cases h)
        refine ⟨_, _, pre0 _ ?_, hrun, hended, _, _, rfl, ?_, ⟨_, rfl⟩, hW, hsame.mono (by decide) (by decide)⟩
        · show Steps p.tables e below (s₁.setTop (mkF m 0 #[.val (.ref u0), .val (.int u1), .val (.int u2), .val (.int u3), .val (.int u4), .val (.int u5), .unset, .unset] [])) _
          refine XS.iloadN X0.here hx rfl (hb hby d3_0) rfl ?_
          refine XS.iconst X0.here hx rfl (hb hby d3_1) ?_
          show Steps p.tables e below (s₁.setTop (mkF m 2 #[.val (.ref u0), .val (.int u1), .val (.int u2), .val (.int u3), .val (.int u4), .val (.int u5), .unset, .unset] [(.int (3 : Int32)), (.int u3)])) _
          refine XS.iand X0.here hx rfl (hb hby d3_2) rfl ?_
          show Steps p.tables e below (s₁.setTop (mkF m 3 #[.val (.ref u0), .val (.int u1), .val (.int u2), .val (.int u3), .val (.int u4), .val (.int u5), .unset, .unset] [(.int (u3 &&& (3 : Int32)))])) _
          rw [← ez1]
          refine XS.bipush X0.here hx rfl (hb hby d3_3) ?_
          show Steps p.tables e below (s₁.setTop (mkF m 5 #[.val (.ref u0), .val (.int u1), .val (.int u2), .val (.int u3), .val (.int u4), .val (.int u5), .unset, .unset] [(.int (6 : Int32)), (.int z1)])) _
          refine XS.ishl X0.here hx rfl (hb hby d3_5) rfl ?_
          show Steps p.tables e below (s₁.setTop (mkF m 6 #[.val (.ref u0), .val (.int u1), .val (.int u2), .val (.int u3), .val (.int u4), .val (.int u5), .unset, .unset] [(.int (z1 <<< ((6 : Int32) &&& 31)))])) _
          rw [← ez2]
          refine XS.iload X0.here hx rfl (hb hby d3_6) rfl ?_
          refine XS.ifNo X0.here hx rfl (hb hby d3_8) rfl ((if0 _ _).trans (feq hc8).1) ?_
          refine XS.bipush X0.here hx rfl (hb hby d3_11) ?_
          refine XS.goto X0.here hx rfl (pc0 := 13) (pc' := 17) rfl (hb hby d3_13) (by decide) (by decide) ?_
          show Steps p.tables e below (s₁.setTop (mkF m 17 #[.val (.ref u0), .val (.int u1), .val (.int u2), .val (.int u3), .val (.int u4), .val (.int u5), .unset, .unset] [(.int (32 : Int32)), (.int z2)])) _
          refine XS.ior X0.here hx rfl (hb hby d3_17) rfl ?_
          show Steps p.tables e below (s₁.setTop (mkF m 18 #[.val (.ref u0), .val (.int u1), .val (.int u2), .val (.int u3), .val (.int u4), .val (.int u5), .unset, .unset] [(.int (z2 ||| (32 : Int32)))])) _
          rw [← ez51]
          refine XS.istore X0.here hx rfl (hb hby d3_18) rfl (l' := #[.val (.ref u0), .val (.int u1), .val (.int u2), .val (.int u3), .val (.int u4), .val (.int u5), .val (.int z51), .unset]) rfl ?_
          refine XS.iload X0.here hx rfl (hb hby d3_20) rfl ?_
          show Steps p.tables e below (s₁.setTop (mkF m 22 #[.val (.ref u0), .val (.int u1), .val (.int u2), .val (.int u3), .val (.int u4), .val (.int u5), .val (.int z51), .unset] [(.int u5)])) _
          refine st52 _ ?_
          show Steps p.tables e below (s₁.setTop (mkF m 24 #[.val (.ref u0), .val (.int u1), .val (.int u2), .val (.int u3), .val (.int u4), .val (.int u5), .val (.int z51), .unset] [(.int (2147483647 : Int32)), (.int u5)])) _
          refine XS.iand X0.here hx rfl (hb hby d3_24) rfl ?_
          show Steps p.tables e below (s₁.setTop (mkF m 25 #[.val (.ref u0), .val (.int u1), .val (.int u2), .val (.int u3), .val (.int u4), .val (.int u5), .val (.int z51), .unset] [(.int (u5 &&& (2147483647 : Int32)))])) _
          rw [← ez53]
          refine XS.istore X0.here hx rfl (hb hby d3_25) rfl (l' := #[.val (.ref u0), .val (.int u1), .val (.int u2), .val (.int u3), .val (.int u4), .val (.int u5), .val (.int z51), .val (.int z53)]) rfl ?_
          refine XS.iloadN X0.here hx rfl (hb hby d3_27) rfl ?_
          refine XS.ifYes X0.here hx rfl (pc0 := 28) (pc' := 49) rfl (hb hby d3_28) rfl ((if0 _ _).trans (feq hc28).2) (by decide) (by decide) ?_
          refine XS.aloadN X0.here hx rfl (hb hby d3_49) rfl rfl ?_
          refine XS.iloadN X0.here hx rfl (hb hby d3_50) rfl ?_
          refine XS.iload X0.here hx rfl (hb hby d3_51) rfl ?_
          refine XS.bipush X0.here hx rfl (hb hby d3_53) ?_
          show Steps p.tables e below (s₁.setTop (mkF m 55 #[.val (.ref u0), .val (.int u1), .val (.int u2), .val (.int u3), .val (.int u4), .val (.int u5), .val (.int z51), .val (.int z53)] [(.int (31 : Int32)), (.int z51), (.int u1), (.ref u0)])) _
          refine XS.ior X0.here hx rfl (hb hby d3_55) rfl ?_
          show Steps p.tables e below (s₁.setTop (mkF m 56 #[.val (.ref u0), .val (.int u1), .val (.int u2), .val (.int u3), .val (.int u4), .val (.int u5), .val (.int z51), .val (.int z53)] [(.int (z51 ||| (31 : Int32))), (.int u1), (.ref u0)])) _
          rw [← ez61]
          show Steps p.tables e below (s₁.setTop (mkF m 56 #[.val (.ref u0), .val (.int u1), .val (.int u2), .val (.int u3), .val (.int u4), .val (.int u5), .val (.int z51), .val (.int z53)] [(.int z61), (.int u1), (.ref u0)])) _
          refine XS.i2b X0.here hx rfl (hb hby d3_56) rfl ?_
          show Steps p.tables e below (s₁.setTop (mkF m 57 #[.val (.ref u0), .val (.int u1), .val (.int u2), .val (.int u3), .val (.int u4), .val (.int u5), .val (.int z51), .val (.int z53)] [(.int (z61.toInt8.toInt32)), (.int u1), (.ref u0)])) _
          rw [← ez62]
          show Steps p.tables e below (s₁.setTop (mkF m 57 #[.val (.ref u0), .val (.int u1), .val (.int u2), .val (.int u3), .val (.int u4), .val (.int u5), .val (.int z51), .val (.int z53)] [(.int z62), (.int u1), (.ref u0)])) _
          refine st64 _ ?_
          show Steps p.tables e below (T64.setTop (mkF m 58 #[.val (.ref u0), .val (.int u1), .val (.int u2), .val (.int u3), .val (.int u4), .val (.int u5), .val (.int z51), .val (.int z53)] [])) _
          refine XS.iloadN X64.here hx rfl (hb hby d3_58) rfl ?_
          refine XS.iconst X64.here hx rfl (hb hby d3_59) ?_
          refine XS.icmpNo X64.here hx rfl (hb hby d3_60) rfl (teq hc60).2 ?_
          refine XS.aloadN X64.here hx rfl (hb hby d3_63) rfl rfl ?_
          refine XS.iloadN X64.here hx rfl (hb hby d3_64) rfl ?_
          refine XS.iconst X64.here hx rfl (hb hby d3_65) ?_
          show Steps p.tables e below (T64.setTop (mkF m 66 #[.val (.ref u0), .val (.int u1), .val (.int u2), .val (.int u3), .val (.int u4), .val (.int u5), .val (.int z51), .val (.int z53)] [(.int (1 : Int32)), (.int u1), (.ref u0)])) _
          refine XS.iadd X64.here hx rfl (hb hby d3_66) rfl ?_
          show Steps p.tables e below (T64.setTop (mkF m 67 #[.val (.ref u0), .val (.int u1), .val (.int u2), .val (.int u3), .val (.int u4), .val (.int u5), .val (.int z51), .val (.int z53)] [(.int (u1 + (1 : Int32))), (.ref u0)])) _
          rw [← ez65]
          refine XS.bipush X64.here hx rfl (hb hby d3_67) ?_
          refine XS.iload X64.here hx rfl (hb hby d3_69) rfl ?_
          refine XS.bipush X64.here hx rfl (hb hby d3_71) ?_
          show Steps p.tables e below (T64.setTop (mkF m 73 #[.val (.ref u0), .val (.int u1), .val (.int u2), .val (.int u3), .val (.int u4), .val (.int u5), .val (.int z51), .val (.int z53)] [(.int (97 : Int32)), (.int z53), (.int (31 : Int32)), (.int z65), (.ref u0)])) _
          refine iremM X64 hx rfl (hb hby d3_73) rfl (by decide) ?_
          show Steps p.tables e below (T64.setTop (mkF m 74 #[.val (.ref u0), .val (.int u1), .val (.int u2), .val (.int u3), .val (.int u4), .val (.int u5), .val (.int z51), .val (.int z53)] [(.int (z53 % (97 : Int32))), (.int (31 : Int32)), (.int z65), (.ref u0)])) _
          rw [← ez66]
          show Steps p.tables e below (T64.setTop (mkF m 74 #[.val (.ref u0), .val (.int u1), .val (.int u2), .val (.int u3), .val (.int u4), .val (.int u5), .val (.int z51), .val (.int z53)] [(.int z66), (.int (31 : Int32)), (.int z65), (.ref u0)])) _
          refine XS.iadd X64.here hx rfl (hb hby d3_74) rfl ?_
          show Steps p.tables e below (T64.setTop (mkF m 75 #[.val (.ref u0), .val (.int u1), .val (.int u2), .val (.int u3), .val (.int u4), .val (.int u5), .val (.int z51), .val (.int z53)] [(.int ((31 : Int32) + z66)), (.int z65), (.ref u0)])) _
          rw [← ez67]
          show Steps p.tables e below (T64.setTop (mkF m 75 #[.val (.ref u0), .val (.int u1), .val (.int u2), .val (.int u3), .val (.int u4), .val (.int u5), .val (.int z51), .val (.int z53)] [(.int z67), (.int z65), (.ref u0)])) _
          refine XS.i2b X64.here hx rfl (hb hby d3_75) rfl ?_
          show Steps p.tables e below (T64.setTop (mkF m 76 #[.val (.ref u0), .val (.int u1), .val (.int u2), .val (.int u3), .val (.int u4), .val (.int u5), .val (.int z51), .val (.int z53)] [(.int (z67.toInt8.toInt32)), (.int z65), (.ref u0)])) _
          rw [← ez68]
          show Steps p.tables e below (T64.setTop (mkF m 76 #[.val (.ref u0), .val (.int u1), .val (.int u2), .val (.int u3), .val (.int u4), .val (.int u5), .val (.int z51), .val (.int z53)] [(.int z68), (.int z65), (.ref u0)])) _
          refine st70 _ ?_
          show Steps p.tables e below (T70.setTop (mkF m 77 #[.val (.ref u0), .val (.int u1), .val (.int u2), .val (.int u3), .val (.int u4), .val (.int u5), .val (.int z51), .val (.int z53)] [])) _
          refine XS.iloadN X70.here hx rfl (hb hby d3_77) rfl ?_
          refine XS.iconst X70.here hx rfl (hb hby d3_78) ?_
          show Steps p.tables e below (T70.setTop (mkF m 79 #[.val (.ref u0), .val (.int u1), .val (.int u2), .val (.int u3), .val (.int u4), .val (.int u5), .val (.int z51), .val (.int z53)] [(.int (2 : Int32)), (.int u1)])) _
          refine XS.iadd X70.here hx rfl (hb hby d3_79) rfl ?_
          show Steps p.tables e below (T70.setTop (mkF m 80 #[.val (.ref u0), .val (.int u1), .val (.int u2), .val (.int u3), .val (.int u4), .val (.int u5), .val (.int z51), .val (.int z53)] [(.int (u1 + (2 : Int32)))])) _
          rw [← ez71]
          show Steps p.tables e below (T70.setTop (mkF m 80 #[.val (.ref u0), .val (.int u1), .val (.int u2), .val (.int u3), .val (.int u4), .val (.int u5), .val (.int z51), .val (.int z53)] [(.int z71)])) _
          exact retI X70 hx Bd.returns (hb hby d3_80) hr
        · show Q3 Z u0 u1 u2 u3 u4 u5 nn gg h0 n0 _ T70.heap _
          rw [e70]
          exact ⟨_, g70, rfl, N70, KK70, V70, (by omega), (fun i hi => by rw [gn70 i (by omega), gn64 i (by omega)]), (by unfold TagOK; refine ⟨fun _ => by omega, fun _ => by omega, fun _ => by omega, fun _ => by omega, fun _ => by omega, fun _ => ⟨by omega, by omega⟩, by omega⟩)⟩
      · have nhc60 : ¬ u2.toInt = (1 : Int) := own_eq0 rfl rfl hc60
        obtain ⟨z72, ez72⟩ : ∃ y : Int32, y = (u1 + (1 : Int32)) := ⟨_, rfl⟩
        have nz72 : z72.toInt = u1.toInt + (1 : Int) := by rw [ez72]; exact own_iadd (x := u1.toInt) (y := (1 : Int)) rfl rfl (by omega) (by omega)
        obtain ⟨z73, ez73⟩ : ∃ y : Int32, y = (z53 % (127 : Int32)) := ⟨_, rfl⟩
        have nz73 : 0 ≤ z73.toInt ∧ z73.toInt < 127 := by rw [ez73]; exact own_irem rfl (by decide) (by omega)
        obtain ⟨z74, ez74⟩ : ∃ y : Int32, y = ((129 : Int32) + z73) := ⟨_, rfl⟩
        have nz74 : z74.toInt = (129 : Int) + z73.toInt := by rw [ez74]; exact own_iadd (x := (129 : Int)) (y := z73.toInt) rfl rfl (by omega) (by omega)
        obtain ⟨z75, ez75⟩ : ∃ y : Int32, y = (z74.toInt8.toInt32) := ⟨_, rfl⟩
        have nz75 : (z75.toInt - z74.toInt) % 256 = 0 ∧ -128 ≤ z75.toInt ∧ z75.toInt < 128 := by rw [ez75]; exact c_i2b z74
        obtain ⟨cl76, Ar76, Sa76, Ma76, Ha76⟩ := id V64
        have i76 : 0 ≤ (z72).toInt ∧ (z72).toInt < nn := by omega
        obtain ⟨T77, h77, X77, e77, W77, st77⟩ := stB X64 hx hZ e64 Ar76 (j := z72) (cel_inb Sa76 i76.1 i76.2) (g := (mkF m 95 #[.val (.ref u0), .val (.int u1), .val (.int u2), .val (.int u3), .val (.int u4), .val (.int u5), .val (.int z51), .val (.int z53)] [(.int z75), (.int z72), (.ref u0)])) rfl rfl (hb hby d3_95)
        have V77 := Byt.set (g := g64) Ar76 Sa76 Ma76 Ha76 i76.1 i76.2 W77
        obtain ⟨g77, eg77⟩ : ∃ z, z = upd g64 (z72).toInt ((z75).toInt % 256) := ⟨_, rfl⟩
        rw [← eg77] at V77
        have ga77 : g77 z72.toInt = z75.toInt % 256 := by rw [eg77]; exact upd_at _ _ _
        have gn77 : ∀ i, i ≠ z72.toInt → g77 i = g64 i := fun i hi => by rw [eg77]; exact upd_ne _ _ _ hi
        have N77 := Fr.snoc X77 N64 g_u0
        have Z77 : n0 ≤ h77.size := Nat.le_trans Z64 (Keep.of_wr W77).1
        have KK77 := KK64.wr W77 (Or.inl (List.mem_of_getElem? (i := 0) rfl))
        by_cases hc98 : u2 = (2 : Int32)
        · have nhc98 : u2.toInt = (2 : Int) := own_eq1 rfl rfl hc98
          obtain ⟨z78, ez78⟩ : ∃ y : Int32, y = (u1 + (2 : Int32)) := ⟨_, rfl⟩
          have nz78 : z78.toInt = u1.toInt + (2 : Int) := by rw [ez78]; exact own_iadd (x := u1.toInt) (y := (2 : Int)) rfl rfl (by omega) (by omega)
          obtain ⟨z79, ez79⟩ : ∃ y : Int32, y = ((u5.toUInt32 >>> ((8 : Int32) &&& 31).toUInt32).toInt32) := ⟨_, rfl⟩
          obtain ⟨z80, ez80⟩ : ∃ y : Int32, y = (z79 &&& (127 : Int32)) := ⟨_, rfl⟩
          have nz80 : 0 ≤ z80.toInt ∧ z80.toInt ≤ 127 := by rw [ez80]; exact c_and z79 (127 : Int32) (by decide)
          obtain ⟨z81, ez81⟩ : ∃ y : Int32, y = (z80.toInt8.toInt32) := ⟨_, rfl⟩
          have nz81 : (z81.toInt - z80.toInt) % 256 = 0 ∧ -128 ≤ z81.toInt ∧ z81.toInt < 128 := by rw [ez81]; exact c_i2b z80
          obtain ⟨cl82, Ar82, Sa82, Ma82, Ha82⟩ := id V77
          have i82 : 0 ≤ (z78).toInt ∧ (z78).toInt < nn := by omega
          obtain ⟨T83, h83, X83, e83, W83, st83⟩ := stB X77 hx hZ e77 Ar82 (j := z78) (cel_inb Sa82 i82.1 i82.2) (g := (mkF m 114 #[.val (.ref u0), .val (.int u1), .val (.int u2), .val (.int u3), .val (.int u4), .val (.int u5), .val (.int z51), .val (.int z53)] [(.int z81), (.int z78), (.ref u0)])) rfl rfl (hb hby d3_114)
          have V83 := Byt.set (g := g77) Ar82 Sa82 Ma82 Ha82 i82.1 i82.2 W83
          obtain ⟨g83, eg83⟩ : ∃ z, z = upd g77 (z78).toInt ((z81).toInt % 256) := ⟨_, rfl⟩
          rw [← eg83] at V83
          have ga83 : g83 z78.toInt = z81.toInt % 256 := by rw [eg83]; exact upd_at _ _ _
          have gn83 : ∀ i, i ≠ z78.toInt → g83 i = g77 i := fun i hi => by rw [eg83]; exact upd_ne _ _ _ hi
          have N83 := Fr.snoc X83 N77 g_u0
          have Z83 : n0 ≤ h83.size := Nat.le_trans Z77 (Keep.of_wr W83).1
          have KK83 := KK77.wr W83 (Or.inl (List.mem_of_getElem? (i := 0) rfl))
          obtain ⟨z84, ez84⟩ : ∃ y : Int32, y = (u1 + (3 : Int32)) := ⟨_, rfl⟩
          have nz84 : z84.toInt = u1.toInt + (3 : Int) := by rw [ez84]; exact own_iadd (x := u1.toInt) (y := (3 : Int)) rfl rfl (by omega) (by omega)
          have va64 : g83 u1.toInt = z62.toInt % 256 := by rw [gn83 u1.toInt (by omega), gn77 u1.toInt (by omega)]; exact ga64
          have vb64 : g83 u1.toInt = z62.toInt % 256 := va64
          have va77 : g83 z72.toInt = z75.toInt % 256 := by rw [gn83 z72.toInt (by omega)]; exact ga77
          have vb77 : g83 (u1.toInt + 1) = z75.toInt % 256 := by have q := va77; rwa [show z72.toInt = u1.toInt + 1 from by omega] at q
          have va83 : g83 z78.toInt = z81.toInt % 256 := by exact ga83
          have vb83 : g83 (u1.toInt + 2) = z81.toInt % 256 := by have q := va83; rwa [show z78.toInt = u1.toInt + 2 from by omega] at q
          obtain ⟨fs, hr, hrun, hended, hW, hsame⟩ := X83.leave (v := some (.int z84)) (fun h => by rw [Bd.returns] at h; cases h)
          refine ⟨_, _, pre0 _ ?_, hrun, hended, _, _, rfl, ?_, ⟨_, rfl⟩, hW, hsame.mono (by decide) (by decide)⟩
          · show Steps p.tables e below (s₁.setTop (mkF m 0 #[.val (.ref u0), .val (.int u1), .val (.int u2), .val (.int u3), .val (.int u4), .val (.int u5), .unset, .unset] [])) _
            refine XS.iloadN X0.here hx rfl (hb hby d3_0) rfl ?_
            refine XS.iconst X0.here hx rfl (hb hby d3_1) ?_
            show Steps p.tables e below (s₁.setTop (mkF m 2 #[.val (.ref u0), .val (.int u1), .val (.int u2), .val (.int u3), .val (.int u4), .val (.int u5), .unset, .unset] [(.int (3 : Int32)), (.int u3)])) _
            refine XS.iand X0.here hx rfl (hb hby d3_2) rfl ?_
            show Steps p.tables e below (s₁.setTop (mkF m 3 #[.val (.ref u0), .val (.int u1), .val (.int u2), .val (.int u3), .val (.int u4), .val (.int u5), .unset, .unset] [(.int (u3 &&& (3 : Int32)))])) _
            rw [← ez1]
            refine XS.bipush X0.here hx rfl (hb hby d3_3) ?_
            show Steps p.tables e below (s₁.setTop (mkF m 5 #[.val (.ref u0), .val (.int u1), .val (.int u2), .val (.int u3), .val (.int u4), .val (.int u5), .unset, .unset] [(.int (6 : Int32)), (.int z1)])) _
            refine XS.ishl X0.here hx rfl (hb hby d3_5) rfl ?_
            show Steps p.tables e below (s₁.setTop (mkF m 6 #[.val (.ref u0), .val (.int u1), .val (.int u2), .val (.int u3), .val (.int u4), .val (.int u5), .unset, .unset] [(.int (z1 <<< ((6 : Int32) &&& 31)))])) _
            rw [← ez2]
            refine XS.iload X0.here hx rfl (hb hby d3_6) rfl ?_
            refine XS.ifNo X0.here hx rfl (hb hby d3_8) rfl ((if0 _ _).trans (feq hc8).1) ?_
            refine XS.bipush X0.here hx rfl (hb hby d3_11) ?_
            refine XS.goto X0.here hx rfl (pc0 := 13) (pc' := 17) rfl (hb hby d3_13) (by decide) (by decide) ?_
            show Steps p.tables e below (s₁.setTop (mkF m 17 #[.val (.ref u0), .val (.int u1), .val (.int u2), .val (.int u3), .val (.int u4), .val (.int u5), .unset, .unset] [(.int (32 : Int32)), (.int z2)])) _
            refine XS.ior X0.here hx rfl (hb hby d3_17) rfl ?_
            show Steps p.tables e below (s₁.setTop (mkF m 18 #[.val (.ref u0), .val (.int u1), .val (.int u2), .val (.int u3), .val (.int u4), .val (.int u5), .unset, .unset] [(.int (z2 ||| (32 : Int32)))])) _
            rw [← ez51]
            refine XS.istore X0.here hx rfl (hb hby d3_18) rfl (l' := #[.val (.ref u0), .val (.int u1), .val (.int u2), .val (.int u3), .val (.int u4), .val (.int u5), .val (.int z51), .unset]) rfl ?_
            refine XS.iload X0.here hx rfl (hb hby d3_20) rfl ?_
            show Steps p.tables e below (s₁.setTop (mkF m 22 #[.val (.ref u0), .val (.int u1), .val (.int u2), .val (.int u3), .val (.int u4), .val (.int u5), .val (.int z51), .unset] [(.int u5)])) _
            refine st52 _ ?_
            show Steps p.tables e below (s₁.setTop (mkF m 24 #[.val (.ref u0), .val (.int u1), .val (.int u2), .val (.int u3), .val (.int u4), .val (.int u5), .val (.int z51), .unset] [(.int (2147483647 : Int32)), (.int u5)])) _
            refine XS.iand X0.here hx rfl (hb hby d3_24) rfl ?_
            show Steps p.tables e below (s₁.setTop (mkF m 25 #[.val (.ref u0), .val (.int u1), .val (.int u2), .val (.int u3), .val (.int u4), .val (.int u5), .val (.int z51), .unset] [(.int (u5 &&& (2147483647 : Int32)))])) _
            rw [← ez53]
            refine XS.istore X0.here hx rfl (hb hby d3_25) rfl (l' := #[.val (.ref u0), .val (.int u1), .val (.int u2), .val (.int u3), .val (.int u4), .val (.int u5), .val (.int z51), .val (.int z53)]) rfl ?_
            refine XS.iloadN X0.here hx rfl (hb hby d3_27) rfl ?_
            refine XS.ifYes X0.here hx rfl (pc0 := 28) (pc' := 49) rfl (hb hby d3_28) rfl ((if0 _ _).trans (feq hc28).2) (by decide) (by decide) ?_
            refine XS.aloadN X0.here hx rfl (hb hby d3_49) rfl rfl ?_
            refine XS.iloadN X0.here hx rfl (hb hby d3_50) rfl ?_
            refine XS.iload X0.here hx rfl (hb hby d3_51) rfl ?_
            refine XS.bipush X0.here hx rfl (hb hby d3_53) ?_
            show Steps p.tables e below (s₁.setTop (mkF m 55 #[.val (.ref u0), .val (.int u1), .val (.int u2), .val (.int u3), .val (.int u4), .val (.int u5), .val (.int z51), .val (.int z53)] [(.int (31 : Int32)), (.int z51), (.int u1), (.ref u0)])) _
            refine XS.ior X0.here hx rfl (hb hby d3_55) rfl ?_
            show Steps p.tables e below (s₁.setTop (mkF m 56 #[.val (.ref u0), .val (.int u1), .val (.int u2), .val (.int u3), .val (.int u4), .val (.int u5), .val (.int z51), .val (.int z53)] [(.int (z51 ||| (31 : Int32))), (.int u1), (.ref u0)])) _
            rw [← ez61]
            show Steps p.tables e below (s₁.setTop (mkF m 56 #[.val (.ref u0), .val (.int u1), .val (.int u2), .val (.int u3), .val (.int u4), .val (.int u5), .val (.int z51), .val (.int z53)] [(.int z61), (.int u1), (.ref u0)])) _
            refine XS.i2b X0.here hx rfl (hb hby d3_56) rfl ?_
            show Steps p.tables e below (s₁.setTop (mkF m 57 #[.val (.ref u0), .val (.int u1), .val (.int u2), .val (.int u3), .val (.int u4), .val (.int u5), .val (.int z51), .val (.int z53)] [(.int (z61.toInt8.toInt32)), (.int u1), (.ref u0)])) _
            rw [← ez62]
            show Steps p.tables e below (s₁.setTop (mkF m 57 #[.val (.ref u0), .val (.int u1), .val (.int u2), .val (.int u3), .val (.int u4), .val (.int u5), .val (.int z51), .val (.int z53)] [(.int z62), (.int u1), (.ref u0)])) _
            refine st64 _ ?_
            show Steps p.tables e below (T64.setTop (mkF m 58 #[.val (.ref u0), .val (.int u1), .val (.int u2), .val (.int u3), .val (.int u4), .val (.int u5), .val (.int z51), .val (.int z53)] [])) _
            refine XS.iloadN X64.here hx rfl (hb hby d3_58) rfl ?_
            refine XS.iconst X64.here hx rfl (hb hby d3_59) ?_
            refine XS.icmpYes X64.here hx rfl (pc0 := 60) (pc' := 81) rfl (hb hby d3_60) rfl (feq hc60).2 (by decide) (by decide) ?_
            refine XS.aloadN X64.here hx rfl (hb hby d3_81) rfl rfl ?_
            refine XS.iloadN X64.here hx rfl (hb hby d3_82) rfl ?_
            refine XS.iconst X64.here hx rfl (hb hby d3_83) ?_
            show Steps p.tables e below (T64.setTop (mkF m 84 #[.val (.ref u0), .val (.int u1), .val (.int u2), .val (.int u3), .val (.int u4), .val (.int u5), .val (.int z51), .val (.int z53)] [(.int (1 : Int32)), (.int u1), (.ref u0)])) _
            refine XS.iadd X64.here hx rfl (hb hby d3_84) rfl ?_
            show Steps p.tables e below (T64.setTop (mkF m 85 #[.val (.ref u0), .val (.int u1), .val (.int u2), .val (.int u3), .val (.int u4), .val (.int u5), .val (.int z51), .val (.int z53)] [(.int (u1 + (1 : Int32))), (.ref u0)])) _
            rw [← ez72]
            refine XS.sipush X64.here hx rfl (hb hby d3_85) ?_
            refine XS.iload X64.here hx rfl (hb hby d3_88) rfl ?_
            refine XS.bipush X64.here hx rfl (hb hby d3_90) ?_
            show Steps p.tables e below (T64.setTop (mkF m 92 #[.val (.ref u0), .val (.int u1), .val (.int u2), .val (.int u3), .val (.int u4), .val (.int u5), .val (.int z51), .val (.int z53)] [(.int (127 : Int32)), (.int z53), (.int (129 : Int32)), (.int z72), (.ref u0)])) _
            refine iremM X64 hx rfl (hb hby d3_92) rfl (by decide) ?_
            show Steps p.tables e below (T64.setTop (mkF m 93 #[.val (.ref u0), .val (.int u1), .val (.int u2), .val (.int u3), .val (.int u4), .val (.int u5), .val (.int z51), .val (.int z53)] [(.int (z53 % (127 : Int32))), (.int (129 : Int32)), (.int z72), (.ref u0)])) _
            rw [← ez73]
            show Steps p.tables e below (T64.setTop (mkF m 93 #[.val (.ref u0), .val (.int u1), .val (.int u2), .val (.int u3), .val (.int u4), .val (.int u5), .val (.int z51), .val (.int z53)] [(.int z73), (.int (129 : Int32)), (.int z72), (.ref u0)])) _
            refine XS.iadd X64.here hx rfl (hb hby d3_93) rfl ?_
            show Steps p.tables e below (T64.setTop (mkF m 94 #[.val (.ref u0), .val (.int u1), .val (.int u2), .val (.int u3), .val (.int u4), .val (.int u5), .val (.int z51), .val (.int z53)] [(.int ((129 : Int32) + z73)), (.int z72), (.ref u0)])) _
            rw [← ez74]
            show Steps p.tables e below (T64.setTop (mkF m 94 #[.val (.ref u0), .val (.int u1), .val (.int u2), .val (.int u3), .val (.int u4), .val (.int u5), .val (.int z51), .val (.int z53)] [(.int z74), (.int z72), (.ref u0)])) _
            refine XS.i2b X64.here hx rfl (hb hby d3_94) rfl ?_
            show Steps p.tables e below (T64.setTop (mkF m 95 #[.val (.ref u0), .val (.int u1), .val (.int u2), .val (.int u3), .val (.int u4), .val (.int u5), .val (.int z51), .val (.int z53)] [(.int (z74.toInt8.toInt32)), (.int z72), (.ref u0)])) _
            rw [← ez75]
            show Steps p.tables e below (T64.setTop (mkF m 95 #[.val (.ref u0), .val (.int u1), .val (.int u2), .val (.int u3), .val (.int u4), .val (.int u5), .val (.int z51), .val (.int z53)] [(.int z75), (.int z72), (.ref u0)])) _
            refine st77 _ ?_
            show Steps p.tables e below (T77.setTop (mkF m 96 #[.val (.ref u0), .val (.int u1), .val (.int u2), .val (.int u3), .val (.int u4), .val (.int u5), .val (.int z51), .val (.int z53)] [])) _
            refine XS.iloadN X77.here hx rfl (hb hby d3_96) rfl ?_
            refine XS.iconst X77.here hx rfl (hb hby d3_97) ?_
            refine XS.icmpNo X77.here hx rfl (hb hby d3_98) rfl (teq hc98).2 ?_
            refine XS.aloadN X77.here hx rfl (hb hby d3_101) rfl rfl ?_
            refine XS.iloadN X77.here hx rfl (hb hby d3_102) rfl ?_
            refine XS.iconst X77.here hx rfl (hb hby d3_103) ?_
            show Steps p.tables e below (T77.setTop (mkF m 104 #[.val (.ref u0), .val (.int u1), .val (.int u2), .val (.int u3), .val (.int u4), .val (.int u5), .val (.int z51), .val (.int z53)] [(.int (2 : Int32)), (.int u1), (.ref u0)])) _
            refine XS.iadd X77.here hx rfl (hb hby d3_104) rfl ?_
            show Steps p.tables e below (T77.setTop (mkF m 105 #[.val (.ref u0), .val (.int u1), .val (.int u2), .val (.int u3), .val (.int u4), .val (.int u5), .val (.int z51), .val (.int z53)] [(.int (u1 + (2 : Int32))), (.ref u0)])) _
            rw [← ez78]
            refine XS.iload X77.here hx rfl (hb hby d3_105) rfl ?_
            refine XS.bipush X77.here hx rfl (hb hby d3_107) ?_
            show Steps p.tables e below (T77.setTop (mkF m 109 #[.val (.ref u0), .val (.int u1), .val (.int u2), .val (.int u3), .val (.int u4), .val (.int u5), .val (.int z51), .val (.int z53)] [(.int (8 : Int32)), (.int u5), (.int z78), (.ref u0)])) _
            refine XS.iushr X77.here hx rfl (hb hby d3_109) rfl ?_
            show Steps p.tables e below (T77.setTop (mkF m 110 #[.val (.ref u0), .val (.int u1), .val (.int u2), .val (.int u3), .val (.int u4), .val (.int u5), .val (.int z51), .val (.int z53)] [(.int ((u5.toUInt32 >>> ((8 : Int32) &&& 31).toUInt32).toInt32)), (.int z78), (.ref u0)])) _
            rw [← ez79]
            refine XS.bipush X77.here hx rfl (hb hby d3_110) ?_
            show Steps p.tables e below (T77.setTop (mkF m 112 #[.val (.ref u0), .val (.int u1), .val (.int u2), .val (.int u3), .val (.int u4), .val (.int u5), .val (.int z51), .val (.int z53)] [(.int (127 : Int32)), (.int z79), (.int z78), (.ref u0)])) _
            refine XS.iand X77.here hx rfl (hb hby d3_112) rfl ?_
            show Steps p.tables e below (T77.setTop (mkF m 113 #[.val (.ref u0), .val (.int u1), .val (.int u2), .val (.int u3), .val (.int u4), .val (.int u5), .val (.int z51), .val (.int z53)] [(.int (z79 &&& (127 : Int32))), (.int z78), (.ref u0)])) _
            rw [← ez80]
            show Steps p.tables e below (T77.setTop (mkF m 113 #[.val (.ref u0), .val (.int u1), .val (.int u2), .val (.int u3), .val (.int u4), .val (.int u5), .val (.int z51), .val (.int z53)] [(.int z80), (.int z78), (.ref u0)])) _
            refine XS.i2b X77.here hx rfl (hb hby d3_113) rfl ?_
            show Steps p.tables e below (T77.setTop (mkF m 114 #[.val (.ref u0), .val (.int u1), .val (.int u2), .val (.int u3), .val (.int u4), .val (.int u5), .val (.int z51), .val (.int z53)] [(.int (z80.toInt8.toInt32)), (.int z78), (.ref u0)])) _
            rw [← ez81]
            show Steps p.tables e below (T77.setTop (mkF m 114 #[.val (.ref u0), .val (.int u1), .val (.int u2), .val (.int u3), .val (.int u4), .val (.int u5), .val (.int z51), .val (.int z53)] [(.int z81), (.int z78), (.ref u0)])) _
            refine st83 _ ?_
            show Steps p.tables e below (T83.setTop (mkF m 115 #[.val (.ref u0), .val (.int u1), .val (.int u2), .val (.int u3), .val (.int u4), .val (.int u5), .val (.int z51), .val (.int z53)] [])) _
            refine XS.iloadN X83.here hx rfl (hb hby d3_115) rfl ?_
            refine XS.iconst X83.here hx rfl (hb hby d3_116) ?_
            show Steps p.tables e below (T83.setTop (mkF m 117 #[.val (.ref u0), .val (.int u1), .val (.int u2), .val (.int u3), .val (.int u4), .val (.int u5), .val (.int z51), .val (.int z53)] [(.int (3 : Int32)), (.int u1)])) _
            refine XS.iadd X83.here hx rfl (hb hby d3_117) rfl ?_
            show Steps p.tables e below (T83.setTop (mkF m 118 #[.val (.ref u0), .val (.int u1), .val (.int u2), .val (.int u3), .val (.int u4), .val (.int u5), .val (.int z51), .val (.int z53)] [(.int (u1 + (3 : Int32)))])) _
            rw [← ez84]
            show Steps p.tables e below (T83.setTop (mkF m 118 #[.val (.ref u0), .val (.int u1), .val (.int u2), .val (.int u3), .val (.int u4), .val (.int u5), .val (.int z51), .val (.int z53)] [(.int z84)])) _
            exact retI X83 hx Bd.returns (hb hby d3_118) hr
          · show Q3 Z u0 u1 u2 u3 u4 u5 nn gg h0 n0 _ T83.heap _
            rw [e83]
            exact ⟨_, g83, rfl, N83, KK83, V83, (by omega), (fun i hi => by rw [gn83 i (by omega), gn77 i (by omega), gn64 i (by omega)]), (by unfold TagOK; refine ⟨fun _ => by omega, fun _ => by omega, fun _ => by omega, fun _ => by omega, fun _ => by omega, fun _ => ⟨by omega, by omega⟩, by omega⟩)⟩
        · have nhc98 : ¬ u2.toInt = (2 : Int) := own_eq0 rfl rfl hc98
          obtain ⟨z85, ez85⟩ : ∃ y : Int32, y = (u1 + (2 : Int32)) := ⟨_, rfl⟩
          have nz85 : z85.toInt = u1.toInt + (2 : Int) := by rw [ez85]; exact own_iadd (x := u1.toInt) (y := (2 : Int)) rfl rfl (by omega) (by omega)
          obtain ⟨z86, ez86⟩ : ∃ y : Int32, y = ((u5.toUInt32 >>> ((16 : Int32) &&& 31).toUInt32).toInt32) := ⟨_, rfl⟩
          obtain ⟨z87, ez87⟩ : ∃ y : Int32, y = (z86 &&& (127 : Int32)) := ⟨_, rfl⟩
          have nz87 : 0 ≤ z87.toInt ∧ z87.toInt ≤ 127 := by rw [ez87]; exact c_and z86 (127 : Int32) (by decide)
          obtain ⟨z88, ez88⟩ : ∃ y : Int32, y = ((128 : Int32) ||| z87) := ⟨_, rfl⟩
          have nz88 : z88.toInt = (128 : Int) + z87.toInt := by rw [ez88]; exact own_or 7 128 (by decide) (by decide) (x := (128 : Int)) (y := z87.toInt) rfl rfl (by omega) (by omega) (by omega) (by omega) (by omega)
          obtain ⟨z89, ez89⟩ : ∃ y : Int32, y = (z88.toInt8.toInt32) := ⟨_, rfl⟩
          have nz89 : (z89.toInt - z88.toInt) % 256 = 0 ∧ -128 ≤ z89.toInt ∧ z89.toInt < 128 := by rw [ez89]; exact c_i2b z88
          obtain ⟨cl90, Ar90, Sa90, Ma90, Ha90⟩ := id V77
          have i90 : 0 ≤ (z85).toInt ∧ (z85).toInt < nn := by omega
          obtain ⟨T91, h91, X91, e91, W91, st91⟩ := stB X77 hx hZ e77 Ar90 (j := z85) (cel_inb Sa90 i90.1 i90.2) (g := (mkF m 136 #[.val (.ref u0), .val (.int u1), .val (.int u2), .val (.int u3), .val (.int u4), .val (.int u5), .val (.int z51), .val (.int z53)] [(.int z89), (.int z85), (.ref u0)])) rfl rfl (hb hby d3_136)
          have V91 := Byt.set (g := g77) Ar90 Sa90 Ma90 Ha90 i90.1 i90.2 W91
          obtain ⟨g91, eg91⟩ : ∃ z, z = upd g77 (z85).toInt ((z89).toInt % 256) := ⟨_, rfl⟩
          rw [← eg91] at V91
          have ga91 : g91 z85.toInt = z89.toInt % 256 := by rw [eg91]; exact upd_at _ _ _
          have gn91 : ∀ i, i ≠ z85.toInt → g91 i = g77 i := fun i hi => by rw [eg91]; exact upd_ne _ _ _ hi
          have N91 := Fr.snoc X91 N77 g_u0
          have Z91 : n0 ≤ h91.size := Nat.le_trans Z77 (Keep.of_wr W91).1
          have KK91 := KK77.wr W91 (Or.inl (List.mem_of_getElem? (i := 0) rfl))
          obtain ⟨z92, ez92⟩ : ∃ y : Int32, y = (u1 + (3 : Int32)) := ⟨_, rfl⟩
          have nz92 : z92.toInt = u1.toInt + (3 : Int) := by rw [ez92]; exact own_iadd (x := u1.toInt) (y := (3 : Int)) rfl rfl (by omega) (by omega)
          obtain ⟨z93, ez93⟩ : ∃ y : Int32, y = ((u5.toUInt32 >>> ((24 : Int32) &&& 31).toUInt32).toInt32) := ⟨_, rfl⟩
          obtain ⟨z94, ez94⟩ : ∃ y : Int32, y = (z93 &&& (127 : Int32)) := ⟨_, rfl⟩
          have nz94 : 0 ≤ z94.toInt ∧ z94.toInt ≤ 127 := by rw [ez94]; exact c_and z93 (127 : Int32) (by decide)
          obtain ⟨z95, ez95⟩ : ∃ y : Int32, y = (z94.toInt8.toInt32) := ⟨_, rfl⟩
          have nz95 : (z95.toInt - z94.toInt) % 256 = 0 ∧ -128 ≤ z95.toInt ∧ z95.toInt < 128 := by rw [ez95]; exact c_i2b z94
          obtain ⟨cl96, Ar96, Sa96, Ma96, Ha96⟩ := id V91
          have i96 : 0 ≤ (z92).toInt ∧ (z92).toInt < nn := by omega
          obtain ⟨T97, h97, X97, e97, W97, st97⟩ := stB X91 hx hZ e91 Ar96 (j := z92) (cel_inb Sa96 i96.1 i96.2) (g := (mkF m 150 #[.val (.ref u0), .val (.int u1), .val (.int u2), .val (.int u3), .val (.int u4), .val (.int u5), .val (.int z51), .val (.int z53)] [(.int z95), (.int z92), (.ref u0)])) rfl rfl (hb hby d3_150)
          have V97 := Byt.set (g := g91) Ar96 Sa96 Ma96 Ha96 i96.1 i96.2 W97
          obtain ⟨g97, eg97⟩ : ∃ z, z = upd g91 (z92).toInt ((z95).toInt % 256) := ⟨_, rfl⟩
          rw [← eg97] at V97
          have ga97 : g97 z92.toInt = z95.toInt % 256 := by rw [eg97]; exact upd_at _ _ _
          have gn97 : ∀ i, i ≠ z92.toInt → g97 i = g91 i := fun i hi => by rw [eg97]; exact upd_ne _ _ _ hi
          have N97 := Fr.snoc X97 N91 g_u0
          have Z97 : n0 ≤ h97.size := Nat.le_trans Z91 (Keep.of_wr W97).1
          have KK97 := KK91.wr W97 (Or.inl (List.mem_of_getElem? (i := 0) rfl))
          obtain ⟨z98, ez98⟩ : ∃ y : Int32, y = (u1 + (4 : Int32)) := ⟨_, rfl⟩
          have nz98 : z98.toInt = u1.toInt + (4 : Int) := by rw [ez98]; exact own_iadd (x := u1.toInt) (y := (4 : Int)) rfl rfl (by omega) (by omega)
          have va64 : g97 u1.toInt = z62.toInt % 256 := by rw [gn97 u1.toInt (by omega), gn91 u1.toInt (by omega), gn77 u1.toInt (by omega)]; exact ga64
          have vb64 : g97 u1.toInt = z62.toInt % 256 := va64
          have va77 : g97 z72.toInt = z75.toInt % 256 := by rw [gn97 z72.toInt (by omega), gn91 z72.toInt (by omega)]; exact ga77
          have vb77 : g97 (u1.toInt + 1) = z75.toInt % 256 := by have q := va77; rwa [show z72.toInt = u1.toInt + 1 from by omega] at q
          have va91 : g97 z85.toInt = z89.toInt % 256 := by rw [gn97 z85.toInt (by omega)]; exact ga91
          have vb91 : g97 (u1.toInt + 2) = z89.toInt % 256 := by have q := va91; rwa [show z85.toInt = u1.toInt + 2 from by omega] at q
          have va97 : g97 z92.toInt = z95.toInt % 256 := by exact ga97
          have vb97 : g97 (u1.toInt + 3) = z95.toInt % 256 := by have q := va97; rwa [show z92.toInt = u1.toInt + 3 from by omega] at q
          obtain ⟨fs, hr, hrun, hended, hW, hsame⟩ := X97.leave (v := some (.int z98)) (fun h => by rw [Bd.returns] at h; cases h)
          refine ⟨_, _, pre0 _ ?_, hrun, hended, _, _, rfl, ?_, ⟨_, rfl⟩, hW, hsame.mono (by decide) (by decide)⟩
          · show Steps p.tables e below (s₁.setTop (mkF m 0 #[.val (.ref u0), .val (.int u1), .val (.int u2), .val (.int u3), .val (.int u4), .val (.int u5), .unset, .unset] [])) _
            refine XS.iloadN X0.here hx rfl (hb hby d3_0) rfl ?_
            refine XS.iconst X0.here hx rfl (hb hby d3_1) ?_
            show Steps p.tables e below (s₁.setTop (mkF m 2 #[.val (.ref u0), .val (.int u1), .val (.int u2), .val (.int u3), .val (.int u4), .val (.int u5), .unset, .unset] [(.int (3 : Int32)), (.int u3)])) _
            refine XS.iand X0.here hx rfl (hb hby d3_2) rfl ?_
            show Steps p.tables e below (s₁.setTop (mkF m 3 #[.val (.ref u0), .val (.int u1), .val (.int u2), .val (.int u3), .val (.int u4), .val (.int u5), .unset, .unset] [(.int (u3 &&& (3 : Int32)))])) _
            rw [← ez1]
            refine XS.bipush X0.here hx rfl (hb hby d3_3) ?_
            show Steps p.tables e below (s₁.setTop (mkF m 5 #[.val (.ref u0), .val (.int u1), .val (.int u2), .val (.int u3), .val (.int u4), .val (.int u5), .unset, .unset] [(.int (6 : Int32)), (.int z1)])) _
            refine XS.ishl X0.here hx rfl (hb hby d3_5) rfl ?_
            show Steps p.tables e below (s₁.setTop (mkF m 6 #[.val (.ref u0), .val (.int u1), .val (.int u2), .val (.int u3), .val (.int u4), .val (.int u5), .unset, .unset] [(.int (z1 <<< ((6 : Int32) &&& 31)))])) _
            rw [← ez2]
            refine XS.iload X0.here hx rfl (hb hby d3_6) rfl ?_
            refine XS.ifNo X0.here hx rfl (hb hby d3_8) rfl ((if0 _ _).trans (feq hc8).1) ?_
            refine XS.bipush X0.here hx rfl (hb hby d3_11) ?_
            refine XS.goto X0.here hx rfl (pc0 := 13) (pc' := 17) rfl (hb hby d3_13) (by decide) (by decide) ?_
            show Steps p.tables e below (s₁.setTop (mkF m 17 #[.val (.ref u0), .val (.int u1), .val (.int u2), .val (.int u3), .val (.int u4), .val (.int u5), .unset, .unset] [(.int (32 : Int32)), (.int z2)])) _
            refine XS.ior X0.here hx rfl (hb hby d3_17) rfl ?_
            show Steps p.tables e below (s₁.setTop (mkF m 18 #[.val (.ref u0), .val (.int u1), .val (.int u2), .val (.int u3), .val (.int u4), .val (.int u5), .unset, .unset] [(.int (z2 ||| (32 : Int32)))])) _
            rw [← ez51]
            refine XS.istore X0.here hx rfl (hb hby d3_18) rfl (l' := #[.val (.ref u0), .val (.int u1), .val (.int u2), .val (.int u3), .val (.int u4), .val (.int u5), .val (.int z51), .unset]) rfl ?_
            refine XS.iload X0.here hx rfl (hb hby d3_20) rfl ?_
            show Steps p.tables e below (s₁.setTop (mkF m 22 #[.val (.ref u0), .val (.int u1), .val (.int u2), .val (.int u3), .val (.int u4), .val (.int u5), .val (.int z51), .unset] [(.int u5)])) _
            refine st52 _ ?_
            show Steps p.tables e below (s₁.setTop (mkF m 24 #[.val (.ref u0), .val (.int u1), .val (.int u2), .val (.int u3), .val (.int u4), .val (.int u5), .val (.int z51), .unset] [(.int (2147483647 : Int32)), (.int u5)])) _
            refine XS.iand X0.here hx rfl (hb hby d3_24) rfl ?_
            show Steps p.tables e below (s₁.setTop (mkF m 25 #[.val (.ref u0), .val (.int u1), .val (.int u2), .val (.int u3), .val (.int u4), .val (.int u5), .val (.int z51), .unset] [(.int (u5 &&& (2147483647 : Int32)))])) _
            rw [← ez53]
            refine XS.istore X0.here hx rfl (hb hby d3_25) rfl (l' := #[.val (.ref u0), .val (.int u1), .val (.int u2), .val (.int u3), .val (.int u4), .val (.int u5), .val (.int z51), .val (.int z53)]) rfl ?_
            refine XS.iloadN X0.here hx rfl (hb hby d3_27) rfl ?_
            refine XS.ifYes X0.here hx rfl (pc0 := 28) (pc' := 49) rfl (hb hby d3_28) rfl ((if0 _ _).trans (feq hc28).2) (by decide) (by decide) ?_
            refine XS.aloadN X0.here hx rfl (hb hby d3_49) rfl rfl ?_
            refine XS.iloadN X0.here hx rfl (hb hby d3_50) rfl ?_
            refine XS.iload X0.here hx rfl (hb hby d3_51) rfl ?_
            refine XS.bipush X0.here hx rfl (hb hby d3_53) ?_
            show Steps p.tables e below (s₁.setTop (mkF m 55 #[.val (.ref u0), .val (.int u1), .val (.int u2), .val (.int u3), .val (.int u4), .val (.int u5), .val (.int z51), .val (.int z53)] [(.int (31 : Int32)), (.int z51), (.int u1), (.ref u0)])) _
            refine XS.ior X0.here hx rfl (hb hby d3_55) rfl ?_
            show Steps p.tables e below (s₁.setTop (mkF m 56 #[.val (.ref u0), .val (.int u1), .val (.int u2), .val (.int u3), .val (.int u4), .val (.int u5), .val (.int z51), .val (.int z53)] [(.int (z51 ||| (31 : Int32))), (.int u1), (.ref u0)])) _
            rw [← ez61]
            show Steps p.tables e below (s₁.setTop (mkF m 56 #[.val (.ref u0), .val (.int u1), .val (.int u2), .val (.int u3), .val (.int u4), .val (.int u5), .val (.int z51), .val (.int z53)] [(.int z61), (.int u1), (.ref u0)])) _
            refine XS.i2b X0.here hx rfl (hb hby d3_56) rfl ?_
            show Steps p.tables e below (s₁.setTop (mkF m 57 #[.val (.ref u0), .val (.int u1), .val (.int u2), .val (.int u3), .val (.int u4), .val (.int u5), .val (.int z51), .val (.int z53)] [(.int (z61.toInt8.toInt32)), (.int u1), (.ref u0)])) _
            rw [← ez62]
            show Steps p.tables e below (s₁.setTop (mkF m 57 #[.val (.ref u0), .val (.int u1), .val (.int u2), .val (.int u3), .val (.int u4), .val (.int u5), .val (.int z51), .val (.int z53)] [(.int z62), (.int u1), (.ref u0)])) _
            refine st64 _ ?_
            show Steps p.tables e below (T64.setTop (mkF m 58 #[.val (.ref u0), .val (.int u1), .val (.int u2), .val (.int u3), .val (.int u4), .val (.int u5), .val (.int z51), .val (.int z53)] [])) _
            refine XS.iloadN X64.here hx rfl (hb hby d3_58) rfl ?_
            refine XS.iconst X64.here hx rfl (hb hby d3_59) ?_
            refine XS.icmpYes X64.here hx rfl (pc0 := 60) (pc' := 81) rfl (hb hby d3_60) rfl (feq hc60).2 (by decide) (by decide) ?_
            refine XS.aloadN X64.here hx rfl (hb hby d3_81) rfl rfl ?_
            refine XS.iloadN X64.here hx rfl (hb hby d3_82) rfl ?_
            refine XS.iconst X64.here hx rfl (hb hby d3_83) ?_
            show Steps p.tables e below (T64.setTop (mkF m 84 #[.val (.ref u0), .val (.int u1), .val (.int u2), .val (.int u3), .val (.int u4), .val (.int u5), .val (.int z51), .val (.int z53)] [(.int (1 : Int32)), (.int u1), (.ref u0)])) _
            refine XS.iadd X64.here hx rfl (hb hby d3_84) rfl ?_
            show Steps p.tables e below (T64.setTop (mkF m 85 #[.val (.ref u0), .val (.int u1), .val (.int u2), .val (.int u3), .val (.int u4), .val (.int u5), .val (.int z51), .val (.int z53)] [(.int (u1 + (1 : Int32))), (.ref u0)])) _
            rw [← ez72]
            refine XS.sipush X64.here hx rfl (hb hby d3_85) ?_
            refine XS.iload X64.here hx rfl (hb hby d3_88) rfl ?_
            refine XS.bipush X64.here hx rfl (hb hby d3_90) ?_
            show Steps p.tables e below (T64.setTop (mkF m 92 #[.val (.ref u0), .val (.int u1), .val (.int u2), .val (.int u3), .val (.int u4), .val (.int u5), .val (.int z51), .val (.int z53)] [(.int (127 : Int32)), (.int z53), (.int (129 : Int32)), (.int z72), (.ref u0)])) _
            refine iremM X64 hx rfl (hb hby d3_92) rfl (by decide) ?_
            show Steps p.tables e below (T64.setTop (mkF m 93 #[.val (.ref u0), .val (.int u1), .val (.int u2), .val (.int u3), .val (.int u4), .val (.int u5), .val (.int z51), .val (.int z53)] [(.int (z53 % (127 : Int32))), (.int (129 : Int32)), (.int z72), (.ref u0)])) _
            rw [← ez73]
            show Steps p.tables e below (T64.setTop (mkF m 93 #[.val (.ref u0), .val (.int u1), .val (.int u2), .val (.int u3), .val (.int u4), .val (.int u5), .val (.int z51), .val (.int z53)] [(.int z73), (.int (129 : Int32)), (.int z72), (.ref u0)])) _
            refine XS.iadd X64.here hx rfl (hb hby d3_93) rfl ?_
            show Steps p.tables e below (T64.setTop (mkF m 94 #[.val (.ref u0), .val (.int u1), .val (.int u2), .val (.int u3), .val (.int u4), .val (.int u5), .val (.int z51), .val (.int z53)] [(.int ((129 : Int32) + z73)), (.int z72), (.ref u0)])) _
            rw [← ez74]
            show Steps p.tables e below (T64.setTop (mkF m 94 #[.val (.ref u0), .val (.int u1), .val (.int u2), .val (.int u3), .val (.int u4), .val (.int u5), .val (.int z51), .val (.int z53)] [(.int z74), (.int z72), (.ref u0)])) _
            refine XS.i2b X64.here hx rfl (hb hby d3_94) rfl ?_
            show Steps p.tables e below (T64.setTop (mkF m 95 #[.val (.ref u0), .val (.int u1), .val (.int u2), .val (.int u3), .val (.int u4), .val (.int u5), .val (.int z51), .val (.int z53)] [(.int (z74.toInt8.toInt32)), (.int z72), (.ref u0)])) _
            rw [← ez75]
            show Steps p.tables e below (T64.setTop (mkF m 95 #[.val (.ref u0), .val (.int u1), .val (.int u2), .val (.int u3), .val (.int u4), .val (.int u5), .val (.int z51), .val (.int z53)] [(.int z75), (.int z72), (.ref u0)])) _
            refine st77 _ ?_
            show Steps p.tables e below (T77.setTop (mkF m 96 #[.val (.ref u0), .val (.int u1), .val (.int u2), .val (.int u3), .val (.int u4), .val (.int u5), .val (.int z51), .val (.int z53)] [])) _
            refine XS.iloadN X77.here hx rfl (hb hby d3_96) rfl ?_
            refine XS.iconst X77.here hx rfl (hb hby d3_97) ?_
            refine XS.icmpYes X77.here hx rfl (pc0 := 98) (pc' := 119) rfl (hb hby d3_98) rfl (feq hc98).2 (by decide) (by decide) ?_
            refine XS.aloadN X77.here hx rfl (hb hby d3_119) rfl rfl ?_
            refine XS.iloadN X77.here hx rfl (hb hby d3_120) rfl ?_
            refine XS.iconst X77.here hx rfl (hb hby d3_121) ?_
            show Steps p.tables e below (T77.setTop (mkF m 122 #[.val (.ref u0), .val (.int u1), .val (.int u2), .val (.int u3), .val (.int u4), .val (.int u5), .val (.int z51), .val (.int z53)] [(.int (2 : Int32)), (.int u1), (.ref u0)])) _
            refine XS.iadd X77.here hx rfl (hb hby d3_122) rfl ?_
            show Steps p.tables e below (T77.setTop (mkF m 123 #[.val (.ref u0), .val (.int u1), .val (.int u2), .val (.int u3), .val (.int u4), .val (.int u5), .val (.int z51), .val (.int z53)] [(.int (u1 + (2 : Int32))), (.ref u0)])) _
            rw [← ez85]
            refine XS.sipush X77.here hx rfl (hb hby d3_123) ?_
            refine XS.iload X77.here hx rfl (hb hby d3_126) rfl ?_
            refine XS.bipush X77.here hx rfl (hb hby d3_128) ?_
            show Steps p.tables e below (T77.setTop (mkF m 130 #[.val (.ref u0), .val (.int u1), .val (.int u2), .val (.int u3), .val (.int u4), .val (.int u5), .val (.int z51), .val (.int z53)] [(.int (16 : Int32)), (.int u5), (.int (128 : Int32)), (.int z85), (.ref u0)])) _
            refine XS.iushr X77.here hx rfl (hb hby d3_130) rfl ?_
            show Steps p.tables e below (T77.setTop (mkF m 131 #[.val (.ref u0), .val (.int u1), .val (.int u2), .val (.int u3), .val (.int u4), .val (.int u5), .val (.int z51), .val (.int z53)] [(.int ((u5.toUInt32 >>> ((16 : Int32) &&& 31).toUInt32).toInt32)), (.int (128 : Int32)), (.int z85), (.ref u0)])) _
            rw [← ez86]
            refine XS.bipush X77.here hx rfl (hb hby d3_131) ?_
            show Steps p.tables e below (T77.setTop (mkF m 133 #[.val (.ref u0), .val (.int u1), .val (.int u2), .val (.int u3), .val (.int u4), .val (.int u5), .val (.int z51), .val (.int z53)] [(.int (127 : Int32)), (.int z86), (.int (128 : Int32)), (.int z85), (.ref u0)])) _
            refine XS.iand X77.here hx rfl (hb hby d3_133) rfl ?_
            show Steps p.tables e below (T77.setTop (mkF m 134 #[.val (.ref u0), .val (.int u1), .val (.int u2), .val (.int u3), .val (.int u4), .val (.int u5), .val (.int z51), .val (.int z53)] [(.int (z86 &&& (127 : Int32))), (.int (128 : Int32)), (.int z85), (.ref u0)])) _
            rw [← ez87]
            show Steps p.tables e below (T77.setTop (mkF m 134 #[.val (.ref u0), .val (.int u1), .val (.int u2), .val (.int u3), .val (.int u4), .val (.int u5), .val (.int z51), .val (.int z53)] [(.int z87), (.int (128 : Int32)), (.int z85), (.ref u0)])) _
            refine XS.ior X77.here hx rfl (hb hby d3_134) rfl ?_
            show Steps p.tables e below (T77.setTop (mkF m 135 #[.val (.ref u0), .val (.int u1), .val (.int u2), .val (.int u3), .val (.int u4), .val (.int u5), .val (.int z51), .val (.int z53)] [(.int ((128 : Int32) ||| z87)), (.int z85), (.ref u0)])) _
            rw [← ez88]
            show Steps p.tables e below (T77.setTop (mkF m 135 #[.val (.ref u0), .val (.int u1), .val (.int u2), .val (.int u3), .val (.int u4), .val (.int u5), .val (.int z51), .val (.int z53)] [(.int z88), (.int z85), (.ref u0)])) _
            refine XS.i2b X77.here hx rfl (hb hby d3_135) rfl ?_
            show Steps p.tables e below (T77.setTop (mkF m 136 #[.val (.ref u0), .val (.int u1), .val (.int u2), .val (.int u3), .val (.int u4), .val (.int u5), .val (.int z51), .val (.int z53)] [(.int (z88.toInt8.toInt32)), (.int z85), (.ref u0)])) _
            rw [← ez89]
            show Steps p.tables e below (T77.setTop (mkF m 136 #[.val (.ref u0), .val (.int u1), .val (.int u2), .val (.int u3), .val (.int u4), .val (.int u5), .val (.int z51), .val (.int z53)] [(.int z89), (.int z85), (.ref u0)])) _
            refine st91 _ ?_
            show Steps p.tables e below (T91.setTop (mkF m 137 #[.val (.ref u0), .val (.int u1), .val (.int u2), .val (.int u3), .val (.int u4), .val (.int u5), .val (.int z51), .val (.int z53)] [])) _
            refine XS.aloadN X91.here hx rfl (hb hby d3_137) rfl rfl ?_
            refine XS.iloadN X91.here hx rfl (hb hby d3_138) rfl ?_
            refine XS.iconst X91.here hx rfl (hb hby d3_139) ?_
            show Steps p.tables e below (T91.setTop (mkF m 140 #[.val (.ref u0), .val (.int u1), .val (.int u2), .val (.int u3), .val (.int u4), .val (.int u5), .val (.int z51), .val (.int z53)] [(.int (3 : Int32)), (.int u1), (.ref u0)])) _
            refine XS.iadd X91.here hx rfl (hb hby d3_140) rfl ?_
            show Steps p.tables e below (T91.setTop (mkF m 141 #[.val (.ref u0), .val (.int u1), .val (.int u2), .val (.int u3), .val (.int u4), .val (.int u5), .val (.int z51), .val (.int z53)] [(.int (u1 + (3 : Int32))), (.ref u0)])) _
            rw [← ez92]
            refine XS.iload X91.here hx rfl (hb hby d3_141) rfl ?_
            refine XS.bipush X91.here hx rfl (hb hby d3_143) ?_
            show Steps p.tables e below (T91.setTop (mkF m 145 #[.val (.ref u0), .val (.int u1), .val (.int u2), .val (.int u3), .val (.int u4), .val (.int u5), .val (.int z51), .val (.int z53)] [(.int (24 : Int32)), (.int u5), (.int z92), (.ref u0)])) _
            refine XS.iushr X91.here hx rfl (hb hby d3_145) rfl ?_
            show Steps p.tables e below (T91.setTop (mkF m 146 #[.val (.ref u0), .val (.int u1), .val (.int u2), .val (.int u3), .val (.int u4), .val (.int u5), .val (.int z51), .val (.int z53)] [(.int ((u5.toUInt32 >>> ((24 : Int32) &&& 31).toUInt32).toInt32)), (.int z92), (.ref u0)])) _
            rw [← ez93]
            refine XS.bipush X91.here hx rfl (hb hby d3_146) ?_
            show Steps p.tables e below (T91.setTop (mkF m 148 #[.val (.ref u0), .val (.int u1), .val (.int u2), .val (.int u3), .val (.int u4), .val (.int u5), .val (.int z51), .val (.int z53)] [(.int (127 : Int32)), (.int z93), (.int z92), (.ref u0)])) _
            refine XS.iand X91.here hx rfl (hb hby d3_148) rfl ?_
            show Steps p.tables e below (T91.setTop (mkF m 149 #[.val (.ref u0), .val (.int u1), .val (.int u2), .val (.int u3), .val (.int u4), .val (.int u5), .val (.int z51), .val (.int z53)] [(.int (z93 &&& (127 : Int32))), (.int z92), (.ref u0)])) _
            rw [← ez94]
            show Steps p.tables e below (T91.setTop (mkF m 149 #[.val (.ref u0), .val (.int u1), .val (.int u2), .val (.int u3), .val (.int u4), .val (.int u5), .val (.int z51), .val (.int z53)] [(.int z94), (.int z92), (.ref u0)])) _
            refine XS.i2b X91.here hx rfl (hb hby d3_149) rfl ?_
            show Steps p.tables e below (T91.setTop (mkF m 150 #[.val (.ref u0), .val (.int u1), .val (.int u2), .val (.int u3), .val (.int u4), .val (.int u5), .val (.int z51), .val (.int z53)] [(.int (z94.toInt8.toInt32)), (.int z92), (.ref u0)])) _
            rw [← ez95]
            show Steps p.tables e below (T91.setTop (mkF m 150 #[.val (.ref u0), .val (.int u1), .val (.int u2), .val (.int u3), .val (.int u4), .val (.int u5), .val (.int z51), .val (.int z53)] [(.int z95), (.int z92), (.ref u0)])) _
            refine st97 _ ?_
            show Steps p.tables e below (T97.setTop (mkF m 151 #[.val (.ref u0), .val (.int u1), .val (.int u2), .val (.int u3), .val (.int u4), .val (.int u5), .val (.int z51), .val (.int z53)] [])) _
            refine XS.iloadN X97.here hx rfl (hb hby d3_151) rfl ?_
            refine XS.iconst X97.here hx rfl (hb hby d3_152) ?_
            show Steps p.tables e below (T97.setTop (mkF m 153 #[.val (.ref u0), .val (.int u1), .val (.int u2), .val (.int u3), .val (.int u4), .val (.int u5), .val (.int z51), .val (.int z53)] [(.int (4 : Int32)), (.int u1)])) _
            refine XS.iadd X97.here hx rfl (hb hby d3_153) rfl ?_
            show Steps p.tables e below (T97.setTop (mkF m 154 #[.val (.ref u0), .val (.int u1), .val (.int u2), .val (.int u3), .val (.int u4), .val (.int u5), .val (.int z51), .val (.int z53)] [(.int (u1 + (4 : Int32)))])) _
            rw [← ez98]
            show Steps p.tables e below (T97.setTop (mkF m 154 #[.val (.ref u0), .val (.int u1), .val (.int u2), .val (.int u3), .val (.int u4), .val (.int u5), .val (.int z51), .val (.int z53)] [(.int z98)])) _
            exact retI X97 hx Bd.returns (hb hby d3_154) hr
          · show Q3 Z u0 u1 u2 u3 u4 u5 nn gg h0 n0 _ T97.heap _
            rw [e97]
            exact ⟨_, g97, rfl, N97, KK97, V97, (by omega), (fun i hi => by rw [gn97 i (by omega), gn91 i (by omega), gn77 i (by omega), gn64 i (by omega)]), (by unfold TagOK; refine ⟨fun _ => by omega, fun _ => by omega, fun _ => by omega, fun _ => by omega, fun _ => by omega, fun _ => ⟨by omega, by omega⟩, by omega⟩)⟩
theorem pd_0 : parseMethodDescriptor "(I)I" = some ⟨[.int], some .int⟩ := by decide +kernel
theorem pd_4 : parseMethodDescriptor "([BIIIZI)I" = some ⟨[(.array .byte), .int, .int, .int, .boolean, .int], some .int⟩ := by decide +kernel
theorem pd_2 : parseMethodDescriptor "([BII)I" = some ⟨[(.array .byte), .int, .int], some .int⟩ := by decide +kernel
theorem d1_0 : decode method_6_code 0 = .ok (.iload_n 3, 1) := by decide +kernel
theorem d1_1 : decode method_6_code 1 = .ok (.istore 7, 2) := by decide +kernel
theorem d1_3 : decode method_6_code 3 = .ok (.iload_n 2, 1) := by decide +kernel
theorem d1_4 : decode method_6_code 4 = .ok (.iconst 1, 1) := by decide +kernel
theorem d1_5 : decode method_6_code 5 = .ok (.isub, 1) := by decide +kernel
theorem d1_6 : decode method_6_code 6 = .ok (.iload 7, 2) := by decide +kernel
theorem d1_8 : decode method_6_code 8 = .ok (.isub, 1) := by decide +kernel
theorem d1_9 : decode method_6_code 9 = .ok (.invokestatic 9, 3) := by decide +kernel
theorem d1_12 : decode method_6_code 12 = .ok (.istore 8, 2) := by decide +kernel
theorem d1_14 : decode method_6_code 14 = .ok (.iload 8, 2) := by decide +kernel
theorem d1_16 : decode method_6_code 16 = .ok (.ifCond .ge 33, 3) := by decide +kernel
theorem d1_19 : decode method_6_code 19 = .ok (.iload 7, 2) := by decide +kernel
theorem d1_21 : decode method_6_code 21 = .ok (.iconst 3, 1) := by decide +kernel
theorem d1_22 : decode method_6_code 22 = .ok (.if_icmp .ge 10, 3) := by decide +kernel
theorem d1_25 : decode method_6_code 25 = .ok (.iload 7, 2) := by decide +kernel
theorem d1_27 : decode method_6_code 27 = .ok (.iconst 1, 1) := by decide +kernel
theorem d1_28 : decode method_6_code 28 = .ok (.iadd, 1) := by decide +kernel
theorem d1_29 : decode method_6_code 29 = .ok (.goto 7, 3) := by decide +kernel
theorem d1_32 : decode method_6_code 32 = .ok (.iload 7, 2) := by decide +kernel
theorem d1_34 : decode method_6_code 34 = .ok (.iconst 1, 1) := by decide +kernel
theorem d1_35 : decode method_6_code 35 = .ok (.isub, 1) := by decide +kernel
theorem d1_36 : decode method_6_code 36 = .ok (.istore 7, 2) := by decide +kernel
theorem d1_38 : decode method_6_code 38 = .ok (.iload_n 2, 1) := by decide +kernel
theorem d1_39 : decode method_6_code 39 = .ok (.iconst 1, 1) := by decide +kernel
theorem d1_40 : decode method_6_code 40 = .ok (.isub, 1) := by decide +kernel
theorem d1_41 : decode method_6_code 41 = .ok (.iload 7, 2) := by decide +kernel
theorem d1_43 : decode method_6_code 43 = .ok (.isub, 1) := by decide +kernel
theorem d1_44 : decode method_6_code 44 = .ok (.invokestatic 9, 3) := by decide +kernel
theorem d1_47 : decode method_6_code 47 = .ok (.istore 8, 2) := by decide +kernel
theorem d1_49 : decode method_6_code 49 = .ok (.iload 8, 2) := by decide +kernel
theorem d1_51 : decode method_6_code 51 = .ok (.iconst 2, 1) := by decide +kernel
theorem d1_52 : decode method_6_code 52 = .ok (.if_icmp .ge 5, 3) := by decide +kernel
theorem d1_57 : decode method_6_code 57 = .ok (.aload_n 0, 1) := by decide +kernel
theorem d1_58 : decode method_6_code 58 = .ok (.iload_n 1, 1) := by decide +kernel
theorem d1_59 : decode method_6_code 59 = .ok (.iload 7, 2) := by decide +kernel
theorem d1_61 : decode method_6_code 61 = .ok (.iload 4, 2) := by decide +kernel
theorem d1_63 : decode method_6_code 63 = .ok (.iconst 0, 1) := by decide +kernel
theorem d1_64 : decode method_6_code 64 = .ok (.iload 5, 2) := by decide +kernel
theorem d1_66 : decode method_6_code 66 = .ok (.invokestatic 15, 3) := by decide +kernel
theorem d1_69 : decode method_6_code 69 = .ok (.istore 9, 2) := by decide +kernel
theorem d1_71 : decode method_6_code 71 = .ok (.aload_n 0, 1) := by decide +kernel
theorem d1_72 : decode method_6_code 72 = .ok (.iload 9, 2) := by decide +kernel
theorem d1_74 : decode method_6_code 74 = .ok (.iload 8, 2) := by decide +kernel
theorem d1_76 : decode method_6_code 76 = .ok (.invokestatic 19, 3) := by decide +kernel
theorem d1_79 : decode method_6_code 79 = .ok (.istore 9, 2) := by decide +kernel
theorem d1_81 : decode method_6_code 81 = .ok (.aload_n 0, 1) := by decide +kernel
theorem d1_82 : decode method_6_code 82 = .ok (.iload 9, 2) := by decide +kernel
theorem d1_84 : decode method_6_code 84 = .ok (.iload 6, 2) := by decide +kernel
theorem d1_86 : decode method_6_code 86 = .ok (.i2b, 1) := by decide +kernel
theorem d1_87 : decode method_6_code 87 = .ok (.bastore, 1) := by decide +kernel
theorem d1_88 : decode method_6_code 88 = .ok (.aload_n 0, 1) := by decide +kernel
theorem d1_89 : decode method_6_code 89 = .ok (.iload 9, 2) := by decide +kernel
theorem d1_91 : decode method_6_code 91 = .ok (.iconst 1, 1) := by decide +kernel
theorem d1_92 : decode method_6_code 92 = .ok (.iadd, 1) := by decide +kernel
theorem d1_93 : decode method_6_code 93 = .ok (.iload 6, 2) := by decide +kernel
theorem d1_95 : decode method_6_code 95 = .ok (.bipush 8, 2) := by decide +kernel
theorem d1_97 : decode method_6_code 97 = .ok (.iushr, 1) := by decide +kernel
theorem d1_98 : decode method_6_code 98 = .ok (.i2b, 1) := by decide +kernel
theorem d1_99 : decode method_6_code 99 = .ok (.bastore, 1) := by decide +kernel
theorem d1_100 : decode method_6_code 100 = .ok (.iload 9, 2) := by decide +kernel
theorem d1_102 : decode method_6_code 102 = .ok (.iload 8, 2) := by decide +kernel
theorem d1_104 : decode method_6_code 104 = .ok (.iadd, 1) := by decide +kernel
theorem d1_105 : decode method_6_code 105 = .ok (.ireturn, 1) := by decide +kernel
theorem ef_1 (m : MethodId) (u0 : Addr) (u1 : Int32) (u2 : Int32) (u3 : Int32) (u4 : Int32) (u5 : Int32) (u6 : Int32) : entryFrame m #[(.ref u0), (.int u1), (.int u2), (.int u3), (.int u4), (.int u5), (.int u6)] 10 = mkF m 0 #[.val (.ref u0), .val (.int u1), .val (.int u2), .val (.int u3), .val (.int u4), .val (.int u5), .val (.int u6), .unset, .unset, .unset] [] := by first | (simp [entryFrame, mkF, argsToLocals, Value.category]; done) | rfl
def Q1 (Z : State) (u0 : Addr) (u1 : Int32) (u2 : Int32) (u3 : Int32) (u4 : Int32) (u5 : Int32) (u6 : Int32) (nn : Int) (gg : Int → Int) (h0 : Heap) (n0 : Nat) (v : Option Value) (h : Heap) (L : List Loc) : Prop := ∃ (w : Int32) (g' : Int → Int) (f' c' : Int), v = some (.int w) ∧ Fr n0 L ∧ Keep h0 h [u0] ∧ Byt Z h u0 nn g' ∧ w.toInt = u1.toInt + u2.toInt ∧ (∀ i, i < u1.toInt ∨ u1.toInt + u2.toInt ≤ i → g' i = gg i) ∧ (0 ≤ f' ∧ f' ≤ 3) ∧ TagOK g' u1.toInt f' 0 ∧ LenOK g' (u1.toInt + 1 + f') c' ∧ 1 + f' + ls c' + c' = u2.toInt ∧ 2 ≤ c'
set_option maxRecDepth 65536 in
set_option maxHeartbeats 40000000 in
theorem rm1 (l : Launch) (Z : State) (a0 : Array Value) (hw : ∀ d ∈ tables_1, d.before a0 Z = true) (ws : List Jvm.Cond) (u0 : Addr) (u1 : Int32) (u2 : Int32) (u3 : Int32) (u4 : Int32) (u5 : Int32) (u6 : Int32) (nn : Int) (gg : Int → Int) (h0 : Heap) (n0 : Nat) (Z0 : n0 ≤ h0.size) (g_u0 : n0 ≤ u0) (V_u0 : Byt Z h0 u0 nn gg) (hM : nn ≤ 65600) (hp : 0 ≤ u1.toInt) (ht : 18 ≤ u2.toInt ∧ u2.toInt ≤ 65600) (hl : 0 ≤ u3.toInt ∧ u3.toInt ≤ 3) (hq : u1.toInt + u2.toInt ≤ nn) :
    MetFree l (⟨"com/example/fides/fides/DerRequireShapePinLaw", "putFiller", "([BIIIIII)I"⟩ : MethodName) (head1 (Jvm.Cond.code (⟨"com/example/fides/fides/DerRequireShapePinLaw", "putFiller", "([BIIIIII)I"⟩ : MethodName) method_6_code 10 (some .int) :: ws) ({ frames := 1, cells := 0, slots := 0, locals := 19 } : Room)) (fun a U => a = #[(.ref u0), (.int u1), (.int u2), (.int u3), (.int u4), (.int u5), (.int u6)] ∧ Z.Warmed39 U.vm ∧ U.heap = h0) (fun _ _ _ _ _ => True) (fun _ U o U' => ∃ v L, o = .returned v ∧ Q1 Z u0 u1 u2 u3 u4 u5 u6 nn gg h0 n0 v U'.heap L ∧ FrameEnd U o U' L ({ frames := 1, cells := 0, slots := 0, locals := 19 } : Room).cells ({ frames := 1, cells := 0, slots := 0, locals := 19 } : Room).slots) := by
  refine MetFree.of_bodySF (plainFor_of_name pn_com_example_fides_fides_DerRequireShapePinLaw) hisR ?_
  intro p e s m args below meth c s₁ Bd hml0 hP hK
  obtain ⟨rfl, hZ, hh⟩ := hP
  have hx := Bd.exec
  have hby := Bd.bytes
  have hml : c.maxLocals = 10 := hml0
  have hown : s.vm.findClass "com/example/fides/fides/DerRequireShapePinLaw" = some m.cls := findClass_of_methodNamed Bd.named
  have hnm := (name_of_methodNamed Bd.named Bd.method).1
  have X0 : Stand p l e ({ frames := 1, cells := 0, slots := 0, locals := 19 } : Room) s m #[(.ref u0), (.int u1), (.int u2), (.int u3), (.int u4), (.int u5), (.int u6)] below meth c s₁ [] 0 0 := Stand.of_body Bd
  have e0 : s₁.heap = h0 := by rw [← hh, Bd.state]; rfl
  have N0 := Fr.nil n0
  have pre0 : ∀ t, Steps p.tables e below (s₁.setTop (mkF m 0 #[.val (.ref u0), .val (.int u1), .val (.int u2), .val (.int u3), .val (.int u4), .val (.int u5), .val (.int u6), .unset, .unset, .unset] [])) t → Steps p.tables e below (s₁.setTop (entryFrame m #[(.ref u0), (.int u1), (.int u2), (.int u3), (.int u4), (.int u5), (.int u6)] 10)) t := fun t k => castTop (ef_1 m u0 u1 u2 u3 u4 u5 u6) k
  have lit0 : (0 : Int32).toInt = 0 := rfl
  have lit1 : (1 : Int32).toInt = 1 := rfl
  have lit3 : (3 : Int32).toInt = 3 := rfl
  have lit4 : (4 : Int32).toInt = 4 := rfl
  obtain ⟨z1, ez1⟩ : ∃ y : Int32, y = (u2 - (1 : Int32)) := ⟨_, rfl⟩
  have nz1 : z1.toInt = u2.toInt - (1 : Int) := by rw [ez1]; exact own_isub (x := u2.toInt) (y := (1 : Int)) rfl rfl (by omega) (by omega)
  obtain ⟨z2, ez2⟩ : ∃ y : Int32, y = (z1 - u3) := ⟨_, rfl⟩
  have nz2 : z2.toInt = z1.toInt - u3.toInt := by rw [ez2]; exact own_isub (x := z1.toInt) (y := u3.toInt) rfl rfl (by omega) (by omega)
  obtain ⟨_, _, ⟨T3, L3, k3, n3⟩, -, X3, ⟨Lc3, hQ3, l3, y3, z3⟩, st3⟩ := Jvm.LawKit.callS X0 hx (y := (⟨"com/example/fides/fides/DerRequireShapePinLaw", "contentFor", "(I)I"⟩ : MethodName)) hown (mvT hZ (hw _ (List.mem_of_getElem? (i := 5) rfl))) (mvT hZ (hw _ (List.mem_of_getElem? (i := 6) rfl))) (mvT hZ (hw _ (List.mem_of_getElem? (i := 3) rfl))) (mvT hZ (hw _ (List.mem_of_getElem? (i := 7) rfl))) (by decide) (backOf (W := 0) (rm2 l Z a0 hw [] z2 h0 n0 Z0 (by omega)) hZ (hw _ (List.mem_of_getElem? (i := 7) rfl)) (hw _ (List.mem_of_getElem? (i := 3) rfl)) (by decide) (by decide)) (g := (mkF m 9 #[.val (.ref u0), .val (.int u1), .val (.int u2), .val (.int u3), .val (.int u4), .val (.int u5), .val (.int u6), .val (.int u3), .unset, .unset] [(.int z2)])) rfl (by rw [hml]; rfl) (argsL := [(.int z2)]) (rest := []) (lenOf pd_0 rfl) rfl (by show 2 * 0 + _ ≤ _; exact Nat.le_of_eq rfl) (hb hby d1_9) (fun _ _ => ⟨rfl, e0, (by decide : 0 + 0 ≤ _), (by decide : 0 + 0 ≤ _)⟩)
  dsimp only [Pt.U, Pt.locs, Pt.cells, Pt.slots] at X3 l3 y3 z3 st3 hQ3
  replace y3 : k3 = 0 := y3
  replace z3 : n3 = 0 := z3
  rw [y3, z3] at X3
  obtain ⟨w3, rfl, N3q, nw3a, e3⟩ := hQ3
  have N3 : Fr n0 L3 := l3 ▸ Fr.app N0 N3q
  by_cases hc16 : w3 < (0 : Int32)
  · have nhc16 : w3.toInt < (0 : Int) := own_lt1 rfl rfl hc16
    by_cases hc22 : u3 < (3 : Int32)
    · have nhc22 : u3.toInt < (3 : Int) := own_lt1 rfl rfl hc22
      obtain ⟨z4, ez4⟩ : ∃ y : Int32, y = (u3 + (1 : Int32)) := ⟨_, rfl⟩
      have nz4 : z4.toInt = u3.toInt + (1 : Int) := by rw [ez4]; exact own_iadd (x := u3.toInt) (y := (1 : Int)) rfl rfl (by omega) (by omega)
      obtain ⟨z5, ez5⟩ : ∃ y : Int32, y = (u2 - (1 : Int32)) := ⟨_, rfl⟩
      have nz5 : z5.toInt = u2.toInt - (1 : Int) := by rw [ez5]; exact own_isub (x := u2.toInt) (y := (1 : Int)) rfl rfl (by omega) (by omega)
      obtain ⟨z6, ez6⟩ : ∃ y : Int32, y = (z5 - z4) := ⟨_, rfl⟩
      have nz6 : z6.toInt = z5.toInt - z4.toInt := by rw [ez6]; exact own_isub (x := z5.toInt) (y := z4.toInt) rfl rfl (by omega) (by omega)
      obtain ⟨_, _, ⟨T7, L7, k7, n7⟩, -, X7, ⟨Lc7, hQ7, l7, y7, z7⟩, st7⟩ := Jvm.LawKit.callS X3 hx (y := (⟨"com/example/fides/fides/DerRequireShapePinLaw", "contentFor", "(I)I"⟩ : MethodName)) hown (mvT hZ (hw _ (List.mem_of_getElem? (i := 5) rfl))) (mvT hZ (hw _ (List.mem_of_getElem? (i := 6) rfl))) (mvT hZ (hw _ (List.mem_of_getElem? (i := 3) rfl))) (mvT hZ (hw _ (List.mem_of_getElem? (i := 7) rfl))) (by decide) (backOf (W := 0) (rm2 l Z a0 hw [] z6 h0 n0 Z0 (by omega)) hZ (hw _ (List.mem_of_getElem? (i := 7) rfl)) (hw _ (List.mem_of_getElem? (i := 3) rfl)) (by decide) (by decide)) (g := (mkF m 44 #[.val (.ref u0), .val (.int u1), .val (.int u2), .val (.int u3), .val (.int u4), .val (.int u5), .val (.int u6), .val (.int z4), .val (.int w3), .unset] [(.int z6)])) rfl (by rw [hml]; rfl) (argsL := [(.int z6)]) (rest := []) (lenOf pd_0 rfl) rfl (by show 2 * 0 + _ ≤ _; exact Nat.le_of_eq rfl) (hb hby d1_44) (fun _ _ => ⟨rfl, e3, (by decide : 0 + 0 ≤ _), (by decide : 0 + 0 ≤ _)⟩)
      dsimp only [Pt.U, Pt.locs, Pt.cells, Pt.slots] at X7 l7 y7 z7 st7 hQ7
      replace y7 : k7 = 0 := y7
      replace z7 : n7 = 0 := z7
      rw [y7, z7] at X7
      obtain ⟨w7, rfl, N7q, nw7a, e7⟩ := hQ7
      have N7 : Fr n0 L7 := l7 ▸ Fr.app N3 N7q
      have gap := cf_gap nw3a (by omega) (by omega) nw7a (by omega)
      have lb := ls_b w7.toInt
      have cok := cf_ok nw7a (by omega) (by omega)
      obtain ⟨_, _, ⟨T8, L8, k8, n8⟩, -, X8, ⟨Lc8, hQ8, l8, y8, z8⟩, st8⟩ := Jvm.LawKit.callS X7 hx (y := (⟨"com/example/fides/fides/DerRequireShapePinLaw", "putTag", "([BIIIZI)I"⟩ : MethodName)) hown (mvT hZ (hw _ (List.mem_of_getElem? (i := 9) rfl))) (mvT hZ (hw _ (List.mem_of_getElem? (i := 10) rfl))) (mvT hZ (hw _ (List.mem_of_getElem? (i := 3) rfl))) (mvT hZ (hw _ (List.mem_of_getElem? (i := 11) rfl))) (by decide) (backOf (W := 0) (rm3 l Z a0 hw [] u0 u1 z4 u4 (0 : Int32) u5 nn gg h0 n0 Z0 g_u0 V_u0 (by omega) (by omega) (by omega) (by decide) (by omega)) hZ (hw _ (List.mem_of_getElem? (i := 11) rfl)) (hw _ (List.mem_of_getElem? (i := 3) rfl)) (by decide) (by decide)) (g := (mkF m 66 #[.val (.ref u0), .val (.int u1), .val (.int u2), .val (.int u3), .val (.int u4), .val (.int u5), .val (.int u6), .val (.int z4), .val (.int w7), .unset] [(.int u5), (.int (0 : Int32)), (.int u4), (.int z4), (.int u1), (.ref u0)])) rfl (by rw [hml]; rfl) (argsL := [(.ref u0), (.int u1), (.int z4), (.int u4), (.int (0 : Int32)), (.int u5)]) (rest := []) (lenOf pd_4 rfl) rfl (by show 2 * 0 + _ ≤ _; exact Nat.le_of_eq rfl) (hb hby d1_66) (fun _ _ => ⟨rfl, e7, (by decide : 0 + 0 ≤ _), (by decide : 0 + 0 ≤ _)⟩)
      dsimp only [Pt.U, Pt.locs, Pt.cells, Pt.slots] at X8 l8 y8 z8 st8 hQ8
      replace y8 : k8 = 0 := y8
      replace z8 : n8 = 0 := z8
      rw [y8, z8] at X8
      obtain ⟨w8, gw8, rfl, N8q, K8, V8, nw8a, nw8b, nw8c⟩ := hQ8
      have N8 : Fr n0 L8 := l8 ▸ Fr.app N7 N8q
      have Z8 : n0 ≤ T8.heap.size := Nat.le_trans Z0 K8.1
      have KK8 := (Keep.refl h0 [u0]).trans K8 (allS (P := fun x => x ∈ [u0] ∨ h0.size ≤ x) (Or.inl (List.mem_of_getElem? (i := 0) rfl)) all0)
      obtain ⟨_, _, ⟨T9, L9, k9, n9⟩, -, X9, ⟨Lc9, hQ9, l9, y9, z9⟩, st9⟩ := Jvm.LawKit.callS X8 hx (y := (⟨"com/example/fides/fides/DerRequireShapePinLaw", "putLen", "([BII)I"⟩ : MethodName)) hown (mvT hZ (hw _ (List.mem_of_getElem? (i := 13) rfl))) (mvT hZ (hw _ (List.mem_of_getElem? (i := 14) rfl))) (mvT hZ (hw _ (List.mem_of_getElem? (i := 3) rfl))) (mvT hZ (hw _ (List.mem_of_getElem? (i := 15) rfl))) (by decide) (backOf (W := 0) (rm4 l Z a0 hw [] u0 w8 w7 nn gw8 T8.heap n0 Z8 g_u0 V8 (by omega) (by omega) (by omega) (by omega)) hZ (hw _ (List.mem_of_getElem? (i := 15) rfl)) (hw _ (List.mem_of_getElem? (i := 3) rfl)) (by decide) (by decide)) (g := (mkF m 76 #[.val (.ref u0), .val (.int u1), .val (.int u2), .val (.int u3), .val (.int u4), .val (.int u5), .val (.int u6), .val (.int z4), .val (.int w7), .val (.int w8)] [(.int w7), (.int w8), (.ref u0)])) rfl (by rw [hml]; rfl) (argsL := [(.ref u0), (.int w8), (.int w7)]) (rest := []) (lenOf pd_2 rfl) rfl (by show 2 * 0 + _ ≤ _; exact Nat.le_of_eq rfl) (hb hby d1_76) (fun _ _ => ⟨rfl, rfl, (by decide : 0 + 0 ≤ _), (by decide : 0 + 0 ≤ _)⟩)
      dsimp only [Pt.U, Pt.locs, Pt.cells, Pt.slots] at X9 l9 y9 z9 st9 hQ9
      replace y9 : k9 = 0 := y9
      replace z9 : n9 = 0 := z9
      rw [y9, z9] at X9
      obtain ⟨w9, gw9, rfl, N9q, K9, V9, nw9a, nw9b, nw9c⟩ := hQ9
      have N9 : Fr n0 L9 := l9 ▸ Fr.app N8 N9q
      have Z9 : n0 ≤ T9.heap.size := Nat.le_trans Z8 K9.1
      have KK9 := KK8.trans K9 (allS (P := fun x => x ∈ [u0] ∨ h0.size ≤ x) (Or.inl (List.mem_of_getElem? (i := 0) rfl)) all0)
      obtain ⟨z10, ez10⟩ : ∃ y : Int32, y = (u6.toInt8.toInt32) := ⟨_, rfl⟩
      have nz10 : (z10.toInt - u6.toInt) % 256 = 0 ∧ -128 ≤ z10.toInt ∧ z10.toInt < 128 := by rw [ez10]; exact c_i2b u6
      obtain ⟨cl11, Ar11, Sa11, Ma11, Ha11⟩ := id V9
      have i11 : 0 ≤ (w9).toInt ∧ (w9).toInt < nn := by omega
      obtain ⟨T12, h12, X12, e12, W12, st12⟩ := stB X9 hx hZ rfl Ar11 (j := w9) (cel_inb Sa11 i11.1 i11.2) (g := (mkF m 87 #[.val (.ref u0), .val (.int u1), .val (.int u2), .val (.int u3), .val (.int u4), .val (.int u5), .val (.int u6), .val (.int z4), .val (.int w7), .val (.int w9)] [(.int z10), (.int w9), (.ref u0)])) rfl rfl (hb hby d1_87)
      have V12 := Byt.set (g := gw9) Ar11 Sa11 Ma11 Ha11 i11.1 i11.2 W12
      obtain ⟨g12, eg12⟩ : ∃ z, z = upd gw9 (w9).toInt ((z10).toInt % 256) := ⟨_, rfl⟩
      rw [← eg12] at V12
      have ga12 : g12 w9.toInt = z10.toInt % 256 := by rw [eg12]; exact upd_at _ _ _
      have gn12 : ∀ i, i ≠ w9.toInt → g12 i = gw9 i := fun i hi => by rw [eg12]; exact upd_ne _ _ _ hi
      have N12 := Fr.snoc X12 N9 g_u0
      have Z12 : n0 ≤ h12.size := Nat.le_trans Z9 (Keep.of_wr W12).1
      have KK12 := KK9.wr W12 (Or.inl (List.mem_of_getElem? (i := 0) rfl))
      obtain ⟨z13, ez13⟩ : ∃ y : Int32, y = (w9 + (1 : Int32)) := ⟨_, rfl⟩
      have nz13 : z13.toInt = w9.toInt + (1 : Int) := by rw [ez13]; exact own_iadd (x := w9.toInt) (y := (1 : Int)) rfl rfl (by omega) (by omega)
      obtain ⟨z14, ez14⟩ : ∃ y : Int32, y = ((u6.toUInt32 >>> ((8 : Int32) &&& 31).toUInt32).toInt32) := ⟨_, rfl⟩
      obtain ⟨z15, ez15⟩ : ∃ y : Int32, y = (z14.toInt8.toInt32) := ⟨_, rfl⟩
      have nz15 : (z15.toInt - z14.toInt) % 256 = 0 ∧ -128 ≤ z15.toInt ∧ z15.toInt < 128 := by rw [ez15]; exact c_i2b z14
      obtain ⟨cl16, Ar16, Sa16, Ma16, Ha16⟩ := id V12
      have i16 : 0 ≤ (z13).toInt ∧ (z13).toInt < nn := by omega
      obtain ⟨T17, h17, X17, e17, W17, st17⟩ := stB X12 hx hZ e12 Ar16 (j := z13) (cel_inb Sa16 i16.1 i16.2) (g := (mkF m 99 #[.val (.ref u0), .val (.int u1), .val (.int u2), .val (.int u3), .val (.int u4), .val (.int u5), .val (.int u6), .val (.int z4), .val (.int w7), .val (.int w9)] [(.int z15), (.int z13), (.ref u0)])) rfl rfl (hb hby d1_99)
      have V17 := Byt.set (g := g12) Ar16 Sa16 Ma16 Ha16 i16.1 i16.2 W17
      obtain ⟨g17, eg17⟩ : ∃ z, z = upd g12 (z13).toInt ((z15).toInt % 256) := ⟨_, rfl⟩
      rw [← eg17] at V17
      have ga17 : g17 z13.toInt = z15.toInt % 256 := by rw [eg17]; exact upd_at _ _ _
      have gn17 : ∀ i, i ≠ z13.toInt → g17 i = g12 i := fun i hi => by rw [eg17]; exact upd_ne _ _ _ hi
      have N17 := Fr.snoc X17 N12 g_u0
      have Z17 : n0 ≤ h17.size := Nat.le_trans Z12 (Keep.of_wr W17).1
      have KK17 := KK12.wr W17 (Or.inl (List.mem_of_getElem? (i := 0) rfl))
      obtain ⟨z18, ez18⟩ : ∃ y : Int32, y = (w9 + w7) := ⟨_, rfl⟩
      have nz18 : z18.toInt = w9.toInt + w7.toInt := by rw [ez18]; exact own_iadd (x := w9.toInt) (y := w7.toInt) rfl rfl (by omega) (by omega)
      have t1 : TagOK g17 u1.toInt z4.toInt 0 := TagOK.congr (show TagOK _ _ _ 0 from nw8c) (by omega) (by omega) (fun i h1 h2 => by rw [gn17 i (by omega), gn12 i (by omega), nw9b i (by omega)])
      have t2 : LenOK g17 (u1.toInt + 1 + z4.toInt) w7.toInt := LenOK.congr (by have q := nw9c; rwa [show w8.toInt = u1.toInt + 1 + z4.toInt from by omega] at q) (fun i h1 h2 => by rw [gn17 i (by omega), gn12 i (by omega)])
      obtain ⟨fs, hr, hrun, hended, hW, hsame⟩ := X17.leave (v := some (.int z18)) (fun h => by rw [Bd.returns] at h; cases h)
      refine ⟨_, _, pre0 _ ?_, hrun, hended, _, _, rfl, ?_, ⟨_, rfl⟩, hW, hsame.mono (by decide) (by decide)⟩
      · show Steps p.tables e below (s₁.setTop (mkF m 0 #[.val (.ref u0), .val (.int u1), .val (.int u2), .val (.int u3), .val (.int u4), .val (.int u5), .val (.int u6), .unset, .unset, .unset] [])) _
        refine XS.iloadN X0.here hx rfl (hb hby d1_0) rfl ?_
        refine XS.istore X0.here hx rfl (hb hby d1_1) rfl (l' := #[.val (.ref u0), .val (.int u1), .val (.int u2), .val (.int u3), .val (.int u4), .val (.int u5), .val (.int u6), .val (.int u3), .unset, .unset]) rfl ?_
        refine XS.iloadN X0.here hx rfl (hb hby d1_3) rfl ?_
        refine XS.iconst X0.here hx rfl (hb hby d1_4) ?_
        show Steps p.tables e below (s₁.setTop (mkF m 5 #[.val (.ref u0), .val (.int u1), .val (.int u2), .val (.int u3), .val (.int u4), .val (.int u5), .val (.int u6), .val (.int u3), .unset, .unset] [(.int (1 : Int32)), (.int u2)])) _
        refine XS.isub X0.here hx rfl (hb hby d1_5) rfl ?_
        show Steps p.tables e below (s₁.setTop (mkF m 6 #[.val (.ref u0), .val (.int u1), .val (.int u2), .val (.int u3), .val (.int u4), .val (.int u5), .val (.int u6), .val (.int u3), .unset, .unset] [(.int (u2 - (1 : Int32)))])) _
        rw [← ez1]
        refine XS.iload X0.here hx rfl (hb hby d1_6) rfl ?_
        show Steps p.tables e below (s₁.setTop (mkF m 8 #[.val (.ref u0), .val (.int u1), .val (.int u2), .val (.int u3), .val (.int u4), .val (.int u5), .val (.int u6), .val (.int u3), .unset, .unset] [(.int u3), (.int z1)])) _
        refine XS.isub X0.here hx rfl (hb hby d1_8) rfl ?_
        show Steps p.tables e below (s₁.setTop (mkF m 9 #[.val (.ref u0), .val (.int u1), .val (.int u2), .val (.int u3), .val (.int u4), .val (.int u5), .val (.int u6), .val (.int u3), .unset, .unset] [(.int (z1 - u3))])) _
        rw [← ez2]
        refine st3 _ ?_
        show Steps p.tables e below (T3.setTop (mkF m 12 #[.val (.ref u0), .val (.int u1), .val (.int u2), .val (.int u3), .val (.int u4), .val (.int u5), .val (.int u6), .val (.int u3), .unset, .unset] [(.int w3)])) _
        refine XS.istore X3.here hx rfl (hb hby d1_12) rfl (l' := #[.val (.ref u0), .val (.int u1), .val (.int u2), .val (.int u3), .val (.int u4), .val (.int u5), .val (.int u6), .val (.int u3), .val (.int w3), .unset]) rfl ?_
        refine XS.iload X3.here hx rfl (hb hby d1_14) rfl ?_
        refine XS.ifNo X3.here hx rfl (hb hby d1_16) rfl ((if0 _ _).trans (tlt hc16).2.1) ?_
        refine XS.iload X3.here hx rfl (hb hby d1_19) rfl ?_
        refine XS.iconst X3.here hx rfl (hb hby d1_21) ?_
        refine XS.icmpNo X3.here hx rfl (hb hby d1_22) rfl (tlt hc22).2.1 ?_
        refine XS.iload X3.here hx rfl (hb hby d1_25) rfl ?_
        refine XS.iconst X3.here hx rfl (hb hby d1_27) ?_
        show Steps p.tables e below (T3.setTop (mkF m 28 #[.val (.ref u0), .val (.int u1), .val (.int u2), .val (.int u3), .val (.int u4), .val (.int u5), .val (.int u6), .val (.int u3), .val (.int w3), .unset] [(.int (1 : Int32)), (.int u3)])) _
        refine XS.iadd X3.here hx rfl (hb hby d1_28) rfl ?_
        show Steps p.tables e below (T3.setTop (mkF m 29 #[.val (.ref u0), .val (.int u1), .val (.int u2), .val (.int u3), .val (.int u4), .val (.int u5), .val (.int u6), .val (.int u3), .val (.int w3), .unset] [(.int (u3 + (1 : Int32)))])) _
        rw [← ez4]
        refine XS.goto X3.here hx rfl (pc0 := 29) (pc' := 36) rfl (hb hby d1_29) (by decide) (by decide) ?_
        refine XS.istore X3.here hx rfl (hb hby d1_36) rfl (l' := #[.val (.ref u0), .val (.int u1), .val (.int u2), .val (.int u3), .val (.int u4), .val (.int u5), .val (.int u6), .val (.int z4), .val (.int w3), .unset]) rfl ?_
        refine XS.iloadN X3.here hx rfl (hb hby d1_38) rfl ?_
        refine XS.iconst X3.here hx rfl (hb hby d1_39) ?_
        show Steps p.tables e below (T3.setTop (mkF m 40 #[.val (.ref u0), .val (.int u1), .val (.int u2), .val (.int u3), .val (.int u4), .val (.int u5), .val (.int u6), .val (.int z4), .val (.int w3), .unset] [(.int (1 : Int32)), (.int u2)])) _
        refine XS.isub X3.here hx rfl (hb hby d1_40) rfl ?_
        show Steps p.tables e below (T3.setTop (mkF m 41 #[.val (.ref u0), .val (.int u1), .val (.int u2), .val (.int u3), .val (.int u4), .val (.int u5), .val (.int u6), .val (.int z4), .val (.int w3), .unset] [(.int (u2 - (1 : Int32)))])) _
        rw [← ez5]
        refine XS.iload X3.here hx rfl (hb hby d1_41) rfl ?_
        show Steps p.tables e below (T3.setTop (mkF m 43 #[.val (.ref u0), .val (.int u1), .val (.int u2), .val (.int u3), .val (.int u4), .val (.int u5), .val (.int u6), .val (.int z4), .val (.int w3), .unset] [(.int z4), (.int z5)])) _
        refine XS.isub X3.here hx rfl (hb hby d1_43) rfl ?_
        show Steps p.tables e below (T3.setTop (mkF m 44 #[.val (.ref u0), .val (.int u1), .val (.int u2), .val (.int u3), .val (.int u4), .val (.int u5), .val (.int u6), .val (.int z4), .val (.int w3), .unset] [(.int (z5 - z4))])) _
        rw [← ez6]
        refine st7 _ ?_
        show Steps p.tables e below (T7.setTop (mkF m 47 #[.val (.ref u0), .val (.int u1), .val (.int u2), .val (.int u3), .val (.int u4), .val (.int u5), .val (.int u6), .val (.int z4), .val (.int w3), .unset] [(.int w7)])) _
        refine XS.istore X7.here hx rfl (hb hby d1_47) rfl (l' := #[.val (.ref u0), .val (.int u1), .val (.int u2), .val (.int u3), .val (.int u4), .val (.int u5), .val (.int u6), .val (.int z4), .val (.int w7), .unset]) rfl ?_
        refine XS.iload X7.here hx rfl (hb hby d1_49) rfl ?_
        refine XS.iconst X7.here hx rfl (hb hby d1_51) ?_
        refine XS.icmpYes X7.here hx rfl (pc0 := 52) (pc' := 57) rfl (hb hby d1_52) rfl (flt (own_lt0' (y := 2) rfl rfl (by omega))).2.1 (by decide) (by decide) ?_
        refine XS.aloadN X7.here hx rfl (hb hby d1_57) rfl rfl ?_
        refine XS.iloadN X7.here hx rfl (hb hby d1_58) rfl ?_
        refine XS.iload X7.here hx rfl (hb hby d1_59) rfl ?_
        refine XS.iload X7.here hx rfl (hb hby d1_61) rfl ?_
        refine XS.iconst X7.here hx rfl (hb hby d1_63) ?_
        refine XS.iload X7.here hx rfl (hb hby d1_64) rfl ?_
        refine st8 _ ?_
        show Steps p.tables e below (T8.setTop (mkF m 69 #[.val (.ref u0), .val (.int u1), .val (.int u2), .val (.int u3), .val (.int u4), .val (.int u5), .val (.int u6), .val (.int z4), .val (.int w7), .unset] [(.int w8)])) _
        refine XS.istore X8.here hx rfl (hb hby d1_69) rfl (l' := #[.val (.ref u0), .val (.int u1), .val (.int u2), .val (.int u3), .val (.int u4), .val (.int u5), .val (.int u6), .val (.int z4), .val (.int w7), .val (.int w8)]) rfl ?_
        refine XS.aloadN X8.here hx rfl (hb hby d1_71) rfl rfl ?_
        refine XS.iload X8.here hx rfl (hb hby d1_72) rfl ?_
        refine XS.iload X8.here hx rfl (hb hby d1_74) rfl ?_
        refine st9 _ ?_
        show Steps p.tables e below (T9.setTop (mkF m 79 #[.val (.ref u0), .val (.int u1), .val (.int u2), .val (.int u3), .val (.int u4), .val (.int u5), .val (.int u6), .val (.int z4), .val (.int w7), .val (.int w8)] [(.int w9)])) _
        refine XS.istore X9.here hx rfl (hb hby d1_79) rfl (l' := #[.val (.ref u0), .val (.int u1), .val (.int u2), .val (.int u3), .val (.int u4), .val (.int u5), .val (.int u6), .val (.int z4), .val (.int w7), .val (.int w9)]) rfl ?_
        refine XS.aloadN X9.here hx rfl (hb hby d1_81) rfl rfl ?_
        refine XS.iload X9.here hx rfl (hb hby d1_82) rfl ?_
        refine XS.iload X9.here hx rfl (hb hby d1_84) rfl ?_
        show Steps p.tables e below (T9.setTop (mkF m 86 #[.val (.ref u0), .val (.int u1), .val (.int u2), .val (.int u3), .val (.int u4), .val (.int u5), .val (.int u6), .val (.int z4), .val (.int w7), .val (.int w9)] [(.int u6), (.int w9), (.ref u0)])) _
        refine XS.i2b X9.here hx rfl (hb hby d1_86) rfl ?_
        show Steps p.tables e below (T9.setTop (mkF m 87 #[.val (.ref u0), .val (.int u1), .val (.int u2), .val (.int u3), .val (.int u4), .val (.int u5), .val (.int u6), .val (.int z4), .val (.int w7), .val (.int w9)] [(.int (u6.toInt8.toInt32)), (.int w9), (.ref u0)])) _
        rw [← ez10]
        show Steps p.tables e below (T9.setTop (mkF m 87 #[.val (.ref u0), .val (.int u1), .val (.int u2), .val (.int u3), .val (.int u4), .val (.int u5), .val (.int u6), .val (.int z4), .val (.int w7), .val (.int w9)] [(.int z10), (.int w9), (.ref u0)])) _
        refine st12 _ ?_
        show Steps p.tables e below (T12.setTop (mkF m 88 #[.val (.ref u0), .val (.int u1), .val (.int u2), .val (.int u3), .val (.int u4), .val (.int u5), .val (.int u6), .val (.int z4), .val (.int w7), .val (.int w9)] [])) _
        refine XS.aloadN X12.here hx rfl (hb hby d1_88) rfl rfl ?_
        refine XS.iload X12.here hx rfl (hb hby d1_89) rfl ?_
        refine XS.iconst X12.here hx rfl (hb hby d1_91) ?_
        show Steps p.tables e below (T12.setTop (mkF m 92 #[.val (.ref u0), .val (.int u1), .val (.int u2), .val (.int u3), .val (.int u4), .val (.int u5), .val (.int u6), .val (.int z4), .val (.int w7), .val (.int w9)] [(.int (1 : Int32)), (.int w9), (.ref u0)])) _
        refine XS.iadd X12.here hx rfl (hb hby d1_92) rfl ?_
        show Steps p.tables e below (T12.setTop (mkF m 93 #[.val (.ref u0), .val (.int u1), .val (.int u2), .val (.int u3), .val (.int u4), .val (.int u5), .val (.int u6), .val (.int z4), .val (.int w7), .val (.int w9)] [(.int (w9 + (1 : Int32))), (.ref u0)])) _
        rw [← ez13]
        refine XS.iload X12.here hx rfl (hb hby d1_93) rfl ?_
        refine XS.bipush X12.here hx rfl (hb hby d1_95) ?_
        show Steps p.tables e below (T12.setTop (mkF m 97 #[.val (.ref u0), .val (.int u1), .val (.int u2), .val (.int u3), .val (.int u4), .val (.int u5), .val (.int u6), .val (.int z4), .val (.int w7), .val (.int w9)] [(.int (8 : Int32)), (.int u6), (.int z13), (.ref u0)])) _
        refine XS.iushr X12.here hx rfl (hb hby d1_97) rfl ?_
        show Steps p.tables e below (T12.setTop (mkF m 98 #[.val (.ref u0), .val (.int u1), .val (.int u2), .val (.int u3), .val (.int u4), .val (.int u5), .val (.int u6), .val (.int z4), .val (.int w7), .val (.int w9)] [(.int ((u6.toUInt32 >>> ((8 : Int32) &&& 31).toUInt32).toInt32)), (.int z13), (.ref u0)])) _
        rw [← ez14]
        show Steps p.tables e below (T12.setTop (mkF m 98 #[.val (.ref u0), .val (.int u1), .val (.int u2), .val (.int u3), .val (.int u4), .val (.int u5), .val (.int u6), .val (.int z4), .val (.int w7), .val (.int w9)] [(.int z14), (.int z13), (.ref u0)])) _
        refine XS.i2b X12.here hx rfl (hb hby d1_98) rfl ?_
        show Steps p.tables e below (T12.setTop (mkF m 99 #[.val (.ref u0), .val (.int u1), .val (.int u2), .val (.int u3), .val (.int u4), .val (.int u5), .val (.int u6), .val (.int z4), .val (.int w7), .val (.int w9)] [(.int (z14.toInt8.toInt32)), (.int z13), (.ref u0)])) _
        rw [← ez15]
        show Steps p.tables e below (T12.setTop (mkF m 99 #[.val (.ref u0), .val (.int u1), .val (.int u2), .val (.int u3), .val (.int u4), .val (.int u5), .val (.int u6), .val (.int z4), .val (.int w7), .val (.int w9)] [(.int z15), (.int z13), (.ref u0)])) _
        refine st17 _ ?_
        show Steps p.tables e below (T17.setTop (mkF m 100 #[.val (.ref u0), .val (.int u1), .val (.int u2), .val (.int u3), .val (.int u4), .val (.int u5), .val (.int u6), .val (.int z4), .val (.int w7), .val (.int w9)] [])) _
        refine XS.iload X17.here hx rfl (hb hby d1_100) rfl ?_
        refine XS.iload X17.here hx rfl (hb hby d1_102) rfl ?_
        show Steps p.tables e below (T17.setTop (mkF m 104 #[.val (.ref u0), .val (.int u1), .val (.int u2), .val (.int u3), .val (.int u4), .val (.int u5), .val (.int u6), .val (.int z4), .val (.int w7), .val (.int w9)] [(.int w7), (.int w9)])) _
        refine XS.iadd X17.here hx rfl (hb hby d1_104) rfl ?_
        show Steps p.tables e below (T17.setTop (mkF m 105 #[.val (.ref u0), .val (.int u1), .val (.int u2), .val (.int u3), .val (.int u4), .val (.int u5), .val (.int u6), .val (.int z4), .val (.int w7), .val (.int w9)] [(.int (w9 + w7))])) _
        rw [← ez18]
        show Steps p.tables e below (T17.setTop (mkF m 105 #[.val (.ref u0), .val (.int u1), .val (.int u2), .val (.int u3), .val (.int u4), .val (.int u5), .val (.int u6), .val (.int z4), .val (.int w7), .val (.int w9)] [(.int z18)])) _
        exact retI X17 hx Bd.returns (hb hby d1_105) hr
      · show Q1 Z u0 u1 u2 u3 u4 u5 u6 nn gg h0 n0 _ T17.heap _
        rw [e17]
        exact ⟨_, g17, z4.toInt, w7.toInt, rfl, N17, KK17, V17, (by omega), (fun i hi => by rw [gn17 i (by omega), gn12 i (by omega), nw9b i (by omega), nw8b i (by omega)]), ⟨by omega, by omega⟩, t1, t2, (by omega), (by omega)⟩
    · have nhc22 : ¬ u3.toInt < (3 : Int) := own_lt0 rfl rfl hc22
      obtain ⟨z19, ez19⟩ : ∃ y : Int32, y = (u3 - (1 : Int32)) := ⟨_, rfl⟩
      have nz19 : z19.toInt = u3.toInt - (1 : Int) := by rw [ez19]; exact own_isub (x := u3.toInt) (y := (1 : Int)) rfl rfl (by omega) (by omega)
      obtain ⟨z20, ez20⟩ : ∃ y : Int32, y = (u2 - (1 : Int32)) := ⟨_, rfl⟩
      have nz20 : z20.toInt = u2.toInt - (1 : Int) := by rw [ez20]; exact own_isub (x := u2.toInt) (y := (1 : Int)) rfl rfl (by omega) (by omega)
      obtain ⟨z21, ez21⟩ : ∃ y : Int32, y = (z20 - z19) := ⟨_, rfl⟩
      have nz21 : z21.toInt = z20.toInt - z19.toInt := by rw [ez21]; exact own_isub (x := z20.toInt) (y := z19.toInt) rfl rfl (by omega) (by omega)
      obtain ⟨_, _, ⟨T22, L22, k22, n22⟩, -, X22, ⟨Lc22, hQ22, l22, y22, z22⟩, st22⟩ := Jvm.LawKit.callS X3 hx (y := (⟨"com/example/fides/fides/DerRequireShapePinLaw", "contentFor", "(I)I"⟩ : MethodName)) hown (mvT hZ (hw _ (List.mem_of_getElem? (i := 5) rfl))) (mvT hZ (hw _ (List.mem_of_getElem? (i := 6) rfl))) (mvT hZ (hw _ (List.mem_of_getElem? (i := 3) rfl))) (mvT hZ (hw _ (List.mem_of_getElem? (i := 7) rfl))) (by decide) (backOf (W := 0) (rm2 l Z a0 hw [] z21 h0 n0 Z0 (by omega)) hZ (hw _ (List.mem_of_getElem? (i := 7) rfl)) (hw _ (List.mem_of_getElem? (i := 3) rfl)) (by decide) (by decide)) (g := (mkF m 44 #[.val (.ref u0), .val (.int u1), .val (.int u2), .val (.int u3), .val (.int u4), .val (.int u5), .val (.int u6), .val (.int z19), .val (.int w3), .unset] [(.int z21)])) rfl (by rw [hml]; rfl) (argsL := [(.int z21)]) (rest := []) (lenOf pd_0 rfl) rfl (by show 2 * 0 + _ ≤ _; exact Nat.le_of_eq rfl) (hb hby d1_44) (fun _ _ => ⟨rfl, e3, (by decide : 0 + 0 ≤ _), (by decide : 0 + 0 ≤ _)⟩)
      dsimp only [Pt.U, Pt.locs, Pt.cells, Pt.slots] at X22 l22 y22 z22 st22 hQ22
      replace y22 : k22 = 0 := y22
      replace z22 : n22 = 0 := z22
      rw [y22, z22] at X22
      obtain ⟨w22, rfl, N22q, nw22a, e22⟩ := hQ22
      have N22 : Fr n0 L22 := l22 ▸ Fr.app N3 N22q
      have gap := cf_gap nw3a (by omega) (by omega) nw22a (by omega)
      have lb := ls_b w22.toInt
      have cok := cf_ok nw22a (by omega) (by omega)
      obtain ⟨_, _, ⟨T23, L23, k23, n23⟩, -, X23, ⟨Lc23, hQ23, l23, y23, z23⟩, st23⟩ := Jvm.LawKit.callS X22 hx (y := (⟨"com/example/fides/fides/DerRequireShapePinLaw", "putTag", "([BIIIZI)I"⟩ : MethodName)) hown (mvT hZ (hw _ (List.mem_of_getElem? (i := 9) rfl))) (mvT hZ (hw _ (List.mem_of_getElem? (i := 10) rfl))) (mvT hZ (hw _ (List.mem_of_getElem? (i := 3) rfl))) (mvT hZ (hw _ (List.mem_of_getElem? (i := 11) rfl))) (by decide) (backOf (W := 0) (rm3 l Z a0 hw [] u0 u1 z19 u4 (0 : Int32) u5 nn gg h0 n0 Z0 g_u0 V_u0 (by omega) (by omega) (by omega) (by decide) (by omega)) hZ (hw _ (List.mem_of_getElem? (i := 11) rfl)) (hw _ (List.mem_of_getElem? (i := 3) rfl)) (by decide) (by decide)) (g := (mkF m 66 #[.val (.ref u0), .val (.int u1), .val (.int u2), .val (.int u3), .val (.int u4), .val (.int u5), .val (.int u6), .val (.int z19), .val (.int w22), .unset] [(.int u5), (.int (0 : Int32)), (.int u4), (.int z19), (.int u1), (.ref u0)])) rfl (by rw [hml]; rfl) (argsL := [(.ref u0), (.int u1), (.int z19), (.int u4), (.int (0 : Int32)), (.int u5)]) (rest := []) (lenOf pd_4 rfl) rfl (by show 2 * 0 + _ ≤ _; exact Nat.le_of_eq rfl) (hb hby d1_66) (fun _ _ => ⟨rfl, e22, (by decide : 0 + 0 ≤ _), (by decide : 0 + 0 ≤ _)⟩)
      dsimp only [Pt.U, Pt.locs, Pt.cells, Pt.slots] at X23 l23 y23 z23 st23 hQ23
      replace y23 : k23 = 0 := y23
      replace z23 : n23 = 0 := z23
      rw [y23, z23] at X23
      obtain ⟨w23, gw23, rfl, N23q, K23, V23, nw23a, nw23b, nw23c⟩ := hQ23
      have N23 : Fr n0 L23 := l23 ▸ Fr.app N22 N23q
      have Z23 : n0 ≤ T23.heap.size := Nat.le_trans Z0 K23.1
      have KK23 := (Keep.refl h0 [u0]).trans K23 (allS (P := fun x => x ∈ [u0] ∨ h0.size ≤ x) (Or.inl (List.mem_of_getElem? (i := 0) rfl)) all0)
      obtain ⟨_, _, ⟨T24, L24, k24, n24⟩, -, X24, ⟨Lc24, hQ24, l24, y24, z24⟩, st24⟩ := Jvm.LawKit.callS X23 hx (y := (⟨"com/example/fides/fides/DerRequireShapePinLaw", "putLen", "([BII)I"⟩ : MethodName)) hown (mvT hZ (hw _ (List.mem_of_getElem? (i := 13) rfl))) (mvT hZ (hw _ (List.mem_of_getElem? (i := 14) rfl))) (mvT hZ (hw _ (List.mem_of_getElem? (i := 3) rfl))) (mvT hZ (hw _ (List.mem_of_getElem? (i := 15) rfl))) (by decide) (backOf (W := 0) (rm4 l Z a0 hw [] u0 w23 w22 nn gw23 T23.heap n0 Z23 g_u0 V23 (by omega) (by omega) (by omega) (by omega)) hZ (hw _ (List.mem_of_getElem? (i := 15) rfl)) (hw _ (List.mem_of_getElem? (i := 3) rfl)) (by decide) (by decide)) (g := (mkF m 76 #[.val (.ref u0), .val (.int u1), .val (.int u2), .val (.int u3), .val (.int u4), .val (.int u5), .val (.int u6), .val (.int z19), .val (.int w22), .val (.int w23)] [(.int w22), (.int w23), (.ref u0)])) rfl (by rw [hml]; rfl) (argsL := [(.ref u0), (.int w23), (.int w22)]) (rest := []) (lenOf pd_2 rfl) rfl (by show 2 * 0 + _ ≤ _; exact Nat.le_of_eq rfl) (hb hby d1_76) (fun _ _ => ⟨rfl, rfl, (by decide : 0 + 0 ≤ _), (by decide : 0 + 0 ≤ _)⟩)
      dsimp only [Pt.U, Pt.locs, Pt.cells, Pt.slots] at X24 l24 y24 z24 st24 hQ24
      replace y24 : k24 = 0 := y24
      replace z24 : n24 = 0 := z24
      rw [y24, z24] at X24
      obtain ⟨w24, gw24, rfl, N24q, K24, V24, nw24a, nw24b, nw24c⟩ := hQ24
      have N24 : Fr n0 L24 := l24 ▸ Fr.app N23 N24q
      have Z24 : n0 ≤ T24.heap.size := Nat.le_trans Z23 K24.1
      have KK24 := KK23.trans K24 (allS (P := fun x => x ∈ [u0] ∨ h0.size ≤ x) (Or.inl (List.mem_of_getElem? (i := 0) rfl)) all0)
      obtain ⟨z25, ez25⟩ : ∃ y : Int32, y = (u6.toInt8.toInt32) := ⟨_, rfl⟩
      have nz25 : (z25.toInt - u6.toInt) % 256 = 0 ∧ -128 ≤ z25.toInt ∧ z25.toInt < 128 := by rw [ez25]; exact c_i2b u6
      obtain ⟨cl26, Ar26, Sa26, Ma26, Ha26⟩ := id V24
      have i26 : 0 ≤ (w24).toInt ∧ (w24).toInt < nn := by omega
      obtain ⟨T27, h27, X27, e27, W27, st27⟩ := stB X24 hx hZ rfl Ar26 (j := w24) (cel_inb Sa26 i26.1 i26.2) (g := (mkF m 87 #[.val (.ref u0), .val (.int u1), .val (.int u2), .val (.int u3), .val (.int u4), .val (.int u5), .val (.int u6), .val (.int z19), .val (.int w22), .val (.int w24)] [(.int z25), (.int w24), (.ref u0)])) rfl rfl (hb hby d1_87)
      have V27 := Byt.set (g := gw24) Ar26 Sa26 Ma26 Ha26 i26.1 i26.2 W27
      obtain ⟨g27, eg27⟩ : ∃ z, z = upd gw24 (w24).toInt ((z25).toInt % 256) := ⟨_, rfl⟩
      rw [← eg27] at V27
      have ga27 : g27 w24.toInt = z25.toInt % 256 := by rw [eg27]; exact upd_at _ _ _
      have gn27 : ∀ i, i ≠ w24.toInt → g27 i = gw24 i := fun i hi => by rw [eg27]; exact upd_ne _ _ _ hi
      have N27 := Fr.snoc X27 N24 g_u0
      have Z27 : n0 ≤ h27.size := Nat.le_trans Z24 (Keep.of_wr W27).1
      have KK27 := KK24.wr W27 (Or.inl (List.mem_of_getElem? (i := 0) rfl))
      obtain ⟨z28, ez28⟩ : ∃ y : Int32, y = (w24 + (1 : Int32)) := ⟨_, rfl⟩
      have nz28 : z28.toInt = w24.toInt + (1 : Int) := by rw [ez28]; exact own_iadd (x := w24.toInt) (y := (1 : Int)) rfl rfl (by omega) (by omega)
      obtain ⟨z29, ez29⟩ : ∃ y : Int32, y = ((u6.toUInt32 >>> ((8 : Int32) &&& 31).toUInt32).toInt32) := ⟨_, rfl⟩
      obtain ⟨z30, ez30⟩ : ∃ y : Int32, y = (z29.toInt8.toInt32) := ⟨_, rfl⟩
      have nz30 : (z30.toInt - z29.toInt) % 256 = 0 ∧ -128 ≤ z30.toInt ∧ z30.toInt < 128 := by rw [ez30]; exact c_i2b z29
      obtain ⟨cl31, Ar31, Sa31, Ma31, Ha31⟩ := id V27
      have i31 : 0 ≤ (z28).toInt ∧ (z28).toInt < nn := by omega
      obtain ⟨T32, h32, X32, e32, W32, st32⟩ := stB X27 hx hZ e27 Ar31 (j := z28) (cel_inb Sa31 i31.1 i31.2) (g := (mkF m 99 #[.val (.ref u0), .val (.int u1), .val (.int u2), .val (.int u3), .val (.int u4), .val (.int u5), .val (.int u6), .val (.int z19), .val (.int w22), .val (.int w24)] [(.int z30), (.int z28), (.ref u0)])) rfl rfl (hb hby d1_99)
      have V32 := Byt.set (g := g27) Ar31 Sa31 Ma31 Ha31 i31.1 i31.2 W32
      obtain ⟨g32, eg32⟩ : ∃ z, z = upd g27 (z28).toInt ((z30).toInt % 256) := ⟨_, rfl⟩
      rw [← eg32] at V32
      have ga32 : g32 z28.toInt = z30.toInt % 256 := by rw [eg32]; exact upd_at _ _ _
      have gn32 : ∀ i, i ≠ z28.toInt → g32 i = g27 i := fun i hi => by rw [eg32]; exact upd_ne _ _ _ hi
      have N32 := Fr.snoc X32 N27 g_u0
      have Z32 : n0 ≤ h32.size := Nat.le_trans Z27 (Keep.of_wr W32).1
      have KK32 := KK27.wr W32 (Or.inl (List.mem_of_getElem? (i := 0) rfl))
      obtain ⟨z33, ez33⟩ : ∃ y : Int32, y = (w24 + w22) := ⟨_, rfl⟩
      have nz33 : z33.toInt = w24.toInt + w22.toInt := by rw [ez33]; exact own_iadd (x := w24.toInt) (y := w22.toInt) rfl rfl (by omega) (by omega)
      have t1 : TagOK g32 u1.toInt z19.toInt 0 := TagOK.congr (show TagOK _ _ _ 0 from nw23c) (by omega) (by omega) (fun i h1 h2 => by rw [gn32 i (by omega), gn27 i (by omega), nw24b i (by omega)])
      have t2 : LenOK g32 (u1.toInt + 1 + z19.toInt) w22.toInt := LenOK.congr (by have q := nw24c; rwa [show w23.toInt = u1.toInt + 1 + z19.toInt from by omega] at q) (fun i h1 h2 => by rw [gn32 i (by omega), gn27 i (by omega)])
      obtain ⟨fs, hr, hrun, hended, hW, hsame⟩ := X32.leave (v := some (.int z33)) (fun h => by rw [Bd.returns] at h; cases h)
      refine ⟨_, _, pre0 _ ?_, hrun, hended, _, _, rfl, ?_, ⟨_, rfl⟩, hW, hsame.mono (by decide) (by decide)⟩
      · show Steps p.tables e below (s₁.setTop (mkF m 0 #[.val (.ref u0), .val (.int u1), .val (.int u2), .val (.int u3), .val (.int u4), .val (.int u5), .val (.int u6), .unset, .unset, .unset] [])) _
        refine XS.iloadN X0.here hx rfl (hb hby d1_0) rfl ?_
        refine XS.istore X0.here hx rfl (hb hby d1_1) rfl (l' := #[.val (.ref u0), .val (.int u1), .val (.int u2), .val (.int u3), .val (.int u4), .val (.int u5), .val (.int u6), .val (.int u3), .unset, .unset]) rfl ?_
        refine XS.iloadN X0.here hx rfl (hb hby d1_3) rfl ?_
        refine XS.iconst X0.here hx rfl (hb hby d1_4) ?_
        show Steps p.tables e below (s₁.setTop (mkF m 5 #[.val (.ref u0), .val (.int u1), .val (.int u2), .val (.int u3), .val (.int u4), .val (.int u5), .val (.int u6), .val (.int u3), .unset, .unset] [(.int (1 : Int32)), (.int u2)])) _
        refine XS.isub X0.here hx rfl (hb hby d1_5) rfl ?_
        show Steps p.tables e below (s₁.setTop (mkF m 6 #[.val (.ref u0), .val (.int u1), .val (.int u2), .val (.int u3), .val (.int u4), .val (.int u5), .val (.int u6), .val (.int u3), .unset, .unset] [(.int (u2 - (1 : Int32)))])) _
        rw [← ez1]
        refine XS.iload X0.here hx rfl (hb hby d1_6) rfl ?_
        show Steps p.tables e below (s₁.setTop (mkF m 8 #[.val (.ref u0), .val (.int u1), .val (.int u2), .val (.int u3), .val (.int u4), .val (.int u5), .val (.int u6), .val (.int u3), .unset, .unset] [(.int u3), (.int z1)])) _
        refine XS.isub X0.here hx rfl (hb hby d1_8) rfl ?_
        show Steps p.tables e below (s₁.setTop (mkF m 9 #[.val (.ref u0), .val (.int u1), .val (.int u2), .val (.int u3), .val (.int u4), .val (.int u5), .val (.int u6), .val (.int u3), .unset, .unset] [(.int (z1 - u3))])) _
        rw [← ez2]
        refine st3 _ ?_
        show Steps p.tables e below (T3.setTop (mkF m 12 #[.val (.ref u0), .val (.int u1), .val (.int u2), .val (.int u3), .val (.int u4), .val (.int u5), .val (.int u6), .val (.int u3), .unset, .unset] [(.int w3)])) _
        refine XS.istore X3.here hx rfl (hb hby d1_12) rfl (l' := #[.val (.ref u0), .val (.int u1), .val (.int u2), .val (.int u3), .val (.int u4), .val (.int u5), .val (.int u6), .val (.int u3), .val (.int w3), .unset]) rfl ?_
        refine XS.iload X3.here hx rfl (hb hby d1_14) rfl ?_
        refine XS.ifNo X3.here hx rfl (hb hby d1_16) rfl ((if0 _ _).trans (tlt hc16).2.1) ?_
        refine XS.iload X3.here hx rfl (hb hby d1_19) rfl ?_
        refine XS.iconst X3.here hx rfl (hb hby d1_21) ?_
        refine XS.icmpYes X3.here hx rfl (pc0 := 22) (pc' := 32) rfl (hb hby d1_22) rfl (flt hc22).2.1 (by decide) (by decide) ?_
        refine XS.iload X3.here hx rfl (hb hby d1_32) rfl ?_
        refine XS.iconst X3.here hx rfl (hb hby d1_34) ?_
        show Steps p.tables e below (T3.setTop (mkF m 35 #[.val (.ref u0), .val (.int u1), .val (.int u2), .val (.int u3), .val (.int u4), .val (.int u5), .val (.int u6), .val (.int u3), .val (.int w3), .unset] [(.int (1 : Int32)), (.int u3)])) _
        refine XS.isub X3.here hx rfl (hb hby d1_35) rfl ?_
        show Steps p.tables e below (T3.setTop (mkF m 36 #[.val (.ref u0), .val (.int u1), .val (.int u2), .val (.int u3), .val (.int u4), .val (.int u5), .val (.int u6), .val (.int u3), .val (.int w3), .unset] [(.int (u3 - (1 : Int32)))])) _
        rw [← ez19]
        refine XS.istore X3.here hx rfl (hb hby d1_36) rfl (l' := #[.val (.ref u0), .val (.int u1), .val (.int u2), .val (.int u3), .val (.int u4), .val (.int u5), .val (.int u6), .val (.int z19), .val (.int w3), .unset]) rfl ?_
        refine XS.iloadN X3.here hx rfl (hb hby d1_38) rfl ?_
        refine XS.iconst X3.here hx rfl (hb hby d1_39) ?_
        show Steps p.tables e below (T3.setTop (mkF m 40 #[.val (.ref u0), .val (.int u1), .val (.int u2), .val (.int u3), .val (.int u4), .val (.int u5), .val (.int u6), .val (.int z19), .val (.int w3), .unset] [(.int (1 : Int32)), (.int u2)])) _
        refine XS.isub X3.here hx rfl (hb hby d1_40) rfl ?_
        show Steps p.tables e below (T3.setTop (mkF m 41 #[.val (.ref u0), .val (.int u1), .val (.int u2), .val (.int u3), .val (.int u4), .val (.int u5), .val (.int u6), .val (.int z19), .val (.int w3), .unset] [(.int (u2 - (1 : Int32)))])) _
        rw [← ez20]
        refine XS.iload X3.here hx rfl (hb hby d1_41) rfl ?_
        show Steps p.tables e below (T3.setTop (mkF m 43 #[.val (.ref u0), .val (.int u1), .val (.int u2), .val (.int u3), .val (.int u4), .val (.int u5), .val (.int u6), .val (.int z19), .val (.int w3), .unset] [(.int z19), (.int z20)])) _
        refine XS.isub X3.here hx rfl (hb hby d1_43) rfl ?_
        show Steps p.tables e below (T3.setTop (mkF m 44 #[.val (.ref u0), .val (.int u1), .val (.int u2), .val (.int u3), .val (.int u4), .val (.int u5), .val (.int u6), .val (.int z19), .val (.int w3), .unset] [(.int (z20 - z19))])) _
        rw [← ez21]
        refine st22 _ ?_
        show Steps p.tables e below (T22.setTop (mkF m 47 #[.val (.ref u0), .val (.int u1), .val (.int u2), .val (.int u3), .val (.int u4), .val (.int u5), .val (.int u6), .val (.int z19), .val (.int w3), .unset] [(.int w22)])) _
        refine XS.istore X22.here hx rfl (hb hby d1_47) rfl (l' := #[.val (.ref u0), .val (.int u1), .val (.int u2), .val (.int u3), .val (.int u4), .val (.int u5), .val (.int u6), .val (.int z19), .val (.int w22), .unset]) rfl ?_
        refine XS.iload X22.here hx rfl (hb hby d1_49) rfl ?_
        refine XS.iconst X22.here hx rfl (hb hby d1_51) ?_
        refine XS.icmpYes X22.here hx rfl (pc0 := 52) (pc' := 57) rfl (hb hby d1_52) rfl (flt (own_lt0' (y := 2) rfl rfl (by omega))).2.1 (by decide) (by decide) ?_
        refine XS.aloadN X22.here hx rfl (hb hby d1_57) rfl rfl ?_
        refine XS.iloadN X22.here hx rfl (hb hby d1_58) rfl ?_
        refine XS.iload X22.here hx rfl (hb hby d1_59) rfl ?_
        refine XS.iload X22.here hx rfl (hb hby d1_61) rfl ?_
        refine XS.iconst X22.here hx rfl (hb hby d1_63) ?_
        refine XS.iload X22.here hx rfl (hb hby d1_64) rfl ?_
        refine st23 _ ?_
        show Steps p.tables e below (T23.setTop (mkF m 69 #[.val (.ref u0), .val (.int u1), .val (.int u2), .val (.int u3), .val (.int u4), .val (.int u5), .val (.int u6), .val (.int z19), .val (.int w22), .unset] [(.int w23)])) _
        refine XS.istore X23.here hx rfl (hb hby d1_69) rfl (l' := #[.val (.ref u0), .val (.int u1), .val (.int u2), .val (.int u3), .val (.int u4), .val (.int u5), .val (.int u6), .val (.int z19), .val (.int w22), .val (.int w23)]) rfl ?_
        refine XS.aloadN X23.here hx rfl (hb hby d1_71) rfl rfl ?_
        refine XS.iload X23.here hx rfl (hb hby d1_72) rfl ?_
        refine XS.iload X23.here hx rfl (hb hby d1_74) rfl ?_
        refine st24 _ ?_
        show Steps p.tables e below (T24.setTop (mkF m 79 #[.val (.ref u0), .val (.int u1), .val (.int u2), .val (.int u3), .val (.int u4), .val (.int u5), .val (.int u6), .val (.int z19), .val (.int w22), .val (.int w23)] [(.int w24)])) _
        refine XS.istore X24.here hx rfl (hb hby d1_79) rfl (l' := #[.val (.ref u0), .val (.int u1), .val (.int u2), .val (.int u3), .val (.int u4), .val (.int u5), .val (.int u6), .val (.int z19), .val (.int w22), .val (.int w24)]) rfl ?_
        refine XS.aloadN X24.here hx rfl (hb hby d1_81) rfl rfl ?_
        refine XS.iload X24.here hx rfl (hb hby d1_82) rfl ?_
        refine XS.iload X24.here hx rfl (hb hby d1_84) rfl ?_
        show Steps p.tables e below (T24.setTop (mkF m 86 #[.val (.ref u0), .val (.int u1), .val (.int u2), .val (.int u3), .val (.int u4), .val (.int u5), .val (.int u6), .val (.int z19), .val (.int w22), .val (.int w24)] [(.int u6), (.int w24), (.ref u0)])) _
        refine XS.i2b X24.here hx rfl (hb hby d1_86) rfl ?_
        show Steps p.tables e below (T24.setTop (mkF m 87 #[.val (.ref u0), .val (.int u1), .val (.int u2), .val (.int u3), .val (.int u4), .val (.int u5), .val (.int u6), .val (.int z19), .val (.int w22), .val (.int w24)] [(.int (u6.toInt8.toInt32)), (.int w24), (.ref u0)])) _
        rw [← ez25]
        show Steps p.tables e below (T24.setTop (mkF m 87 #[.val (.ref u0), .val (.int u1), .val (.int u2), .val (.int u3), .val (.int u4), .val (.int u5), .val (.int u6), .val (.int z19), .val (.int w22), .val (.int w24)] [(.int z25), (.int w24), (.ref u0)])) _
        refine st27 _ ?_
        show Steps p.tables e below (T27.setTop (mkF m 88 #[.val (.ref u0), .val (.int u1), .val (.int u2), .val (.int u3), .val (.int u4), .val (.int u5), .val (.int u6), .val (.int z19), .val (.int w22), .val (.int w24)] [])) _
        refine XS.aloadN X27.here hx rfl (hb hby d1_88) rfl rfl ?_
        refine XS.iload X27.here hx rfl (hb hby d1_89) rfl ?_
        refine XS.iconst X27.here hx rfl (hb hby d1_91) ?_
        show Steps p.tables e below (T27.setTop (mkF m 92 #[.val (.ref u0), .val (.int u1), .val (.int u2), .val (.int u3), .val (.int u4), .val (.int u5), .val (.int u6), .val (.int z19), .val (.int w22), .val (.int w24)] [(.int (1 : Int32)), (.int w24), (.ref u0)])) _
        refine XS.iadd X27.here hx rfl (hb hby d1_92) rfl ?_
        show Steps p.tables e below (T27.setTop (mkF m 93 #[.val (.ref u0), .val (.int u1), .val (.int u2), .val (.int u3), .val (.int u4), .val (.int u5), .val (.int u6), .val (.int z19), .val (.int w22), .val (.int w24)] [(.int (w24 + (1 : Int32))), (.ref u0)])) _
        rw [← ez28]
        refine XS.iload X27.here hx rfl (hb hby d1_93) rfl ?_
        refine XS.bipush X27.here hx rfl (hb hby d1_95) ?_
        show Steps p.tables e below (T27.setTop (mkF m 97 #[.val (.ref u0), .val (.int u1), .val (.int u2), .val (.int u3), .val (.int u4), .val (.int u5), .val (.int u6), .val (.int z19), .val (.int w22), .val (.int w24)] [(.int (8 : Int32)), (.int u6), (.int z28), (.ref u0)])) _
        refine XS.iushr X27.here hx rfl (hb hby d1_97) rfl ?_
        show Steps p.tables e below (T27.setTop (mkF m 98 #[.val (.ref u0), .val (.int u1), .val (.int u2), .val (.int u3), .val (.int u4), .val (.int u5), .val (.int u6), .val (.int z19), .val (.int w22), .val (.int w24)] [(.int ((u6.toUInt32 >>> ((8 : Int32) &&& 31).toUInt32).toInt32)), (.int z28), (.ref u0)])) _
        rw [← ez29]
        show Steps p.tables e below (T27.setTop (mkF m 98 #[.val (.ref u0), .val (.int u1), .val (.int u2), .val (.int u3), .val (.int u4), .val (.int u5), .val (.int u6), .val (.int z19), .val (.int w22), .val (.int w24)] [(.int z29), (.int z28), (.ref u0)])) _
        refine XS.i2b X27.here hx rfl (hb hby d1_98) rfl ?_
        show Steps p.tables e below (T27.setTop (mkF m 99 #[.val (.ref u0), .val (.int u1), .val (.int u2), .val (.int u3), .val (.int u4), .val (.int u5), .val (.int u6), .val (.int z19), .val (.int w22), .val (.int w24)] [(.int (z29.toInt8.toInt32)), (.int z28), (.ref u0)])) _
        rw [← ez30]
        show Steps p.tables e below (T27.setTop (mkF m 99 #[.val (.ref u0), .val (.int u1), .val (.int u2), .val (.int u3), .val (.int u4), .val (.int u5), .val (.int u6), .val (.int z19), .val (.int w22), .val (.int w24)] [(.int z30), (.int z28), (.ref u0)])) _
        refine st32 _ ?_
        show Steps p.tables e below (T32.setTop (mkF m 100 #[.val (.ref u0), .val (.int u1), .val (.int u2), .val (.int u3), .val (.int u4), .val (.int u5), .val (.int u6), .val (.int z19), .val (.int w22), .val (.int w24)] [])) _
        refine XS.iload X32.here hx rfl (hb hby d1_100) rfl ?_
        refine XS.iload X32.here hx rfl (hb hby d1_102) rfl ?_
        show Steps p.tables e below (T32.setTop (mkF m 104 #[.val (.ref u0), .val (.int u1), .val (.int u2), .val (.int u3), .val (.int u4), .val (.int u5), .val (.int u6), .val (.int z19), .val (.int w22), .val (.int w24)] [(.int w22), (.int w24)])) _
        refine XS.iadd X32.here hx rfl (hb hby d1_104) rfl ?_
        show Steps p.tables e below (T32.setTop (mkF m 105 #[.val (.ref u0), .val (.int u1), .val (.int u2), .val (.int u3), .val (.int u4), .val (.int u5), .val (.int u6), .val (.int z19), .val (.int w22), .val (.int w24)] [(.int (w24 + w22))])) _
        rw [← ez33]
        show Steps p.tables e below (T32.setTop (mkF m 105 #[.val (.ref u0), .val (.int u1), .val (.int u2), .val (.int u3), .val (.int u4), .val (.int u5), .val (.int u6), .val (.int z19), .val (.int w22), .val (.int w24)] [(.int z33)])) _
        exact retI X32 hx Bd.returns (hb hby d1_105) hr
      · show Q1 Z u0 u1 u2 u3 u4 u5 u6 nn gg h0 n0 _ T32.heap _
        rw [e32]
        exact ⟨_, g32, z19.toInt, w22.toInt, rfl, N32, KK32, V32, (by omega), (fun i hi => by rw [gn32 i (by omega), gn27 i (by omega), nw24b i (by omega), nw23b i (by omega)]), ⟨by omega, by omega⟩, t1, t2, (by omega), (by omega)⟩
  · have nhc16 : ¬ w3.toInt < (0 : Int) := own_lt0 rfl rfl hc16
    have lb := ls_b w3.toInt
    have cok := cf_ok nw3a (by omega) (by omega)
    obtain ⟨_, _, ⟨T34, L34, k34, n34⟩, -, X34, ⟨Lc34, hQ34, l34, y34, z34⟩, st34⟩ := Jvm.LawKit.callS X3 hx (y := (⟨"com/example/fides/fides/DerRequireShapePinLaw", "putTag", "([BIIIZI)I"⟩ : MethodName)) hown (mvT hZ (hw _ (List.mem_of_getElem? (i := 9) rfl))) (mvT hZ (hw _ (List.mem_of_getElem? (i := 10) rfl))) (mvT hZ (hw _ (List.mem_of_getElem? (i := 3) rfl))) (mvT hZ (hw _ (List.mem_of_getElem? (i := 11) rfl))) (by decide) (backOf (W := 0) (rm3 l Z a0 hw [] u0 u1 u3 u4 (0 : Int32) u5 nn gg h0 n0 Z0 g_u0 V_u0 (by omega) (by omega) (by omega) (by decide) (by omega)) hZ (hw _ (List.mem_of_getElem? (i := 11) rfl)) (hw _ (List.mem_of_getElem? (i := 3) rfl)) (by decide) (by decide)) (g := (mkF m 66 #[.val (.ref u0), .val (.int u1), .val (.int u2), .val (.int u3), .val (.int u4), .val (.int u5), .val (.int u6), .val (.int u3), .val (.int w3), .unset] [(.int u5), (.int (0 : Int32)), (.int u4), (.int u3), (.int u1), (.ref u0)])) rfl (by rw [hml]; rfl) (argsL := [(.ref u0), (.int u1), (.int u3), (.int u4), (.int (0 : Int32)), (.int u5)]) (rest := []) (lenOf pd_4 rfl) rfl (by show 2 * 0 + _ ≤ _; exact Nat.le_of_eq rfl) (hb hby d1_66) (fun _ _ => ⟨rfl, e3, (by decide : 0 + 0 ≤ _), (by decide : 0 + 0 ≤ _)⟩)
    dsimp only [Pt.U, Pt.locs, Pt.cells, Pt.slots] at X34 l34 y34 z34 st34 hQ34
    replace y34 : k34 = 0 := y34
    replace z34 : n34 = 0 := z34
    rw [y34, z34] at X34
    obtain ⟨w34, gw34, rfl, N34q, K34, V34, nw34a, nw34b, nw34c⟩ := hQ34
    have N34 : Fr n0 L34 := l34 ▸ Fr.app N3 N34q
    have Z34 : n0 ≤ T34.heap.size := Nat.le_trans Z0 K34.1
    have KK34 := (Keep.refl h0 [u0]).trans K34 (allS (P := fun x => x ∈ [u0] ∨ h0.size ≤ x) (Or.inl (List.mem_of_getElem? (i := 0) rfl)) all0)
    obtain ⟨_, _, ⟨T35, L35, k35, n35⟩, -, X35, ⟨Lc35, hQ35, l35, y35, z35⟩, st35⟩ := Jvm.LawKit.callS X34 hx (y := (⟨"com/example/fides/fides/DerRequireShapePinLaw", "putLen", "([BII)I"⟩ : MethodName)) hown (mvT hZ (hw _ (List.mem_of_getElem? (i := 13) rfl))) (mvT hZ (hw _ (List.mem_of_getElem? (i := 14) rfl))) (mvT hZ (hw _ (List.mem_of_getElem? (i := 3) rfl))) (mvT hZ (hw _ (List.mem_of_getElem? (i := 15) rfl))) (by decide) (backOf (W := 0) (rm4 l Z a0 hw [] u0 w34 w3 nn gw34 T34.heap n0 Z34 g_u0 V34 (by omega) (by omega) (by omega) (by omega)) hZ (hw _ (List.mem_of_getElem? (i := 15) rfl)) (hw _ (List.mem_of_getElem? (i := 3) rfl)) (by decide) (by decide)) (g := (mkF m 76 #[.val (.ref u0), .val (.int u1), .val (.int u2), .val (.int u3), .val (.int u4), .val (.int u5), .val (.int u6), .val (.int u3), .val (.int w3), .val (.int w34)] [(.int w3), (.int w34), (.ref u0)])) rfl (by rw [hml]; rfl) (argsL := [(.ref u0), (.int w34), (.int w3)]) (rest := []) (lenOf pd_2 rfl) rfl (by show 2 * 0 + _ ≤ _; exact Nat.le_of_eq rfl) (hb hby d1_76) (fun _ _ => ⟨rfl, rfl, (by decide : 0 + 0 ≤ _), (by decide : 0 + 0 ≤ _)⟩)
    dsimp only [Pt.U, Pt.locs, Pt.cells, Pt.slots] at X35 l35 y35 z35 st35 hQ35
    replace y35 : k35 = 0 := y35
    replace z35 : n35 = 0 := z35
    rw [y35, z35] at X35
    obtain ⟨w35, gw35, rfl, N35q, K35, V35, nw35a, nw35b, nw35c⟩ := hQ35
    have N35 : Fr n0 L35 := l35 ▸ Fr.app N34 N35q
    have Z35 : n0 ≤ T35.heap.size := Nat.le_trans Z34 K35.1
    have KK35 := KK34.trans K35 (allS (P := fun x => x ∈ [u0] ∨ h0.size ≤ x) (Or.inl (List.mem_of_getElem? (i := 0) rfl)) all0)
    obtain ⟨z36, ez36⟩ : ∃ y : Int32, y = (u6.toInt8.toInt32) := ⟨_, rfl⟩
    have nz36 : (z36.toInt - u6.toInt) % 256 = 0 ∧ -128 ≤ z36.toInt ∧ z36.toInt < 128 := by rw [ez36]; exact c_i2b u6
    obtain ⟨cl37, Ar37, Sa37, Ma37, Ha37⟩ := id V35
    have i37 : 0 ≤ (w35).toInt ∧ (w35).toInt < nn := by omega
    obtain ⟨T38, h38, X38, e38, W38, st38⟩ := stB X35 hx hZ rfl Ar37 (j := w35) (cel_inb Sa37 i37.1 i37.2) (g := (mkF m 87 #[.val (.ref u0), .val (.int u1), .val (.int u2), .val (.int u3), .val (.int u4), .val (.int u5), .val (.int u6), .val (.int u3), .val (.int w3), .val (.int w35)] [(.int z36), (.int w35), (.ref u0)])) rfl rfl (hb hby d1_87)
    have V38 := Byt.set (g := gw35) Ar37 Sa37 Ma37 Ha37 i37.1 i37.2 W38
    obtain ⟨g38, eg38⟩ : ∃ z, z = upd gw35 (w35).toInt ((z36).toInt % 256) := ⟨_, rfl⟩
    rw [← eg38] at V38
    have ga38 : g38 w35.toInt = z36.toInt % 256 := by rw [eg38]; exact upd_at _ _ _
    have gn38 : ∀ i, i ≠ w35.toInt → g38 i = gw35 i := fun i hi => by rw [eg38]; exact upd_ne _ _ _ hi
    have N38 := Fr.snoc X38 N35 g_u0
    have Z38 : n0 ≤ h38.size := Nat.le_trans Z35 (Keep.of_wr W38).1
    have KK38 := KK35.wr W38 (Or.inl (List.mem_of_getElem? (i := 0) rfl))
    obtain ⟨z39, ez39⟩ : ∃ y : Int32, y = (w35 + (1 : Int32)) := ⟨_, rfl⟩
    have nz39 : z39.toInt = w35.toInt + (1 : Int) := by rw [ez39]; exact own_iadd (x := w35.toInt) (y := (1 : Int)) rfl rfl (by omega) (by omega)
    obtain ⟨z40, ez40⟩ : ∃ y : Int32, y = ((u6.toUInt32 >>> ((8 : Int32) &&& 31).toUInt32).toInt32) := ⟨_, rfl⟩
    obtain ⟨z41, ez41⟩ : ∃ y : Int32, y = (z40.toInt8.toInt32) := ⟨_, rfl⟩
    have nz41 : (z41.toInt - z40.toInt) % 256 = 0 ∧ -128 ≤ z41.toInt ∧ z41.toInt < 128 := by rw [ez41]; exact c_i2b z40
    obtain ⟨cl42, Ar42, Sa42, Ma42, Ha42⟩ := id V38
    have i42 : 0 ≤ (z39).toInt ∧ (z39).toInt < nn := by omega
    obtain ⟨T43, h43, X43, e43, W43, st43⟩ := stB X38 hx hZ e38 Ar42 (j := z39) (cel_inb Sa42 i42.1 i42.2) (g := (mkF m 99 #[.val (.ref u0), .val (.int u1), .val (.int u2), .val (.int u3), .val (.int u4), .val (.int u5), .val (.int u6), .val (.int u3), .val (.int w3), .val (.int w35)] [(.int z41), (.int z39), (.ref u0)])) rfl rfl (hb hby d1_99)
    have V43 := Byt.set (g := g38) Ar42 Sa42 Ma42 Ha42 i42.1 i42.2 W43
    obtain ⟨g43, eg43⟩ : ∃ z, z = upd g38 (z39).toInt ((z41).toInt % 256) := ⟨_, rfl⟩
    rw [← eg43] at V43
    have ga43 : g43 z39.toInt = z41.toInt % 256 := by rw [eg43]; exact upd_at _ _ _
    have gn43 : ∀ i, i ≠ z39.toInt → g43 i = g38 i := fun i hi => by rw [eg43]; exact upd_ne _ _ _ hi
    have N43 := Fr.snoc X43 N38 g_u0
    have Z43 : n0 ≤ h43.size := Nat.le_trans Z38 (Keep.of_wr W43).1
    have KK43 := KK38.wr W43 (Or.inl (List.mem_of_getElem? (i := 0) rfl))
    obtain ⟨z44, ez44⟩ : ∃ y : Int32, y = (w35 + w3) := ⟨_, rfl⟩
    have nz44 : z44.toInt = w35.toInt + w3.toInt := by rw [ez44]; exact own_iadd (x := w35.toInt) (y := w3.toInt) rfl rfl (by omega) (by omega)
    have t1 : TagOK g43 u1.toInt u3.toInt 0 := TagOK.congr (show TagOK _ _ _ 0 from nw34c) (by omega) (by omega) (fun i h1 h2 => by rw [gn43 i (by omega), gn38 i (by omega), nw35b i (by omega)])
    have t2 : LenOK g43 (u1.toInt + 1 + u3.toInt) w3.toInt := LenOK.congr (by have q := nw35c; rwa [show w34.toInt = u1.toInt + 1 + u3.toInt from by omega] at q) (fun i h1 h2 => by rw [gn43 i (by omega), gn38 i (by omega)])
    obtain ⟨fs, hr, hrun, hended, hW, hsame⟩ := X43.leave (v := some (.int z44)) (fun h => by rw [Bd.returns] at h; cases h)
    refine ⟨_, _, pre0 _ ?_, hrun, hended, _, _, rfl, ?_, ⟨_, rfl⟩, hW, hsame.mono (by decide) (by decide)⟩
    · show Steps p.tables e below (s₁.setTop (mkF m 0 #[.val (.ref u0), .val (.int u1), .val (.int u2), .val (.int u3), .val (.int u4), .val (.int u5), .val (.int u6), .unset, .unset, .unset] [])) _
      refine XS.iloadN X0.here hx rfl (hb hby d1_0) rfl ?_
      refine XS.istore X0.here hx rfl (hb hby d1_1) rfl (l' := #[.val (.ref u0), .val (.int u1), .val (.int u2), .val (.int u3), .val (.int u4), .val (.int u5), .val (.int u6), .val (.int u3), .unset, .unset]) rfl ?_
      refine XS.iloadN X0.here hx rfl (hb hby d1_3) rfl ?_
      refine XS.iconst X0.here hx rfl (hb hby d1_4) ?_
      show Steps p.tables e below (s₁.setTop (mkF m 5 #[.val (.ref u0), .val (.int u1), .val (.int u2), .val (.int u3), .val (.int u4), .val (.int u5), .val (.int u6), .val (.int u3), .unset, .unset] [(.int (1 : Int32)), (.int u2)])) _
      refine XS.isub X0.here hx rfl (hb hby d1_5) rfl ?_
      show Steps p.tables e below (s₁.setTop (mkF m 6 #[.val (.ref u0), .val (.int u1), .val (.int u2), .val (.int u3), .val (.int u4), .val (.int u5), .val (.int u6), .val (.int u3), .unset, .unset] [(.int (u2 - (1 : Int32)))])) _
      rw [← ez1]
      refine XS.iload X0.here hx rfl (hb hby d1_6) rfl ?_
      show Steps p.tables e below (s₁.setTop (mkF m 8 #[.val (.ref u0), .val (.int u1), .val (.int u2), .val (.int u3), .val (.int u4), .val (.int u5), .val (.int u6), .val (.int u3), .unset, .unset] [(.int u3), (.int z1)])) _
      refine XS.isub X0.here hx rfl (hb hby d1_8) rfl ?_
      show Steps p.tables e below (s₁.setTop (mkF m 9 #[.val (.ref u0), .val (.int u1), .val (.int u2), .val (.int u3), .val (.int u4), .val (.int u5), .val (.int u6), .val (.int u3), .unset, .unset] [(.int (z1 - u3))])) _
      rw [← ez2]
      refine st3 _ ?_
      show Steps p.tables e below (T3.setTop (mkF m 12 #[.val (.ref u0), .val (.int u1), .val (.int u2), .val (.int u3), .val (.int u4), .val (.int u5), .val (.int u6), .val (.int u3), .unset, .unset] [(.int w3)])) _
      refine XS.istore X3.here hx rfl (hb hby d1_12) rfl (l' := #[.val (.ref u0), .val (.int u1), .val (.int u2), .val (.int u3), .val (.int u4), .val (.int u5), .val (.int u6), .val (.int u3), .val (.int w3), .unset]) rfl ?_
      refine XS.iload X3.here hx rfl (hb hby d1_14) rfl ?_
      refine XS.ifYes X3.here hx rfl (pc0 := 16) (pc' := 49) rfl (hb hby d1_16) rfl ((if0 _ _).trans (flt hc16).2.1) (by decide) (by decide) ?_
      refine XS.iload X3.here hx rfl (hb hby d1_49) rfl ?_
      refine XS.iconst X3.here hx rfl (hb hby d1_51) ?_
      refine XS.icmpYes X3.here hx rfl (pc0 := 52) (pc' := 57) rfl (hb hby d1_52) rfl (flt (own_lt0' (y := 2) rfl rfl (by omega))).2.1 (by decide) (by decide) ?_
      refine XS.aloadN X3.here hx rfl (hb hby d1_57) rfl rfl ?_
      refine XS.iloadN X3.here hx rfl (hb hby d1_58) rfl ?_
      refine XS.iload X3.here hx rfl (hb hby d1_59) rfl ?_
      refine XS.iload X3.here hx rfl (hb hby d1_61) rfl ?_
      refine XS.iconst X3.here hx rfl (hb hby d1_63) ?_
      refine XS.iload X3.here hx rfl (hb hby d1_64) rfl ?_
      refine st34 _ ?_
      show Steps p.tables e below (T34.setTop (mkF m 69 #[.val (.ref u0), .val (.int u1), .val (.int u2), .val (.int u3), .val (.int u4), .val (.int u5), .val (.int u6), .val (.int u3), .val (.int w3), .unset] [(.int w34)])) _
      refine XS.istore X34.here hx rfl (hb hby d1_69) rfl (l' := #[.val (.ref u0), .val (.int u1), .val (.int u2), .val (.int u3), .val (.int u4), .val (.int u5), .val (.int u6), .val (.int u3), .val (.int w3), .val (.int w34)]) rfl ?_
      refine XS.aloadN X34.here hx rfl (hb hby d1_71) rfl rfl ?_
      refine XS.iload X34.here hx rfl (hb hby d1_72) rfl ?_
      refine XS.iload X34.here hx rfl (hb hby d1_74) rfl ?_
      refine st35 _ ?_
      show Steps p.tables e below (T35.setTop (mkF m 79 #[.val (.ref u0), .val (.int u1), .val (.int u2), .val (.int u3), .val (.int u4), .val (.int u5), .val (.int u6), .val (.int u3), .val (.int w3), .val (.int w34)] [(.int w35)])) _
      refine XS.istore X35.here hx rfl (hb hby d1_79) rfl (l' := #[.val (.ref u0), .val (.int u1), .val (.int u2), .val (.int u3), .val (.int u4), .val (.int u5), .val (.int u6), .val (.int u3), .val (.int w3), .val (.int w35)]) rfl ?_
      refine XS.aloadN X35.here hx rfl (hb hby d1_81) rfl rfl ?_
      refine XS.iload X35.here hx rfl (hb hby d1_82) rfl ?_
      refine XS.iload X35.here hx rfl (hb hby d1_84) rfl ?_
      show Steps p.tables e below (T35.setTop (mkF m 86 #[.val (.ref u0), .val (.int u1), .val (.int u2), .val (.int u3), .val (.int u4), .val (.int u5), .val (.int u6), .val (.int u3), .val (.int w3), .val (.int w35)] [(.int u6), (.int w35), (.ref u0)])) _
      refine XS.i2b X35.here hx rfl (hb hby d1_86) rfl ?_
      show Steps p.tables e below (T35.setTop (mkF m 87 #[.val (.ref u0), .val (.int u1), .val (.int u2), .val (.int u3), .val (.int u4), .val (.int u5), .val (.int u6), .val (.int u3), .val (.int w3), .val (.int w35)] [(.int (u6.toInt8.toInt32)), (.int w35), (.ref u0)])) _
      rw [← ez36]
      show Steps p.tables e below (T35.setTop (mkF m 87 #[.val (.ref u0), .val (.int u1), .val (.int u2), .val (.int u3), .val (.int u4), .val (.int u5), .val (.int u6), .val (.int u3), .val (.int w3), .val (.int w35)] [(.int z36), (.int w35), (.ref u0)])) _
      refine st38 _ ?_
      show Steps p.tables e below (T38.setTop (mkF m 88 #[.val (.ref u0), .val (.int u1), .val (.int u2), .val (.int u3), .val (.int u4), .val (.int u5), .val (.int u6), .val (.int u3), .val (.int w3), .val (.int w35)] [])) _
      refine XS.aloadN X38.here hx rfl (hb hby d1_88) rfl rfl ?_
      refine XS.iload X38.here hx rfl (hb hby d1_89) rfl ?_
      refine XS.iconst X38.here hx rfl (hb hby d1_91) ?_
      show Steps p.tables e below (T38.setTop (mkF m 92 #[.val (.ref u0), .val (.int u1), .val (.int u2), .val (.int u3), .val (.int u4), .val (.int u5), .val (.int u6), .val (.int u3), .val (.int w3), .val (.int w35)] [(.int (1 : Int32)), (.int w35), (.ref u0)])) _
      refine XS.iadd X38.here hx rfl (hb hby d1_92) rfl ?_
      show Steps p.tables e below (T38.setTop (mkF m 93 #[.val (.ref u0), .val (.int u1), .val (.int u2), .val (.int u3), .val (.int u4), .val (.int u5), .val (.int u6), .val (.int u3), .val (.int w3), .val (.int w35)] [(.int (w35 + (1 : Int32))), (.ref u0)])) _
      rw [← ez39]
      refine XS.iload X38.here hx rfl (hb hby d1_93) rfl ?_
      refine XS.bipush X38.here hx rfl (hb hby d1_95) ?_
      show Steps p.tables e below (T38.setTop (mkF m 97 #[.val (.ref u0), .val (.int u1), .val (.int u2), .val (.int u3), .val (.int u4), .val (.int u5), .val (.int u6), .val (.int u3), .val (.int w3), .val (.int w35)] [(.int (8 : Int32)), (.int u6), (.int z39), (.ref u0)])) _
      refine XS.iushr X38.here hx rfl (hb hby d1_97) rfl ?_
      show Steps p.tables e below (T38.setTop (mkF m 98 #[.val (.ref u0), .val (.int u1), .val (.int u2), .val (.int u3), .val (.int u4), .val (.int u5), .val (.int u6), .val (.int u3), .val (.int w3), .val (.int w35)] [(.int ((u6.toUInt32 >>> ((8 : Int32) &&& 31).toUInt32).toInt32)), (.int z39), (.ref u0)])) _
      rw [← ez40]
      show Steps p.tables e below (T38.setTop (mkF m 98 #[.val (.ref u0), .val (.int u1), .val (.int u2), .val (.int u3), .val (.int u4), .val (.int u5), .val (.int u6), .val (.int u3), .val (.int w3), .val (.int w35)] [(.int z40), (.int z39), (.ref u0)])) _
      refine XS.i2b X38.here hx rfl (hb hby d1_98) rfl ?_
      show Steps p.tables e below (T38.setTop (mkF m 99 #[.val (.ref u0), .val (.int u1), .val (.int u2), .val (.int u3), .val (.int u4), .val (.int u5), .val (.int u6), .val (.int u3), .val (.int w3), .val (.int w35)] [(.int (z40.toInt8.toInt32)), (.int z39), (.ref u0)])) _
      rw [← ez41]
      show Steps p.tables e below (T38.setTop (mkF m 99 #[.val (.ref u0), .val (.int u1), .val (.int u2), .val (.int u3), .val (.int u4), .val (.int u5), .val (.int u6), .val (.int u3), .val (.int w3), .val (.int w35)] [(.int z41), (.int z39), (.ref u0)])) _
      refine st43 _ ?_
      show Steps p.tables e below (T43.setTop (mkF m 100 #[.val (.ref u0), .val (.int u1), .val (.int u2), .val (.int u3), .val (.int u4), .val (.int u5), .val (.int u6), .val (.int u3), .val (.int w3), .val (.int w35)] [])) _
      refine XS.iload X43.here hx rfl (hb hby d1_100) rfl ?_
      refine XS.iload X43.here hx rfl (hb hby d1_102) rfl ?_
      show Steps p.tables e below (T43.setTop (mkF m 104 #[.val (.ref u0), .val (.int u1), .val (.int u2), .val (.int u3), .val (.int u4), .val (.int u5), .val (.int u6), .val (.int u3), .val (.int w3), .val (.int w35)] [(.int w3), (.int w35)])) _
      refine XS.iadd X43.here hx rfl (hb hby d1_104) rfl ?_
      show Steps p.tables e below (T43.setTop (mkF m 105 #[.val (.ref u0), .val (.int u1), .val (.int u2), .val (.int u3), .val (.int u4), .val (.int u5), .val (.int u6), .val (.int u3), .val (.int w3), .val (.int w35)] [(.int (w35 + w3))])) _
      rw [← ez44]
      show Steps p.tables e below (T43.setTop (mkF m 105 #[.val (.ref u0), .val (.int u1), .val (.int u2), .val (.int u3), .val (.int u4), .val (.int u5), .val (.int u6), .val (.int u3), .val (.int w3), .val (.int w35)] [(.int z44)])) _
      exact retI X43 hx Bd.returns (hb hby d1_105) hr
    · show Q1 Z u0 u1 u2 u3 u4 u5 u6 nn gg h0 n0 _ T43.heap _
      rw [e43]
      exact ⟨_, g43, u3.toInt, w3.toInt, rfl, N43, KK43, V43, (by omega), (fun i hi => by rw [gn43 i (by omega), gn38 i (by omega), nw35b i (by omega), nw34b i (by omega)]), ⟨by omega, by omega⟩, t1, t2, (by omega), (by omega)⟩
theorem d5_38 : decode prog_3_method_2_code 38 = .ok (.iload 4, 2) := by decide +kernel
theorem d5_40 : decode prog_3_method_2_code 40 = .ok (.aload_n 2, 1) := by decide +kernel
theorem d5_41 : decode prog_3_method_2_code 41 = .ok (.iload_n 3, 1) := by decide +kernel
theorem d5_42 : decode prog_3_method_2_code 42 = .ok (.iaload, 1) := by decide +kernel
theorem d5_43 : decode prog_3_method_2_code 43 = .ok (.if_icmp .ne 9, 3) := by decide +kernel
theorem d5_46 : decode prog_3_method_2_code 46 = .ok (.iinc 3 (-1), 3) := by decide +kernel
theorem d5_49 : decode prog_3_method_2_code 49 = .ok (.goto (-11), 3) := by decide +kernel
set_option maxRecDepth 65536 in
set_option maxHeartbeats 40000000 in
theorem sg_pop1 (l : Launch) (Z : State) (a0 : Array Value) (hw : ∀ d ∈ tables_1, d.before a0 Z = true) {p : Program} {e : Env} {s : State} {m : MethodId} {args : Array Value} {below : List Frame} {meth : Method} {c : Code} {s₁ : State} {locs0 : List Loc} (u0 : Addr) (u1 : Int32) (u2 : Addr) (u3 : Int32) (u4 : Int32) (s5 : Slot) (s6 : Slot) (s7 : Slot) (s8 : Slot) (s9 : Slot) (s10 : Slot) (ee : Int → Int) (h0 : Heap) (n0 : Nat) (Z0 : n0 ≤ h0.size) (X0 : Stand p l e ({ frames := 1, cells := 1, slots := 12, locals := 15 } : Room) s m args below meth c s₁ locs0 1 12) (hx : p.tables.exec = Jvm.exec) (hby : c.code = prog_3_method_2_code) (hml : c.maxLocals = 11) (hZ : Z.Warmed39 s.vm) (hown : s.vm.findClass "com/example/fides/fides/Der" = some m.cls) (e0 : s₁.heap = h0) (N0 : Fr n0 locs0) (V_u2 : Nts Z h0 u2 (u1.toInt + 1) ee) (hdep : 0 ≤ u3.toInt ∧ u3.toInt ≤ u1.toInt ∧ u1.toInt ≤ 11) (heq : ee u3.toInt = u4.toInt) : ∃ (T' : State) (locs' : List Loc) (z3 : Int32), Stand p l e ({ frames := 1, cells := 1, slots := 12, locals := 15 } : Room) s m args below meth c T' locs' 1 12 ∧ T'.heap = h0 ∧ Fr n0 locs' ∧ (z3.toInt = u3.toInt - 1) ∧ ∀ target, Steps p.tables e below (T'.setTop (mkF m 38 #[.val (.ref u0), .val (.int u1), .val (.ref u2), .val (.int z3), .val (.int u4), s5, s6, s7, s8, s9, s10] [])) target → Steps p.tables e below (s₁.setTop (mkF m 38 #[.val (.ref u0), .val (.int u1), .val (.ref u2), .val (.int u3), .val (.int u4), s5, s6, s7, s8, s9, s10] [])) target := by
  obtain ⟨cl1, Ar1, Sa1, Ma1, Ha1⟩ := id V_u2
  have i1 : 0 ≤ (u3).toInt ∧ (u3).toInt < u1.toInt + 1 := by omega
  obtain ⟨w1, we1, wp1⟩ := cel_get (P := fun i x => x.toInt = ee i) Ha1 i1.1 i1.2
  replace wp1 : w1.toInt = ee u3.toInt := wp1
  have st1 := X0.iaload hx (j := u3) (v := .int w1) (by rw [e0]; exact Ar1.1) (State.isArrayOf_alike hZ.alike Ar1.2.1) Ar1.2.2 (cel_inb Sa1 i1.1 i1.2) we1 (g := (mkF m 42 #[.val (.ref u0), .val (.int u1), .val (.ref u2), .val (.int u3), .val (.int u4), s5, s6, s7, s8, s9, s10] [(.int u3), (.ref u2), (.int u4)])) rfl rfl (hb hby d5_42)
  obtain ⟨z2, ez2⟩ : ∃ y : Int32, y = (u3 + (-1 : Int32)) := ⟨_, rfl⟩
  have nz2 : z2.toInt = u3.toInt + (-1 : Int) := by rw [ez2]; exact own_iadd (x := u3.toInt) (y := (-1 : Int)) rfl rfl (by omega) (by omega)
  refine ⟨s₁, _, z2, X0, e0, N0, (by omega), fun target kt => ?_⟩
  show Steps p.tables e below (s₁.setTop (mkF m 38 #[.val (.ref u0), .val (.int u1), .val (.ref u2), .val (.int u3), .val (.int u4), s5, s6, s7, s8, s9, s10] [])) _
  refine XS.iload X0.here hx rfl (hb hby d5_38) rfl ?_
  refine XS.aloadN X0.here hx rfl (hb hby d5_40) rfl rfl ?_
  refine XS.iloadN X0.here hx rfl (hb hby d5_41) rfl ?_
  show Steps p.tables e below (s₁.setTop (mkF m 42 #[.val (.ref u0), .val (.int u1), .val (.ref u2), .val (.int u3), .val (.int u4), s5, s6, s7, s8, s9, s10] [(.int u3), (.ref u2), (.int u4)])) _
  refine st1 _ ?_
  show Steps p.tables e below (s₁.setTop (mkF m 43 #[.val (.ref u0), .val (.int u1), .val (.ref u2), .val (.int u3), .val (.int u4), s5, s6, s7, s8, s9, s10] [(.int w1), (.int u4)])) _
  refine XS.icmpNo X0.here hx rfl (hb hby d5_43) rfl (teq (own_eq1' (x := u4.toInt) (y := w1.toInt) rfl rfl (by omega))).2 ?_
  show Steps p.tables e below (s₁.setTop (mkF m 46 #[.val (.ref u0), .val (.int u1), .val (.ref u2), .val (.int u3), .val (.int u4), s5, s6, s7, s8, s9, s10] [])) _
  refine XS.iinc X0.here hx rfl (hb hby d5_46) rfl (l' := #[.val (.ref u0), .val (.int u1), .val (.ref u2), .val (.int (u3 + (-1 : Int32))), .val (.int u4), s5, s6, s7, s8, s9, s10]) rfl ?_
  show Steps p.tables e below (s₁.setTop (mkF m 49 #[.val (.ref u0), .val (.int u1), .val (.ref u2), .val (.int (u3 + (-1 : Int32))), .val (.int u4), s5, s6, s7, s8, s9, s10] [])) _
  rw [← ez2]
  refine XS.goto X0.here hx rfl (pc0 := 49) (pc' := 38) rfl (hb hby d5_49) (by decide) (by decide) ?_
  exact kt
theorem d5_52 : decode prog_3_method_2_code 52 = .ok (.iload_n 3, 1) := by decide +kernel
set_option maxRecDepth 65536 in
set_option maxHeartbeats 40000000 in
theorem sg_popx (l : Launch) (Z : State) (a0 : Array Value) (hw : ∀ d ∈ tables_1, d.before a0 Z = true) {p : Program} {e : Env} {s : State} {m : MethodId} {args : Array Value} {below : List Frame} {meth : Method} {c : Code} {s₁ : State} {locs0 : List Loc} (u0 : Addr) (u1 : Int32) (u2 : Addr) (u3 : Int32) (u4 : Int32) (s5 : Slot) (s6 : Slot) (s7 : Slot) (s8 : Slot) (s9 : Slot) (s10 : Slot) (ee : Int → Int) (h0 : Heap) (n0 : Nat) (Z0 : n0 ≤ h0.size) (X0 : Stand p l e ({ frames := 1, cells := 1, slots := 12, locals := 15 } : Room) s m args below meth c s₁ locs0 1 12) (hx : p.tables.exec = Jvm.exec) (hby : c.code = prog_3_method_2_code) (hml : c.maxLocals = 11) (hZ : Z.Warmed39 s.vm) (hown : s.vm.findClass "com/example/fides/fides/Der" = some m.cls) (e0 : s₁.heap = h0) (N0 : Fr n0 locs0) (V_u2 : Nts Z h0 u2 (u1.toInt + 1) ee) (hdep : 0 ≤ u3.toInt ∧ u3.toInt ≤ u1.toInt ∧ u1.toInt ≤ 11) (heq : ¬ ee u3.toInt = u4.toInt) : ∃ (T' : State) (locs' : List Loc), Stand p l e ({ frames := 1, cells := 1, slots := 12, locals := 15 } : Room) s m args below meth c T' locs' 1 12 ∧ T'.heap = h0 ∧ Fr n0 locs' ∧ ∀ target, Steps p.tables e below (T'.setTop (mkF m 52 #[.val (.ref u0), .val (.int u1), .val (.ref u2), .val (.int u3), .val (.int u4), s5, s6, s7, s8, s9, s10] [])) target → Steps p.tables e below (s₁.setTop (mkF m 38 #[.val (.ref u0), .val (.int u1), .val (.ref u2), .val (.int u3), .val (.int u4), s5, s6, s7, s8, s9, s10] [])) target := by
  obtain ⟨cl1, Ar1, Sa1, Ma1, Ha1⟩ := id V_u2
  have i1 : 0 ≤ (u3).toInt ∧ (u3).toInt < u1.toInt + 1 := by omega
  obtain ⟨w1, we1, wp1⟩ := cel_get (P := fun i x => x.toInt = ee i) Ha1 i1.1 i1.2
  replace wp1 : w1.toInt = ee u3.toInt := wp1
  have st1 := X0.iaload hx (j := u3) (v := .int w1) (by rw [e0]; exact Ar1.1) (State.isArrayOf_alike hZ.alike Ar1.2.1) Ar1.2.2 (cel_inb Sa1 i1.1 i1.2) we1 (g := (mkF m 42 #[.val (.ref u0), .val (.int u1), .val (.ref u2), .val (.int u3), .val (.int u4), s5, s6, s7, s8, s9, s10] [(.int u3), (.ref u2), (.int u4)])) rfl rfl (hb hby d5_42)
  refine ⟨s₁, _, X0, e0, N0, fun target kt => ?_⟩
  show Steps p.tables e below (s₁.setTop (mkF m 38 #[.val (.ref u0), .val (.int u1), .val (.ref u2), .val (.int u3), .val (.int u4), s5, s6, s7, s8, s9, s10] [])) _
  refine XS.iload X0.here hx rfl (hb hby d5_38) rfl ?_
  refine XS.aloadN X0.here hx rfl (hb hby d5_40) rfl rfl ?_
  refine XS.iloadN X0.here hx rfl (hb hby d5_41) rfl ?_
  show Steps p.tables e below (s₁.setTop (mkF m 42 #[.val (.ref u0), .val (.int u1), .val (.ref u2), .val (.int u3), .val (.int u4), s5, s6, s7, s8, s9, s10] [(.int u3), (.ref u2), (.int u4)])) _
  refine st1 _ ?_
  show Steps p.tables e below (s₁.setTop (mkF m 43 #[.val (.ref u0), .val (.int u1), .val (.ref u2), .val (.int u3), .val (.int u4), s5, s6, s7, s8, s9, s10] [(.int w1), (.int u4)])) _
  refine XS.icmpYes X0.here hx rfl (pc0 := 43) (pc' := 52) rfl (hb hby d5_43) rfl (feq (own_eq0' (x := u4.toInt) (y := w1.toInt) rfl rfl (by omega))).2 (by decide) (by decide) ?_
  exact kt
theorem sg_pop (l : Launch) (Z : State) (a0 : Array Value) (hw : ∀ d ∈ tables_1, d.before a0 Z = true) {p : Program} {e : Env} {s : State} {m : MethodId} {args : Array Value} {below : List Frame} {meth : Method} {c : Code} {s₁ : State} {locs0 : List Loc} (u0 : Addr) (u1 : Int32) (u2 : Addr) (u3 : Int32) (u4 : Int32) (s5 : Slot) (s6 : Slot) (s7 : Slot) (s8 : Slot) (s9 : Slot) (s10 : Slot) (ee : Int → Int) (jn : Nat) (h0 : Heap) (n0 : Nat) (Z0 : n0 ≤ h0.size) (X0 : Stand p l e ({ frames := 1, cells := 1, slots := 12, locals := 15 } : Room) s m args below meth c s₁ locs0 1 12) (hx : p.tables.exec = Jvm.exec) (hby : c.code = prog_3_method_2_code) (hml : c.maxLocals = 11) (hZ : Z.Warmed39 s.vm) (hown : s.vm.findClass "com/example/fides/fides/Der" = some m.cls) (e0 : s₁.heap = h0) (N0 : Fr n0 locs0) (V_u2 : Nts Z h0 u2 (u1.toInt + 1) ee) (hdep : 0 ≤ u3.toInt - jn ∧ u3.toInt ≤ u1.toInt ∧ u1.toInt ≤ 11) (hpop : ∀ i, u3.toInt - jn < i → i ≤ u3.toInt → ee i = u4.toInt) (hstop : ¬ ee (u3.toInt - jn) = u4.toInt) : ∃ (T' : State) (locs' : List Loc) (z3 : Int32), Stand p l e ({ frames := 1, cells := 1, slots := 12, locals := 15 } : Room) s m args below meth c T' locs' 1 12 ∧ T'.heap = h0 ∧ Fr n0 locs' ∧ (z3.toInt = u3.toInt - jn) ∧ ∀ target, Steps p.tables e below (T'.setTop (mkF m 52 #[.val (.ref u0), .val (.int u1), .val (.ref u2), .val (.int z3), .val (.int u4), s5, s6, s7, s8, s9, s10] [])) target → Steps p.tables e below (s₁.setTop (mkF m 38 #[.val (.ref u0), .val (.int u1), .val (.ref u2), .val (.int u3), .val (.int u4), s5, s6, s7, s8, s9, s10] [])) target := by
  induction jn generalizing u3 s₁ locs0 with
  | zero =>
    obtain ⟨T1, lc1, X1, e1, N1, st1⟩ := sg_popx l Z a0 hw u0 u1 u2 u3 u4 s5 s6 s7 s8 s9 s10 ee h0 n0 Z0 X0 hx hby hml hZ hown e0 N0 V_u2 (by omega) (by have q := hstop; rwa [show u3.toInt - ((0 : Nat) : Int) = u3.toInt from by omega] at q)
    exact ⟨T1, lc1, u3, X1, e1, N1, by omega, st1⟩
  | succ jn ih =>
    obtain ⟨T1, lc1, z3, X1, e1, N1, q3, st1⟩ := sg_pop1 l Z a0 hw u0 u1 u2 u3 u4 s5 s6 s7 s8 s9 s10 ee h0 n0 Z0 X0 hx hby hml hZ hown e0 N0 V_u2 (by omega) (hpop _ (by omega) (by omega))
    obtain ⟨T2, lc2, z3', X2, e2, N2, q3', st2⟩ := ih z3 X1 e1 N1 (by omega) (fun i h1 h2 => hpop i (by omega) (by omega)) (by have q := hstop; rwa [show u3.toInt - ((jn + 1 : Nat) : Int) = z3.toInt - jn from by omega] at q)
    exact ⟨T2, lc2, z3', X2, e2, N2, by omega, fun t k => st1 t (st2 t k)⟩
theorem d5_53 : decode prog_3_method_2_code 53 = .ok (.ifCond .ne 18, 3) := by decide +kernel
theorem d5_56 : decode prog_3_method_2_code 56 = .ok (.iload 4, 2) := by decide +kernel
theorem d5_58 : decode prog_3_method_2_code 58 = .ok (.ifCond .le 13, 3) := by decide +kernel
theorem d5_71 : decode prog_3_method_2_code 71 = .ok (.aload_n 2, 1) := by decide +kernel
set_option maxRecDepth 65536 in
set_option maxHeartbeats 40000000 in
theorem sg_mid (l : Launch) (Z : State) (a0 : Array Value) (hw : ∀ d ∈ tables_1, d.before a0 Z = true) {p : Program} {e : Env} {s : State} {m : MethodId} {args : Array Value} {below : List Frame} {meth : Method} {c : Code} {s₁ : State} {locs0 : List Loc} (u0 : Addr) (u1 : Int32) (u2 : Addr) (u3 : Int32) (u4 : Int32) (s5 : Slot) (s6 : Slot) (s7 : Slot) (s8 : Slot) (s9 : Slot) (s10 : Slot) (h0 : Heap) (n0 : Nat) (Z0 : n0 ≤ h0.size) (X0 : Stand p l e ({ frames := 1, cells := 1, slots := 12, locals := 15 } : Room) s m args below meth c s₁ locs0 1 12) (hx : p.tables.exec = Jvm.exec) (hby : c.code = prog_3_method_2_code) (hml : c.maxLocals = 11) (hZ : Z.Warmed39 s.vm) (hown : s.vm.findClass "com/example/fides/fides/Der" = some m.cls) (e0 : s₁.heap = h0) (N0 : Fr n0 locs0) (htop : u3.toInt = 0 → u4.toInt ≤ 0) : ∃ (T' : State) (locs' : List Loc), Stand p l e ({ frames := 1, cells := 1, slots := 12, locals := 15 } : Room) s m args below meth c T' locs' 1 12 ∧ T'.heap = h0 ∧ Fr n0 locs' ∧ ∀ target, Steps p.tables e below (T'.setTop (mkF m 71 #[.val (.ref u0), .val (.int u1), .val (.ref u2), .val (.int u3), .val (.int u4), s5, s6, s7, s8, s9, s10] [])) target → Steps p.tables e below (s₁.setTop (mkF m 52 #[.val (.ref u0), .val (.int u1), .val (.ref u2), .val (.int u3), .val (.int u4), s5, s6, s7, s8, s9, s10] [])) target := by
  by_cases hc53 : u3 = (0 : Int32)
  · have nhc53 : u3.toInt = (0 : Int) := own_eq1 rfl rfl hc53
    refine ⟨s₁, _, X0, e0, N0, fun target kt => ?_⟩
    show Steps p.tables e below (s₁.setTop (mkF m 52 #[.val (.ref u0), .val (.int u1), .val (.ref u2), .val (.int u3), .val (.int u4), s5, s6, s7, s8, s9, s10] [])) _
    refine XS.iloadN X0.here hx rfl (hb hby d5_52) rfl ?_
    refine XS.ifNo X0.here hx rfl (hb hby d5_53) rfl ((if0 _ _).trans (teq hc53).2) ?_
    refine XS.iload X0.here hx rfl (hb hby d5_56) rfl ?_
    refine XS.ifYes X0.here hx rfl (pc0 := 58) (pc' := 71) rfl (hb hby d5_58) rfl ((if0 _ _).trans (flt (own_lt0' (x := (0 : Int)) (y := u4.toInt) rfl rfl (by omega))).2.2.2) (by decide) (by decide) ?_
    exact kt
  · have nhc53 : ¬ u3.toInt = (0 : Int) := own_eq0 rfl rfl hc53
    refine ⟨s₁, _, X0, e0, N0, fun target kt => ?_⟩
    show Steps p.tables e below (s₁.setTop (mkF m 52 #[.val (.ref u0), .val (.int u1), .val (.ref u2), .val (.int u3), .val (.int u4), s5, s6, s7, s8, s9, s10] [])) _
    refine XS.iloadN X0.here hx rfl (hb hby d5_52) rfl ?_
    refine XS.ifYes X0.here hx rfl (pc0 := 53) (pc' := 71) rfl (hb hby d5_53) rfl ((if0 _ _).trans (feq hc53).2) (by decide) (by decide) ?_
    exact kt
theorem d5_72 : decode prog_3_method_2_code 72 = .ok (.iload_n 3, 1) := by decide +kernel
theorem d5_73 : decode prog_3_method_2_code 73 = .ok (.iaload, 1) := by decide +kernel
theorem d5_74 : decode prog_3_method_2_code 74 = .ok (.istore 5, 2) := by decide +kernel
theorem d5_76 : decode prog_3_method_2_code 76 = .ok (.aload_n 0, 1) := by decide +kernel
theorem d5_77 : decode prog_3_method_2_code 77 = .ok (.iload 4, 2) := by decide +kernel
theorem d5_79 : decode prog_3_method_2_code 79 = .ok (.iinc 4 1, 3) := by decide +kernel
theorem d5_82 : decode prog_3_method_2_code 82 = .ok (.iload 5, 2) := by decide +kernel
theorem d5_84 : decode prog_3_method_2_code 84 = .ok (.invokestatic 16, 3) := by decide +kernel
theorem d5_87 : decode prog_3_method_2_code 87 = .ok (.istore 6, 2) := by decide +kernel
theorem d5_89 : decode prog_3_method_2_code 89 = .ok (.iload 6, 2) := by decide +kernel
theorem d5_91 : decode prog_3_method_2_code 91 = .ok (.bipush 31, 2) := by decide +kernel
theorem d5_93 : decode prog_3_method_2_code 93 = .ok (.iand, 1) := by decide +kernel
theorem d5_94 : decode prog_3_method_2_code 94 = .ok (.bipush 31, 2) := by decide +kernel
theorem d5_96 : decode prog_3_method_2_code 96 = .ok (.if_icmp .ne 7, 3) := by decide +kernel
theorem d5_103 : decode prog_3_method_2_code 103 = .ok (.iconst 0, 1) := by decide +kernel
theorem d5_104 : decode prog_3_method_2_code 104 = .ok (.istore 7, 2) := by decide +kernel
theorem d5_106 : decode prog_3_method_2_code 106 = .ok (.iload 7, 2) := by decide +kernel
theorem d5_108 : decode prog_3_method_2_code 108 = .ok (.ifCond .eq 31, 3) := by decide +kernel
theorem d5_139 : decode prog_3_method_2_code 139 = .ok (.aload_n 0, 1) := by decide +kernel
set_option maxRecDepth 65536 in
set_option maxHeartbeats 40000000 in
theorem sg_tag0 (l : Launch) (Z : State) (a0 : Array Value) (hw : ∀ d ∈ tables_1, d.before a0 Z = true) {p : Program} {e : Env} {s : State} {m : MethodId} {args : Array Value} {below : List Frame} {meth : Method} {c : Code} {s₁ : State} {locs0 : List Loc} (u0 : Addr) (u1 : Int32) (u2 : Addr) (u3 : Int32) (u4 : Int32) (s5 : Slot) (s6 : Slot) (s7 : Slot) (s8 : Slot) (s9 : Slot) (s10 : Slot) (nn : Int) (gg : Int → Int) (ee : Int → Int) (cb : Int) (h0 : Heap) (n0 : Nat) (Z0 : n0 ≤ h0.size) (X0 : Stand p l e ({ frames := 1, cells := 1, slots := 12, locals := 15 } : Room) s m args below meth c s₁ locs0 1 12) (hx : p.tables.exec = Jvm.exec) (hby : c.code = prog_3_method_2_code) (hml : c.maxLocals = 11) (hZ : Z.Warmed39 s.vm) (hown : s.vm.findClass "com/example/fides/fides/Der" = some m.cls) (e0 : s₁.heap = h0) (N0 : Fr n0 locs0) (V_u0 : Byt Z h0 u0 nn gg) (V_u2 : Nts Z h0 u2 (u1.toInt + 1) ee) (hdep : 0 ≤ u3.toInt ∧ u3.toInt ≤ u1.toInt ∧ u1.toInt ≤ 11) (hM : nn ≤ 65600) (hp : 0 ≤ u4.toInt) (hfit : u4.toInt + 1 + (0 : Int) < ee u3.toInt ∧ ee u3.toInt ≤ nn) (hf : 0 ≤ (0 : Int) ∧ (0 : Int) ≤ 3) (ht : TagOK gg u4.toInt (0 : Int) cb) (P_s5 : Pl s5) (P_s6 : Pl s6) (P_s7 : Pl s7) : ∃ (T' : State) (locs' : List Loc) (z4 : Int32) (x5 : Int32) (x6 : Int32) (t7 : Slot), Stand p l e ({ frames := 1, cells := 1, slots := 12, locals := 15 } : Room) s m args below meth c T' locs' 1 12 ∧ T'.heap = h0 ∧ Fr n0 locs' ∧ (z4.toInt = u4.toInt + 1 + (0 : Int)) ∧ (x5.toInt = ee u3.toInt) ∧ (x6.toInt = gg u4.toInt ∧ 0 ≤ x6.toInt ∧ x6.toInt < 256) ∧ (Pl t7) ∧ ∀ target, Steps p.tables e below (T'.setTop (mkF m 139 #[.val (.ref u0), .val (.int u1), .val (.ref u2), .val (.int u3), .val (.int z4), .val (.int x5), .val (.int x6), t7, s8, s9, s10] [])) target → Steps p.tables e below (s₁.setTop (mkF m 71 #[.val (.ref u0), .val (.int u1), .val (.ref u2), .val (.int u3), .val (.int u4), s5, s6, s7, s8, s9, s10] [])) target := by
  have ht' := ht
  unfold TagOK at ht'
  obtain ⟨a1, a2, a3, a4, a5, a6, a7⟩ := ht'
  obtain ⟨cl1, Ar1, Sa1, Ma1, Ha1⟩ := id V_u2
  have i1 : 0 ≤ (u3).toInt ∧ (u3).toInt < u1.toInt + 1 := by omega
  obtain ⟨w1, we1, wp1⟩ := cel_get (P := fun i x => x.toInt = ee i) Ha1 i1.1 i1.2
  replace wp1 : w1.toInt = ee u3.toInt := wp1
  have st1 := X0.iaload hx (j := u3) (v := .int w1) (by rw [e0]; exact Ar1.1) (State.isArrayOf_alike hZ.alike Ar1.2.1) Ar1.2.2 (cel_inb Sa1 i1.1 i1.2) we1 (g := (mkF m 73 #[.val (.ref u0), .val (.int u1), .val (.ref u2), .val (.int u3), .val (.int u4), s5, s6, s7, s8, s9, s10] [(.int u3), (.ref u2)])) rfl rfl (hb hby d5_73)
  obtain ⟨z2, ez2⟩ : ∃ y : Int32, y = (u4 + (1 : Int32)) := ⟨_, rfl⟩
  have nz2 : z2.toInt = u4.toInt + (1 : Int) := by rw [ez2]; exact own_iadd (x := u4.toInt) (y := (1 : Int)) rfl rfl (by omega) (by omega)
  obtain ⟨_, _, ⟨T3, L3, k3, n3⟩, -, X3, ⟨Lc3, hQ3, l3, y3, z3⟩, st3⟩ := Jvm.LawKit.callS X0 hx (y := (⟨"com/example/fides/fides/Der", "byteAt", "([BII)I"⟩ : MethodName)) hown (mvT hZ (hw _ (List.mem_of_getElem? (i := 21) rfl))) (mvT hZ (hw _ (List.mem_of_getElem? (i := 22) rfl))) (mvT hZ (hw _ (List.mem_of_getElem? (i := 18) rfl))) (mvT hZ (hw _ (List.mem_of_getElem? (i := 23) rfl))) (by decide) (backOf (W := 0) (rm6 l Z a0 hw [] u0 u4 w1 nn gg h0 n0 Z0 V_u0 (by omega) (by omega) (by omega)) hZ (hw _ (List.mem_of_getElem? (i := 23) rfl)) (hw _ (List.mem_of_getElem? (i := 18) rfl)) (by decide) (by decide)) (g := (mkF m 84 #[.val (.ref u0), .val (.int u1), .val (.ref u2), .val (.int u3), .val (.int z2), .val (.int w1), s6, s7, s8, s9, s10] [(.int w1), (.int u4), (.ref u0)])) rfl (by rw [hml]; rfl) (argsL := [(.ref u0), (.int u4), (.int w1)]) (rest := []) (lenOf pd_2 rfl) rfl (by show 2 * 0 + _ ≤ _; exact Nat.le_of_eq rfl) (hb hby d5_84) (fun _ _ => ⟨rfl, e0, (by decide : 1 + 0 ≤ _), (by decide : 12 + 0 ≤ _)⟩)
  dsimp only [Pt.U, Pt.locs, Pt.cells, Pt.slots] at X3 l3 y3 z3 st3 hQ3
  replace y3 : k3 = 1 := y3
  replace z3 : n3 = 12 := z3
  rw [y3, z3] at X3
  obtain ⟨w3, rfl, N3q, nw3a, nw3b, nw3c, e3⟩ := hQ3
  have N3 : Fr n0 L3 := l3 ▸ Fr.app N0 N3q
  obtain ⟨z4, ez4⟩ : ∃ y : Int32, y = (w3 &&& (31 : Int32)) := ⟨_, rfl⟩
  have nz4 : z4.toInt = w3.toInt % 32 := by rw [ez4]; exact own_m31 w3
  refine ⟨T3, _, z2, w1, w3, (.val (.int (0 : Int32))), X3, e3, N3, (by omega), (by omega), ⟨by omega, by omega, by omega⟩, (Or.inr ⟨_, rfl⟩), fun target kt => ?_⟩
  show Steps p.tables e below (s₁.setTop (mkF m 71 #[.val (.ref u0), .val (.int u1), .val (.ref u2), .val (.int u3), .val (.int u4), s5, s6, s7, s8, s9, s10] [])) _
  refine XS.aloadN X0.here hx rfl (hb hby d5_71) rfl rfl ?_
  refine XS.iloadN X0.here hx rfl (hb hby d5_72) rfl ?_
  show Steps p.tables e below (s₁.setTop (mkF m 73 #[.val (.ref u0), .val (.int u1), .val (.ref u2), .val (.int u3), .val (.int u4), s5, s6, s7, s8, s9, s10] [(.int u3), (.ref u2)])) _
  refine st1 _ ?_
  show Steps p.tables e below (s₁.setTop (mkF m 74 #[.val (.ref u0), .val (.int u1), .val (.ref u2), .val (.int u3), .val (.int u4), s5, s6, s7, s8, s9, s10] [(.int w1)])) _
  refine XS.istore X0.here hx rfl (hb hby d5_74) rfl (l' := #[.val (.ref u0), .val (.int u1), .val (.ref u2), .val (.int u3), .val (.int u4), .val (.int w1), s6, s7, s8, s9, s10]) (by rcases P_s5 with rfl | ⟨_, rfl⟩ <;> rfl) ?_
  refine XS.aloadN X0.here hx rfl (hb hby d5_76) rfl rfl ?_
  refine XS.iload X0.here hx rfl (hb hby d5_77) rfl ?_
  show Steps p.tables e below (s₁.setTop (mkF m 79 #[.val (.ref u0), .val (.int u1), .val (.ref u2), .val (.int u3), .val (.int u4), .val (.int w1), s6, s7, s8, s9, s10] [(.int u4), (.ref u0)])) _
  refine XS.iinc X0.here hx rfl (hb hby d5_79) rfl (l' := #[.val (.ref u0), .val (.int u1), .val (.ref u2), .val (.int u3), .val (.int (u4 + (1 : Int32))), .val (.int w1), s6, s7, s8, s9, s10]) rfl ?_
  show Steps p.tables e below (s₁.setTop (mkF m 82 #[.val (.ref u0), .val (.int u1), .val (.ref u2), .val (.int u3), .val (.int (u4 + (1 : Int32))), .val (.int w1), s6, s7, s8, s9, s10] [(.int u4), (.ref u0)])) _
  rw [← ez2]
  refine XS.iload X0.here hx rfl (hb hby d5_82) rfl ?_
  refine st3 _ ?_
  show Steps p.tables e below (T3.setTop (mkF m 87 #[.val (.ref u0), .val (.int u1), .val (.ref u2), .val (.int u3), .val (.int z2), .val (.int w1), s6, s7, s8, s9, s10] [(.int w3)])) _
  refine XS.istore X3.here hx rfl (hb hby d5_87) rfl (l' := #[.val (.ref u0), .val (.int u1), .val (.ref u2), .val (.int u3), .val (.int z2), .val (.int w1), .val (.int w3), s7, s8, s9, s10]) (by rcases P_s6 with rfl | ⟨_, rfl⟩ <;> rfl) ?_
  refine XS.iload X3.here hx rfl (hb hby d5_89) rfl ?_
  refine XS.bipush X3.here hx rfl (hb hby d5_91) ?_
  show Steps p.tables e below (T3.setTop (mkF m 93 #[.val (.ref u0), .val (.int u1), .val (.ref u2), .val (.int u3), .val (.int z2), .val (.int w1), .val (.int w3), s7, s8, s9, s10] [(.int (31 : Int32)), (.int w3)])) _
  refine XS.iand X3.here hx rfl (hb hby d5_93) rfl ?_
  show Steps p.tables e below (T3.setTop (mkF m 94 #[.val (.ref u0), .val (.int u1), .val (.ref u2), .val (.int u3), .val (.int z2), .val (.int w1), .val (.int w3), s7, s8, s9, s10] [(.int (w3 &&& (31 : Int32)))])) _
  rw [← ez4]
  refine XS.bipush X3.here hx rfl (hb hby d5_94) ?_
  refine XS.icmpYes X3.here hx rfl (pc0 := 96) (pc' := 103) rfl (hb hby d5_96) rfl (feq (own_eq0' (x := z4.toInt) (y := (31 : Int)) rfl rfl (by omega))).2 (by decide) (by decide) ?_
  refine XS.iconst X3.here hx rfl (hb hby d5_103) ?_
  refine XS.istore X3.here hx rfl (hb hby d5_104) rfl (l' := #[.val (.ref u0), .val (.int u1), .val (.ref u2), .val (.int u3), .val (.int z2), .val (.int w1), .val (.int w3), .val (.int (0 : Int32)), s8, s9, s10]) (by rcases P_s7 with rfl | ⟨_, rfl⟩ <;> rfl) ?_
  refine XS.iload X3.here hx rfl (hb hby d5_106) rfl ?_
  refine XS.ifYes X3.here hx rfl (pc0 := 108) (pc' := 139) rfl (hb hby d5_108) rfl ((if0 _ _).trans (teq (by decide)).1) (by decide) (by decide) ?_
  exact kt
theorem d5_99 : decode prog_3_method_2_code 99 = .ok (.iconst 1, 1) := by decide +kernel
theorem d5_100 : decode prog_3_method_2_code 100 = .ok (.goto 4, 3) := by decide +kernel
theorem d5_111 : decode prog_3_method_2_code 111 = .ok (.aload_n 0, 1) := by decide +kernel
theorem d5_112 : decode prog_3_method_2_code 112 = .ok (.iload 4, 2) := by decide +kernel
theorem d5_114 : decode prog_3_method_2_code 114 = .ok (.iinc 4 1, 3) := by decide +kernel
theorem d5_117 : decode prog_3_method_2_code 117 = .ok (.iload 5, 2) := by decide +kernel
theorem d5_119 : decode prog_3_method_2_code 119 = .ok (.invokestatic 16, 3) := by decide +kernel
theorem d5_122 : decode prog_3_method_2_code 122 = .ok (.sipush 128, 3) := by decide +kernel
theorem d5_125 : decode prog_3_method_2_code 125 = .ok (.iand, 1) := by decide +kernel
theorem d5_126 : decode prog_3_method_2_code 126 = .ok (.ifCond .eq 7, 3) := by decide +kernel
theorem d5_133 : decode prog_3_method_2_code 133 = .ok (.iconst 0, 1) := by decide +kernel
theorem d5_134 : decode prog_3_method_2_code 134 = .ok (.istore 7, 2) := by decide +kernel
theorem d5_136 : decode prog_3_method_2_code 136 = .ok (.goto (-30), 3) := by decide +kernel
set_option maxRecDepth 65536 in
set_option maxHeartbeats 40000000 in
theorem sg_tag1 (l : Launch) (Z : State) (a0 : Array Value) (hw : ∀ d ∈ tables_1, d.before a0 Z = true) {p : Program} {e : Env} {s : State} {m : MethodId} {args : Array Value} {below : List Frame} {meth : Method} {c : Code} {s₁ : State} {locs0 : List Loc} (u0 : Addr) (u1 : Int32) (u2 : Addr) (u3 : Int32) (u4 : Int32) (s5 : Slot) (s6 : Slot) (s7 : Slot) (s8 : Slot) (s9 : Slot) (s10 : Slot) (nn : Int) (gg : Int → Int) (ee : Int → Int) (cb : Int) (h0 : Heap) (n0 : Nat) (Z0 : n0 ≤ h0.size) (X0 : Stand p l e ({ frames := 1, cells := 1, slots := 12, locals := 15 } : Room) s m args below meth c s₁ locs0 1 12) (hx : p.tables.exec = Jvm.exec) (hby : c.code = prog_3_method_2_code) (hml : c.maxLocals = 11) (hZ : Z.Warmed39 s.vm) (hown : s.vm.findClass "com/example/fides/fides/Der" = some m.cls) (e0 : s₁.heap = h0) (N0 : Fr n0 locs0) (V_u0 : Byt Z h0 u0 nn gg) (V_u2 : Nts Z h0 u2 (u1.toInt + 1) ee) (hdep : 0 ≤ u3.toInt ∧ u3.toInt ≤ u1.toInt ∧ u1.toInt ≤ 11) (hM : nn ≤ 65600) (hp : 0 ≤ u4.toInt) (hfit : u4.toInt + 1 + (1 : Int) < ee u3.toInt ∧ ee u3.toInt ≤ nn) (hf : 0 ≤ (1 : Int) ∧ (1 : Int) ≤ 3) (ht : TagOK gg u4.toInt (1 : Int) cb) (P_s5 : Pl s5) (P_s6 : Pl s6) (P_s7 : Pl s7) : ∃ (T' : State) (locs' : List Loc) (z4 : Int32) (x5 : Int32) (x6 : Int32) (t7 : Slot), Stand p l e ({ frames := 1, cells := 1, slots := 12, locals := 15 } : Room) s m args below meth c T' locs' 1 12 ∧ T'.heap = h0 ∧ Fr n0 locs' ∧ (z4.toInt = u4.toInt + 1 + (1 : Int)) ∧ (x5.toInt = ee u3.toInt) ∧ (x6.toInt = gg u4.toInt ∧ 0 ≤ x6.toInt ∧ x6.toInt < 256) ∧ (Pl t7) ∧ ∀ target, Steps p.tables e below (T'.setTop (mkF m 139 #[.val (.ref u0), .val (.int u1), .val (.ref u2), .val (.int u3), .val (.int z4), .val (.int x5), .val (.int x6), t7, s8, s9, s10] [])) target → Steps p.tables e below (s₁.setTop (mkF m 71 #[.val (.ref u0), .val (.int u1), .val (.ref u2), .val (.int u3), .val (.int u4), s5, s6, s7, s8, s9, s10] [])) target := by
  have ht' := ht
  unfold TagOK at ht'
  obtain ⟨a1, a2, a3, a4, a5, a6, a7⟩ := ht'
  obtain ⟨cl1, Ar1, Sa1, Ma1, Ha1⟩ := id V_u2
  have i1 : 0 ≤ (u3).toInt ∧ (u3).toInt < u1.toInt + 1 := by omega
  obtain ⟨w1, we1, wp1⟩ := cel_get (P := fun i x => x.toInt = ee i) Ha1 i1.1 i1.2
  replace wp1 : w1.toInt = ee u3.toInt := wp1
  have st1 := X0.iaload hx (j := u3) (v := .int w1) (by rw [e0]; exact Ar1.1) (State.isArrayOf_alike hZ.alike Ar1.2.1) Ar1.2.2 (cel_inb Sa1 i1.1 i1.2) we1 (g := (mkF m 73 #[.val (.ref u0), .val (.int u1), .val (.ref u2), .val (.int u3), .val (.int u4), s5, s6, s7, s8, s9, s10] [(.int u3), (.ref u2)])) rfl rfl (hb hby d5_73)
  obtain ⟨z2, ez2⟩ : ∃ y : Int32, y = (u4 + (1 : Int32)) := ⟨_, rfl⟩
  have nz2 : z2.toInt = u4.toInt + (1 : Int) := by rw [ez2]; exact own_iadd (x := u4.toInt) (y := (1 : Int)) rfl rfl (by omega) (by omega)
  obtain ⟨_, _, ⟨T3, L3, k3, n3⟩, -, X3, ⟨Lc3, hQ3, l3, y3, z3⟩, st3⟩ := Jvm.LawKit.callS X0 hx (y := (⟨"com/example/fides/fides/Der", "byteAt", "([BII)I"⟩ : MethodName)) hown (mvT hZ (hw _ (List.mem_of_getElem? (i := 21) rfl))) (mvT hZ (hw _ (List.mem_of_getElem? (i := 22) rfl))) (mvT hZ (hw _ (List.mem_of_getElem? (i := 18) rfl))) (mvT hZ (hw _ (List.mem_of_getElem? (i := 23) rfl))) (by decide) (backOf (W := 0) (rm6 l Z a0 hw [] u0 u4 w1 nn gg h0 n0 Z0 V_u0 (by omega) (by omega) (by omega)) hZ (hw _ (List.mem_of_getElem? (i := 23) rfl)) (hw _ (List.mem_of_getElem? (i := 18) rfl)) (by decide) (by decide)) (g := (mkF m 84 #[.val (.ref u0), .val (.int u1), .val (.ref u2), .val (.int u3), .val (.int z2), .val (.int w1), s6, s7, s8, s9, s10] [(.int w1), (.int u4), (.ref u0)])) rfl (by rw [hml]; rfl) (argsL := [(.ref u0), (.int u4), (.int w1)]) (rest := []) (lenOf pd_2 rfl) rfl (by show 2 * 0 + _ ≤ _; exact Nat.le_of_eq rfl) (hb hby d5_84) (fun _ _ => ⟨rfl, e0, (by decide : 1 + 0 ≤ _), (by decide : 12 + 0 ≤ _)⟩)
  dsimp only [Pt.U, Pt.locs, Pt.cells, Pt.slots] at X3 l3 y3 z3 st3 hQ3
  replace y3 : k3 = 1 := y3
  replace z3 : n3 = 12 := z3
  rw [y3, z3] at X3
  obtain ⟨w3, rfl, N3q, nw3a, nw3b, nw3c, e3⟩ := hQ3
  have N3 : Fr n0 L3 := l3 ▸ Fr.app N0 N3q
  obtain ⟨z4, ez4⟩ : ∃ y : Int32, y = (w3 &&& (31 : Int32)) := ⟨_, rfl⟩
  have nz4 : z4.toInt = w3.toInt % 32 := by rw [ez4]; exact own_m31 w3
  obtain ⟨z5, ez5⟩ : ∃ y : Int32, y = (z2 + (1 : Int32)) := ⟨_, rfl⟩
  have nz5 : z5.toInt = z2.toInt + (1 : Int) := by rw [ez5]; exact own_iadd (x := z2.toInt) (y := (1 : Int)) rfl rfl (by omega) (by omega)
  obtain ⟨_, _, ⟨T6, L6, k6, n6⟩, -, X6, ⟨Lc6, hQ6, l6, y6, z6⟩, st6⟩ := Jvm.LawKit.callS X3 hx (y := (⟨"com/example/fides/fides/Der", "byteAt", "([BII)I"⟩ : MethodName)) hown (mvT hZ (hw _ (List.mem_of_getElem? (i := 21) rfl))) (mvT hZ (hw _ (List.mem_of_getElem? (i := 22) rfl))) (mvT hZ (hw _ (List.mem_of_getElem? (i := 18) rfl))) (mvT hZ (hw _ (List.mem_of_getElem? (i := 23) rfl))) (by decide) (backOf (W := 0) (rm6 l Z a0 hw [] u0 z2 w1 nn gg h0 n0 Z0 V_u0 (by omega) (by omega) (by omega)) hZ (hw _ (List.mem_of_getElem? (i := 23) rfl)) (hw _ (List.mem_of_getElem? (i := 18) rfl)) (by decide) (by decide)) (g := (mkF m 119 #[.val (.ref u0), .val (.int u1), .val (.ref u2), .val (.int u3), .val (.int z5), .val (.int w1), .val (.int w3), .val (.int (1 : Int32)), s8, s9, s10] [(.int w1), (.int z2), (.ref u0)])) rfl (by rw [hml]; rfl) (argsL := [(.ref u0), (.int z2), (.int w1)]) (rest := []) (lenOf pd_2 rfl) rfl (by show 2 * 0 + _ ≤ _; exact Nat.le_of_eq rfl) (hb hby d5_119) (fun _ _ => ⟨rfl, e3, (by decide : 1 + 0 ≤ _), (by decide : 12 + 0 ≤ _)⟩)
  dsimp only [Pt.U, Pt.locs, Pt.cells, Pt.slots] at X6 l6 y6 z6 st6 hQ6
  replace y6 : k6 = 1 := y6
  replace z6 : n6 = 12 := z6
  rw [y6, z6] at X6
  obtain ⟨w6, rfl, N6q, nw6a, nw6b, nw6c, e6⟩ := hQ6
  have N6 : Fr n0 L6 := l6 ▸ Fr.app N3 N6q
  obtain ⟨z7, ez7⟩ : ∃ y : Int32, y = (w6 &&& (128 : Int32)) := ⟨_, rfl⟩
  have rb6 : w6.toInt = gg (u4.toInt + 1) := by rw [← show z2.toInt = u4.toInt + 1 from by omega]; exact nw6a
  refine ⟨T6, _, z5, w1, w3, (.val (.int (0 : Int32))), X6, e6, N6, (by omega), (by omega), ⟨by omega, by omega, by omega⟩, (Or.inr ⟨_, rfl⟩), fun target kt => ?_⟩
  show Steps p.tables e below (s₁.setTop (mkF m 71 #[.val (.ref u0), .val (.int u1), .val (.ref u2), .val (.int u3), .val (.int u4), s5, s6, s7, s8, s9, s10] [])) _
  refine XS.aloadN X0.here hx rfl (hb hby d5_71) rfl rfl ?_
  refine XS.iloadN X0.here hx rfl (hb hby d5_72) rfl ?_
  show Steps p.tables e below (s₁.setTop (mkF m 73 #[.val (.ref u0), .val (.int u1), .val (.ref u2), .val (.int u3), .val (.int u4), s5, s6, s7, s8, s9, s10] [(.int u3), (.ref u2)])) _
  refine st1 _ ?_
  show Steps p.tables e below (s₁.setTop (mkF m 74 #[.val (.ref u0), .val (.int u1), .val (.ref u2), .val (.int u3), .val (.int u4), s5, s6, s7, s8, s9, s10] [(.int w1)])) _
  refine XS.istore X0.here hx rfl (hb hby d5_74) rfl (l' := #[.val (.ref u0), .val (.int u1), .val (.ref u2), .val (.int u3), .val (.int u4), .val (.int w1), s6, s7, s8, s9, s10]) (by rcases P_s5 with rfl | ⟨_, rfl⟩ <;> rfl) ?_
  refine XS.aloadN X0.here hx rfl (hb hby d5_76) rfl rfl ?_
  refine XS.iload X0.here hx rfl (hb hby d5_77) rfl ?_
  show Steps p.tables e below (s₁.setTop (mkF m 79 #[.val (.ref u0), .val (.int u1), .val (.ref u2), .val (.int u3), .val (.int u4), .val (.int w1), s6, s7, s8, s9, s10] [(.int u4), (.ref u0)])) _
  refine XS.iinc X0.here hx rfl (hb hby d5_79) rfl (l' := #[.val (.ref u0), .val (.int u1), .val (.ref u2), .val (.int u3), .val (.int (u4 + (1 : Int32))), .val (.int w1), s6, s7, s8, s9, s10]) rfl ?_
  show Steps p.tables e below (s₁.setTop (mkF m 82 #[.val (.ref u0), .val (.int u1), .val (.ref u2), .val (.int u3), .val (.int (u4 + (1 : Int32))), .val (.int w1), s6, s7, s8, s9, s10] [(.int u4), (.ref u0)])) _
  rw [← ez2]
  refine XS.iload X0.here hx rfl (hb hby d5_82) rfl ?_
  refine st3 _ ?_
  show Steps p.tables e below (T3.setTop (mkF m 87 #[.val (.ref u0), .val (.int u1), .val (.ref u2), .val (.int u3), .val (.int z2), .val (.int w1), s6, s7, s8, s9, s10] [(.int w3)])) _
  refine XS.istore X3.here hx rfl (hb hby d5_87) rfl (l' := #[.val (.ref u0), .val (.int u1), .val (.ref u2), .val (.int u3), .val (.int z2), .val (.int w1), .val (.int w3), s7, s8, s9, s10]) (by rcases P_s6 with rfl | ⟨_, rfl⟩ <;> rfl) ?_
  refine XS.iload X3.here hx rfl (hb hby d5_89) rfl ?_
  refine XS.bipush X3.here hx rfl (hb hby d5_91) ?_
  show Steps p.tables e below (T3.setTop (mkF m 93 #[.val (.ref u0), .val (.int u1), .val (.ref u2), .val (.int u3), .val (.int z2), .val (.int w1), .val (.int w3), s7, s8, s9, s10] [(.int (31 : Int32)), (.int w3)])) _
  refine XS.iand X3.here hx rfl (hb hby d5_93) rfl ?_
  show Steps p.tables e below (T3.setTop (mkF m 94 #[.val (.ref u0), .val (.int u1), .val (.ref u2), .val (.int u3), .val (.int z2), .val (.int w1), .val (.int w3), s7, s8, s9, s10] [(.int (w3 &&& (31 : Int32)))])) _
  rw [← ez4]
  refine XS.bipush X3.here hx rfl (hb hby d5_94) ?_
  refine XS.icmpNo X3.here hx rfl (hb hby d5_96) rfl (teq (own_eq1' (x := z4.toInt) (y := (31 : Int)) rfl rfl (by omega))).2 ?_
  refine XS.iconst X3.here hx rfl (hb hby d5_99) ?_
  refine XS.goto X3.here hx rfl (pc0 := 100) (pc' := 104) rfl (hb hby d5_100) (by decide) (by decide) ?_
  refine XS.istore X3.here hx rfl (hb hby d5_104) rfl (l' := #[.val (.ref u0), .val (.int u1), .val (.ref u2), .val (.int u3), .val (.int z2), .val (.int w1), .val (.int w3), .val (.int (1 : Int32)), s8, s9, s10]) (by rcases P_s7 with rfl | ⟨_, rfl⟩ <;> rfl) ?_
  refine XS.iload X3.here hx rfl (hb hby d5_106) rfl ?_
  refine XS.ifNo X3.here hx rfl (hb hby d5_108) rfl ((if0 _ _).trans (feq (by decide)).1) ?_
  refine XS.aloadN X3.here hx rfl (hb hby d5_111) rfl rfl ?_
  refine XS.iload X3.here hx rfl (hb hby d5_112) rfl ?_
  show Steps p.tables e below (T3.setTop (mkF m 114 #[.val (.ref u0), .val (.int u1), .val (.ref u2), .val (.int u3), .val (.int z2), .val (.int w1), .val (.int w3), .val (.int (1 : Int32)), s8, s9, s10] [(.int z2), (.ref u0)])) _
  refine XS.iinc X3.here hx rfl (hb hby d5_114) rfl (l' := #[.val (.ref u0), .val (.int u1), .val (.ref u2), .val (.int u3), .val (.int (z2 + (1 : Int32))), .val (.int w1), .val (.int w3), .val (.int (1 : Int32)), s8, s9, s10]) rfl ?_
  show Steps p.tables e below (T3.setTop (mkF m 117 #[.val (.ref u0), .val (.int u1), .val (.ref u2), .val (.int u3), .val (.int (z2 + (1 : Int32))), .val (.int w1), .val (.int w3), .val (.int (1 : Int32)), s8, s9, s10] [(.int z2), (.ref u0)])) _
  rw [← ez5]
  refine XS.iload X3.here hx rfl (hb hby d5_117) rfl ?_
  refine st6 _ ?_
  show Steps p.tables e below (T6.setTop (mkF m 122 #[.val (.ref u0), .val (.int u1), .val (.ref u2), .val (.int u3), .val (.int z5), .val (.int w1), .val (.int w3), .val (.int (1 : Int32)), s8, s9, s10] [(.int w6)])) _
  refine XS.sipush X6.here hx rfl (hb hby d5_122) ?_
  show Steps p.tables e below (T6.setTop (mkF m 125 #[.val (.ref u0), .val (.int u1), .val (.ref u2), .val (.int u3), .val (.int z5), .val (.int w1), .val (.int w3), .val (.int (1 : Int32)), s8, s9, s10] [(.int (128 : Int32)), (.int w6)])) _
  refine XS.iand X6.here hx rfl (hb hby d5_125) rfl ?_
  show Steps p.tables e below (T6.setTop (mkF m 126 #[.val (.ref u0), .val (.int u1), .val (.ref u2), .val (.int u3), .val (.int z5), .val (.int w1), .val (.int w3), .val (.int (1 : Int32)), s8, s9, s10] [(.int (w6 &&& (128 : Int32)))])) _
  rw [← ez7]
  refine XS.ifYes X6.here hx rfl (pc0 := 126) (pc' := 133) rfl (hb hby d5_126) rfl ((if0 _ _).trans (teq (by rw [ez7]; exact (own_128 nw6b nw6c).mpr (by omega))).1) (by decide) (by decide) ?_
  refine XS.iconst X6.here hx rfl (hb hby d5_133) ?_
  refine XS.istore X6.here hx rfl (hb hby d5_134) rfl (l' := #[.val (.ref u0), .val (.int u1), .val (.ref u2), .val (.int u3), .val (.int z5), .val (.int w1), .val (.int w3), .val (.int (0 : Int32)), s8, s9, s10]) rfl ?_
  refine XS.goto X6.here hx rfl (pc0 := 136) (pc' := 106) rfl (hb hby d5_136) (by decide) (by decide) ?_
  refine XS.iload X6.here hx rfl (hb hby d5_106) rfl ?_
  refine XS.ifYes X6.here hx rfl (pc0 := 108) (pc' := 139) rfl (hb hby d5_108) rfl ((if0 _ _).trans (teq (by decide)).1) (by decide) (by decide) ?_
  exact kt
theorem d5_129 : decode prog_3_method_2_code 129 = .ok (.iconst 1, 1) := by decide +kernel
theorem d5_130 : decode prog_3_method_2_code 130 = .ok (.goto 4, 3) := by decide +kernel
set_option maxRecDepth 65536 in
set_option maxHeartbeats 40000000 in
theorem sg_tag2 (l : Launch) (Z : State) (a0 : Array Value) (hw : ∀ d ∈ tables_1, d.before a0 Z = true) {p : Program} {e : Env} {s : State} {m : MethodId} {args : Array Value} {below : List Frame} {meth : Method} {c : Code} {s₁ : State} {locs0 : List Loc} (u0 : Addr) (u1 : Int32) (u2 : Addr) (u3 : Int32) (u4 : Int32) (s5 : Slot) (s6 : Slot) (s7 : Slot) (s8 : Slot) (s9 : Slot) (s10 : Slot) (nn : Int) (gg : Int → Int) (ee : Int → Int) (cb : Int) (h0 : Heap) (n0 : Nat) (Z0 : n0 ≤ h0.size) (X0 : Stand p l e ({ frames := 1, cells := 1, slots := 12, locals := 15 } : Room) s m args below meth c s₁ locs0 1 12) (hx : p.tables.exec = Jvm.exec) (hby : c.code = prog_3_method_2_code) (hml : c.maxLocals = 11) (hZ : Z.Warmed39 s.vm) (hown : s.vm.findClass "com/example/fides/fides/Der" = some m.cls) (e0 : s₁.heap = h0) (N0 : Fr n0 locs0) (V_u0 : Byt Z h0 u0 nn gg) (V_u2 : Nts Z h0 u2 (u1.toInt + 1) ee) (hdep : 0 ≤ u3.toInt ∧ u3.toInt ≤ u1.toInt ∧ u1.toInt ≤ 11) (hM : nn ≤ 65600) (hp : 0 ≤ u4.toInt) (hfit : u4.toInt + 1 + (2 : Int) < ee u3.toInt ∧ ee u3.toInt ≤ nn) (hf : 0 ≤ (2 : Int) ∧ (2 : Int) ≤ 3) (ht : TagOK gg u4.toInt (2 : Int) cb) (P_s5 : Pl s5) (P_s6 : Pl s6) (P_s7 : Pl s7) : ∃ (T' : State) (locs' : List Loc) (z4 : Int32) (x5 : Int32) (x6 : Int32) (t7 : Slot), Stand p l e ({ frames := 1, cells := 1, slots := 12, locals := 15 } : Room) s m args below meth c T' locs' 1 12 ∧ T'.heap = h0 ∧ Fr n0 locs' ∧ (z4.toInt = u4.toInt + 1 + (2 : Int)) ∧ (x5.toInt = ee u3.toInt) ∧ (x6.toInt = gg u4.toInt ∧ 0 ≤ x6.toInt ∧ x6.toInt < 256) ∧ (Pl t7) ∧ ∀ target, Steps p.tables e below (T'.setTop (mkF m 139 #[.val (.ref u0), .val (.int u1), .val (.ref u2), .val (.int u3), .val (.int z4), .val (.int x5), .val (.int x6), t7, s8, s9, s10] [])) target → Steps p.tables e below (s₁.setTop (mkF m 71 #[.val (.ref u0), .val (.int u1), .val (.ref u2), .val (.int u3), .val (.int u4), s5, s6, s7, s8, s9, s10] [])) target := by
  have ht' := ht
  unfold TagOK at ht'
  obtain ⟨a1, a2, a3, a4, a5, a6, a7⟩ := ht'
  obtain ⟨cl1, Ar1, Sa1, Ma1, Ha1⟩ := id V_u2
  have i1 : 0 ≤ (u3).toInt ∧ (u3).toInt < u1.toInt + 1 := by omega
  obtain ⟨w1, we1, wp1⟩ := cel_get (P := fun i x => x.toInt = ee i) Ha1 i1.1 i1.2
  replace wp1 : w1.toInt = ee u3.toInt := wp1
  have st1 := X0.iaload hx (j := u3) (v := .int w1) (by rw [e0]; exact Ar1.1) (State.isArrayOf_alike hZ.alike Ar1.2.1) Ar1.2.2 (cel_inb Sa1 i1.1 i1.2) we1 (g := (mkF m 73 #[.val (.ref u0), .val (.int u1), .val (.ref u2), .val (.int u3), .val (.int u4), s5, s6, s7, s8, s9, s10] [(.int u3), (.ref u2)])) rfl rfl (hb hby d5_73)
  obtain ⟨z2, ez2⟩ : ∃ y : Int32, y = (u4 + (1 : Int32)) := ⟨_, rfl⟩
  have nz2 : z2.toInt = u4.toInt + (1 : Int) := by rw [ez2]; exact own_iadd (x := u4.toInt) (y := (1 : Int)) rfl rfl (by omega) (by omega)
  obtain ⟨_, _, ⟨T3, L3, k3, n3⟩, -, X3, ⟨Lc3, hQ3, l3, y3, z3⟩, st3⟩ := Jvm.LawKit.callS X0 hx (y := (⟨"com/example/fides/fides/Der", "byteAt", "([BII)I"⟩ : MethodName)) hown (mvT hZ (hw _ (List.mem_of_getElem? (i := 21) rfl))) (mvT hZ (hw _ (List.mem_of_getElem? (i := 22) rfl))) (mvT hZ (hw _ (List.mem_of_getElem? (i := 18) rfl))) (mvT hZ (hw _ (List.mem_of_getElem? (i := 23) rfl))) (by decide) (backOf (W := 0) (rm6 l Z a0 hw [] u0 u4 w1 nn gg h0 n0 Z0 V_u0 (by omega) (by omega) (by omega)) hZ (hw _ (List.mem_of_getElem? (i := 23) rfl)) (hw _ (List.mem_of_getElem? (i := 18) rfl)) (by decide) (by decide)) (g := (mkF m 84 #[.val (.ref u0), .val (.int u1), .val (.ref u2), .val (.int u3), .val (.int z2), .val (.int w1), s6, s7, s8, s9, s10] [(.int w1), (.int u4), (.ref u0)])) rfl (by rw [hml]; rfl) (argsL := [(.ref u0), (.int u4), (.int w1)]) (rest := []) (lenOf pd_2 rfl) rfl (by show 2 * 0 + _ ≤ _; exact Nat.le_of_eq rfl) (hb hby d5_84) (fun _ _ => ⟨rfl, e0, (by decide : 1 + 0 ≤ _), (by decide : 12 + 0 ≤ _)⟩)
  dsimp only [Pt.U, Pt.locs, Pt.cells, Pt.slots] at X3 l3 y3 z3 st3 hQ3
  replace y3 : k3 = 1 := y3
  replace z3 : n3 = 12 := z3
  rw [y3, z3] at X3
  obtain ⟨w3, rfl, N3q, nw3a, nw3b, nw3c, e3⟩ := hQ3
  have N3 : Fr n0 L3 := l3 ▸ Fr.app N0 N3q
  obtain ⟨z4, ez4⟩ : ∃ y : Int32, y = (w3 &&& (31 : Int32)) := ⟨_, rfl⟩
  have nz4 : z4.toInt = w3.toInt % 32 := by rw [ez4]; exact own_m31 w3
  obtain ⟨z5, ez5⟩ : ∃ y : Int32, y = (z2 + (1 : Int32)) := ⟨_, rfl⟩
  have nz5 : z5.toInt = z2.toInt + (1 : Int) := by rw [ez5]; exact own_iadd (x := z2.toInt) (y := (1 : Int)) rfl rfl (by omega) (by omega)
  obtain ⟨_, _, ⟨T6, L6, k6, n6⟩, -, X6, ⟨Lc6, hQ6, l6, y6, z6⟩, st6⟩ := Jvm.LawKit.callS X3 hx (y := (⟨"com/example/fides/fides/Der", "byteAt", "([BII)I"⟩ : MethodName)) hown (mvT hZ (hw _ (List.mem_of_getElem? (i := 21) rfl))) (mvT hZ (hw _ (List.mem_of_getElem? (i := 22) rfl))) (mvT hZ (hw _ (List.mem_of_getElem? (i := 18) rfl))) (mvT hZ (hw _ (List.mem_of_getElem? (i := 23) rfl))) (by decide) (backOf (W := 0) (rm6 l Z a0 hw [] u0 z2 w1 nn gg h0 n0 Z0 V_u0 (by omega) (by omega) (by omega)) hZ (hw _ (List.mem_of_getElem? (i := 23) rfl)) (hw _ (List.mem_of_getElem? (i := 18) rfl)) (by decide) (by decide)) (g := (mkF m 119 #[.val (.ref u0), .val (.int u1), .val (.ref u2), .val (.int u3), .val (.int z5), .val (.int w1), .val (.int w3), .val (.int (1 : Int32)), s8, s9, s10] [(.int w1), (.int z2), (.ref u0)])) rfl (by rw [hml]; rfl) (argsL := [(.ref u0), (.int z2), (.int w1)]) (rest := []) (lenOf pd_2 rfl) rfl (by show 2 * 0 + _ ≤ _; exact Nat.le_of_eq rfl) (hb hby d5_119) (fun _ _ => ⟨rfl, e3, (by decide : 1 + 0 ≤ _), (by decide : 12 + 0 ≤ _)⟩)
  dsimp only [Pt.U, Pt.locs, Pt.cells, Pt.slots] at X6 l6 y6 z6 st6 hQ6
  replace y6 : k6 = 1 := y6
  replace z6 : n6 = 12 := z6
  rw [y6, z6] at X6
  obtain ⟨w6, rfl, N6q, nw6a, nw6b, nw6c, e6⟩ := hQ6
  have N6 : Fr n0 L6 := l6 ▸ Fr.app N3 N6q
  obtain ⟨z7, ez7⟩ : ∃ y : Int32, y = (w6 &&& (128 : Int32)) := ⟨_, rfl⟩
  have rb6 : w6.toInt = gg (u4.toInt + 1) := by rw [← show z2.toInt = u4.toInt + 1 from by omega]; exact nw6a
  obtain ⟨z8, ez8⟩ : ∃ y : Int32, y = (z5 + (1 : Int32)) := ⟨_, rfl⟩
  have nz8 : z8.toInt = z5.toInt + (1 : Int) := by rw [ez8]; exact own_iadd (x := z5.toInt) (y := (1 : Int)) rfl rfl (by omega) (by omega)
  obtain ⟨_, _, ⟨T9, L9, k9, n9⟩, -, X9, ⟨Lc9, hQ9, l9, y9, z9⟩, st9⟩ := Jvm.LawKit.callS X6 hx (y := (⟨"com/example/fides/fides/Der", "byteAt", "([BII)I"⟩ : MethodName)) hown (mvT hZ (hw _ (List.mem_of_getElem? (i := 21) rfl))) (mvT hZ (hw _ (List.mem_of_getElem? (i := 22) rfl))) (mvT hZ (hw _ (List.mem_of_getElem? (i := 18) rfl))) (mvT hZ (hw _ (List.mem_of_getElem? (i := 23) rfl))) (by decide) (backOf (W := 0) (rm6 l Z a0 hw [] u0 z5 w1 nn gg h0 n0 Z0 V_u0 (by omega) (by omega) (by omega)) hZ (hw _ (List.mem_of_getElem? (i := 23) rfl)) (hw _ (List.mem_of_getElem? (i := 18) rfl)) (by decide) (by decide)) (g := (mkF m 119 #[.val (.ref u0), .val (.int u1), .val (.ref u2), .val (.int u3), .val (.int z8), .val (.int w1), .val (.int w3), .val (.int (1 : Int32)), s8, s9, s10] [(.int w1), (.int z5), (.ref u0)])) rfl (by rw [hml]; rfl) (argsL := [(.ref u0), (.int z5), (.int w1)]) (rest := []) (lenOf pd_2 rfl) rfl (by show 2 * 0 + _ ≤ _; exact Nat.le_of_eq rfl) (hb hby d5_119) (fun _ _ => ⟨rfl, e6, (by decide : 1 + 0 ≤ _), (by decide : 12 + 0 ≤ _)⟩)
  dsimp only [Pt.U, Pt.locs, Pt.cells, Pt.slots] at X9 l9 y9 z9 st9 hQ9
  replace y9 : k9 = 1 := y9
  replace z9 : n9 = 12 := z9
  rw [y9, z9] at X9
  obtain ⟨w9, rfl, N9q, nw9a, nw9b, nw9c, e9⟩ := hQ9
  have N9 : Fr n0 L9 := l9 ▸ Fr.app N6 N9q
  obtain ⟨z10, ez10⟩ : ∃ y : Int32, y = (w9 &&& (128 : Int32)) := ⟨_, rfl⟩
  have rb9 : w9.toInt = gg (u4.toInt + 2) := by rw [← show z5.toInt = u4.toInt + 2 from by omega]; exact nw9a
  refine ⟨T9, _, z8, w1, w3, (.val (.int (0 : Int32))), X9, e9, N9, (by omega), (by omega), ⟨by omega, by omega, by omega⟩, (Or.inr ⟨_, rfl⟩), fun target kt => ?_⟩
  show Steps p.tables e below (s₁.setTop (mkF m 71 #[.val (.ref u0), .val (.int u1), .val (.ref u2), .val (.int u3), .val (.int u4), s5, s6, s7, s8, s9, s10] [])) _
  refine XS.aloadN X0.here hx rfl (hb hby d5_71) rfl rfl ?_
  refine XS.iloadN X0.here hx rfl (hb hby d5_72) rfl ?_
  show Steps p.tables e below (s₁.setTop (mkF m 73 #[.val (.ref u0), .val (.int u1), .val (.ref u2), .val (.int u3), .val (.int u4), s5, s6, s7, s8, s9, s10] [(.int u3), (.ref u2)])) _
  refine st1 _ ?_
  show Steps p.tables e below (s₁.setTop (mkF m 74 #[.val (.ref u0), .val (.int u1), .val (.ref u2), .val (.int u3), .val (.int u4), s5, s6, s7, s8, s9, s10] [(.int w1)])) _
  refine XS.istore X0.here hx rfl (hb hby d5_74) rfl (l' := #[.val (.ref u0), .val (.int u1), .val (.ref u2), .val (.int u3), .val (.int u4), .val (.int w1), s6, s7, s8, s9, s10]) (by rcases P_s5 with rfl | ⟨_, rfl⟩ <;> rfl) ?_
  refine XS.aloadN X0.here hx rfl (hb hby d5_76) rfl rfl ?_
  refine XS.iload X0.here hx rfl (hb hby d5_77) rfl ?_
  show Steps p.tables e below (s₁.setTop (mkF m 79 #[.val (.ref u0), .val (.int u1), .val (.ref u2), .val (.int u3), .val (.int u4), .val (.int w1), s6, s7, s8, s9, s10] [(.int u4), (.ref u0)])) _
  refine XS.iinc X0.here hx rfl (hb hby d5_79) rfl (l' := #[.val (.ref u0), .val (.int u1), .val (.ref u2), .val (.int u3), .val (.int (u4 + (1 : Int32))), .val (.int w1), s6, s7, s8, s9, s10]) rfl ?_
  show Steps p.tables e below (s₁.setTop (mkF m 82 #[.val (.ref u0), .val (.int u1), .val (.ref u2), .val (.int u3), .val (.int (u4 + (1 : Int32))), .val (.int w1), s6, s7, s8, s9, s10] [(.int u4), (.ref u0)])) _
  rw [← ez2]
  refine XS.iload X0.here hx rfl (hb hby d5_82) rfl ?_
  refine st3 _ ?_
  show Steps p.tables e below (T3.setTop (mkF m 87 #[.val (.ref u0), .val (.int u1), .val (.ref u2), .val (.int u3), .val (.int z2), .val (.int w1), s6, s7, s8, s9, s10] [(.int w3)])) _
  refine XS.istore X3.here hx rfl (hb hby d5_87) rfl (l' := #[.val (.ref u0), .val (.int u1), .val (.ref u2), .val (.int u3), .val (.int z2), .val (.int w1), .val (.int w3), s7, s8, s9, s10]) (by rcases P_s6 with rfl | ⟨_, rfl⟩ <;> rfl) ?_
  refine XS.iload X3.here hx rfl (hb hby d5_89) rfl ?_
  refine XS.bipush X3.here hx rfl (hb hby d5_91) ?_
  show Steps p.tables e below (T3.setTop (mkF m 93 #[.val (.ref u0), .val (.int u1), .val (.ref u2), .val (.int u3), .val (.int z2), .val (.int w1), .val (.int w3), s7, s8, s9, s10] [(.int (31 : Int32)), (.int w3)])) _
  refine XS.iand X3.here hx rfl (hb hby d5_93) rfl ?_
  show Steps p.tables e below (T3.setTop (mkF m 94 #[.val (.ref u0), .val (.int u1), .val (.ref u2), .val (.int u3), .val (.int z2), .val (.int w1), .val (.int w3), s7, s8, s9, s10] [(.int (w3 &&& (31 : Int32)))])) _
  rw [← ez4]
  refine XS.bipush X3.here hx rfl (hb hby d5_94) ?_
  refine XS.icmpNo X3.here hx rfl (hb hby d5_96) rfl (teq (own_eq1' (x := z4.toInt) (y := (31 : Int)) rfl rfl (by omega))).2 ?_
  refine XS.iconst X3.here hx rfl (hb hby d5_99) ?_
  refine XS.goto X3.here hx rfl (pc0 := 100) (pc' := 104) rfl (hb hby d5_100) (by decide) (by decide) ?_
  refine XS.istore X3.here hx rfl (hb hby d5_104) rfl (l' := #[.val (.ref u0), .val (.int u1), .val (.ref u2), .val (.int u3), .val (.int z2), .val (.int w1), .val (.int w3), .val (.int (1 : Int32)), s8, s9, s10]) (by rcases P_s7 with rfl | ⟨_, rfl⟩ <;> rfl) ?_
  refine XS.iload X3.here hx rfl (hb hby d5_106) rfl ?_
  refine XS.ifNo X3.here hx rfl (hb hby d5_108) rfl ((if0 _ _).trans (feq (by decide)).1) ?_
  refine XS.aloadN X3.here hx rfl (hb hby d5_111) rfl rfl ?_
  refine XS.iload X3.here hx rfl (hb hby d5_112) rfl ?_
  show Steps p.tables e below (T3.setTop (mkF m 114 #[.val (.ref u0), .val (.int u1), .val (.ref u2), .val (.int u3), .val (.int z2), .val (.int w1), .val (.int w3), .val (.int (1 : Int32)), s8, s9, s10] [(.int z2), (.ref u0)])) _
  refine XS.iinc X3.here hx rfl (hb hby d5_114) rfl (l' := #[.val (.ref u0), .val (.int u1), .val (.ref u2), .val (.int u3), .val (.int (z2 + (1 : Int32))), .val (.int w1), .val (.int w3), .val (.int (1 : Int32)), s8, s9, s10]) rfl ?_
  show Steps p.tables e below (T3.setTop (mkF m 117 #[.val (.ref u0), .val (.int u1), .val (.ref u2), .val (.int u3), .val (.int (z2 + (1 : Int32))), .val (.int w1), .val (.int w3), .val (.int (1 : Int32)), s8, s9, s10] [(.int z2), (.ref u0)])) _
  rw [← ez5]
  refine XS.iload X3.here hx rfl (hb hby d5_117) rfl ?_
  refine st6 _ ?_
  show Steps p.tables e below (T6.setTop (mkF m 122 #[.val (.ref u0), .val (.int u1), .val (.ref u2), .val (.int u3), .val (.int z5), .val (.int w1), .val (.int w3), .val (.int (1 : Int32)), s8, s9, s10] [(.int w6)])) _
  refine XS.sipush X6.here hx rfl (hb hby d5_122) ?_
  show Steps p.tables e below (T6.setTop (mkF m 125 #[.val (.ref u0), .val (.int u1), .val (.ref u2), .val (.int u3), .val (.int z5), .val (.int w1), .val (.int w3), .val (.int (1 : Int32)), s8, s9, s10] [(.int (128 : Int32)), (.int w6)])) _
  refine XS.iand X6.here hx rfl (hb hby d5_125) rfl ?_
  show Steps p.tables e below (T6.setTop (mkF m 126 #[.val (.ref u0), .val (.int u1), .val (.ref u2), .val (.int u3), .val (.int z5), .val (.int w1), .val (.int w3), .val (.int (1 : Int32)), s8, s9, s10] [(.int (w6 &&& (128 : Int32)))])) _
  rw [← ez7]
  refine XS.ifNo X6.here hx rfl (hb hby d5_126) rfl ((if0 _ _).trans (feq (fun q => absurd ((own_128 nw6b nw6c).mp (ez7 ▸ q)) (by omega))).1) ?_
  refine XS.iconst X6.here hx rfl (hb hby d5_129) ?_
  refine XS.goto X6.here hx rfl (pc0 := 130) (pc' := 134) rfl (hb hby d5_130) (by decide) (by decide) ?_
  refine XS.istore X6.here hx rfl (hb hby d5_134) rfl (l' := #[.val (.ref u0), .val (.int u1), .val (.ref u2), .val (.int u3), .val (.int z5), .val (.int w1), .val (.int w3), .val (.int (1 : Int32)), s8, s9, s10]) rfl ?_
  refine XS.goto X6.here hx rfl (pc0 := 136) (pc' := 106) rfl (hb hby d5_136) (by decide) (by decide) ?_
  refine XS.iload X6.here hx rfl (hb hby d5_106) rfl ?_
  refine XS.ifNo X6.here hx rfl (hb hby d5_108) rfl ((if0 _ _).trans (feq (by decide)).1) ?_
  refine XS.aloadN X6.here hx rfl (hb hby d5_111) rfl rfl ?_
  refine XS.iload X6.here hx rfl (hb hby d5_112) rfl ?_
  show Steps p.tables e below (T6.setTop (mkF m 114 #[.val (.ref u0), .val (.int u1), .val (.ref u2), .val (.int u3), .val (.int z5), .val (.int w1), .val (.int w3), .val (.int (1 : Int32)), s8, s9, s10] [(.int z5), (.ref u0)])) _
  refine XS.iinc X6.here hx rfl (hb hby d5_114) rfl (l' := #[.val (.ref u0), .val (.int u1), .val (.ref u2), .val (.int u3), .val (.int (z5 + (1 : Int32))), .val (.int w1), .val (.int w3), .val (.int (1 : Int32)), s8, s9, s10]) rfl ?_
  show Steps p.tables e below (T6.setTop (mkF m 117 #[.val (.ref u0), .val (.int u1), .val (.ref u2), .val (.int u3), .val (.int (z5 + (1 : Int32))), .val (.int w1), .val (.int w3), .val (.int (1 : Int32)), s8, s9, s10] [(.int z5), (.ref u0)])) _
  rw [← ez8]
  refine XS.iload X6.here hx rfl (hb hby d5_117) rfl ?_
  refine st9 _ ?_
  show Steps p.tables e below (T9.setTop (mkF m 122 #[.val (.ref u0), .val (.int u1), .val (.ref u2), .val (.int u3), .val (.int z8), .val (.int w1), .val (.int w3), .val (.int (1 : Int32)), s8, s9, s10] [(.int w9)])) _
  refine XS.sipush X9.here hx rfl (hb hby d5_122) ?_
  show Steps p.tables e below (T9.setTop (mkF m 125 #[.val (.ref u0), .val (.int u1), .val (.ref u2), .val (.int u3), .val (.int z8), .val (.int w1), .val (.int w3), .val (.int (1 : Int32)), s8, s9, s10] [(.int (128 : Int32)), (.int w9)])) _
  refine XS.iand X9.here hx rfl (hb hby d5_125) rfl ?_
  show Steps p.tables e below (T9.setTop (mkF m 126 #[.val (.ref u0), .val (.int u1), .val (.ref u2), .val (.int u3), .val (.int z8), .val (.int w1), .val (.int w3), .val (.int (1 : Int32)), s8, s9, s10] [(.int (w9 &&& (128 : Int32)))])) _
  rw [← ez10]
  refine XS.ifYes X9.here hx rfl (pc0 := 126) (pc' := 133) rfl (hb hby d5_126) rfl ((if0 _ _).trans (teq (by rw [ez10]; exact (own_128 nw9b nw9c).mpr (by omega))).1) (by decide) (by decide) ?_
  refine XS.iconst X9.here hx rfl (hb hby d5_133) ?_
  refine XS.istore X9.here hx rfl (hb hby d5_134) rfl (l' := #[.val (.ref u0), .val (.int u1), .val (.ref u2), .val (.int u3), .val (.int z8), .val (.int w1), .val (.int w3), .val (.int (0 : Int32)), s8, s9, s10]) rfl ?_
  refine XS.goto X9.here hx rfl (pc0 := 136) (pc' := 106) rfl (hb hby d5_136) (by decide) (by decide) ?_
  refine XS.iload X9.here hx rfl (hb hby d5_106) rfl ?_
  refine XS.ifYes X9.here hx rfl (pc0 := 108) (pc' := 139) rfl (hb hby d5_108) rfl ((if0 _ _).trans (teq (by decide)).1) (by decide) (by decide) ?_
  exact kt
set_option maxRecDepth 65536 in
set_option maxHeartbeats 40000000 in
theorem sg_tag3 (l : Launch) (Z : State) (a0 : Array Value) (hw : ∀ d ∈ tables_1, d.before a0 Z = true) {p : Program} {e : Env} {s : State} {m : MethodId} {args : Array Value} {below : List Frame} {meth : Method} {c : Code} {s₁ : State} {locs0 : List Loc} (u0 : Addr) (u1 : Int32) (u2 : Addr) (u3 : Int32) (u4 : Int32) (s5 : Slot) (s6 : Slot) (s7 : Slot) (s8 : Slot) (s9 : Slot) (s10 : Slot) (nn : Int) (gg : Int → Int) (ee : Int → Int) (cb : Int) (h0 : Heap) (n0 : Nat) (Z0 : n0 ≤ h0.size) (X0 : Stand p l e ({ frames := 1, cells := 1, slots := 12, locals := 15 } : Room) s m args below meth c s₁ locs0 1 12) (hx : p.tables.exec = Jvm.exec) (hby : c.code = prog_3_method_2_code) (hml : c.maxLocals = 11) (hZ : Z.Warmed39 s.vm) (hown : s.vm.findClass "com/example/fides/fides/Der" = some m.cls) (e0 : s₁.heap = h0) (N0 : Fr n0 locs0) (V_u0 : Byt Z h0 u0 nn gg) (V_u2 : Nts Z h0 u2 (u1.toInt + 1) ee) (hdep : 0 ≤ u3.toInt ∧ u3.toInt ≤ u1.toInt ∧ u1.toInt ≤ 11) (hM : nn ≤ 65600) (hp : 0 ≤ u4.toInt) (hfit : u4.toInt + 1 + (3 : Int) < ee u3.toInt ∧ ee u3.toInt ≤ nn) (hf : 0 ≤ (3 : Int) ∧ (3 : Int) ≤ 3) (ht : TagOK gg u4.toInt (3 : Int) cb) (P_s5 : Pl s5) (P_s6 : Pl s6) (P_s7 : Pl s7) : ∃ (T' : State) (locs' : List Loc) (z4 : Int32) (x5 : Int32) (x6 : Int32) (t7 : Slot), Stand p l e ({ frames := 1, cells := 1, slots := 12, locals := 15 } : Room) s m args below meth c T' locs' 1 12 ∧ T'.heap = h0 ∧ Fr n0 locs' ∧ (z4.toInt = u4.toInt + 1 + (3 : Int)) ∧ (x5.toInt = ee u3.toInt) ∧ (x6.toInt = gg u4.toInt ∧ 0 ≤ x6.toInt ∧ x6.toInt < 256) ∧ (Pl t7) ∧ ∀ target, Steps p.tables e below (T'.setTop (mkF m 139 #[.val (.ref u0), .val (.int u1), .val (.ref u2), .val (.int u3), .val (.int z4), .val (.int x5), .val (.int x6), t7, s8, s9, s10] [])) target → Steps p.tables e below (s₁.setTop (mkF m 71 #[.val (.ref u0), .val (.int u1), .val (.ref u2), .val (.int u3), .val (.int u4), s5, s6, s7, s8, s9, s10] [])) target := by
  have ht' := ht
  unfold TagOK at ht'
  obtain ⟨a1, a2, a3, a4, a5, a6, a7⟩ := ht'
  obtain ⟨cl1, Ar1, Sa1, Ma1, Ha1⟩ := id V_u2
  have i1 : 0 ≤ (u3).toInt ∧ (u3).toInt < u1.toInt + 1 := by omega
  obtain ⟨w1, we1, wp1⟩ := cel_get (P := fun i x => x.toInt = ee i) Ha1 i1.1 i1.2
  replace wp1 : w1.toInt = ee u3.toInt := wp1
  have st1 := X0.iaload hx (j := u3) (v := .int w1) (by rw [e0]; exact Ar1.1) (State.isArrayOf_alike hZ.alike Ar1.2.1) Ar1.2.2 (cel_inb Sa1 i1.1 i1.2) we1 (g := (mkF m 73 #[.val (.ref u0), .val (.int u1), .val (.ref u2), .val (.int u3), .val (.int u4), s5, s6, s7, s8, s9, s10] [(.int u3), (.ref u2)])) rfl rfl (hb hby d5_73)
  obtain ⟨z2, ez2⟩ : ∃ y : Int32, y = (u4 + (1 : Int32)) := ⟨_, rfl⟩
  have nz2 : z2.toInt = u4.toInt + (1 : Int) := by rw [ez2]; exact own_iadd (x := u4.toInt) (y := (1 : Int)) rfl rfl (by omega) (by omega)
  obtain ⟨_, _, ⟨T3, L3, k3, n3⟩, -, X3, ⟨Lc3, hQ3, l3, y3, z3⟩, st3⟩ := Jvm.LawKit.callS X0 hx (y := (⟨"com/example/fides/fides/Der", "byteAt", "([BII)I"⟩ : MethodName)) hown (mvT hZ (hw _ (List.mem_of_getElem? (i := 21) rfl))) (mvT hZ (hw _ (List.mem_of_getElem? (i := 22) rfl))) (mvT hZ (hw _ (List.mem_of_getElem? (i := 18) rfl))) (mvT hZ (hw _ (List.mem_of_getElem? (i := 23) rfl))) (by decide) (backOf (W := 0) (rm6 l Z a0 hw [] u0 u4 w1 nn gg h0 n0 Z0 V_u0 (by omega) (by omega) (by omega)) hZ (hw _ (List.mem_of_getElem? (i := 23) rfl)) (hw _ (List.mem_of_getElem? (i := 18) rfl)) (by decide) (by decide)) (g := (mkF m 84 #[.val (.ref u0), .val (.int u1), .val (.ref u2), .val (.int u3), .val (.int z2), .val (.int w1), s6, s7, s8, s9, s10] [(.int w1), (.int u4), (.ref u0)])) rfl (by rw [hml]; rfl) (argsL := [(.ref u0), (.int u4), (.int w1)]) (rest := []) (lenOf pd_2 rfl) rfl (by show 2 * 0 + _ ≤ _; exact Nat.le_of_eq rfl) (hb hby d5_84) (fun _ _ => ⟨rfl, e0, (by decide : 1 + 0 ≤ _), (by decide : 12 + 0 ≤ _)⟩)
  dsimp only [Pt.U, Pt.locs, Pt.cells, Pt.slots] at X3 l3 y3 z3 st3 hQ3
  replace y3 : k3 = 1 := y3
  replace z3 : n3 = 12 := z3
  rw [y3, z3] at X3
  obtain ⟨w3, rfl, N3q, nw3a, nw3b, nw3c, e3⟩ := hQ3
  have N3 : Fr n0 L3 := l3 ▸ Fr.app N0 N3q
  obtain ⟨z4, ez4⟩ : ∃ y : Int32, y = (w3 &&& (31 : Int32)) := ⟨_, rfl⟩
  have nz4 : z4.toInt = w3.toInt % 32 := by rw [ez4]; exact own_m31 w3
  obtain ⟨z5, ez5⟩ : ∃ y : Int32, y = (z2 + (1 : Int32)) := ⟨_, rfl⟩
  have nz5 : z5.toInt = z2.toInt + (1 : Int) := by rw [ez5]; exact own_iadd (x := z2.toInt) (y := (1 : Int)) rfl rfl (by omega) (by omega)
  obtain ⟨_, _, ⟨T6, L6, k6, n6⟩, -, X6, ⟨Lc6, hQ6, l6, y6, z6⟩, st6⟩ := Jvm.LawKit.callS X3 hx (y := (⟨"com/example/fides/fides/Der", "byteAt", "([BII)I"⟩ : MethodName)) hown (mvT hZ (hw _ (List.mem_of_getElem? (i := 21) rfl))) (mvT hZ (hw _ (List.mem_of_getElem? (i := 22) rfl))) (mvT hZ (hw _ (List.mem_of_getElem? (i := 18) rfl))) (mvT hZ (hw _ (List.mem_of_getElem? (i := 23) rfl))) (by decide) (backOf (W := 0) (rm6 l Z a0 hw [] u0 z2 w1 nn gg h0 n0 Z0 V_u0 (by omega) (by omega) (by omega)) hZ (hw _ (List.mem_of_getElem? (i := 23) rfl)) (hw _ (List.mem_of_getElem? (i := 18) rfl)) (by decide) (by decide)) (g := (mkF m 119 #[.val (.ref u0), .val (.int u1), .val (.ref u2), .val (.int u3), .val (.int z5), .val (.int w1), .val (.int w3), .val (.int (1 : Int32)), s8, s9, s10] [(.int w1), (.int z2), (.ref u0)])) rfl (by rw [hml]; rfl) (argsL := [(.ref u0), (.int z2), (.int w1)]) (rest := []) (lenOf pd_2 rfl) rfl (by show 2 * 0 + _ ≤ _; exact Nat.le_of_eq rfl) (hb hby d5_119) (fun _ _ => ⟨rfl, e3, (by decide : 1 + 0 ≤ _), (by decide : 12 + 0 ≤ _)⟩)
  dsimp only [Pt.U, Pt.locs, Pt.cells, Pt.slots] at X6 l6 y6 z6 st6 hQ6
  replace y6 : k6 = 1 := y6
  replace z6 : n6 = 12 := z6
  rw [y6, z6] at X6
  obtain ⟨w6, rfl, N6q, nw6a, nw6b, nw6c, e6⟩ := hQ6
  have N6 : Fr n0 L6 := l6 ▸ Fr.app N3 N6q
  obtain ⟨z7, ez7⟩ : ∃ y : Int32, y = (w6 &&& (128 : Int32)) := ⟨_, rfl⟩
  have rb6 : w6.toInt = gg (u4.toInt + 1) := by rw [← show z2.toInt = u4.toInt + 1 from by omega]; exact nw6a
  obtain ⟨z8, ez8⟩ : ∃ y : Int32, y = (z5 + (1 : Int32)) := ⟨_, rfl⟩
  have nz8 : z8.toInt = z5.toInt + (1 : Int) := by rw [ez8]; exact own_iadd (x := z5.toInt) (y := (1 : Int)) rfl rfl (by omega) (by omega)
  obtain ⟨_, _, ⟨T9, L9, k9, n9⟩, -, X9, ⟨Lc9, hQ9, l9, y9, z9⟩, st9⟩ := Jvm.LawKit.callS X6 hx (y := (⟨"com/example/fides/fides/Der", "byteAt", "([BII)I"⟩ : MethodName)) hown (mvT hZ (hw _ (List.mem_of_getElem? (i := 21) rfl))) (mvT hZ (hw _ (List.mem_of_getElem? (i := 22) rfl))) (mvT hZ (hw _ (List.mem_of_getElem? (i := 18) rfl))) (mvT hZ (hw _ (List.mem_of_getElem? (i := 23) rfl))) (by decide) (backOf (W := 0) (rm6 l Z a0 hw [] u0 z5 w1 nn gg h0 n0 Z0 V_u0 (by omega) (by omega) (by omega)) hZ (hw _ (List.mem_of_getElem? (i := 23) rfl)) (hw _ (List.mem_of_getElem? (i := 18) rfl)) (by decide) (by decide)) (g := (mkF m 119 #[.val (.ref u0), .val (.int u1), .val (.ref u2), .val (.int u3), .val (.int z8), .val (.int w1), .val (.int w3), .val (.int (1 : Int32)), s8, s9, s10] [(.int w1), (.int z5), (.ref u0)])) rfl (by rw [hml]; rfl) (argsL := [(.ref u0), (.int z5), (.int w1)]) (rest := []) (lenOf pd_2 rfl) rfl (by show 2 * 0 + _ ≤ _; exact Nat.le_of_eq rfl) (hb hby d5_119) (fun _ _ => ⟨rfl, e6, (by decide : 1 + 0 ≤ _), (by decide : 12 + 0 ≤ _)⟩)
  dsimp only [Pt.U, Pt.locs, Pt.cells, Pt.slots] at X9 l9 y9 z9 st9 hQ9
  replace y9 : k9 = 1 := y9
  replace z9 : n9 = 12 := z9
  rw [y9, z9] at X9
  obtain ⟨w9, rfl, N9q, nw9a, nw9b, nw9c, e9⟩ := hQ9
  have N9 : Fr n0 L9 := l9 ▸ Fr.app N6 N9q
  obtain ⟨z10, ez10⟩ : ∃ y : Int32, y = (w9 &&& (128 : Int32)) := ⟨_, rfl⟩
  have rb9 : w9.toInt = gg (u4.toInt + 2) := by rw [← show z5.toInt = u4.toInt + 2 from by omega]; exact nw9a
  obtain ⟨z11, ez11⟩ : ∃ y : Int32, y = (z8 + (1 : Int32)) := ⟨_, rfl⟩
  have nz11 : z11.toInt = z8.toInt + (1 : Int) := by rw [ez11]; exact own_iadd (x := z8.toInt) (y := (1 : Int)) rfl rfl (by omega) (by omega)
  obtain ⟨_, _, ⟨T12, L12, k12, n12⟩, -, X12, ⟨Lc12, hQ12, l12, y12, z12⟩, st12⟩ := Jvm.LawKit.callS X9 hx (y := (⟨"com/example/fides/fides/Der", "byteAt", "([BII)I"⟩ : MethodName)) hown (mvT hZ (hw _ (List.mem_of_getElem? (i := 21) rfl))) (mvT hZ (hw _ (List.mem_of_getElem? (i := 22) rfl))) (mvT hZ (hw _ (List.mem_of_getElem? (i := 18) rfl))) (mvT hZ (hw _ (List.mem_of_getElem? (i := 23) rfl))) (by decide) (backOf (W := 0) (rm6 l Z a0 hw [] u0 z8 w1 nn gg h0 n0 Z0 V_u0 (by omega) (by omega) (by omega)) hZ (hw _ (List.mem_of_getElem? (i := 23) rfl)) (hw _ (List.mem_of_getElem? (i := 18) rfl)) (by decide) (by decide)) (g := (mkF m 119 #[.val (.ref u0), .val (.int u1), .val (.ref u2), .val (.int u3), .val (.int z11), .val (.int w1), .val (.int w3), .val (.int (1 : Int32)), s8, s9, s10] [(.int w1), (.int z8), (.ref u0)])) rfl (by rw [hml]; rfl) (argsL := [(.ref u0), (.int z8), (.int w1)]) (rest := []) (lenOf pd_2 rfl) rfl (by show 2 * 0 + _ ≤ _; exact Nat.le_of_eq rfl) (hb hby d5_119) (fun _ _ => ⟨rfl, e9, (by decide : 1 + 0 ≤ _), (by decide : 12 + 0 ≤ _)⟩)
  dsimp only [Pt.U, Pt.locs, Pt.cells, Pt.slots] at X12 l12 y12 z12 st12 hQ12
  replace y12 : k12 = 1 := y12
  replace z12 : n12 = 12 := z12
  rw [y12, z12] at X12
  obtain ⟨w12, rfl, N12q, nw12a, nw12b, nw12c, e12⟩ := hQ12
  have N12 : Fr n0 L12 := l12 ▸ Fr.app N9 N12q
  obtain ⟨z13, ez13⟩ : ∃ y : Int32, y = (w12 &&& (128 : Int32)) := ⟨_, rfl⟩
  have rb12 : w12.toInt = gg (u4.toInt + 3) := by rw [← show z8.toInt = u4.toInt + 3 from by omega]; exact nw12a
  refine ⟨T12, _, z11, w1, w3, (.val (.int (0 : Int32))), X12, e12, N12, (by omega), (by omega), ⟨by omega, by omega, by omega⟩, (Or.inr ⟨_, rfl⟩), fun target kt => ?_⟩
  show Steps p.tables e below (s₁.setTop (mkF m 71 #[.val (.ref u0), .val (.int u1), .val (.ref u2), .val (.int u3), .val (.int u4), s5, s6, s7, s8, s9, s10] [])) _
  refine XS.aloadN X0.here hx rfl (hb hby d5_71) rfl rfl ?_
  refine XS.iloadN X0.here hx rfl (hb hby d5_72) rfl ?_
  show Steps p.tables e below (s₁.setTop (mkF m 73 #[.val (.ref u0), .val (.int u1), .val (.ref u2), .val (.int u3), .val (.int u4), s5, s6, s7, s8, s9, s10] [(.int u3), (.ref u2)])) _
  refine st1 _ ?_
  show Steps p.tables e below (s₁.setTop (mkF m 74 #[.val (.ref u0), .val (.int u1), .val (.ref u2), .val (.int u3), .val (.int u4), s5, s6, s7, s8, s9, s10] [(.int w1)])) _
  refine XS.istore X0.here hx rfl (hb hby d5_74) rfl (l' := #[.val (.ref u0), .val (.int u1), .val (.ref u2), .val (.int u3), .val (.int u4), .val (.int w1), s6, s7, s8, s9, s10]) (by rcases P_s5 with rfl | ⟨_, rfl⟩ <;> rfl) ?_
  refine XS.aloadN X0.here hx rfl (hb hby d5_76) rfl rfl ?_
  refine XS.iload X0.here hx rfl (hb hby d5_77) rfl ?_
  show Steps p.tables e below (s₁.setTop (mkF m 79 #[.val (.ref u0), .val (.int u1), .val (.ref u2), .val (.int u3), .val (.int u4), .val (.int w1), s6, s7, s8, s9, s10] [(.int u4), (.ref u0)])) _
  refine XS.iinc X0.here hx rfl (hb hby d5_79) rfl (l' := #[.val (.ref u0), .val (.int u1), .val (.ref u2), .val (.int u3), .val (.int (u4 + (1 : Int32))), .val (.int w1), s6, s7, s8, s9, s10]) rfl ?_
  show Steps p.tables e below (s₁.setTop (mkF m 82 #[.val (.ref u0), .val (.int u1), .val (.ref u2), .val (.int u3), .val (.int (u4 + (1 : Int32))), .val (.int w1), s6, s7, s8, s9, s10] [(.int u4), (.ref u0)])) _
  rw [← ez2]
  refine XS.iload X0.here hx rfl (hb hby d5_82) rfl ?_
  refine st3 _ ?_
  show Steps p.tables e below (T3.setTop (mkF m 87 #[.val (.ref u0), .val (.int u1), .val (.ref u2), .val (.int u3), .val (.int z2), .val (.int w1), s6, s7, s8, s9, s10] [(.int w3)])) _
  refine XS.istore X3.here hx rfl (hb hby d5_87) rfl (l' := #[.val (.ref u0), .val (.int u1), .val (.ref u2), .val (.int u3), .val (.int z2), .val (.int w1), .val (.int w3), s7, s8, s9, s10]) (by rcases P_s6 with rfl | ⟨_, rfl⟩ <;> rfl) ?_
  refine XS.iload X3.here hx rfl (hb hby d5_89) rfl ?_
  refine XS.bipush X3.here hx rfl (hb hby d5_91) ?_
  show Steps p.tables e below (T3.setTop (mkF m 93 #[.val (.ref u0), .val (.int u1), .val (.ref u2), .val (.int u3), .val (.int z2), .val (.int w1), .val (.int w3), s7, s8, s9, s10] [(.int (31 : Int32)), (.int w3)])) _
  refine XS.iand X3.here hx rfl (hb hby d5_93) rfl ?_
  show Steps p.tables e below (T3.setTop (mkF m 94 #[.val (.ref u0), .val (.int u1), .val (.ref u2), .val (.int u3), .val (.int z2), .val (.int w1), .val (.int w3), s7, s8, s9, s10] [(.int (w3 &&& (31 : Int32)))])) _
  rw [← ez4]
  refine XS.bipush X3.here hx rfl (hb hby d5_94) ?_
  refine XS.icmpNo X3.here hx rfl (hb hby d5_96) rfl (teq (own_eq1' (x := z4.toInt) (y := (31 : Int)) rfl rfl (by omega))).2 ?_
  refine XS.iconst X3.here hx rfl (hb hby d5_99) ?_
  refine XS.goto X3.here hx rfl (pc0 := 100) (pc' := 104) rfl (hb hby d5_100) (by decide) (by decide) ?_
  refine XS.istore X3.here hx rfl (hb hby d5_104) rfl (l' := #[.val (.ref u0), .val (.int u1), .val (.ref u2), .val (.int u3), .val (.int z2), .val (.int w1), .val (.int w3), .val (.int (1 : Int32)), s8, s9, s10]) (by rcases P_s7 with rfl | ⟨_, rfl⟩ <;> rfl) ?_
  refine XS.iload X3.here hx rfl (hb hby d5_106) rfl ?_
  refine XS.ifNo X3.here hx rfl (hb hby d5_108) rfl ((if0 _ _).trans (feq (by decide)).1) ?_
  refine XS.aloadN X3.here hx rfl (hb hby d5_111) rfl rfl ?_
  refine XS.iload X3.here hx rfl (hb hby d5_112) rfl ?_
  show Steps p.tables e below (T3.setTop (mkF m 114 #[.val (.ref u0), .val (.int u1), .val (.ref u2), .val (.int u3), .val (.int z2), .val (.int w1), .val (.int w3), .val (.int (1 : Int32)), s8, s9, s10] [(.int z2), (.ref u0)])) _
  refine XS.iinc X3.here hx rfl (hb hby d5_114) rfl (l' := #[.val (.ref u0), .val (.int u1), .val (.ref u2), .val (.int u3), .val (.int (z2 + (1 : Int32))), .val (.int w1), .val (.int w3), .val (.int (1 : Int32)), s8, s9, s10]) rfl ?_
  show Steps p.tables e below (T3.setTop (mkF m 117 #[.val (.ref u0), .val (.int u1), .val (.ref u2), .val (.int u3), .val (.int (z2 + (1 : Int32))), .val (.int w1), .val (.int w3), .val (.int (1 : Int32)), s8, s9, s10] [(.int z2), (.ref u0)])) _
  rw [← ez5]
  refine XS.iload X3.here hx rfl (hb hby d5_117) rfl ?_
  refine st6 _ ?_
  show Steps p.tables e below (T6.setTop (mkF m 122 #[.val (.ref u0), .val (.int u1), .val (.ref u2), .val (.int u3), .val (.int z5), .val (.int w1), .val (.int w3), .val (.int (1 : Int32)), s8, s9, s10] [(.int w6)])) _
  refine XS.sipush X6.here hx rfl (hb hby d5_122) ?_
  show Steps p.tables e below (T6.setTop (mkF m 125 #[.val (.ref u0), .val (.int u1), .val (.ref u2), .val (.int u3), .val (.int z5), .val (.int w1), .val (.int w3), .val (.int (1 : Int32)), s8, s9, s10] [(.int (128 : Int32)), (.int w6)])) _
  refine XS.iand X6.here hx rfl (hb hby d5_125) rfl ?_
  show Steps p.tables e below (T6.setTop (mkF m 126 #[.val (.ref u0), .val (.int u1), .val (.ref u2), .val (.int u3), .val (.int z5), .val (.int w1), .val (.int w3), .val (.int (1 : Int32)), s8, s9, s10] [(.int (w6 &&& (128 : Int32)))])) _
  rw [← ez7]
  refine XS.ifNo X6.here hx rfl (hb hby d5_126) rfl ((if0 _ _).trans (feq (fun q => absurd ((own_128 nw6b nw6c).mp (ez7 ▸ q)) (by omega))).1) ?_
  refine XS.iconst X6.here hx rfl (hb hby d5_129) ?_
  refine XS.goto X6.here hx rfl (pc0 := 130) (pc' := 134) rfl (hb hby d5_130) (by decide) (by decide) ?_
  refine XS.istore X6.here hx rfl (hb hby d5_134) rfl (l' := #[.val (.ref u0), .val (.int u1), .val (.ref u2), .val (.int u3), .val (.int z5), .val (.int w1), .val (.int w3), .val (.int (1 : Int32)), s8, s9, s10]) rfl ?_
  refine XS.goto X6.here hx rfl (pc0 := 136) (pc' := 106) rfl (hb hby d5_136) (by decide) (by decide) ?_
  refine XS.iload X6.here hx rfl (hb hby d5_106) rfl ?_
  refine XS.ifNo X6.here hx rfl (hb hby d5_108) rfl ((if0 _ _).trans (feq (by decide)).1) ?_
  refine XS.aloadN X6.here hx rfl (hb hby d5_111) rfl rfl ?_
  refine XS.iload X6.here hx rfl (hb hby d5_112) rfl ?_
  show Steps p.tables e below (T6.setTop (mkF m 114 #[.val (.ref u0), .val (.int u1), .val (.ref u2), .val (.int u3), .val (.int z5), .val (.int w1), .val (.int w3), .val (.int (1 : Int32)), s8, s9, s10] [(.int z5), (.ref u0)])) _
  refine XS.iinc X6.here hx rfl (hb hby d5_114) rfl (l' := #[.val (.ref u0), .val (.int u1), .val (.ref u2), .val (.int u3), .val (.int (z5 + (1 : Int32))), .val (.int w1), .val (.int w3), .val (.int (1 : Int32)), s8, s9, s10]) rfl ?_
  show Steps p.tables e below (T6.setTop (mkF m 117 #[.val (.ref u0), .val (.int u1), .val (.ref u2), .val (.int u3), .val (.int (z5 + (1 : Int32))), .val (.int w1), .val (.int w3), .val (.int (1 : Int32)), s8, s9, s10] [(.int z5), (.ref u0)])) _
  rw [← ez8]
  refine XS.iload X6.here hx rfl (hb hby d5_117) rfl ?_
  refine st9 _ ?_
  show Steps p.tables e below (T9.setTop (mkF m 122 #[.val (.ref u0), .val (.int u1), .val (.ref u2), .val (.int u3), .val (.int z8), .val (.int w1), .val (.int w3), .val (.int (1 : Int32)), s8, s9, s10] [(.int w9)])) _
  refine XS.sipush X9.here hx rfl (hb hby d5_122) ?_
  show Steps p.tables e below (T9.setTop (mkF m 125 #[.val (.ref u0), .val (.int u1), .val (.ref u2), .val (.int u3), .val (.int z8), .val (.int w1), .val (.int w3), .val (.int (1 : Int32)), s8, s9, s10] [(.int (128 : Int32)), (.int w9)])) _
  refine XS.iand X9.here hx rfl (hb hby d5_125) rfl ?_
  show Steps p.tables e below (T9.setTop (mkF m 126 #[.val (.ref u0), .val (.int u1), .val (.ref u2), .val (.int u3), .val (.int z8), .val (.int w1), .val (.int w3), .val (.int (1 : Int32)), s8, s9, s10] [(.int (w9 &&& (128 : Int32)))])) _
  rw [← ez10]
  refine XS.ifNo X9.here hx rfl (hb hby d5_126) rfl ((if0 _ _).trans (feq (fun q => absurd ((own_128 nw9b nw9c).mp (ez10 ▸ q)) (by omega))).1) ?_
  refine XS.iconst X9.here hx rfl (hb hby d5_129) ?_
  refine XS.goto X9.here hx rfl (pc0 := 130) (pc' := 134) rfl (hb hby d5_130) (by decide) (by decide) ?_
  refine XS.istore X9.here hx rfl (hb hby d5_134) rfl (l' := #[.val (.ref u0), .val (.int u1), .val (.ref u2), .val (.int u3), .val (.int z8), .val (.int w1), .val (.int w3), .val (.int (1 : Int32)), s8, s9, s10]) rfl ?_
  refine XS.goto X9.here hx rfl (pc0 := 136) (pc' := 106) rfl (hb hby d5_136) (by decide) (by decide) ?_
  refine XS.iload X9.here hx rfl (hb hby d5_106) rfl ?_
  refine XS.ifNo X9.here hx rfl (hb hby d5_108) rfl ((if0 _ _).trans (feq (by decide)).1) ?_
  refine XS.aloadN X9.here hx rfl (hb hby d5_111) rfl rfl ?_
  refine XS.iload X9.here hx rfl (hb hby d5_112) rfl ?_
  show Steps p.tables e below (T9.setTop (mkF m 114 #[.val (.ref u0), .val (.int u1), .val (.ref u2), .val (.int u3), .val (.int z8), .val (.int w1), .val (.int w3), .val (.int (1 : Int32)), s8, s9, s10] [(.int z8), (.ref u0)])) _
  refine XS.iinc X9.here hx rfl (hb hby d5_114) rfl (l' := #[.val (.ref u0), .val (.int u1), .val (.ref u2), .val (.int u3), .val (.int (z8 + (1 : Int32))), .val (.int w1), .val (.int w3), .val (.int (1 : Int32)), s8, s9, s10]) rfl ?_
  show Steps p.tables e below (T9.setTop (mkF m 117 #[.val (.ref u0), .val (.int u1), .val (.ref u2), .val (.int u3), .val (.int (z8 + (1 : Int32))), .val (.int w1), .val (.int w3), .val (.int (1 : Int32)), s8, s9, s10] [(.int z8), (.ref u0)])) _
  rw [← ez11]
  refine XS.iload X9.here hx rfl (hb hby d5_117) rfl ?_
  refine st12 _ ?_
  show Steps p.tables e below (T12.setTop (mkF m 122 #[.val (.ref u0), .val (.int u1), .val (.ref u2), .val (.int u3), .val (.int z11), .val (.int w1), .val (.int w3), .val (.int (1 : Int32)), s8, s9, s10] [(.int w12)])) _
  refine XS.sipush X12.here hx rfl (hb hby d5_122) ?_
  show Steps p.tables e below (T12.setTop (mkF m 125 #[.val (.ref u0), .val (.int u1), .val (.ref u2), .val (.int u3), .val (.int z11), .val (.int w1), .val (.int w3), .val (.int (1 : Int32)), s8, s9, s10] [(.int (128 : Int32)), (.int w12)])) _
  refine XS.iand X12.here hx rfl (hb hby d5_125) rfl ?_
  show Steps p.tables e below (T12.setTop (mkF m 126 #[.val (.ref u0), .val (.int u1), .val (.ref u2), .val (.int u3), .val (.int z11), .val (.int w1), .val (.int w3), .val (.int (1 : Int32)), s8, s9, s10] [(.int (w12 &&& (128 : Int32)))])) _
  rw [← ez13]
  refine XS.ifYes X12.here hx rfl (pc0 := 126) (pc' := 133) rfl (hb hby d5_126) rfl ((if0 _ _).trans (teq (by rw [ez13]; exact (own_128 nw12b nw12c).mpr (by omega))).1) (by decide) (by decide) ?_
  refine XS.iconst X12.here hx rfl (hb hby d5_133) ?_
  refine XS.istore X12.here hx rfl (hb hby d5_134) rfl (l' := #[.val (.ref u0), .val (.int u1), .val (.ref u2), .val (.int u3), .val (.int z11), .val (.int w1), .val (.int w3), .val (.int (0 : Int32)), s8, s9, s10]) rfl ?_
  refine XS.goto X12.here hx rfl (pc0 := 136) (pc' := 106) rfl (hb hby d5_136) (by decide) (by decide) ?_
  refine XS.iload X12.here hx rfl (hb hby d5_106) rfl ?_
  refine XS.ifYes X12.here hx rfl (pc0 := 108) (pc' := 139) rfl (hb hby d5_108) rfl ((if0 _ _).trans (teq (by decide)).1) (by decide) (by decide) ?_
  exact kt
theorem sg_tag (l : Launch) (Z : State) (a0 : Array Value) (hw : ∀ d ∈ tables_1, d.before a0 Z = true) {p : Program} {e : Env} {s : State} {m : MethodId} {args : Array Value} {below : List Frame} {meth : Method} {c : Code} {s₁ : State} {locs0 : List Loc} (u0 : Addr) (u1 : Int32) (u2 : Addr) (u3 : Int32) (u4 : Int32) (s5 : Slot) (s6 : Slot) (s7 : Slot) (s8 : Slot) (s9 : Slot) (s10 : Slot) (nn : Int) (gg : Int → Int) (ee : Int → Int) (cb : Int) (ff : Int) (h0 : Heap) (n0 : Nat) (Z0 : n0 ≤ h0.size) (X0 : Stand p l e ({ frames := 1, cells := 1, slots := 12, locals := 15 } : Room) s m args below meth c s₁ locs0 1 12) (hx : p.tables.exec = Jvm.exec) (hby : c.code = prog_3_method_2_code) (hml : c.maxLocals = 11) (hZ : Z.Warmed39 s.vm) (hown : s.vm.findClass "com/example/fides/fides/Der" = some m.cls) (e0 : s₁.heap = h0) (N0 : Fr n0 locs0) (V_u0 : Byt Z h0 u0 nn gg) (V_u2 : Nts Z h0 u2 (u1.toInt + 1) ee) (hdep : 0 ≤ u3.toInt ∧ u3.toInt ≤ u1.toInt ∧ u1.toInt ≤ 11) (hM : nn ≤ 65600) (hp : 0 ≤ u4.toInt) (hfit : u4.toInt + 1 + ff < ee u3.toInt ∧ ee u3.toInt ≤ nn) (hf : 0 ≤ ff ∧ ff ≤ 3) (ht : TagOK gg u4.toInt ff cb) (P_s5 : Pl s5) (P_s6 : Pl s6) (P_s7 : Pl s7) : ∃ (T' : State) (locs' : List Loc) (z4 : Int32) (x5 : Int32) (x6 : Int32) (t7 : Slot), Stand p l e ({ frames := 1, cells := 1, slots := 12, locals := 15 } : Room) s m args below meth c T' locs' 1 12 ∧ T'.heap = h0 ∧ Fr n0 locs' ∧ (z4.toInt = u4.toInt + 1 + ff) ∧ (x5.toInt = ee u3.toInt) ∧ (x6.toInt = gg u4.toInt ∧ 0 ≤ x6.toInt ∧ x6.toInt < 256) ∧ (Pl t7) ∧ ∀ target, Steps p.tables e below (T'.setTop (mkF m 139 #[.val (.ref u0), .val (.int u1), .val (.ref u2), .val (.int u3), .val (.int z4), .val (.int x5), .val (.int x6), t7, s8, s9, s10] [])) target → Steps p.tables e below (s₁.setTop (mkF m 71 #[.val (.ref u0), .val (.int u1), .val (.ref u2), .val (.int u3), .val (.int u4), s5, s6, s7, s8, s9, s10] [])) target := by
  have hq : ff = 0 ∨ ff = 1 ∨ ff = 2 ∨ ff = 3 := by omega
  rcases hq with rfl | rfl | rfl | rfl
  · exact sg_tag0 l Z a0 hw u0 u1 u2 u3 u4 s5 s6 s7 s8 s9 s10 nn gg ee cb h0 n0 Z0 X0 hx hby hml hZ hown e0 N0 V_u0 V_u2 hdep hM hp hfit hf ht P_s5 P_s6 P_s7
  · exact sg_tag1 l Z a0 hw u0 u1 u2 u3 u4 s5 s6 s7 s8 s9 s10 nn gg ee cb h0 n0 Z0 X0 hx hby hml hZ hown e0 N0 V_u0 V_u2 hdep hM hp hfit hf ht P_s5 P_s6 P_s7
  · exact sg_tag2 l Z a0 hw u0 u1 u2 u3 u4 s5 s6 s7 s8 s9 s10 nn gg ee cb h0 n0 Z0 X0 hx hby hml hZ hown e0 N0 V_u0 V_u2 hdep hM hp hfit hf ht P_s5 P_s6 P_s7
  · exact sg_tag3 l Z a0 hw u0 u1 u2 u3 u4 s5 s6 s7 s8 s9 s10 nn gg ee cb h0 n0 Z0 X0 hx hby hml hZ hown e0 N0 V_u0 V_u2 hdep hM hp hfit hf ht P_s5 P_s6 P_s7
theorem d5_140 : decode prog_3_method_2_code 140 = .ok (.iload 4, 2) := by decide +kernel
theorem d5_142 : decode prog_3_method_2_code 142 = .ok (.iinc 4 1, 3) := by decide +kernel
theorem d5_145 : decode prog_3_method_2_code 145 = .ok (.iload 5, 2) := by decide +kernel
theorem d5_147 : decode prog_3_method_2_code 147 = .ok (.invokestatic 16, 3) := by decide +kernel
theorem d5_150 : decode prog_3_method_2_code 150 = .ok (.istore 8, 2) := by decide +kernel
theorem d5_152 : decode prog_3_method_2_code 152 = .ok (.iload 8, 2) := by decide +kernel
theorem d5_154 : decode prog_3_method_2_code 154 = .ok (.sipush 128, 3) := by decide +kernel
theorem d5_157 : decode prog_3_method_2_code 157 = .ok (.if_icmp .ne 13, 3) := by decide +kernel
theorem d5_170 : decode prog_3_method_2_code 170 = .ok (.iload 8, 2) := by decide +kernel
theorem d5_172 : decode prog_3_method_2_code 172 = .ok (.sipush 128, 3) := by decide +kernel
theorem d5_175 : decode prog_3_method_2_code 175 = .ok (.if_icmp .le 70, 3) := by decide +kernel
theorem d5_245 : decode prog_3_method_2_code 245 = .ok (.iload 8, 2) := by decide +kernel
set_option maxRecDepth 65536 in
set_option maxHeartbeats 40000000 in
theorem sg_len0 (l : Launch) (Z : State) (a0 : Array Value) (hw : ∀ d ∈ tables_1, d.before a0 Z = true) {p : Program} {e : Env} {s : State} {m : MethodId} {args : Array Value} {below : List Frame} {meth : Method} {c : Code} {s₁ : State} {locs0 : List Loc} (u0 : Addr) (u1 : Int32) (u2 : Addr) (u3 : Int32) (u4 : Int32) (x5 : Int32) (x6 : Int32) (s7 : Slot) (s8 : Slot) (s9 : Slot) (s10 : Slot) (nn : Int) (gg : Int → Int) (cl : Int) (h0 : Heap) (n0 : Nat) (Z0 : n0 ≤ h0.size) (X0 : Stand p l e ({ frames := 1, cells := 1, slots := 12, locals := 15 } : Room) s m args below meth c s₁ locs0 1 12) (hx : p.tables.exec = Jvm.exec) (hby : c.code = prog_3_method_2_code) (hml : c.maxLocals = 11) (hZ : Z.Warmed39 s.vm) (hown : s.vm.findClass "com/example/fides/fides/Der" = some m.cls) (e0 : s₁.heap = h0) (N0 : Fr n0 locs0) (V_u0 : Byt Z h0 u0 nn gg) (hM : nn ≤ 65600) (hp : 0 ≤ u4.toInt) (hl : LenOK gg u4.toInt cl) (hc0 : 0 ≤ cl) (hfit : u4.toInt + ls cl + cl ≤ x5.toInt ∧ x5.toInt ≤ nn) (P_s8 : Pl s8) (P_s9 : Pl s9) (P_s10 : Pl s10) (hv : cl < 128) : ∃ (T' : State) (locs' : List Loc) (z4 : Int32) (x8 : Int32) (t9 : Slot) (t10 : Slot), Stand p l e ({ frames := 1, cells := 1, slots := 12, locals := 15 } : Room) s m args below meth c T' locs' 1 12 ∧ T'.heap = h0 ∧ Fr n0 locs' ∧ (z4.toInt = u4.toInt + ls cl) ∧ (x8.toInt = cl) ∧ (Pl t9) ∧ (Pl t10) ∧ ∀ target, Steps p.tables e below (T'.setTop (mkF m 245 #[.val (.ref u0), .val (.int u1), .val (.ref u2), .val (.int u3), .val (.int z4), .val (.int x5), .val (.int x6), s7, .val (.int x8), t9, t10] [])) target → Steps p.tables e below (s₁.setTop (mkF m 139 #[.val (.ref u0), .val (.int u1), .val (.ref u2), .val (.int u3), .val (.int u4), .val (.int x5), .val (.int x6), s7, s8, s9, s10] [])) target := by
  obtain ⟨a1, a2, a3, a4⟩ := (show (_ ∧ _ ∧ _ ∧ _) from by have q := hl; unfold LenOK at q; exact q)
  have hls := ls_1 hv
  obtain ⟨z1, ez1⟩ : ∃ y : Int32, y = (u4 + (1 : Int32)) := ⟨_, rfl⟩
  have nz1 : z1.toInt = u4.toInt + (1 : Int) := by rw [ez1]; exact own_iadd (x := u4.toInt) (y := (1 : Int)) rfl rfl (by omega) (by omega)
  obtain ⟨_, _, ⟨T2, L2, k2, n2⟩, -, X2, ⟨Lc2, hQ2, l2, y2, z2⟩, st2⟩ := Jvm.LawKit.callS X0 hx (y := (⟨"com/example/fides/fides/Der", "byteAt", "([BII)I"⟩ : MethodName)) hown (mvT hZ (hw _ (List.mem_of_getElem? (i := 21) rfl))) (mvT hZ (hw _ (List.mem_of_getElem? (i := 22) rfl))) (mvT hZ (hw _ (List.mem_of_getElem? (i := 18) rfl))) (mvT hZ (hw _ (List.mem_of_getElem? (i := 23) rfl))) (by decide) (backOf (W := 0) (rm6 l Z a0 hw [] u0 u4 x5 nn gg h0 n0 Z0 V_u0 (by omega) (by omega) (by omega)) hZ (hw _ (List.mem_of_getElem? (i := 23) rfl)) (hw _ (List.mem_of_getElem? (i := 18) rfl)) (by decide) (by decide)) (g := (mkF m 147 #[.val (.ref u0), .val (.int u1), .val (.ref u2), .val (.int u3), .val (.int z1), .val (.int x5), .val (.int x6), s7, s8, s9, s10] [(.int x5), (.int u4), (.ref u0)])) rfl (by rw [hml]; rfl) (argsL := [(.ref u0), (.int u4), (.int x5)]) (rest := []) (lenOf pd_2 rfl) rfl (by show 2 * 0 + _ ≤ _; exact Nat.le_of_eq rfl) (hb hby d5_147) (fun _ _ => ⟨rfl, e0, (by decide : 1 + 0 ≤ _), (by decide : 12 + 0 ≤ _)⟩)
  dsimp only [Pt.U, Pt.locs, Pt.cells, Pt.slots] at X2 l2 y2 z2 st2 hQ2
  replace y2 : k2 = 1 := y2
  replace z2 : n2 = 12 := z2
  rw [y2, z2] at X2
  obtain ⟨w2, rfl, N2q, nw2a, nw2b, nw2c, e2⟩ := hQ2
  have N2 : Fr n0 L2 := l2 ▸ Fr.app N0 N2q
  refine ⟨T2, _, z1, w2, (s9), (s10), X2, e2, N2, (by omega), (by omega), P_s9, P_s10, fun target kt => ?_⟩
  show Steps p.tables e below (s₁.setTop (mkF m 139 #[.val (.ref u0), .val (.int u1), .val (.ref u2), .val (.int u3), .val (.int u4), .val (.int x5), .val (.int x6), s7, s8, s9, s10] [])) _
  refine XS.aloadN X0.here hx rfl (hb hby d5_139) rfl rfl ?_
  refine XS.iload X0.here hx rfl (hb hby d5_140) rfl ?_
  show Steps p.tables e below (s₁.setTop (mkF m 142 #[.val (.ref u0), .val (.int u1), .val (.ref u2), .val (.int u3), .val (.int u4), .val (.int x5), .val (.int x6), s7, s8, s9, s10] [(.int u4), (.ref u0)])) _
  refine XS.iinc X0.here hx rfl (hb hby d5_142) rfl (l' := #[.val (.ref u0), .val (.int u1), .val (.ref u2), .val (.int u3), .val (.int (u4 + (1 : Int32))), .val (.int x5), .val (.int x6), s7, s8, s9, s10]) rfl ?_
  show Steps p.tables e below (s₁.setTop (mkF m 145 #[.val (.ref u0), .val (.int u1), .val (.ref u2), .val (.int u3), .val (.int (u4 + (1 : Int32))), .val (.int x5), .val (.int x6), s7, s8, s9, s10] [(.int u4), (.ref u0)])) _
  rw [← ez1]
  refine XS.iload X0.here hx rfl (hb hby d5_145) rfl ?_
  refine st2 _ ?_
  show Steps p.tables e below (T2.setTop (mkF m 150 #[.val (.ref u0), .val (.int u1), .val (.ref u2), .val (.int u3), .val (.int z1), .val (.int x5), .val (.int x6), s7, s8, s9, s10] [(.int w2)])) _
  refine XS.istore X2.here hx rfl (hb hby d5_150) rfl (l' := #[.val (.ref u0), .val (.int u1), .val (.ref u2), .val (.int u3), .val (.int z1), .val (.int x5), .val (.int x6), s7, .val (.int w2), s9, s10]) (by rcases P_s8 with rfl | ⟨_, rfl⟩ <;> rfl) ?_
  refine XS.iload X2.here hx rfl (hb hby d5_152) rfl ?_
  refine XS.sipush X2.here hx rfl (hb hby d5_154) ?_
  refine XS.icmpYes X2.here hx rfl (pc0 := 157) (pc' := 170) rfl (hb hby d5_157) rfl (feq (own_eq0' (x := w2.toInt) (y := (128 : Int)) rfl rfl (by omega))).2 (by decide) (by decide) ?_
  refine XS.iload X2.here hx rfl (hb hby d5_170) rfl ?_
  refine XS.sipush X2.here hx rfl (hb hby d5_172) ?_
  refine XS.icmpYes X2.here hx rfl (pc0 := 175) (pc' := 245) rfl (hb hby d5_175) rfl (flt (own_lt0' (x := (128 : Int)) (y := w2.toInt) rfl rfl (by omega))).2.2.2 (by decide) (by decide) ?_
  exact kt
theorem d5_178 : decode prog_3_method_2_code 178 = .ok (.iload 8, 2) := by decide +kernel
theorem d5_180 : decode prog_3_method_2_code 180 = .ok (.sipush 128, 3) := by decide +kernel
theorem d5_183 : decode prog_3_method_2_code 183 = .ok (.isub, 1) := by decide +kernel
theorem d5_184 : decode prog_3_method_2_code 184 = .ok (.istore 9, 2) := by decide +kernel
theorem d5_186 : decode prog_3_method_2_code 186 = .ok (.iload 9, 2) := by decide +kernel
theorem d5_188 : decode prog_3_method_2_code 188 = .ok (.iconst 3, 1) := by decide +kernel
theorem d5_189 : decode prog_3_method_2_code 189 = .ok (.if_icmp .le 18, 3) := by decide +kernel
theorem d5_207 : decode prog_3_method_2_code 207 = .ok (.iconst 0, 1) := by decide +kernel
theorem d5_208 : decode prog_3_method_2_code 208 = .ok (.istore 8, 2) := by decide +kernel
theorem d5_210 : decode prog_3_method_2_code 210 = .ok (.iconst 0, 1) := by decide +kernel
theorem d5_211 : decode prog_3_method_2_code 211 = .ok (.istore 10, 2) := by decide +kernel
theorem d5_213 : decode prog_3_method_2_code 213 = .ok (.iload 10, 2) := by decide +kernel
theorem d5_215 : decode prog_3_method_2_code 215 = .ok (.iload 9, 2) := by decide +kernel
theorem d5_217 : decode prog_3_method_2_code 217 = .ok (.if_icmp .ge 28, 3) := by decide +kernel
theorem d5_220 : decode prog_3_method_2_code 220 = .ok (.iload 8, 2) := by decide +kernel
theorem d5_222 : decode prog_3_method_2_code 222 = .ok (.bipush 8, 2) := by decide +kernel
theorem d5_224 : decode prog_3_method_2_code 224 = .ok (.ishl, 1) := by decide +kernel
theorem d5_225 : decode prog_3_method_2_code 225 = .ok (.aload_n 0, 1) := by decide +kernel
theorem d5_226 : decode prog_3_method_2_code 226 = .ok (.iload 4, 2) := by decide +kernel
theorem d5_228 : decode prog_3_method_2_code 228 = .ok (.iinc 4 1, 3) := by decide +kernel
theorem d5_231 : decode prog_3_method_2_code 231 = .ok (.iload 5, 2) := by decide +kernel
theorem d5_233 : decode prog_3_method_2_code 233 = .ok (.invokestatic 16, 3) := by decide +kernel
theorem d5_236 : decode prog_3_method_2_code 236 = .ok (.ior, 1) := by decide +kernel
theorem d5_237 : decode prog_3_method_2_code 237 = .ok (.istore 8, 2) := by decide +kernel
theorem d5_239 : decode prog_3_method_2_code 239 = .ok (.iinc 10 1, 3) := by decide +kernel
theorem d5_242 : decode prog_3_method_2_code 242 = .ok (.goto (-29), 3) := by decide +kernel
set_option maxRecDepth 65536 in
set_option maxHeartbeats 40000000 in
theorem sg_len1 (l : Launch) (Z : State) (a0 : Array Value) (hw : ∀ d ∈ tables_1, d.before a0 Z = true) {p : Program} {e : Env} {s : State} {m : MethodId} {args : Array Value} {below : List Frame} {meth : Method} {c : Code} {s₁ : State} {locs0 : List Loc} (u0 : Addr) (u1 : Int32) (u2 : Addr) (u3 : Int32) (u4 : Int32) (x5 : Int32) (x6 : Int32) (s7 : Slot) (s8 : Slot) (s9 : Slot) (s10 : Slot) (nn : Int) (gg : Int → Int) (cl : Int) (h0 : Heap) (n0 : Nat) (Z0 : n0 ≤ h0.size) (X0 : Stand p l e ({ frames := 1, cells := 1, slots := 12, locals := 15 } : Room) s m args below meth c s₁ locs0 1 12) (hx : p.tables.exec = Jvm.exec) (hby : c.code = prog_3_method_2_code) (hml : c.maxLocals = 11) (hZ : Z.Warmed39 s.vm) (hown : s.vm.findClass "com/example/fides/fides/Der" = some m.cls) (e0 : s₁.heap = h0) (N0 : Fr n0 locs0) (V_u0 : Byt Z h0 u0 nn gg) (hM : nn ≤ 65600) (hp : 0 ≤ u4.toInt) (hl : LenOK gg u4.toInt cl) (hc0 : 0 ≤ cl) (hfit : u4.toInt + ls cl + cl ≤ x5.toInt ∧ x5.toInt ≤ nn) (P_s8 : Pl s8) (P_s9 : Pl s9) (P_s10 : Pl s10) (hv : ¬ cl < 128 ∧ cl < 256) : ∃ (T' : State) (locs' : List Loc) (z4 : Int32) (x8 : Int32) (t9 : Slot) (t10 : Slot), Stand p l e ({ frames := 1, cells := 1, slots := 12, locals := 15 } : Room) s m args below meth c T' locs' 1 12 ∧ T'.heap = h0 ∧ Fr n0 locs' ∧ (z4.toInt = u4.toInt + ls cl) ∧ (x8.toInt = cl) ∧ (Pl t9) ∧ (Pl t10) ∧ ∀ target, Steps p.tables e below (T'.setTop (mkF m 245 #[.val (.ref u0), .val (.int u1), .val (.ref u2), .val (.int u3), .val (.int z4), .val (.int x5), .val (.int x6), s7, .val (.int x8), t9, t10] [])) target → Steps p.tables e below (s₁.setTop (mkF m 139 #[.val (.ref u0), .val (.int u1), .val (.ref u2), .val (.int u3), .val (.int u4), .val (.int x5), .val (.int x6), s7, s8, s9, s10] [])) target := by
  obtain ⟨a1, a2, a3, a4⟩ := (show (_ ∧ _ ∧ _ ∧ _) from by have q := hl; unfold LenOK at q; exact q)
  have hls := ls_2 hv.1 hv.2
  obtain ⟨z1, ez1⟩ : ∃ y : Int32, y = (u4 + (1 : Int32)) := ⟨_, rfl⟩
  have nz1 : z1.toInt = u4.toInt + (1 : Int) := by rw [ez1]; exact own_iadd (x := u4.toInt) (y := (1 : Int)) rfl rfl (by omega) (by omega)
  obtain ⟨_, _, ⟨T2, L2, k2, n2⟩, -, X2, ⟨Lc2, hQ2, l2, y2, z2⟩, st2⟩ := Jvm.LawKit.callS X0 hx (y := (⟨"com/example/fides/fides/Der", "byteAt", "([BII)I"⟩ : MethodName)) hown (mvT hZ (hw _ (List.mem_of_getElem? (i := 21) rfl))) (mvT hZ (hw _ (List.mem_of_getElem? (i := 22) rfl))) (mvT hZ (hw _ (List.mem_of_getElem? (i := 18) rfl))) (mvT hZ (hw _ (List.mem_of_getElem? (i := 23) rfl))) (by decide) (backOf (W := 0) (rm6 l Z a0 hw [] u0 u4 x5 nn gg h0 n0 Z0 V_u0 (by omega) (by omega) (by omega)) hZ (hw _ (List.mem_of_getElem? (i := 23) rfl)) (hw _ (List.mem_of_getElem? (i := 18) rfl)) (by decide) (by decide)) (g := (mkF m 147 #[.val (.ref u0), .val (.int u1), .val (.ref u2), .val (.int u3), .val (.int z1), .val (.int x5), .val (.int x6), s7, s8, s9, s10] [(.int x5), (.int u4), (.ref u0)])) rfl (by rw [hml]; rfl) (argsL := [(.ref u0), (.int u4), (.int x5)]) (rest := []) (lenOf pd_2 rfl) rfl (by show 2 * 0 + _ ≤ _; exact Nat.le_of_eq rfl) (hb hby d5_147) (fun _ _ => ⟨rfl, e0, (by decide : 1 + 0 ≤ _), (by decide : 12 + 0 ≤ _)⟩)
  dsimp only [Pt.U, Pt.locs, Pt.cells, Pt.slots] at X2 l2 y2 z2 st2 hQ2
  replace y2 : k2 = 1 := y2
  replace z2 : n2 = 12 := z2
  rw [y2, z2] at X2
  obtain ⟨w2, rfl, N2q, nw2a, nw2b, nw2c, e2⟩ := hQ2
  have N2 : Fr n0 L2 := l2 ▸ Fr.app N0 N2q
  obtain ⟨z3, ez3⟩ : ∃ y : Int32, y = (w2 - (128 : Int32)) := ⟨_, rfl⟩
  have nz3 : z3.toInt = w2.toInt - (128 : Int) := by rw [ez3]; exact own_isub (x := w2.toInt) (y := (128 : Int)) rfl rfl (by omega) (by omega)
  obtain ⟨z4, ez4⟩ : ∃ y : Int32, y = ((0 : Int32) <<< ((8 : Int32) &&& 31)) := ⟨_, rfl⟩
  have nz4 : z4.toInt = (0 : Int) * 256 := by rw [ez4]; exact own_shl8 (x := (0 : Int)) rfl (by omega) (by omega)
  obtain ⟨z5, ez5⟩ : ∃ y : Int32, y = (z1 + (1 : Int32)) := ⟨_, rfl⟩
  have nz5 : z5.toInt = z1.toInt + (1 : Int) := by rw [ez5]; exact own_iadd (x := z1.toInt) (y := (1 : Int)) rfl rfl (by omega) (by omega)
  obtain ⟨_, _, ⟨T6, L6, k6, n6⟩, -, X6, ⟨Lc6, hQ6, l6, y6, z6⟩, st6⟩ := Jvm.LawKit.callS X2 hx (y := (⟨"com/example/fides/fides/Der", "byteAt", "([BII)I"⟩ : MethodName)) hown (mvT hZ (hw _ (List.mem_of_getElem? (i := 21) rfl))) (mvT hZ (hw _ (List.mem_of_getElem? (i := 22) rfl))) (mvT hZ (hw _ (List.mem_of_getElem? (i := 18) rfl))) (mvT hZ (hw _ (List.mem_of_getElem? (i := 23) rfl))) (by decide) (backOf (W := 1) (rm6 l Z a0 hw [] u0 z1 x5 nn gg h0 n0 Z0 V_u0 (by omega) (by omega) (by omega)) hZ (hw _ (List.mem_of_getElem? (i := 23) rfl)) (hw _ (List.mem_of_getElem? (i := 18) rfl)) (by decide) (by decide)) (g := (mkF m 233 #[.val (.ref u0), .val (.int u1), .val (.ref u2), .val (.int u3), .val (.int z5), .val (.int x5), .val (.int x6), s7, .val (.int (0 : Int32)), .val (.int z3), .val (.int (0 : Int32))] [(.int x5), (.int z1), (.ref u0), (.int z4)])) rfl (by rw [hml]; rfl) (argsL := [(.ref u0), (.int z1), (.int x5)]) (rest := [(.int z4)]) (lenOf pd_2 rfl) rfl (by show 2 * 0 + _ ≤ _; exact Nat.le_of_eq rfl) (hb hby d5_233) (fun _ _ => ⟨rfl, e2, (by decide : 1 + 0 ≤ _), (by decide : 12 + 0 ≤ _)⟩)
  dsimp only [Pt.U, Pt.locs, Pt.cells, Pt.slots] at X6 l6 y6 z6 st6 hQ6
  replace y6 : k6 = 1 := y6
  replace z6 : n6 = 12 := z6
  rw [y6, z6] at X6
  obtain ⟨w6, rfl, N6q, nw6a, nw6b, nw6c, e6⟩ := hQ6
  have N6 : Fr n0 L6 := l6 ▸ Fr.app N2 N6q
  obtain ⟨z7, ez7⟩ : ∃ y : Int32, y = (z4 ||| w6) := ⟨_, rfl⟩
  have rb6 : w6.toInt = gg (u4.toInt + 1) := by rw [← show z1.toInt = u4.toInt + 1 from by omega]; exact nw6a
  have nz7 : z7.toInt = z4.toInt + w6.toInt := by rw [ez7]; exact own_or 8 256 (by decide) (by decide) (x := z4.toInt) (y := w6.toInt) rfl rfl (by omega) (by omega) (by omega) (by omega) (by omega)
  refine ⟨T6, _, z5, z7, (.val (.int z3)), (.val (.int (1 : Int32))), X6, e6, N6, (by omega), (by omega), (Or.inr ⟨_, rfl⟩), (Or.inr ⟨_, rfl⟩), fun target kt => ?_⟩
  show Steps p.tables e below (s₁.setTop (mkF m 139 #[.val (.ref u0), .val (.int u1), .val (.ref u2), .val (.int u3), .val (.int u4), .val (.int x5), .val (.int x6), s7, s8, s9, s10] [])) _
  refine XS.aloadN X0.here hx rfl (hb hby d5_139) rfl rfl ?_
  refine XS.iload X0.here hx rfl (hb hby d5_140) rfl ?_
  show Steps p.tables e below (s₁.setTop (mkF m 142 #[.val (.ref u0), .val (.int u1), .val (.ref u2), .val (.int u3), .val (.int u4), .val (.int x5), .val (.int x6), s7, s8, s9, s10] [(.int u4), (.ref u0)])) _
  refine XS.iinc X0.here hx rfl (hb hby d5_142) rfl (l' := #[.val (.ref u0), .val (.int u1), .val (.ref u2), .val (.int u3), .val (.int (u4 + (1 : Int32))), .val (.int x5), .val (.int x6), s7, s8, s9, s10]) rfl ?_
  show Steps p.tables e below (s₁.setTop (mkF m 145 #[.val (.ref u0), .val (.int u1), .val (.ref u2), .val (.int u3), .val (.int (u4 + (1 : Int32))), .val (.int x5), .val (.int x6), s7, s8, s9, s10] [(.int u4), (.ref u0)])) _
  rw [← ez1]
  refine XS.iload X0.here hx rfl (hb hby d5_145) rfl ?_
  refine st2 _ ?_
  show Steps p.tables e below (T2.setTop (mkF m 150 #[.val (.ref u0), .val (.int u1), .val (.ref u2), .val (.int u3), .val (.int z1), .val (.int x5), .val (.int x6), s7, s8, s9, s10] [(.int w2)])) _
  refine XS.istore X2.here hx rfl (hb hby d5_150) rfl (l' := #[.val (.ref u0), .val (.int u1), .val (.ref u2), .val (.int u3), .val (.int z1), .val (.int x5), .val (.int x6), s7, .val (.int w2), s9, s10]) (by rcases P_s8 with rfl | ⟨_, rfl⟩ <;> rfl) ?_
  refine XS.iload X2.here hx rfl (hb hby d5_152) rfl ?_
  refine XS.sipush X2.here hx rfl (hb hby d5_154) ?_
  refine XS.icmpYes X2.here hx rfl (pc0 := 157) (pc' := 170) rfl (hb hby d5_157) rfl (feq (own_eq0' (x := w2.toInt) (y := (128 : Int)) rfl rfl (by omega))).2 (by decide) (by decide) ?_
  refine XS.iload X2.here hx rfl (hb hby d5_170) rfl ?_
  refine XS.sipush X2.here hx rfl (hb hby d5_172) ?_
  refine XS.icmpNo X2.here hx rfl (hb hby d5_175) rfl (tlt (own_lt1' (x := (128 : Int)) (y := w2.toInt) rfl rfl (by omega))).2.2.2 ?_
  refine XS.iload X2.here hx rfl (hb hby d5_178) rfl ?_
  refine XS.sipush X2.here hx rfl (hb hby d5_180) ?_
  show Steps p.tables e below (T2.setTop (mkF m 183 #[.val (.ref u0), .val (.int u1), .val (.ref u2), .val (.int u3), .val (.int z1), .val (.int x5), .val (.int x6), s7, .val (.int w2), s9, s10] [(.int (128 : Int32)), (.int w2)])) _
  refine XS.isub X2.here hx rfl (hb hby d5_183) rfl ?_
  show Steps p.tables e below (T2.setTop (mkF m 184 #[.val (.ref u0), .val (.int u1), .val (.ref u2), .val (.int u3), .val (.int z1), .val (.int x5), .val (.int x6), s7, .val (.int w2), s9, s10] [(.int (w2 - (128 : Int32)))])) _
  rw [← ez3]
  refine XS.istore X2.here hx rfl (hb hby d5_184) rfl (l' := #[.val (.ref u0), .val (.int u1), .val (.ref u2), .val (.int u3), .val (.int z1), .val (.int x5), .val (.int x6), s7, .val (.int w2), .val (.int z3), s10]) (by rcases P_s9 with rfl | ⟨_, rfl⟩ <;> rfl) ?_
  refine XS.iload X2.here hx rfl (hb hby d5_186) rfl ?_
  refine XS.iconst X2.here hx rfl (hb hby d5_188) ?_
  refine XS.icmpYes X2.here hx rfl (pc0 := 189) (pc' := 207) rfl (hb hby d5_189) rfl (flt (own_lt0' (x := (3 : Int)) (y := z3.toInt) rfl rfl (by omega))).2.2.2 (by decide) (by decide) ?_
  refine XS.iconst X2.here hx rfl (hb hby d5_207) ?_
  refine XS.istore X2.here hx rfl (hb hby d5_208) rfl (l' := #[.val (.ref u0), .val (.int u1), .val (.ref u2), .val (.int u3), .val (.int z1), .val (.int x5), .val (.int x6), s7, .val (.int (0 : Int32)), .val (.int z3), s10]) rfl ?_
  refine XS.iconst X2.here hx rfl (hb hby d5_210) ?_
  refine XS.istore X2.here hx rfl (hb hby d5_211) rfl (l' := #[.val (.ref u0), .val (.int u1), .val (.ref u2), .val (.int u3), .val (.int z1), .val (.int x5), .val (.int x6), s7, .val (.int (0 : Int32)), .val (.int z3), .val (.int (0 : Int32))]) (by rcases P_s10 with rfl | ⟨_, rfl⟩ <;> rfl) ?_
  refine XS.iload X2.here hx rfl (hb hby d5_213) rfl ?_
  refine XS.iload X2.here hx rfl (hb hby d5_215) rfl ?_
  refine XS.icmpNo X2.here hx rfl (hb hby d5_217) rfl (tlt (own_lt1' (x := (0 : Int)) (y := z3.toInt) rfl rfl (by omega))).2.1 ?_
  show Steps p.tables e below (T2.setTop (mkF m 220 #[.val (.ref u0), .val (.int u1), .val (.ref u2), .val (.int u3), .val (.int z1), .val (.int x5), .val (.int x6), s7, .val (.int (0 : Int32)), .val (.int z3), .val (.int (0 : Int32))] [])) _
  refine XS.iload X2.here hx rfl (hb hby d5_220) rfl ?_
  refine XS.bipush X2.here hx rfl (hb hby d5_222) ?_
  show Steps p.tables e below (T2.setTop (mkF m 224 #[.val (.ref u0), .val (.int u1), .val (.ref u2), .val (.int u3), .val (.int z1), .val (.int x5), .val (.int x6), s7, .val (.int (0 : Int32)), .val (.int z3), .val (.int (0 : Int32))] [(.int (8 : Int32)), (.int (0 : Int32))])) _
  refine XS.ishl X2.here hx rfl (hb hby d5_224) rfl ?_
  show Steps p.tables e below (T2.setTop (mkF m 225 #[.val (.ref u0), .val (.int u1), .val (.ref u2), .val (.int u3), .val (.int z1), .val (.int x5), .val (.int x6), s7, .val (.int (0 : Int32)), .val (.int z3), .val (.int (0 : Int32))] [(.int ((0 : Int32) <<< ((8 : Int32) &&& 31)))])) _
  rw [← ez4]
  refine XS.aloadN X2.here hx rfl (hb hby d5_225) rfl rfl ?_
  refine XS.iload X2.here hx rfl (hb hby d5_226) rfl ?_
  show Steps p.tables e below (T2.setTop (mkF m 228 #[.val (.ref u0), .val (.int u1), .val (.ref u2), .val (.int u3), .val (.int z1), .val (.int x5), .val (.int x6), s7, .val (.int (0 : Int32)), .val (.int z3), .val (.int (0 : Int32))] [(.int z1), (.ref u0), (.int z4)])) _
  refine XS.iinc X2.here hx rfl (hb hby d5_228) rfl (l' := #[.val (.ref u0), .val (.int u1), .val (.ref u2), .val (.int u3), .val (.int (z1 + (1 : Int32))), .val (.int x5), .val (.int x6), s7, .val (.int (0 : Int32)), .val (.int z3), .val (.int (0 : Int32))]) rfl ?_
  show Steps p.tables e below (T2.setTop (mkF m 231 #[.val (.ref u0), .val (.int u1), .val (.ref u2), .val (.int u3), .val (.int (z1 + (1 : Int32))), .val (.int x5), .val (.int x6), s7, .val (.int (0 : Int32)), .val (.int z3), .val (.int (0 : Int32))] [(.int z1), (.ref u0), (.int z4)])) _
  rw [← ez5]
  refine XS.iload X2.here hx rfl (hb hby d5_231) rfl ?_
  refine st6 _ ?_
  show Steps p.tables e below (T6.setTop (mkF m 236 #[.val (.ref u0), .val (.int u1), .val (.ref u2), .val (.int u3), .val (.int z5), .val (.int x5), .val (.int x6), s7, .val (.int (0 : Int32)), .val (.int z3), .val (.int (0 : Int32))] [(.int w6), (.int z4)])) _
  refine XS.ior X6.here hx rfl (hb hby d5_236) rfl ?_
  show Steps p.tables e below (T6.setTop (mkF m 237 #[.val (.ref u0), .val (.int u1), .val (.ref u2), .val (.int u3), .val (.int z5), .val (.int x5), .val (.int x6), s7, .val (.int (0 : Int32)), .val (.int z3), .val (.int (0 : Int32))] [(.int (z4 ||| w6))])) _
  rw [← ez7]
  refine XS.istore X6.here hx rfl (hb hby d5_237) rfl (l' := #[.val (.ref u0), .val (.int u1), .val (.ref u2), .val (.int u3), .val (.int z5), .val (.int x5), .val (.int x6), s7, .val (.int z7), .val (.int z3), .val (.int (0 : Int32))]) rfl ?_
  show Steps p.tables e below (T6.setTop (mkF m 239 #[.val (.ref u0), .val (.int u1), .val (.ref u2), .val (.int u3), .val (.int z5), .val (.int x5), .val (.int x6), s7, .val (.int z7), .val (.int z3), .val (.int (0 : Int32))] [])) _
  refine XS.iinc X6.here hx rfl (hb hby d5_239) rfl (l' := #[.val (.ref u0), .val (.int u1), .val (.ref u2), .val (.int u3), .val (.int z5), .val (.int x5), .val (.int x6), s7, .val (.int z7), .val (.int z3), .val (.int (1 : Int32))]) rfl ?_
  show Steps p.tables e below (T6.setTop (mkF m 242 #[.val (.ref u0), .val (.int u1), .val (.ref u2), .val (.int u3), .val (.int z5), .val (.int x5), .val (.int x6), s7, .val (.int z7), .val (.int z3), .val (.int (1 : Int32))] [])) _
  refine XS.goto X6.here hx rfl (pc0 := 242) (pc' := 213) rfl (hb hby d5_242) (by decide) (by decide) ?_
  refine XS.iload X6.here hx rfl (hb hby d5_213) rfl ?_
  refine XS.iload X6.here hx rfl (hb hby d5_215) rfl ?_
  refine XS.icmpYes X6.here hx rfl (pc0 := 217) (pc' := 245) rfl (hb hby d5_217) rfl (flt (own_lt0' (x := (1 : Int)) (y := z3.toInt) rfl rfl (by omega))).2.1 (by decide) (by decide) ?_
  exact kt
set_option maxRecDepth 65536 in
set_option maxHeartbeats 40000000 in
theorem sg_len2 (l : Launch) (Z : State) (a0 : Array Value) (hw : ∀ d ∈ tables_1, d.before a0 Z = true) {p : Program} {e : Env} {s : State} {m : MethodId} {args : Array Value} {below : List Frame} {meth : Method} {c : Code} {s₁ : State} {locs0 : List Loc} (u0 : Addr) (u1 : Int32) (u2 : Addr) (u3 : Int32) (u4 : Int32) (x5 : Int32) (x6 : Int32) (s7 : Slot) (s8 : Slot) (s9 : Slot) (s10 : Slot) (nn : Int) (gg : Int → Int) (cl : Int) (h0 : Heap) (n0 : Nat) (Z0 : n0 ≤ h0.size) (X0 : Stand p l e ({ frames := 1, cells := 1, slots := 12, locals := 15 } : Room) s m args below meth c s₁ locs0 1 12) (hx : p.tables.exec = Jvm.exec) (hby : c.code = prog_3_method_2_code) (hml : c.maxLocals = 11) (hZ : Z.Warmed39 s.vm) (hown : s.vm.findClass "com/example/fides/fides/Der" = some m.cls) (e0 : s₁.heap = h0) (N0 : Fr n0 locs0) (V_u0 : Byt Z h0 u0 nn gg) (hM : nn ≤ 65600) (hp : 0 ≤ u4.toInt) (hl : LenOK gg u4.toInt cl) (hc0 : 0 ≤ cl) (hfit : u4.toInt + ls cl + cl ≤ x5.toInt ∧ x5.toInt ≤ nn) (P_s8 : Pl s8) (P_s9 : Pl s9) (P_s10 : Pl s10) (hv : ¬ cl < 256 ∧ cl < 65536) : ∃ (T' : State) (locs' : List Loc) (z4 : Int32) (x8 : Int32) (t9 : Slot) (t10 : Slot), Stand p l e ({ frames := 1, cells := 1, slots := 12, locals := 15 } : Room) s m args below meth c T' locs' 1 12 ∧ T'.heap = h0 ∧ Fr n0 locs' ∧ (z4.toInt = u4.toInt + ls cl) ∧ (x8.toInt = cl) ∧ (Pl t9) ∧ (Pl t10) ∧ ∀ target, Steps p.tables e below (T'.setTop (mkF m 245 #[.val (.ref u0), .val (.int u1), .val (.ref u2), .val (.int u3), .val (.int z4), .val (.int x5), .val (.int x6), s7, .val (.int x8), t9, t10] [])) target → Steps p.tables e below (s₁.setTop (mkF m 139 #[.val (.ref u0), .val (.int u1), .val (.ref u2), .val (.int u3), .val (.int u4), .val (.int x5), .val (.int x6), s7, s8, s9, s10] [])) target := by
  obtain ⟨a1, a2, a3, a4⟩ := (show (_ ∧ _ ∧ _ ∧ _) from by have q := hl; unfold LenOK at q; exact q)
  have hls := ls_3 hv.1 hv.2
  obtain ⟨z1, ez1⟩ : ∃ y : Int32, y = (u4 + (1 : Int32)) := ⟨_, rfl⟩
  have nz1 : z1.toInt = u4.toInt + (1 : Int) := by rw [ez1]; exact own_iadd (x := u4.toInt) (y := (1 : Int)) rfl rfl (by omega) (by omega)
  obtain ⟨_, _, ⟨T2, L2, k2, n2⟩, -, X2, ⟨Lc2, hQ2, l2, y2, z2⟩, st2⟩ := Jvm.LawKit.callS X0 hx (y := (⟨"com/example/fides/fides/Der", "byteAt", "([BII)I"⟩ : MethodName)) hown (mvT hZ (hw _ (List.mem_of_getElem? (i := 21) rfl))) (mvT hZ (hw _ (List.mem_of_getElem? (i := 22) rfl))) (mvT hZ (hw _ (List.mem_of_getElem? (i := 18) rfl))) (mvT hZ (hw _ (List.mem_of_getElem? (i := 23) rfl))) (by decide) (backOf (W := 0) (rm6 l Z a0 hw [] u0 u4 x5 nn gg h0 n0 Z0 V_u0 (by omega) (by omega) (by omega)) hZ (hw _ (List.mem_of_getElem? (i := 23) rfl)) (hw _ (List.mem_of_getElem? (i := 18) rfl)) (by decide) (by decide)) (g := (mkF m 147 #[.val (.ref u0), .val (.int u1), .val (.ref u2), .val (.int u3), .val (.int z1), .val (.int x5), .val (.int x6), s7, s8, s9, s10] [(.int x5), (.int u4), (.ref u0)])) rfl (by rw [hml]; rfl) (argsL := [(.ref u0), (.int u4), (.int x5)]) (rest := []) (lenOf pd_2 rfl) rfl (by show 2 * 0 + _ ≤ _; exact Nat.le_of_eq rfl) (hb hby d5_147) (fun _ _ => ⟨rfl, e0, (by decide : 1 + 0 ≤ _), (by decide : 12 + 0 ≤ _)⟩)
  dsimp only [Pt.U, Pt.locs, Pt.cells, Pt.slots] at X2 l2 y2 z2 st2 hQ2
  replace y2 : k2 = 1 := y2
  replace z2 : n2 = 12 := z2
  rw [y2, z2] at X2
  obtain ⟨w2, rfl, N2q, nw2a, nw2b, nw2c, e2⟩ := hQ2
  have N2 : Fr n0 L2 := l2 ▸ Fr.app N0 N2q
  obtain ⟨z3, ez3⟩ : ∃ y : Int32, y = (w2 - (128 : Int32)) := ⟨_, rfl⟩
  have nz3 : z3.toInt = w2.toInt - (128 : Int) := by rw [ez3]; exact own_isub (x := w2.toInt) (y := (128 : Int)) rfl rfl (by omega) (by omega)
  obtain ⟨z4, ez4⟩ : ∃ y : Int32, y = ((0 : Int32) <<< ((8 : Int32) &&& 31)) := ⟨_, rfl⟩
  have nz4 : z4.toInt = (0 : Int) * 256 := by rw [ez4]; exact own_shl8 (x := (0 : Int)) rfl (by omega) (by omega)
  obtain ⟨z5, ez5⟩ : ∃ y : Int32, y = (z1 + (1 : Int32)) := ⟨_, rfl⟩
  have nz5 : z5.toInt = z1.toInt + (1 : Int) := by rw [ez5]; exact own_iadd (x := z1.toInt) (y := (1 : Int)) rfl rfl (by omega) (by omega)
  obtain ⟨_, _, ⟨T6, L6, k6, n6⟩, -, X6, ⟨Lc6, hQ6, l6, y6, z6⟩, st6⟩ := Jvm.LawKit.callS X2 hx (y := (⟨"com/example/fides/fides/Der", "byteAt", "([BII)I"⟩ : MethodName)) hown (mvT hZ (hw _ (List.mem_of_getElem? (i := 21) rfl))) (mvT hZ (hw _ (List.mem_of_getElem? (i := 22) rfl))) (mvT hZ (hw _ (List.mem_of_getElem? (i := 18) rfl))) (mvT hZ (hw _ (List.mem_of_getElem? (i := 23) rfl))) (by decide) (backOf (W := 1) (rm6 l Z a0 hw [] u0 z1 x5 nn gg h0 n0 Z0 V_u0 (by omega) (by omega) (by omega)) hZ (hw _ (List.mem_of_getElem? (i := 23) rfl)) (hw _ (List.mem_of_getElem? (i := 18) rfl)) (by decide) (by decide)) (g := (mkF m 233 #[.val (.ref u0), .val (.int u1), .val (.ref u2), .val (.int u3), .val (.int z5), .val (.int x5), .val (.int x6), s7, .val (.int (0 : Int32)), .val (.int z3), .val (.int (0 : Int32))] [(.int x5), (.int z1), (.ref u0), (.int z4)])) rfl (by rw [hml]; rfl) (argsL := [(.ref u0), (.int z1), (.int x5)]) (rest := [(.int z4)]) (lenOf pd_2 rfl) rfl (by show 2 * 0 + _ ≤ _; exact Nat.le_of_eq rfl) (hb hby d5_233) (fun _ _ => ⟨rfl, e2, (by decide : 1 + 0 ≤ _), (by decide : 12 + 0 ≤ _)⟩)
  dsimp only [Pt.U, Pt.locs, Pt.cells, Pt.slots] at X6 l6 y6 z6 st6 hQ6
  replace y6 : k6 = 1 := y6
  replace z6 : n6 = 12 := z6
  rw [y6, z6] at X6
  obtain ⟨w6, rfl, N6q, nw6a, nw6b, nw6c, e6⟩ := hQ6
  have N6 : Fr n0 L6 := l6 ▸ Fr.app N2 N6q
  obtain ⟨z7, ez7⟩ : ∃ y : Int32, y = (z4 ||| w6) := ⟨_, rfl⟩
  have rb6 : w6.toInt = gg (u4.toInt + 1) := by rw [← show z1.toInt = u4.toInt + 1 from by omega]; exact nw6a
  have nz7 : z7.toInt = z4.toInt + w6.toInt := by rw [ez7]; exact own_or 8 256 (by decide) (by decide) (x := z4.toInt) (y := w6.toInt) rfl rfl (by omega) (by omega) (by omega) (by omega) (by omega)
  obtain ⟨z8, ez8⟩ : ∃ y : Int32, y = (z7 <<< ((8 : Int32) &&& 31)) := ⟨_, rfl⟩
  have nz8 : z8.toInt = z7.toInt * 256 := by rw [ez8]; exact own_shl8 (x := z7.toInt) rfl (by omega) (by omega)
  obtain ⟨z9, ez9⟩ : ∃ y : Int32, y = (z5 + (1 : Int32)) := ⟨_, rfl⟩
  have nz9 : z9.toInt = z5.toInt + (1 : Int) := by rw [ez9]; exact own_iadd (x := z5.toInt) (y := (1 : Int)) rfl rfl (by omega) (by omega)
  obtain ⟨_, _, ⟨T10, L10, k10, n10⟩, -, X10, ⟨Lc10, hQ10, l10, y10, z10⟩, st10⟩ := Jvm.LawKit.callS X6 hx (y := (⟨"com/example/fides/fides/Der", "byteAt", "([BII)I"⟩ : MethodName)) hown (mvT hZ (hw _ (List.mem_of_getElem? (i := 21) rfl))) (mvT hZ (hw _ (List.mem_of_getElem? (i := 22) rfl))) (mvT hZ (hw _ (List.mem_of_getElem? (i := 18) rfl))) (mvT hZ (hw _ (List.mem_of_getElem? (i := 23) rfl))) (by decide) (backOf (W := 1) (rm6 l Z a0 hw [] u0 z5 x5 nn gg h0 n0 Z0 V_u0 (by omega) (by omega) (by omega)) hZ (hw _ (List.mem_of_getElem? (i := 23) rfl)) (hw _ (List.mem_of_getElem? (i := 18) rfl)) (by decide) (by decide)) (g := (mkF m 233 #[.val (.ref u0), .val (.int u1), .val (.ref u2), .val (.int u3), .val (.int z9), .val (.int x5), .val (.int x6), s7, .val (.int z7), .val (.int z3), .val (.int (1 : Int32))] [(.int x5), (.int z5), (.ref u0), (.int z8)])) rfl (by rw [hml]; rfl) (argsL := [(.ref u0), (.int z5), (.int x5)]) (rest := [(.int z8)]) (lenOf pd_2 rfl) rfl (by show 2 * 0 + _ ≤ _; exact Nat.le_of_eq rfl) (hb hby d5_233) (fun _ _ => ⟨rfl, e6, (by decide : 1 + 0 ≤ _), (by decide : 12 + 0 ≤ _)⟩)
  dsimp only [Pt.U, Pt.locs, Pt.cells, Pt.slots] at X10 l10 y10 z10 st10 hQ10
  replace y10 : k10 = 1 := y10
  replace z10 : n10 = 12 := z10
  rw [y10, z10] at X10
  obtain ⟨w10, rfl, N10q, nw10a, nw10b, nw10c, e10⟩ := hQ10
  have N10 : Fr n0 L10 := l10 ▸ Fr.app N6 N10q
  obtain ⟨z11, ez11⟩ : ∃ y : Int32, y = (z8 ||| w10) := ⟨_, rfl⟩
  have rb10 : w10.toInt = gg (u4.toInt + 2) := by rw [← show z5.toInt = u4.toInt + 2 from by omega]; exact nw10a
  have nz11 : z11.toInt = z8.toInt + w10.toInt := by rw [ez11]; exact own_or 8 256 (by decide) (by decide) (x := z8.toInt) (y := w10.toInt) rfl rfl (by omega) (by omega) (by omega) (by omega) (by omega)
  refine ⟨T10, _, z9, z11, (.val (.int z3)), (.val (.int (2 : Int32))), X10, e10, N10, (by omega), (by omega), (Or.inr ⟨_, rfl⟩), (Or.inr ⟨_, rfl⟩), fun target kt => ?_⟩
  show Steps p.tables e below (s₁.setTop (mkF m 139 #[.val (.ref u0), .val (.int u1), .val (.ref u2), .val (.int u3), .val (.int u4), .val (.int x5), .val (.int x6), s7, s8, s9, s10] [])) _
  refine XS.aloadN X0.here hx rfl (hb hby d5_139) rfl rfl ?_
  refine XS.iload X0.here hx rfl (hb hby d5_140) rfl ?_
  show Steps p.tables e below (s₁.setTop (mkF m 142 #[.val (.ref u0), .val (.int u1), .val (.ref u2), .val (.int u3), .val (.int u4), .val (.int x5), .val (.int x6), s7, s8, s9, s10] [(.int u4), (.ref u0)])) _
  refine XS.iinc X0.here hx rfl (hb hby d5_142) rfl (l' := #[.val (.ref u0), .val (.int u1), .val (.ref u2), .val (.int u3), .val (.int (u4 + (1 : Int32))), .val (.int x5), .val (.int x6), s7, s8, s9, s10]) rfl ?_
  show Steps p.tables e below (s₁.setTop (mkF m 145 #[.val (.ref u0), .val (.int u1), .val (.ref u2), .val (.int u3), .val (.int (u4 + (1 : Int32))), .val (.int x5), .val (.int x6), s7, s8, s9, s10] [(.int u4), (.ref u0)])) _
  rw [← ez1]
  refine XS.iload X0.here hx rfl (hb hby d5_145) rfl ?_
  refine st2 _ ?_
  show Steps p.tables e below (T2.setTop (mkF m 150 #[.val (.ref u0), .val (.int u1), .val (.ref u2), .val (.int u3), .val (.int z1), .val (.int x5), .val (.int x6), s7, s8, s9, s10] [(.int w2)])) _
  refine XS.istore X2.here hx rfl (hb hby d5_150) rfl (l' := #[.val (.ref u0), .val (.int u1), .val (.ref u2), .val (.int u3), .val (.int z1), .val (.int x5), .val (.int x6), s7, .val (.int w2), s9, s10]) (by rcases P_s8 with rfl | ⟨_, rfl⟩ <;> rfl) ?_
  refine XS.iload X2.here hx rfl (hb hby d5_152) rfl ?_
  refine XS.sipush X2.here hx rfl (hb hby d5_154) ?_
  refine XS.icmpYes X2.here hx rfl (pc0 := 157) (pc' := 170) rfl (hb hby d5_157) rfl (feq (own_eq0' (x := w2.toInt) (y := (128 : Int)) rfl rfl (by omega))).2 (by decide) (by decide) ?_
  refine XS.iload X2.here hx rfl (hb hby d5_170) rfl ?_
  refine XS.sipush X2.here hx rfl (hb hby d5_172) ?_
  refine XS.icmpNo X2.here hx rfl (hb hby d5_175) rfl (tlt (own_lt1' (x := (128 : Int)) (y := w2.toInt) rfl rfl (by omega))).2.2.2 ?_
  refine XS.iload X2.here hx rfl (hb hby d5_178) rfl ?_
  refine XS.sipush X2.here hx rfl (hb hby d5_180) ?_
  show Steps p.tables e below (T2.setTop (mkF m 183 #[.val (.ref u0), .val (.int u1), .val (.ref u2), .val (.int u3), .val (.int z1), .val (.int x5), .val (.int x6), s7, .val (.int w2), s9, s10] [(.int (128 : Int32)), (.int w2)])) _
  refine XS.isub X2.here hx rfl (hb hby d5_183) rfl ?_
  show Steps p.tables e below (T2.setTop (mkF m 184 #[.val (.ref u0), .val (.int u1), .val (.ref u2), .val (.int u3), .val (.int z1), .val (.int x5), .val (.int x6), s7, .val (.int w2), s9, s10] [(.int (w2 - (128 : Int32)))])) _
  rw [← ez3]
  refine XS.istore X2.here hx rfl (hb hby d5_184) rfl (l' := #[.val (.ref u0), .val (.int u1), .val (.ref u2), .val (.int u3), .val (.int z1), .val (.int x5), .val (.int x6), s7, .val (.int w2), .val (.int z3), s10]) (by rcases P_s9 with rfl | ⟨_, rfl⟩ <;> rfl) ?_
  refine XS.iload X2.here hx rfl (hb hby d5_186) rfl ?_
  refine XS.iconst X2.here hx rfl (hb hby d5_188) ?_
  refine XS.icmpYes X2.here hx rfl (pc0 := 189) (pc' := 207) rfl (hb hby d5_189) rfl (flt (own_lt0' (x := (3 : Int)) (y := z3.toInt) rfl rfl (by omega))).2.2.2 (by decide) (by decide) ?_
  refine XS.iconst X2.here hx rfl (hb hby d5_207) ?_
  refine XS.istore X2.here hx rfl (hb hby d5_208) rfl (l' := #[.val (.ref u0), .val (.int u1), .val (.ref u2), .val (.int u3), .val (.int z1), .val (.int x5), .val (.int x6), s7, .val (.int (0 : Int32)), .val (.int z3), s10]) rfl ?_
  refine XS.iconst X2.here hx rfl (hb hby d5_210) ?_
  refine XS.istore X2.here hx rfl (hb hby d5_211) rfl (l' := #[.val (.ref u0), .val (.int u1), .val (.ref u2), .val (.int u3), .val (.int z1), .val (.int x5), .val (.int x6), s7, .val (.int (0 : Int32)), .val (.int z3), .val (.int (0 : Int32))]) (by rcases P_s10 with rfl | ⟨_, rfl⟩ <;> rfl) ?_
  refine XS.iload X2.here hx rfl (hb hby d5_213) rfl ?_
  refine XS.iload X2.here hx rfl (hb hby d5_215) rfl ?_
  refine XS.icmpNo X2.here hx rfl (hb hby d5_217) rfl (tlt (own_lt1' (x := (0 : Int)) (y := z3.toInt) rfl rfl (by omega))).2.1 ?_
  show Steps p.tables e below (T2.setTop (mkF m 220 #[.val (.ref u0), .val (.int u1), .val (.ref u2), .val (.int u3), .val (.int z1), .val (.int x5), .val (.int x6), s7, .val (.int (0 : Int32)), .val (.int z3), .val (.int (0 : Int32))] [])) _
  refine XS.iload X2.here hx rfl (hb hby d5_220) rfl ?_
  refine XS.bipush X2.here hx rfl (hb hby d5_222) ?_
  show Steps p.tables e below (T2.setTop (mkF m 224 #[.val (.ref u0), .val (.int u1), .val (.ref u2), .val (.int u3), .val (.int z1), .val (.int x5), .val (.int x6), s7, .val (.int (0 : Int32)), .val (.int z3), .val (.int (0 : Int32))] [(.int (8 : Int32)), (.int (0 : Int32))])) _
  refine XS.ishl X2.here hx rfl (hb hby d5_224) rfl ?_
  show Steps p.tables e below (T2.setTop (mkF m 225 #[.val (.ref u0), .val (.int u1), .val (.ref u2), .val (.int u3), .val (.int z1), .val (.int x5), .val (.int x6), s7, .val (.int (0 : Int32)), .val (.int z3), .val (.int (0 : Int32))] [(.int ((0 : Int32) <<< ((8 : Int32) &&& 31)))])) _
  rw [← ez4]
  refine XS.aloadN X2.here hx rfl (hb hby d5_225) rfl rfl ?_
  refine XS.iload X2.here hx rfl (hb hby d5_226) rfl ?_
  show Steps p.tables e below (T2.setTop (mkF m 228 #[.val (.ref u0), .val (.int u1), .val (.ref u2), .val (.int u3), .val (.int z1), .val (.int x5), .val (.int x6), s7, .val (.int (0 : Int32)), .val (.int z3), .val (.int (0 : Int32))] [(.int z1), (.ref u0), (.int z4)])) _
  refine XS.iinc X2.here hx rfl (hb hby d5_228) rfl (l' := #[.val (.ref u0), .val (.int u1), .val (.ref u2), .val (.int u3), .val (.int (z1 + (1 : Int32))), .val (.int x5), .val (.int x6), s7, .val (.int (0 : Int32)), .val (.int z3), .val (.int (0 : Int32))]) rfl ?_
  show Steps p.tables e below (T2.setTop (mkF m 231 #[.val (.ref u0), .val (.int u1), .val (.ref u2), .val (.int u3), .val (.int (z1 + (1 : Int32))), .val (.int x5), .val (.int x6), s7, .val (.int (0 : Int32)), .val (.int z3), .val (.int (0 : Int32))] [(.int z1), (.ref u0), (.int z4)])) _
  rw [← ez5]
  refine XS.iload X2.here hx rfl (hb hby d5_231) rfl ?_
  refine st6 _ ?_
  show Steps p.tables e below (T6.setTop (mkF m 236 #[.val (.ref u0), .val (.int u1), .val (.ref u2), .val (.int u3), .val (.int z5), .val (.int x5), .val (.int x6), s7, .val (.int (0 : Int32)), .val (.int z3), .val (.int (0 : Int32))] [(.int w6), (.int z4)])) _
  refine XS.ior X6.here hx rfl (hb hby d5_236) rfl ?_
  show Steps p.tables e below (T6.setTop (mkF m 237 #[.val (.ref u0), .val (.int u1), .val (.ref u2), .val (.int u3), .val (.int z5), .val (.int x5), .val (.int x6), s7, .val (.int (0 : Int32)), .val (.int z3), .val (.int (0 : Int32))] [(.int (z4 ||| w6))])) _
  rw [← ez7]
  refine XS.istore X6.here hx rfl (hb hby d5_237) rfl (l' := #[.val (.ref u0), .val (.int u1), .val (.ref u2), .val (.int u3), .val (.int z5), .val (.int x5), .val (.int x6), s7, .val (.int z7), .val (.int z3), .val (.int (0 : Int32))]) rfl ?_
  show Steps p.tables e below (T6.setTop (mkF m 239 #[.val (.ref u0), .val (.int u1), .val (.ref u2), .val (.int u3), .val (.int z5), .val (.int x5), .val (.int x6), s7, .val (.int z7), .val (.int z3), .val (.int (0 : Int32))] [])) _
  refine XS.iinc X6.here hx rfl (hb hby d5_239) rfl (l' := #[.val (.ref u0), .val (.int u1), .val (.ref u2), .val (.int u3), .val (.int z5), .val (.int x5), .val (.int x6), s7, .val (.int z7), .val (.int z3), .val (.int (1 : Int32))]) rfl ?_
  show Steps p.tables e below (T6.setTop (mkF m 242 #[.val (.ref u0), .val (.int u1), .val (.ref u2), .val (.int u3), .val (.int z5), .val (.int x5), .val (.int x6), s7, .val (.int z7), .val (.int z3), .val (.int (1 : Int32))] [])) _
  refine XS.goto X6.here hx rfl (pc0 := 242) (pc' := 213) rfl (hb hby d5_242) (by decide) (by decide) ?_
  refine XS.iload X6.here hx rfl (hb hby d5_213) rfl ?_
  refine XS.iload X6.here hx rfl (hb hby d5_215) rfl ?_
  refine XS.icmpNo X6.here hx rfl (hb hby d5_217) rfl (tlt (own_lt1' (x := (1 : Int)) (y := z3.toInt) rfl rfl (by omega))).2.1 ?_
  refine XS.iload X6.here hx rfl (hb hby d5_220) rfl ?_
  refine XS.bipush X6.here hx rfl (hb hby d5_222) ?_
  show Steps p.tables e below (T6.setTop (mkF m 224 #[.val (.ref u0), .val (.int u1), .val (.ref u2), .val (.int u3), .val (.int z5), .val (.int x5), .val (.int x6), s7, .val (.int z7), .val (.int z3), .val (.int (1 : Int32))] [(.int (8 : Int32)), (.int z7)])) _
  refine XS.ishl X6.here hx rfl (hb hby d5_224) rfl ?_
  show Steps p.tables e below (T6.setTop (mkF m 225 #[.val (.ref u0), .val (.int u1), .val (.ref u2), .val (.int u3), .val (.int z5), .val (.int x5), .val (.int x6), s7, .val (.int z7), .val (.int z3), .val (.int (1 : Int32))] [(.int (z7 <<< ((8 : Int32) &&& 31)))])) _
  rw [← ez8]
  refine XS.aloadN X6.here hx rfl (hb hby d5_225) rfl rfl ?_
  refine XS.iload X6.here hx rfl (hb hby d5_226) rfl ?_
  show Steps p.tables e below (T6.setTop (mkF m 228 #[.val (.ref u0), .val (.int u1), .val (.ref u2), .val (.int u3), .val (.int z5), .val (.int x5), .val (.int x6), s7, .val (.int z7), .val (.int z3), .val (.int (1 : Int32))] [(.int z5), (.ref u0), (.int z8)])) _
  refine XS.iinc X6.here hx rfl (hb hby d5_228) rfl (l' := #[.val (.ref u0), .val (.int u1), .val (.ref u2), .val (.int u3), .val (.int (z5 + (1 : Int32))), .val (.int x5), .val (.int x6), s7, .val (.int z7), .val (.int z3), .val (.int (1 : Int32))]) rfl ?_
  show Steps p.tables e below (T6.setTop (mkF m 231 #[.val (.ref u0), .val (.int u1), .val (.ref u2), .val (.int u3), .val (.int (z5 + (1 : Int32))), .val (.int x5), .val (.int x6), s7, .val (.int z7), .val (.int z3), .val (.int (1 : Int32))] [(.int z5), (.ref u0), (.int z8)])) _
  rw [← ez9]
  refine XS.iload X6.here hx rfl (hb hby d5_231) rfl ?_
  refine st10 _ ?_
  show Steps p.tables e below (T10.setTop (mkF m 236 #[.val (.ref u0), .val (.int u1), .val (.ref u2), .val (.int u3), .val (.int z9), .val (.int x5), .val (.int x6), s7, .val (.int z7), .val (.int z3), .val (.int (1 : Int32))] [(.int w10), (.int z8)])) _
  refine XS.ior X10.here hx rfl (hb hby d5_236) rfl ?_
  show Steps p.tables e below (T10.setTop (mkF m 237 #[.val (.ref u0), .val (.int u1), .val (.ref u2), .val (.int u3), .val (.int z9), .val (.int x5), .val (.int x6), s7, .val (.int z7), .val (.int z3), .val (.int (1 : Int32))] [(.int (z8 ||| w10))])) _
  rw [← ez11]
  refine XS.istore X10.here hx rfl (hb hby d5_237) rfl (l' := #[.val (.ref u0), .val (.int u1), .val (.ref u2), .val (.int u3), .val (.int z9), .val (.int x5), .val (.int x6), s7, .val (.int z11), .val (.int z3), .val (.int (1 : Int32))]) rfl ?_
  show Steps p.tables e below (T10.setTop (mkF m 239 #[.val (.ref u0), .val (.int u1), .val (.ref u2), .val (.int u3), .val (.int z9), .val (.int x5), .val (.int x6), s7, .val (.int z11), .val (.int z3), .val (.int (1 : Int32))] [])) _
  refine XS.iinc X10.here hx rfl (hb hby d5_239) rfl (l' := #[.val (.ref u0), .val (.int u1), .val (.ref u2), .val (.int u3), .val (.int z9), .val (.int x5), .val (.int x6), s7, .val (.int z11), .val (.int z3), .val (.int (2 : Int32))]) rfl ?_
  show Steps p.tables e below (T10.setTop (mkF m 242 #[.val (.ref u0), .val (.int u1), .val (.ref u2), .val (.int u3), .val (.int z9), .val (.int x5), .val (.int x6), s7, .val (.int z11), .val (.int z3), .val (.int (2 : Int32))] [])) _
  refine XS.goto X10.here hx rfl (pc0 := 242) (pc' := 213) rfl (hb hby d5_242) (by decide) (by decide) ?_
  refine XS.iload X10.here hx rfl (hb hby d5_213) rfl ?_
  refine XS.iload X10.here hx rfl (hb hby d5_215) rfl ?_
  refine XS.icmpYes X10.here hx rfl (pc0 := 217) (pc' := 245) rfl (hb hby d5_217) rfl (flt (own_lt0' (x := (2 : Int)) (y := z3.toInt) rfl rfl (by omega))).2.1 (by decide) (by decide) ?_
  exact kt
set_option maxRecDepth 65536 in
set_option maxHeartbeats 40000000 in
theorem sg_len3 (l : Launch) (Z : State) (a0 : Array Value) (hw : ∀ d ∈ tables_1, d.before a0 Z = true) {p : Program} {e : Env} {s : State} {m : MethodId} {args : Array Value} {below : List Frame} {meth : Method} {c : Code} {s₁ : State} {locs0 : List Loc} (u0 : Addr) (u1 : Int32) (u2 : Addr) (u3 : Int32) (u4 : Int32) (x5 : Int32) (x6 : Int32) (s7 : Slot) (s8 : Slot) (s9 : Slot) (s10 : Slot) (nn : Int) (gg : Int → Int) (cl : Int) (h0 : Heap) (n0 : Nat) (Z0 : n0 ≤ h0.size) (X0 : Stand p l e ({ frames := 1, cells := 1, slots := 12, locals := 15 } : Room) s m args below meth c s₁ locs0 1 12) (hx : p.tables.exec = Jvm.exec) (hby : c.code = prog_3_method_2_code) (hml : c.maxLocals = 11) (hZ : Z.Warmed39 s.vm) (hown : s.vm.findClass "com/example/fides/fides/Der" = some m.cls) (e0 : s₁.heap = h0) (N0 : Fr n0 locs0) (V_u0 : Byt Z h0 u0 nn gg) (hM : nn ≤ 65600) (hp : 0 ≤ u4.toInt) (hl : LenOK gg u4.toInt cl) (hc0 : 0 ≤ cl) (hfit : u4.toInt + ls cl + cl ≤ x5.toInt ∧ x5.toInt ≤ nn) (P_s8 : Pl s8) (P_s9 : Pl s9) (P_s10 : Pl s10) (hv : ¬ cl < 65536) : ∃ (T' : State) (locs' : List Loc) (z4 : Int32) (x8 : Int32) (t9 : Slot) (t10 : Slot), Stand p l e ({ frames := 1, cells := 1, slots := 12, locals := 15 } : Room) s m args below meth c T' locs' 1 12 ∧ T'.heap = h0 ∧ Fr n0 locs' ∧ (z4.toInt = u4.toInt + ls cl) ∧ (x8.toInt = cl) ∧ (Pl t9) ∧ (Pl t10) ∧ ∀ target, Steps p.tables e below (T'.setTop (mkF m 245 #[.val (.ref u0), .val (.int u1), .val (.ref u2), .val (.int u3), .val (.int z4), .val (.int x5), .val (.int x6), s7, .val (.int x8), t9, t10] [])) target → Steps p.tables e below (s₁.setTop (mkF m 139 #[.val (.ref u0), .val (.int u1), .val (.ref u2), .val (.int u3), .val (.int u4), .val (.int x5), .val (.int x6), s7, s8, s9, s10] [])) target := by
  obtain ⟨a1, a2, a3, a4⟩ := (show (_ ∧ _ ∧ _ ∧ _) from by have q := hl; unfold LenOK at q; exact q)
  have hls := ls_4 hv
  obtain ⟨z1, ez1⟩ : ∃ y : Int32, y = (u4 + (1 : Int32)) := ⟨_, rfl⟩
  have nz1 : z1.toInt = u4.toInt + (1 : Int) := by rw [ez1]; exact own_iadd (x := u4.toInt) (y := (1 : Int)) rfl rfl (by omega) (by omega)
  obtain ⟨_, _, ⟨T2, L2, k2, n2⟩, -, X2, ⟨Lc2, hQ2, l2, y2, z2⟩, st2⟩ := Jvm.LawKit.callS X0 hx (y := (⟨"com/example/fides/fides/Der", "byteAt", "([BII)I"⟩ : MethodName)) hown (mvT hZ (hw _ (List.mem_of_getElem? (i := 21) rfl))) (mvT hZ (hw _ (List.mem_of_getElem? (i := 22) rfl))) (mvT hZ (hw _ (List.mem_of_getElem? (i := 18) rfl))) (mvT hZ (hw _ (List.mem_of_getElem? (i := 23) rfl))) (by decide) (backOf (W := 0) (rm6 l Z a0 hw [] u0 u4 x5 nn gg h0 n0 Z0 V_u0 (by omega) (by omega) (by omega)) hZ (hw _ (List.mem_of_getElem? (i := 23) rfl)) (hw _ (List.mem_of_getElem? (i := 18) rfl)) (by decide) (by decide)) (g := (mkF m 147 #[.val (.ref u0), .val (.int u1), .val (.ref u2), .val (.int u3), .val (.int z1), .val (.int x5), .val (.int x6), s7, s8, s9, s10] [(.int x5), (.int u4), (.ref u0)])) rfl (by rw [hml]; rfl) (argsL := [(.ref u0), (.int u4), (.int x5)]) (rest := []) (lenOf pd_2 rfl) rfl (by show 2 * 0 + _ ≤ _; exact Nat.le_of_eq rfl) (hb hby d5_147) (fun _ _ => ⟨rfl, e0, (by decide : 1 + 0 ≤ _), (by decide : 12 + 0 ≤ _)⟩)
  dsimp only [Pt.U, Pt.locs, Pt.cells, Pt.slots] at X2 l2 y2 z2 st2 hQ2
  replace y2 : k2 = 1 := y2
  replace z2 : n2 = 12 := z2
  rw [y2, z2] at X2
  obtain ⟨w2, rfl, N2q, nw2a, nw2b, nw2c, e2⟩ := hQ2
  have N2 : Fr n0 L2 := l2 ▸ Fr.app N0 N2q
  obtain ⟨z3, ez3⟩ : ∃ y : Int32, y = (w2 - (128 : Int32)) := ⟨_, rfl⟩
  have nz3 : z3.toInt = w2.toInt - (128 : Int) := by rw [ez3]; exact own_isub (x := w2.toInt) (y := (128 : Int)) rfl rfl (by omega) (by omega)
  obtain ⟨z4, ez4⟩ : ∃ y : Int32, y = ((0 : Int32) <<< ((8 : Int32) &&& 31)) := ⟨_, rfl⟩
  have nz4 : z4.toInt = (0 : Int) * 256 := by rw [ez4]; exact own_shl8 (x := (0 : Int)) rfl (by omega) (by omega)
  obtain ⟨z5, ez5⟩ : ∃ y : Int32, y = (z1 + (1 : Int32)) := ⟨_, rfl⟩
  have nz5 : z5.toInt = z1.toInt + (1 : Int) := by rw [ez5]; exact own_iadd (x := z1.toInt) (y := (1 : Int)) rfl rfl (by omega) (by omega)
  obtain ⟨_, _, ⟨T6, L6, k6, n6⟩, -, X6, ⟨Lc6, hQ6, l6, y6, z6⟩, st6⟩ := Jvm.LawKit.callS X2 hx (y := (⟨"com/example/fides/fides/Der", "byteAt", "([BII)I"⟩ : MethodName)) hown (mvT hZ (hw _ (List.mem_of_getElem? (i := 21) rfl))) (mvT hZ (hw _ (List.mem_of_getElem? (i := 22) rfl))) (mvT hZ (hw _ (List.mem_of_getElem? (i := 18) rfl))) (mvT hZ (hw _ (List.mem_of_getElem? (i := 23) rfl))) (by decide) (backOf (W := 1) (rm6 l Z a0 hw [] u0 z1 x5 nn gg h0 n0 Z0 V_u0 (by omega) (by omega) (by omega)) hZ (hw _ (List.mem_of_getElem? (i := 23) rfl)) (hw _ (List.mem_of_getElem? (i := 18) rfl)) (by decide) (by decide)) (g := (mkF m 233 #[.val (.ref u0), .val (.int u1), .val (.ref u2), .val (.int u3), .val (.int z5), .val (.int x5), .val (.int x6), s7, .val (.int (0 : Int32)), .val (.int z3), .val (.int (0 : Int32))] [(.int x5), (.int z1), (.ref u0), (.int z4)])) rfl (by rw [hml]; rfl) (argsL := [(.ref u0), (.int z1), (.int x5)]) (rest := [(.int z4)]) (lenOf pd_2 rfl) rfl (by show 2 * 0 + _ ≤ _; exact Nat.le_of_eq rfl) (hb hby d5_233) (fun _ _ => ⟨rfl, e2, (by decide : 1 + 0 ≤ _), (by decide : 12 + 0 ≤ _)⟩)
  dsimp only [Pt.U, Pt.locs, Pt.cells, Pt.slots] at X6 l6 y6 z6 st6 hQ6
  replace y6 : k6 = 1 := y6
  replace z6 : n6 = 12 := z6
  rw [y6, z6] at X6
  obtain ⟨w6, rfl, N6q, nw6a, nw6b, nw6c, e6⟩ := hQ6
  have N6 : Fr n0 L6 := l6 ▸ Fr.app N2 N6q
  obtain ⟨z7, ez7⟩ : ∃ y : Int32, y = (z4 ||| w6) := ⟨_, rfl⟩
  have rb6 : w6.toInt = gg (u4.toInt + 1) := by rw [← show z1.toInt = u4.toInt + 1 from by omega]; exact nw6a
  have nz7 : z7.toInt = z4.toInt + w6.toInt := by rw [ez7]; exact own_or 8 256 (by decide) (by decide) (x := z4.toInt) (y := w6.toInt) rfl rfl (by omega) (by omega) (by omega) (by omega) (by omega)
  obtain ⟨z8, ez8⟩ : ∃ y : Int32, y = (z7 <<< ((8 : Int32) &&& 31)) := ⟨_, rfl⟩
  have nz8 : z8.toInt = z7.toInt * 256 := by rw [ez8]; exact own_shl8 (x := z7.toInt) rfl (by omega) (by omega)
  obtain ⟨z9, ez9⟩ : ∃ y : Int32, y = (z5 + (1 : Int32)) := ⟨_, rfl⟩
  have nz9 : z9.toInt = z5.toInt + (1 : Int) := by rw [ez9]; exact own_iadd (x := z5.toInt) (y := (1 : Int)) rfl rfl (by omega) (by omega)
  obtain ⟨_, _, ⟨T10, L10, k10, n10⟩, -, X10, ⟨Lc10, hQ10, l10, y10, z10⟩, st10⟩ := Jvm.LawKit.callS X6 hx (y := (⟨"com/example/fides/fides/Der", "byteAt", "([BII)I"⟩ : MethodName)) hown (mvT hZ (hw _ (List.mem_of_getElem? (i := 21) rfl))) (mvT hZ (hw _ (List.mem_of_getElem? (i := 22) rfl))) (mvT hZ (hw _ (List.mem_of_getElem? (i := 18) rfl))) (mvT hZ (hw _ (List.mem_of_getElem? (i := 23) rfl))) (by decide) (backOf (W := 1) (rm6 l Z a0 hw [] u0 z5 x5 nn gg h0 n0 Z0 V_u0 (by omega) (by omega) (by omega)) hZ (hw _ (List.mem_of_getElem? (i := 23) rfl)) (hw _ (List.mem_of_getElem? (i := 18) rfl)) (by decide) (by decide)) (g := (mkF m 233 #[.val (.ref u0), .val (.int u1), .val (.ref u2), .val (.int u3), .val (.int z9), .val (.int x5), .val (.int x6), s7, .val (.int z7), .val (.int z3), .val (.int (1 : Int32))] [(.int x5), (.int z5), (.ref u0), (.int z8)])) rfl (by rw [hml]; rfl) (argsL := [(.ref u0), (.int z5), (.int x5)]) (rest := [(.int z8)]) (lenOf pd_2 rfl) rfl (by show 2 * 0 + _ ≤ _; exact Nat.le_of_eq rfl) (hb hby d5_233) (fun _ _ => ⟨rfl, e6, (by decide : 1 + 0 ≤ _), (by decide : 12 + 0 ≤ _)⟩)
  dsimp only [Pt.U, Pt.locs, Pt.cells, Pt.slots] at X10 l10 y10 z10 st10 hQ10
  replace y10 : k10 = 1 := y10
  replace z10 : n10 = 12 := z10
  rw [y10, z10] at X10
  obtain ⟨w10, rfl, N10q, nw10a, nw10b, nw10c, e10⟩ := hQ10
  have N10 : Fr n0 L10 := l10 ▸ Fr.app N6 N10q
  obtain ⟨z11, ez11⟩ : ∃ y : Int32, y = (z8 ||| w10) := ⟨_, rfl⟩
  have rb10 : w10.toInt = gg (u4.toInt + 2) := by rw [← show z5.toInt = u4.toInt + 2 from by omega]; exact nw10a
  have nz11 : z11.toInt = z8.toInt + w10.toInt := by rw [ez11]; exact own_or 8 256 (by decide) (by decide) (x := z8.toInt) (y := w10.toInt) rfl rfl (by omega) (by omega) (by omega) (by omega) (by omega)
  obtain ⟨z12, ez12⟩ : ∃ y : Int32, y = (z11 <<< ((8 : Int32) &&& 31)) := ⟨_, rfl⟩
  have nz12 : z12.toInt = z11.toInt * 256 := by rw [ez12]; exact own_shl8 (x := z11.toInt) rfl (by omega) (by omega)
  obtain ⟨z13, ez13⟩ : ∃ y : Int32, y = (z9 + (1 : Int32)) := ⟨_, rfl⟩
  have nz13 : z13.toInt = z9.toInt + (1 : Int) := by rw [ez13]; exact own_iadd (x := z9.toInt) (y := (1 : Int)) rfl rfl (by omega) (by omega)
  obtain ⟨_, _, ⟨T14, L14, k14, n14⟩, -, X14, ⟨Lc14, hQ14, l14, y14, z14⟩, st14⟩ := Jvm.LawKit.callS X10 hx (y := (⟨"com/example/fides/fides/Der", "byteAt", "([BII)I"⟩ : MethodName)) hown (mvT hZ (hw _ (List.mem_of_getElem? (i := 21) rfl))) (mvT hZ (hw _ (List.mem_of_getElem? (i := 22) rfl))) (mvT hZ (hw _ (List.mem_of_getElem? (i := 18) rfl))) (mvT hZ (hw _ (List.mem_of_getElem? (i := 23) rfl))) (by decide) (backOf (W := 1) (rm6 l Z a0 hw [] u0 z9 x5 nn gg h0 n0 Z0 V_u0 (by omega) (by omega) (by omega)) hZ (hw _ (List.mem_of_getElem? (i := 23) rfl)) (hw _ (List.mem_of_getElem? (i := 18) rfl)) (by decide) (by decide)) (g := (mkF m 233 #[.val (.ref u0), .val (.int u1), .val (.ref u2), .val (.int u3), .val (.int z13), .val (.int x5), .val (.int x6), s7, .val (.int z11), .val (.int z3), .val (.int (2 : Int32))] [(.int x5), (.int z9), (.ref u0), (.int z12)])) rfl (by rw [hml]; rfl) (argsL := [(.ref u0), (.int z9), (.int x5)]) (rest := [(.int z12)]) (lenOf pd_2 rfl) rfl (by show 2 * 0 + _ ≤ _; exact Nat.le_of_eq rfl) (hb hby d5_233) (fun _ _ => ⟨rfl, e10, (by decide : 1 + 0 ≤ _), (by decide : 12 + 0 ≤ _)⟩)
  dsimp only [Pt.U, Pt.locs, Pt.cells, Pt.slots] at X14 l14 y14 z14 st14 hQ14
  replace y14 : k14 = 1 := y14
  replace z14 : n14 = 12 := z14
  rw [y14, z14] at X14
  obtain ⟨w14, rfl, N14q, nw14a, nw14b, nw14c, e14⟩ := hQ14
  have N14 : Fr n0 L14 := l14 ▸ Fr.app N10 N14q
  obtain ⟨z15, ez15⟩ : ∃ y : Int32, y = (z12 ||| w14) := ⟨_, rfl⟩
  have rb14 : w14.toInt = gg (u4.toInt + 3) := by rw [← show z9.toInt = u4.toInt + 3 from by omega]; exact nw14a
  have nz15 : z15.toInt = z12.toInt + w14.toInt := by rw [ez15]; exact own_or 8 256 (by decide) (by decide) (x := z12.toInt) (y := w14.toInt) rfl rfl (by omega) (by omega) (by omega) (by omega) (by omega)
  refine ⟨T14, _, z13, z15, (.val (.int z3)), (.val (.int (3 : Int32))), X14, e14, N14, (by omega), (by omega), (Or.inr ⟨_, rfl⟩), (Or.inr ⟨_, rfl⟩), fun target kt => ?_⟩
  show Steps p.tables e below (s₁.setTop (mkF m 139 #[.val (.ref u0), .val (.int u1), .val (.ref u2), .val (.int u3), .val (.int u4), .val (.int x5), .val (.int x6), s7, s8, s9, s10] [])) _
  refine XS.aloadN X0.here hx rfl (hb hby d5_139) rfl rfl ?_
  refine XS.iload X0.here hx rfl (hb hby d5_140) rfl ?_
  show Steps p.tables e below (s₁.setTop (mkF m 142 #[.val (.ref u0), .val (.int u1), .val (.ref u2), .val (.int u3), .val (.int u4), .val (.int x5), .val (.int x6), s7, s8, s9, s10] [(.int u4), (.ref u0)])) _
  refine XS.iinc X0.here hx rfl (hb hby d5_142) rfl (l' := #[.val (.ref u0), .val (.int u1), .val (.ref u2), .val (.int u3), .val (.int (u4 + (1 : Int32))), .val (.int x5), .val (.int x6), s7, s8, s9, s10]) rfl ?_
  show Steps p.tables e below (s₁.setTop (mkF m 145 #[.val (.ref u0), .val (.int u1), .val (.ref u2), .val (.int u3), .val (.int (u4 + (1 : Int32))), .val (.int x5), .val (.int x6), s7, s8, s9, s10] [(.int u4), (.ref u0)])) _
  rw [← ez1]
  refine XS.iload X0.here hx rfl (hb hby d5_145) rfl ?_
  refine st2 _ ?_
  show Steps p.tables e below (T2.setTop (mkF m 150 #[.val (.ref u0), .val (.int u1), .val (.ref u2), .val (.int u3), .val (.int z1), .val (.int x5), .val (.int x6), s7, s8, s9, s10] [(.int w2)])) _
  refine XS.istore X2.here hx rfl (hb hby d5_150) rfl (l' := #[.val (.ref u0), .val (.int u1), .val (.ref u2), .val (.int u3), .val (.int z1), .val (.int x5), .val (.int x6), s7, .val (.int w2), s9, s10]) (by rcases P_s8 with rfl | ⟨_, rfl⟩ <;> rfl) ?_
  refine XS.iload X2.here hx rfl (hb hby d5_152) rfl ?_
  refine XS.sipush X2.here hx rfl (hb hby d5_154) ?_
  refine XS.icmpYes X2.here hx rfl (pc0 := 157) (pc' := 170) rfl (hb hby d5_157) rfl (feq (own_eq0' (x := w2.toInt) (y := (128 : Int)) rfl rfl (by omega))).2 (by decide) (by decide) ?_
  refine XS.iload X2.here hx rfl (hb hby d5_170) rfl ?_
  refine XS.sipush X2.here hx rfl (hb hby d5_172) ?_
  refine XS.icmpNo X2.here hx rfl (hb hby d5_175) rfl (tlt (own_lt1' (x := (128 : Int)) (y := w2.toInt) rfl rfl (by omega))).2.2.2 ?_
  refine XS.iload X2.here hx rfl (hb hby d5_178) rfl ?_
  refine XS.sipush X2.here hx rfl (hb hby d5_180) ?_
  show Steps p.tables e below (T2.setTop (mkF m 183 #[.val (.ref u0), .val (.int u1), .val (.ref u2), .val (.int u3), .val (.int z1), .val (.int x5), .val (.int x6), s7, .val (.int w2), s9, s10] [(.int (128 : Int32)), (.int w2)])) _
  refine XS.isub X2.here hx rfl (hb hby d5_183) rfl ?_
  show Steps p.tables e below (T2.setTop (mkF m 184 #[.val (.ref u0), .val (.int u1), .val (.ref u2), .val (.int u3), .val (.int z1), .val (.int x5), .val (.int x6), s7, .val (.int w2), s9, s10] [(.int (w2 - (128 : Int32)))])) _
  rw [← ez3]
  refine XS.istore X2.here hx rfl (hb hby d5_184) rfl (l' := #[.val (.ref u0), .val (.int u1), .val (.ref u2), .val (.int u3), .val (.int z1), .val (.int x5), .val (.int x6), s7, .val (.int w2), .val (.int z3), s10]) (by rcases P_s9 with rfl | ⟨_, rfl⟩ <;> rfl) ?_
  refine XS.iload X2.here hx rfl (hb hby d5_186) rfl ?_
  refine XS.iconst X2.here hx rfl (hb hby d5_188) ?_
  refine XS.icmpYes X2.here hx rfl (pc0 := 189) (pc' := 207) rfl (hb hby d5_189) rfl (flt (own_lt0' (x := (3 : Int)) (y := z3.toInt) rfl rfl (by omega))).2.2.2 (by decide) (by decide) ?_
  refine XS.iconst X2.here hx rfl (hb hby d5_207) ?_
  refine XS.istore X2.here hx rfl (hb hby d5_208) rfl (l' := #[.val (.ref u0), .val (.int u1), .val (.ref u2), .val (.int u3), .val (.int z1), .val (.int x5), .val (.int x6), s7, .val (.int (0 : Int32)), .val (.int z3), s10]) rfl ?_
  refine XS.iconst X2.here hx rfl (hb hby d5_210) ?_
  refine XS.istore X2.here hx rfl (hb hby d5_211) rfl (l' := #[.val (.ref u0), .val (.int u1), .val (.ref u2), .val (.int u3), .val (.int z1), .val (.int x5), .val (.int x6), s7, .val (.int (0 : Int32)), .val (.int z3), .val (.int (0 : Int32))]) (by rcases P_s10 with rfl | ⟨_, rfl⟩ <;> rfl) ?_
  refine XS.iload X2.here hx rfl (hb hby d5_213) rfl ?_
  refine XS.iload X2.here hx rfl (hb hby d5_215) rfl ?_
  refine XS.icmpNo X2.here hx rfl (hb hby d5_217) rfl (tlt (own_lt1' (x := (0 : Int)) (y := z3.toInt) rfl rfl (by omega))).2.1 ?_
  show Steps p.tables e below (T2.setTop (mkF m 220 #[.val (.ref u0), .val (.int u1), .val (.ref u2), .val (.int u3), .val (.int z1), .val (.int x5), .val (.int x6), s7, .val (.int (0 : Int32)), .val (.int z3), .val (.int (0 : Int32))] [])) _
  refine XS.iload X2.here hx rfl (hb hby d5_220) rfl ?_
  refine XS.bipush X2.here hx rfl (hb hby d5_222) ?_
  show Steps p.tables e below (T2.setTop (mkF m 224 #[.val (.ref u0), .val (.int u1), .val (.ref u2), .val (.int u3), .val (.int z1), .val (.int x5), .val (.int x6), s7, .val (.int (0 : Int32)), .val (.int z3), .val (.int (0 : Int32))] [(.int (8 : Int32)), (.int (0 : Int32))])) _
  refine XS.ishl X2.here hx rfl (hb hby d5_224) rfl ?_
  show Steps p.tables e below (T2.setTop (mkF m 225 #[.val (.ref u0), .val (.int u1), .val (.ref u2), .val (.int u3), .val (.int z1), .val (.int x5), .val (.int x6), s7, .val (.int (0 : Int32)), .val (.int z3), .val (.int (0 : Int32))] [(.int ((0 : Int32) <<< ((8 : Int32) &&& 31)))])) _
  rw [← ez4]
  refine XS.aloadN X2.here hx rfl (hb hby d5_225) rfl rfl ?_
  refine XS.iload X2.here hx rfl (hb hby d5_226) rfl ?_
  show Steps p.tables e below (T2.setTop (mkF m 228 #[.val (.ref u0), .val (.int u1), .val (.ref u2), .val (.int u3), .val (.int z1), .val (.int x5), .val (.int x6), s7, .val (.int (0 : Int32)), .val (.int z3), .val (.int (0 : Int32))] [(.int z1), (.ref u0), (.int z4)])) _
  refine XS.iinc X2.here hx rfl (hb hby d5_228) rfl (l' := #[.val (.ref u0), .val (.int u1), .val (.ref u2), .val (.int u3), .val (.int (z1 + (1 : Int32))), .val (.int x5), .val (.int x6), s7, .val (.int (0 : Int32)), .val (.int z3), .val (.int (0 : Int32))]) rfl ?_
  show Steps p.tables e below (T2.setTop (mkF m 231 #[.val (.ref u0), .val (.int u1), .val (.ref u2), .val (.int u3), .val (.int (z1 + (1 : Int32))), .val (.int x5), .val (.int x6), s7, .val (.int (0 : Int32)), .val (.int z3), .val (.int (0 : Int32))] [(.int z1), (.ref u0), (.int z4)])) _
  rw [← ez5]
  refine XS.iload X2.here hx rfl (hb hby d5_231) rfl ?_
  refine st6 _ ?_
  show Steps p.tables e below (T6.setTop (mkF m 236 #[.val (.ref u0), .val (.int u1), .val (.ref u2), .val (.int u3), .val (.int z5), .val (.int x5), .val (.int x6), s7, .val (.int (0 : Int32)), .val (.int z3), .val (.int (0 : Int32))] [(.int w6), (.int z4)])) _
  refine XS.ior X6.here hx rfl (hb hby d5_236) rfl ?_
  show Steps p.tables e below (T6.setTop (mkF m 237 #[.val (.ref u0), .val (.int u1), .val (.ref u2), .val (.int u3), .val (.int z5), .val (.int x5), .val (.int x6), s7, .val (.int (0 : Int32)), .val (.int z3), .val (.int (0 : Int32))] [(.int (z4 ||| w6))])) _
  rw [← ez7]
  refine XS.istore X6.here hx rfl (hb hby d5_237) rfl (l' := #[.val (.ref u0), .val (.int u1), .val (.ref u2), .val (.int u3), .val (.int z5), .val (.int x5), .val (.int x6), s7, .val (.int z7), .val (.int z3), .val (.int (0 : Int32))]) rfl ?_
  show Steps p.tables e below (T6.setTop (mkF m 239 #[.val (.ref u0), .val (.int u1), .val (.ref u2), .val (.int u3), .val (.int z5), .val (.int x5), .val (.int x6), s7, .val (.int z7), .val (.int z3), .val (.int (0 : Int32))] [])) _
  refine XS.iinc X6.here hx rfl (hb hby d5_239) rfl (l' := #[.val (.ref u0), .val (.int u1), .val (.ref u2), .val (.int u3), .val (.int z5), .val (.int x5), .val (.int x6), s7, .val (.int z7), .val (.int z3), .val (.int (1 : Int32))]) rfl ?_
  show Steps p.tables e below (T6.setTop (mkF m 242 #[.val (.ref u0), .val (.int u1), .val (.ref u2), .val (.int u3), .val (.int z5), .val (.int x5), .val (.int x6), s7, .val (.int z7), .val (.int z3), .val (.int (1 : Int32))] [])) _
  refine XS.goto X6.here hx rfl (pc0 := 242) (pc' := 213) rfl (hb hby d5_242) (by decide) (by decide) ?_
  refine XS.iload X6.here hx rfl (hb hby d5_213) rfl ?_
  refine XS.iload X6.here hx rfl (hb hby d5_215) rfl ?_
  refine XS.icmpNo X6.here hx rfl (hb hby d5_217) rfl (tlt (own_lt1' (x := (1 : Int)) (y := z3.toInt) rfl rfl (by omega))).2.1 ?_
  refine XS.iload X6.here hx rfl (hb hby d5_220) rfl ?_
  refine XS.bipush X6.here hx rfl (hb hby d5_222) ?_
  show Steps p.tables e below (T6.setTop (mkF m 224 #[.val (.ref u0), .val (.int u1), .val (.ref u2), .val (.int u3), .val (.int z5), .val (.int x5), .val (.int x6), s7, .val (.int z7), .val (.int z3), .val (.int (1 : Int32))] [(.int (8 : Int32)), (.int z7)])) _
  refine XS.ishl X6.here hx rfl (hb hby d5_224) rfl ?_
  show Steps p.tables e below (T6.setTop (mkF m 225 #[.val (.ref u0), .val (.int u1), .val (.ref u2), .val (.int u3), .val (.int z5), .val (.int x5), .val (.int x6), s7, .val (.int z7), .val (.int z3), .val (.int (1 : Int32))] [(.int (z7 <<< ((8 : Int32) &&& 31)))])) _
  rw [← ez8]
  refine XS.aloadN X6.here hx rfl (hb hby d5_225) rfl rfl ?_
  refine XS.iload X6.here hx rfl (hb hby d5_226) rfl ?_
  show Steps p.tables e below (T6.setTop (mkF m 228 #[.val (.ref u0), .val (.int u1), .val (.ref u2), .val (.int u3), .val (.int z5), .val (.int x5), .val (.int x6), s7, .val (.int z7), .val (.int z3), .val (.int (1 : Int32))] [(.int z5), (.ref u0), (.int z8)])) _
  refine XS.iinc X6.here hx rfl (hb hby d5_228) rfl (l' := #[.val (.ref u0), .val (.int u1), .val (.ref u2), .val (.int u3), .val (.int (z5 + (1 : Int32))), .val (.int x5), .val (.int x6), s7, .val (.int z7), .val (.int z3), .val (.int (1 : Int32))]) rfl ?_
  show Steps p.tables e below (T6.setTop (mkF m 231 #[.val (.ref u0), .val (.int u1), .val (.ref u2), .val (.int u3), .val (.int (z5 + (1 : Int32))), .val (.int x5), .val (.int x6), s7, .val (.int z7), .val (.int z3), .val (.int (1 : Int32))] [(.int z5), (.ref u0), (.int z8)])) _
  rw [← ez9]
  refine XS.iload X6.here hx rfl (hb hby d5_231) rfl ?_
  refine st10 _ ?_
  show Steps p.tables e below (T10.setTop (mkF m 236 #[.val (.ref u0), .val (.int u1), .val (.ref u2), .val (.int u3), .val (.int z9), .val (.int x5), .val (.int x6), s7, .val (.int z7), .val (.int z3), .val (.int (1 : Int32))] [(.int w10), (.int z8)])) _
  refine XS.ior X10.here hx rfl (hb hby d5_236) rfl ?_
  show Steps p.tables e below (T10.setTop (mkF m 237 #[.val (.ref u0), .val (.int u1), .val (.ref u2), .val (.int u3), .val (.int z9), .val (.int x5), .val (.int x6), s7, .val (.int z7), .val (.int z3), .val (.int (1 : Int32))] [(.int (z8 ||| w10))])) _
  rw [← ez11]
  refine XS.istore X10.here hx rfl (hb hby d5_237) rfl (l' := #[.val (.ref u0), .val (.int u1), .val (.ref u2), .val (.int u3), .val (.int z9), .val (.int x5), .val (.int x6), s7, .val (.int z11), .val (.int z3), .val (.int (1 : Int32))]) rfl ?_
  show Steps p.tables e below (T10.setTop (mkF m 239 #[.val (.ref u0), .val (.int u1), .val (.ref u2), .val (.int u3), .val (.int z9), .val (.int x5), .val (.int x6), s7, .val (.int z11), .val (.int z3), .val (.int (1 : Int32))] [])) _
  refine XS.iinc X10.here hx rfl (hb hby d5_239) rfl (l' := #[.val (.ref u0), .val (.int u1), .val (.ref u2), .val (.int u3), .val (.int z9), .val (.int x5), .val (.int x6), s7, .val (.int z11), .val (.int z3), .val (.int (2 : Int32))]) rfl ?_
  show Steps p.tables e below (T10.setTop (mkF m 242 #[.val (.ref u0), .val (.int u1), .val (.ref u2), .val (.int u3), .val (.int z9), .val (.int x5), .val (.int x6), s7, .val (.int z11), .val (.int z3), .val (.int (2 : Int32))] [])) _
  refine XS.goto X10.here hx rfl (pc0 := 242) (pc' := 213) rfl (hb hby d5_242) (by decide) (by decide) ?_
  refine XS.iload X10.here hx rfl (hb hby d5_213) rfl ?_
  refine XS.iload X10.here hx rfl (hb hby d5_215) rfl ?_
  refine XS.icmpNo X10.here hx rfl (hb hby d5_217) rfl (tlt (own_lt1' (x := (2 : Int)) (y := z3.toInt) rfl rfl (by omega))).2.1 ?_
  refine XS.iload X10.here hx rfl (hb hby d5_220) rfl ?_
  refine XS.bipush X10.here hx rfl (hb hby d5_222) ?_
  show Steps p.tables e below (T10.setTop (mkF m 224 #[.val (.ref u0), .val (.int u1), .val (.ref u2), .val (.int u3), .val (.int z9), .val (.int x5), .val (.int x6), s7, .val (.int z11), .val (.int z3), .val (.int (2 : Int32))] [(.int (8 : Int32)), (.int z11)])) _
  refine XS.ishl X10.here hx rfl (hb hby d5_224) rfl ?_
  show Steps p.tables e below (T10.setTop (mkF m 225 #[.val (.ref u0), .val (.int u1), .val (.ref u2), .val (.int u3), .val (.int z9), .val (.int x5), .val (.int x6), s7, .val (.int z11), .val (.int z3), .val (.int (2 : Int32))] [(.int (z11 <<< ((8 : Int32) &&& 31)))])) _
  rw [← ez12]
  refine XS.aloadN X10.here hx rfl (hb hby d5_225) rfl rfl ?_
  refine XS.iload X10.here hx rfl (hb hby d5_226) rfl ?_
  show Steps p.tables e below (T10.setTop (mkF m 228 #[.val (.ref u0), .val (.int u1), .val (.ref u2), .val (.int u3), .val (.int z9), .val (.int x5), .val (.int x6), s7, .val (.int z11), .val (.int z3), .val (.int (2 : Int32))] [(.int z9), (.ref u0), (.int z12)])) _
  refine XS.iinc X10.here hx rfl (hb hby d5_228) rfl (l' := #[.val (.ref u0), .val (.int u1), .val (.ref u2), .val (.int u3), .val (.int (z9 + (1 : Int32))), .val (.int x5), .val (.int x6), s7, .val (.int z11), .val (.int z3), .val (.int (2 : Int32))]) rfl ?_
  show Steps p.tables e below (T10.setTop (mkF m 231 #[.val (.ref u0), .val (.int u1), .val (.ref u2), .val (.int u3), .val (.int (z9 + (1 : Int32))), .val (.int x5), .val (.int x6), s7, .val (.int z11), .val (.int z3), .val (.int (2 : Int32))] [(.int z9), (.ref u0), (.int z12)])) _
  rw [← ez13]
  refine XS.iload X10.here hx rfl (hb hby d5_231) rfl ?_
  refine st14 _ ?_
  show Steps p.tables e below (T14.setTop (mkF m 236 #[.val (.ref u0), .val (.int u1), .val (.ref u2), .val (.int u3), .val (.int z13), .val (.int x5), .val (.int x6), s7, .val (.int z11), .val (.int z3), .val (.int (2 : Int32))] [(.int w14), (.int z12)])) _
  refine XS.ior X14.here hx rfl (hb hby d5_236) rfl ?_
  show Steps p.tables e below (T14.setTop (mkF m 237 #[.val (.ref u0), .val (.int u1), .val (.ref u2), .val (.int u3), .val (.int z13), .val (.int x5), .val (.int x6), s7, .val (.int z11), .val (.int z3), .val (.int (2 : Int32))] [(.int (z12 ||| w14))])) _
  rw [← ez15]
  refine XS.istore X14.here hx rfl (hb hby d5_237) rfl (l' := #[.val (.ref u0), .val (.int u1), .val (.ref u2), .val (.int u3), .val (.int z13), .val (.int x5), .val (.int x6), s7, .val (.int z15), .val (.int z3), .val (.int (2 : Int32))]) rfl ?_
  show Steps p.tables e below (T14.setTop (mkF m 239 #[.val (.ref u0), .val (.int u1), .val (.ref u2), .val (.int u3), .val (.int z13), .val (.int x5), .val (.int x6), s7, .val (.int z15), .val (.int z3), .val (.int (2 : Int32))] [])) _
  refine XS.iinc X14.here hx rfl (hb hby d5_239) rfl (l' := #[.val (.ref u0), .val (.int u1), .val (.ref u2), .val (.int u3), .val (.int z13), .val (.int x5), .val (.int x6), s7, .val (.int z15), .val (.int z3), .val (.int (3 : Int32))]) rfl ?_
  show Steps p.tables e below (T14.setTop (mkF m 242 #[.val (.ref u0), .val (.int u1), .val (.ref u2), .val (.int u3), .val (.int z13), .val (.int x5), .val (.int x6), s7, .val (.int z15), .val (.int z3), .val (.int (3 : Int32))] [])) _
  refine XS.goto X14.here hx rfl (pc0 := 242) (pc' := 213) rfl (hb hby d5_242) (by decide) (by decide) ?_
  refine XS.iload X14.here hx rfl (hb hby d5_213) rfl ?_
  refine XS.iload X14.here hx rfl (hb hby d5_215) rfl ?_
  refine XS.icmpYes X14.here hx rfl (pc0 := 217) (pc' := 245) rfl (hb hby d5_217) rfl (flt (own_lt0' (x := (3 : Int)) (y := z3.toInt) rfl rfl (by omega))).2.1 (by decide) (by decide) ?_
  exact kt
theorem sg_len (l : Launch) (Z : State) (a0 : Array Value) (hw : ∀ d ∈ tables_1, d.before a0 Z = true) {p : Program} {e : Env} {s : State} {m : MethodId} {args : Array Value} {below : List Frame} {meth : Method} {c : Code} {s₁ : State} {locs0 : List Loc} (u0 : Addr) (u1 : Int32) (u2 : Addr) (u3 : Int32) (u4 : Int32) (x5 : Int32) (x6 : Int32) (s7 : Slot) (s8 : Slot) (s9 : Slot) (s10 : Slot) (nn : Int) (gg : Int → Int) (cl : Int) (h0 : Heap) (n0 : Nat) (Z0 : n0 ≤ h0.size) (X0 : Stand p l e ({ frames := 1, cells := 1, slots := 12, locals := 15 } : Room) s m args below meth c s₁ locs0 1 12) (hx : p.tables.exec = Jvm.exec) (hby : c.code = prog_3_method_2_code) (hml : c.maxLocals = 11) (hZ : Z.Warmed39 s.vm) (hown : s.vm.findClass "com/example/fides/fides/Der" = some m.cls) (e0 : s₁.heap = h0) (N0 : Fr n0 locs0) (V_u0 : Byt Z h0 u0 nn gg) (hM : nn ≤ 65600) (hp : 0 ≤ u4.toInt) (hl : LenOK gg u4.toInt cl) (hc0 : 0 ≤ cl) (hfit : u4.toInt + ls cl + cl ≤ x5.toInt ∧ x5.toInt ≤ nn) (P_s8 : Pl s8) (P_s9 : Pl s9) (P_s10 : Pl s10) : ∃ (T' : State) (locs' : List Loc) (z4 : Int32) (x8 : Int32) (t9 : Slot) (t10 : Slot), Stand p l e ({ frames := 1, cells := 1, slots := 12, locals := 15 } : Room) s m args below meth c T' locs' 1 12 ∧ T'.heap = h0 ∧ Fr n0 locs' ∧ (z4.toInt = u4.toInt + ls cl) ∧ (x8.toInt = cl) ∧ (Pl t9) ∧ (Pl t10) ∧ ∀ target, Steps p.tables e below (T'.setTop (mkF m 245 #[.val (.ref u0), .val (.int u1), .val (.ref u2), .val (.int u3), .val (.int z4), .val (.int x5), .val (.int x6), s7, .val (.int x8), t9, t10] [])) target → Steps p.tables e below (s₁.setTop (mkF m 139 #[.val (.ref u0), .val (.int u1), .val (.ref u2), .val (.int u3), .val (.int u4), .val (.int x5), .val (.int x6), s7, s8, s9, s10] [])) target := by
  by_cases v1 : cl < 128
  · exact sg_len0 l Z a0 hw u0 u1 u2 u3 u4 x5 x6 s7 s8 s9 s10 nn gg cl h0 n0 Z0 X0 hx hby hml hZ hown e0 N0 V_u0 hM hp hl hc0 hfit P_s8 P_s9 P_s10 v1
  by_cases v2 : cl < 256
  · exact sg_len1 l Z a0 hw u0 u1 u2 u3 u4 x5 x6 s7 s8 s9 s10 nn gg cl h0 n0 Z0 X0 hx hby hml hZ hown e0 N0 V_u0 hM hp hl hc0 hfit P_s8 P_s9 P_s10 ⟨v1, v2⟩
  by_cases v3 : cl < 65536
  · exact sg_len2 l Z a0 hw u0 u1 u2 u3 u4 x5 x6 s7 s8 s9 s10 nn gg cl h0 n0 Z0 X0 hx hby hml hZ hown e0 N0 V_u0 hM hp hl hc0 hfit P_s8 P_s9 P_s10 ⟨v2, v3⟩
  · exact sg_len3 l Z a0 hw u0 u1 u2 u3 u4 x5 x6 s7 s8 s9 s10 nn gg cl h0 n0 Z0 X0 hx hby hml hZ hown e0 N0 V_u0 hM hp hl hc0 hfit P_s8 P_s9 P_s10 v3
theorem d5_31 : decode prog_3_method_2_code 31 = .ok (.iload 4, 2) := by decide +kernel
theorem d5_33 : decode prog_3_method_2_code 33 = .ok (.aload_n 0, 1) := by decide +kernel
theorem d5_34 : decode prog_3_method_2_code 34 = .ok (.arraylength, 1) := by decide +kernel
theorem d5_35 : decode prog_3_method_2_code 35 = .ok (.if_icmp .ge 281, 3) := by decide +kernel
theorem d5_247 : decode prog_3_method_2_code 247 = .ok (.iload 5, 2) := by decide +kernel
theorem d5_249 : decode prog_3_method_2_code 249 = .ok (.iload 4, 2) := by decide +kernel
theorem d5_251 : decode prog_3_method_2_code 251 = .ok (.isub, 1) := by decide +kernel
theorem d5_252 : decode prog_3_method_2_code 252 = .ok (.if_icmp .le 13, 3) := by decide +kernel
theorem d5_265 : decode prog_3_method_2_code 265 = .ok (.iload 6, 2) := by decide +kernel
theorem d5_267 : decode prog_3_method_2_code 267 = .ok (.bipush 32, 2) := by decide +kernel
theorem d5_269 : decode prog_3_method_2_code 269 = .ok (.iand, 1) := by decide +kernel
theorem d5_270 : decode prog_3_method_2_code 270 = .ok (.ifCond .ne 13, 3) := by decide +kernel
theorem d5_273 : decode prog_3_method_2_code 273 = .ok (.iload 4, 2) := by decide +kernel
theorem d5_275 : decode prog_3_method_2_code 275 = .ok (.iload 8, 2) := by decide +kernel
theorem d5_277 : decode prog_3_method_2_code 277 = .ok (.iadd, 1) := by decide +kernel
theorem d5_278 : decode prog_3_method_2_code 278 = .ok (.istore 4, 2) := by decide +kernel
theorem d5_280 : decode prog_3_method_2_code 280 = .ok (.goto 33, 3) := by decide +kernel
theorem d5_313 : decode prog_3_method_2_code 313 = .ok (.goto (-282), 3) := by decide +kernel
set_option maxRecDepth 65536 in
set_option maxHeartbeats 40000000 in
theorem sg_turn0 (l : Launch) (Z : State) (a0 : Array Value) (hw : ∀ d ∈ tables_1, d.before a0 Z = true) {p : Program} {e : Env} {s : State} {m : MethodId} {args : Array Value} {below : List Frame} {meth : Method} {c : Code} {s₁ : State} {locs0 : List Loc} (u0 : Addr) (u1 : Int32) (u2 : Addr) (u3 : Int32) (u4 : Int32) (s5 : Slot) (s6 : Slot) (s7 : Slot) (s8 : Slot) (s9 : Slot) (s10 : Slot) (nn : Int) (gg : Int → Int) (ee : Int → Int) (ff : Int) (cl : Int) (jn : Nat) (h0 : Heap) (n0 : Nat) (Z0 : n0 ≤ h0.size) (X0 : Stand p l e ({ frames := 1, cells := 1, slots := 12, locals := 15 } : Room) s m args below meth c s₁ locs0 1 12) (hx : p.tables.exec = Jvm.exec) (hby : c.code = prog_3_method_2_code) (hml : c.maxLocals = 11) (hZ : Z.Warmed39 s.vm) (hown : s.vm.findClass "com/example/fides/fides/Der" = some m.cls) (e0 : s₁.heap = h0) (N0 : Fr n0 locs0) (V_u0 : Byt Z h0 u0 nn gg) (V_u2 : Nts Z h0 u2 (u1.toInt + 1) ee) (hne : u0 ≠ u2) (g_u2 : n0 ≤ u2) (hM : nn ≤ 65600) (hp : u4.toInt < nn ∧ 0 ≤ u4.toInt ∧ u3.toInt ≤ u1.toInt ∧ 0 ≤ u3.toInt - (jn : Int) ∧ u1.toInt ≤ 11) (hpop : ∀ i, u3.toInt - (jn : Int) < i → i ≤ u3.toInt → ee i = u4.toInt) (hstop : ¬ ee (u3.toInt - (jn : Int)) = u4.toInt) (htop : u3.toInt - (jn : Int) = 0 → u4.toInt = 0) (hf : 0 ≤ ff ∧ ff ≤ 3 ∧ 0 ≤ cl) (ht : TagOK gg u4.toInt ff 0) (hl : LenOK gg (u4.toInt + 1 + ff) cl) (hfit : u4.toInt + 1 + ff + ls cl + cl ≤ ee (u3.toInt - (jn : Int)) ∧ ee (u3.toInt - (jn : Int)) ≤ nn) (P_s5 : Pl s5) (P_s6 : Pl s6) (P_s7 : Pl s7) (P_s8 : Pl s8) (P_s9 : Pl s9) (P_s10 : Pl s10) : ∃ (T' : State) (locs' : List Loc) (z3 : Int32) (z4 : Int32) (t5 : Slot) (t6 : Slot) (t7 : Slot) (t8 : Slot) (t9 : Slot) (t10 : Slot), Stand p l e ({ frames := 1, cells := 1, slots := 12, locals := 15 } : Room) s m args below meth c T' locs' 1 12 ∧ T'.heap = h0 ∧ Fr n0 locs' ∧ (z3.toInt = u3.toInt - (jn : Int)) ∧ (z4.toInt = u4.toInt + 1 + ff + ls cl + cl) ∧ (Pl t5) ∧ (Pl t6) ∧ (Pl t7) ∧ (Pl t8) ∧ (Pl t9) ∧ (Pl t10) ∧ ∀ target, Steps p.tables e below (T'.setTop (mkF m 31 #[.val (.ref u0), .val (.int u1), .val (.ref u2), .val (.int z3), .val (.int z4), t5, t6, t7, t8, t9, t10] [])) target → Steps p.tables e below (s₁.setTop (mkF m 31 #[.val (.ref u0), .val (.int u1), .val (.ref u2), .val (.int u3), .val (.int u4), s5, s6, s7, s8, s9, s10] [])) target := by
  have lb := ls_b cl
  have a7 := ht.2.2.2.2.2.2
  obtain ⟨cl1, Ar1, Sa1, Ma1, Ha1⟩ := id V_u0
  have st1 := X0.arraylength hx (by rw [e0]; exact Ar1.1) (State.isArrayOf_alike hZ.alike Ar1.2.1) (g := (mkF m 34 #[.val (.ref u0), .val (.int u1), .val (.ref u2), .val (.int u3), .val (.int u4), s5, s6, s7, s8, s9, s10] [(.ref u0), (.int u4)])) rfl rfl (hb hby d5_34)
  obtain ⟨lv1, elv1⟩ : ∃ z : Int32, z = cl1.slots.size.toInt32 := ⟨_, rfl⟩
  have nlv1 : lv1.toInt = nn := by rw [elv1]; exact cel_len Sa1 Ma1
  rw [← elv1] at st1
  obtain ⟨T2, lc2, z3_2, X2, e2, N2, q3_2, st2⟩ := sg_pop l Z a0 hw u0 u1 u2 u3 u4 (s5) (s6) (s7) (s8) (s9) (s10) ee jn h0 n0 Z0 X0 hx hby hml hZ hown e0 N0 V_u2 (by omega) hpop hstop
  have hs1 : ee z3_2.toInt = ee (u3.toInt - (jn : Int)) := by rw [q3_2]
  obtain ⟨T3, lc3, X3, e3, N3, st3⟩ := sg_mid l Z a0 hw u0 u1 u2 z3_2 u4 (s5) (s6) (s7) (s8) (s9) (s10) h0 n0 Z0 X2 hx hby hml hZ hown e2 N2 (by omega)
  obtain ⟨T4, lc4, z4_4, x5_4, x6_4, t7_4, X4, e4, N4, q4_4, q5_4, q6_4, P_t7_4, st4⟩ := sg_tag l Z a0 hw u0 u1 u2 z3_2 u4 (s5) (s6) (s7) (s8) (s9) (s10) nn gg ee (0 : Int) ff h0 n0 Z0 X3 hx hby hml hZ hown e3 N3 V_u0 V_u2 (by omega) (by omega) (by omega) (by omega) (by omega) ht P_s5 P_s6 P_s7
  obtain ⟨T5, lc5, z4_5, x8_5, t9_5, t10_5, X5, e5, N5, q4_5, q8_5, P_t9_5, P_t10_5, st5⟩ := sg_len l Z a0 hw u0 u1 u2 z3_2 z4_4 x5_4 x6_4 (t7_4) (s8) (s9) (s10) nn gg cl h0 n0 Z0 X4 hx hby hml hZ hown e4 N4 V_u0 (by omega) (by omega) (by rw [q4_4]; exact hl) (by omega) (by omega) P_s8 P_s9 P_s10
  obtain ⟨z6, ez6⟩ : ∃ y : Int32, y = (x5_4 - z4_5) := ⟨_, rfl⟩
  have nz6 : z6.toInt = x5_4.toInt - z4_5.toInt := by rw [ez6]; exact own_isub (x := x5_4.toInt) (y := z4_5.toInt) rfl rfl (by omega) (by omega)
  obtain ⟨z7, ez7⟩ : ∃ y : Int32, y = (x6_4 &&& (32 : Int32)) := ⟨_, rfl⟩
  obtain ⟨z8, ez8⟩ : ∃ y : Int32, y = (z4_5 + x8_5) := ⟨_, rfl⟩
  have nz8 : z8.toInt = z4_5.toInt + x8_5.toInt := by rw [ez8]; exact own_iadd (x := z4_5.toInt) (y := x8_5.toInt) rfl rfl (by omega) (by omega)
  refine ⟨T5, _, z3_2, z8, (.val (.int x5_4)), (.val (.int x6_4)), (t7_4), (.val (.int x8_5)), (t9_5), (t10_5), X5, e5, N5, (by omega), (by omega), (Or.inr ⟨_, rfl⟩), (Or.inr ⟨_, rfl⟩), P_t7_4, (Or.inr ⟨_, rfl⟩), P_t9_5, P_t10_5, fun target kt => ?_⟩
  show Steps p.tables e below (s₁.setTop (mkF m 31 #[.val (.ref u0), .val (.int u1), .val (.ref u2), .val (.int u3), .val (.int u4), s5, s6, s7, s8, s9, s10] [])) _
  refine XS.iload X0.here hx rfl (hb hby d5_31) rfl ?_
  refine XS.aloadN X0.here hx rfl (hb hby d5_33) rfl rfl ?_
  refine st1 _ ?_
  show Steps p.tables e below (s₁.setTop (mkF m 35 #[.val (.ref u0), .val (.int u1), .val (.ref u2), .val (.int u3), .val (.int u4), s5, s6, s7, s8, s9, s10] [(.int lv1), (.int u4)])) _
  refine XS.icmpNo X0.here hx rfl (hb hby d5_35) rfl (tlt (own_lt1' (x := u4.toInt) (y := lv1.toInt) rfl rfl (by omega))).2.1 ?_
  refine st2 _ ?_
  refine st3 _ ?_
  refine st4 _ ?_
  refine st5 _ ?_
  show Steps p.tables e below (T5.setTop (mkF m 245 #[.val (.ref u0), .val (.int u1), .val (.ref u2), .val (.int z3_2), .val (.int z4_5), .val (.int x5_4), .val (.int x6_4), t7_4, .val (.int x8_5), t9_5, t10_5] [])) _
  refine XS.iload X5.here hx rfl (hb hby d5_245) rfl ?_
  refine XS.iload X5.here hx rfl (hb hby d5_247) rfl ?_
  refine XS.iload X5.here hx rfl (hb hby d5_249) rfl ?_
  show Steps p.tables e below (T5.setTop (mkF m 251 #[.val (.ref u0), .val (.int u1), .val (.ref u2), .val (.int z3_2), .val (.int z4_5), .val (.int x5_4), .val (.int x6_4), t7_4, .val (.int x8_5), t9_5, t10_5] [(.int z4_5), (.int x5_4), (.int x8_5)])) _
  refine XS.isub X5.here hx rfl (hb hby d5_251) rfl ?_
  show Steps p.tables e below (T5.setTop (mkF m 252 #[.val (.ref u0), .val (.int u1), .val (.ref u2), .val (.int z3_2), .val (.int z4_5), .val (.int x5_4), .val (.int x6_4), t7_4, .val (.int x8_5), t9_5, t10_5] [(.int (x5_4 - z4_5)), (.int x8_5)])) _
  rw [← ez6]
  refine XS.icmpYes X5.here hx rfl (pc0 := 252) (pc' := 265) rfl (hb hby d5_252) rfl (flt (own_lt0' (x := z6.toInt) (y := x8_5.toInt) rfl rfl (by omega))).2.2.2 (by decide) (by decide) ?_
  refine XS.iload X5.here hx rfl (hb hby d5_265) rfl ?_
  refine XS.bipush X5.here hx rfl (hb hby d5_267) ?_
  show Steps p.tables e below (T5.setTop (mkF m 269 #[.val (.ref u0), .val (.int u1), .val (.ref u2), .val (.int z3_2), .val (.int z4_5), .val (.int x5_4), .val (.int x6_4), t7_4, .val (.int x8_5), t9_5, t10_5] [(.int (32 : Int32)), (.int x6_4)])) _
  refine XS.iand X5.here hx rfl (hb hby d5_269) rfl ?_
  show Steps p.tables e below (T5.setTop (mkF m 270 #[.val (.ref u0), .val (.int u1), .val (.ref u2), .val (.int z3_2), .val (.int z4_5), .val (.int x5_4), .val (.int x6_4), t7_4, .val (.int x8_5), t9_5, t10_5] [(.int (x6_4 &&& (32 : Int32)))])) _
  rw [← ez7]
  refine XS.ifNo X5.here hx rfl (hb hby d5_270) rfl ((if0 _ _).trans (teq (by rw [ez7]; exact (own_32 q6_4.2.1 q6_4.2.2).mpr (by omega))).2) ?_
  refine XS.iload X5.here hx rfl (hb hby d5_273) rfl ?_
  refine XS.iload X5.here hx rfl (hb hby d5_275) rfl ?_
  show Steps p.tables e below (T5.setTop (mkF m 277 #[.val (.ref u0), .val (.int u1), .val (.ref u2), .val (.int z3_2), .val (.int z4_5), .val (.int x5_4), .val (.int x6_4), t7_4, .val (.int x8_5), t9_5, t10_5] [(.int x8_5), (.int z4_5)])) _
  refine XS.iadd X5.here hx rfl (hb hby d5_277) rfl ?_
  show Steps p.tables e below (T5.setTop (mkF m 278 #[.val (.ref u0), .val (.int u1), .val (.ref u2), .val (.int z3_2), .val (.int z4_5), .val (.int x5_4), .val (.int x6_4), t7_4, .val (.int x8_5), t9_5, t10_5] [(.int (z4_5 + x8_5))])) _
  rw [← ez8]
  refine XS.istore X5.here hx rfl (hb hby d5_278) rfl (l' := #[.val (.ref u0), .val (.int u1), .val (.ref u2), .val (.int z3_2), .val (.int z8), .val (.int x5_4), .val (.int x6_4), t7_4, .val (.int x8_5), t9_5, t10_5]) rfl ?_
  refine XS.goto X5.here hx rfl (pc0 := 280) (pc' := 313) rfl (hb hby d5_280) (by decide) (by decide) ?_
  refine XS.goto X5.here hx rfl (pc0 := 313) (pc' := 31) rfl (hb hby d5_313) (by decide) (by decide) ?_
  exact kt
theorem d5_283 : decode prog_3_method_2_code 283 = .ok (.iload_n 3, 1) := by decide +kernel
theorem d5_284 : decode prog_3_method_2_code 284 = .ok (.iload_n 1, 1) := by decide +kernel
theorem d5_285 : decode prog_3_method_2_code 285 = .ok (.if_icmp .ne 17, 3) := by decide +kernel
theorem d5_302 : decode prog_3_method_2_code 302 = .ok (.iinc 3 1, 3) := by decide +kernel
theorem d5_305 : decode prog_3_method_2_code 305 = .ok (.aload_n 2, 1) := by decide +kernel
theorem d5_306 : decode prog_3_method_2_code 306 = .ok (.iload_n 3, 1) := by decide +kernel
theorem d5_307 : decode prog_3_method_2_code 307 = .ok (.iload 4, 2) := by decide +kernel
theorem d5_309 : decode prog_3_method_2_code 309 = .ok (.iload 8, 2) := by decide +kernel
theorem d5_311 : decode prog_3_method_2_code 311 = .ok (.iadd, 1) := by decide +kernel
theorem d5_312 : decode prog_3_method_2_code 312 = .ok (.iastore, 1) := by decide +kernel
set_option maxRecDepth 65536 in
set_option maxHeartbeats 40000000 in
theorem sg_turn1 (l : Launch) (Z : State) (a0 : Array Value) (hw : ∀ d ∈ tables_1, d.before a0 Z = true) {p : Program} {e : Env} {s : State} {m : MethodId} {args : Array Value} {below : List Frame} {meth : Method} {c : Code} {s₁ : State} {locs0 : List Loc} (u0 : Addr) (u1 : Int32) (u2 : Addr) (u3 : Int32) (u4 : Int32) (s5 : Slot) (s6 : Slot) (s7 : Slot) (s8 : Slot) (s9 : Slot) (s10 : Slot) (nn : Int) (gg : Int → Int) (ee : Int → Int) (ff : Int) (cl : Int) (jn : Nat) (h0 : Heap) (n0 : Nat) (Z0 : n0 ≤ h0.size) (X0 : Stand p l e ({ frames := 1, cells := 1, slots := 12, locals := 15 } : Room) s m args below meth c s₁ locs0 1 12) (hx : p.tables.exec = Jvm.exec) (hby : c.code = prog_3_method_2_code) (hml : c.maxLocals = 11) (hZ : Z.Warmed39 s.vm) (hown : s.vm.findClass "com/example/fides/fides/Der" = some m.cls) (e0 : s₁.heap = h0) (N0 : Fr n0 locs0) (V_u0 : Byt Z h0 u0 nn gg) (V_u2 : Nts Z h0 u2 (u1.toInt + 1) ee) (hne : u0 ≠ u2) (g_u2 : n0 ≤ u2) (hM : nn ≤ 65600) (hp : u4.toInt < nn ∧ 0 ≤ u4.toInt ∧ u3.toInt ≤ u1.toInt ∧ 0 ≤ u3.toInt - (jn : Int) ∧ u1.toInt ≤ 11) (hpop : ∀ i, u3.toInt - (jn : Int) < i → i ≤ u3.toInt → ee i = u4.toInt) (hstop : ¬ ee (u3.toInt - (jn : Int)) = u4.toInt) (htop : u3.toInt - (jn : Int) = 0 → u4.toInt = 0) (hf : 0 ≤ ff ∧ ff ≤ 3 ∧ 0 ≤ cl) (ht : TagOK gg u4.toInt ff 1) (hl : LenOK gg (u4.toInt + 1 + ff) cl) (hfit : u4.toInt + 1 + ff + ls cl + cl ≤ ee (u3.toInt - (jn : Int)) ∧ ee (u3.toInt - (jn : Int)) ≤ nn) (hmx : u3.toInt - (jn : Int) < u1.toInt) (P_s5 : Pl s5) (P_s6 : Pl s6) (P_s7 : Pl s7) (P_s8 : Pl s8) (P_s9 : Pl s9) (P_s10 : Pl s10) : ∃ (T' : State) (h' : Heap) (locs' : List Loc) (ee' : Int → Int) (z3 : Int32) (z4 : Int32) (t5 : Slot) (t6 : Slot) (t7 : Slot) (t8 : Slot) (t9 : Slot) (t10 : Slot), Stand p l e ({ frames := 1, cells := 1, slots := 12, locals := 15 } : Room) s m args below meth c T' locs' 1 12 ∧ T'.heap = h' ∧ Keep h0 h' [u2] ∧ Fr n0 locs' ∧ (z3.toInt = u3.toInt - (jn : Int) + 1) ∧ (z4.toInt = u4.toInt + 1 + ff + ls cl) ∧ (Byt Z h' u0 nn gg) ∧ (Nts Z h' u2 (u1.toInt + 1) ee') ∧ (ee' = upd ee (u3.toInt - (jn : Int) + 1) (u4.toInt + 1 + ff + ls cl + cl)) ∧ (Pl t5) ∧ (Pl t6) ∧ (Pl t7) ∧ (Pl t8) ∧ (Pl t9) ∧ (Pl t10) ∧ ∀ target, Steps p.tables e below (T'.setTop (mkF m 31 #[.val (.ref u0), .val (.int u1), .val (.ref u2), .val (.int z3), .val (.int z4), t5, t6, t7, t8, t9, t10] [])) target → Steps p.tables e below (s₁.setTop (mkF m 31 #[.val (.ref u0), .val (.int u1), .val (.ref u2), .val (.int u3), .val (.int u4), s5, s6, s7, s8, s9, s10] [])) target := by
  have lb := ls_b cl
  have a7 := ht.2.2.2.2.2.2
  obtain ⟨cl1, Ar1, Sa1, Ma1, Ha1⟩ := id V_u0
  have st1 := X0.arraylength hx (by rw [e0]; exact Ar1.1) (State.isArrayOf_alike hZ.alike Ar1.2.1) (g := (mkF m 34 #[.val (.ref u0), .val (.int u1), .val (.ref u2), .val (.int u3), .val (.int u4), s5, s6, s7, s8, s9, s10] [(.ref u0), (.int u4)])) rfl rfl (hb hby d5_34)
  obtain ⟨lv1, elv1⟩ : ∃ z : Int32, z = cl1.slots.size.toInt32 := ⟨_, rfl⟩
  have nlv1 : lv1.toInt = nn := by rw [elv1]; exact cel_len Sa1 Ma1
  rw [← elv1] at st1
  obtain ⟨T2, lc2, z3_2, X2, e2, N2, q3_2, st2⟩ := sg_pop l Z a0 hw u0 u1 u2 u3 u4 (s5) (s6) (s7) (s8) (s9) (s10) ee jn h0 n0 Z0 X0 hx hby hml hZ hown e0 N0 V_u2 (by omega) hpop hstop
  have hs1 : ee z3_2.toInt = ee (u3.toInt - (jn : Int)) := by rw [q3_2]
  obtain ⟨T3, lc3, X3, e3, N3, st3⟩ := sg_mid l Z a0 hw u0 u1 u2 z3_2 u4 (s5) (s6) (s7) (s8) (s9) (s10) h0 n0 Z0 X2 hx hby hml hZ hown e2 N2 (by omega)
  obtain ⟨T4, lc4, z4_4, x5_4, x6_4, t7_4, X4, e4, N4, q4_4, q5_4, q6_4, P_t7_4, st4⟩ := sg_tag l Z a0 hw u0 u1 u2 z3_2 u4 (s5) (s6) (s7) (s8) (s9) (s10) nn gg ee (1 : Int) ff h0 n0 Z0 X3 hx hby hml hZ hown e3 N3 V_u0 V_u2 (by omega) (by omega) (by omega) (by omega) (by omega) ht P_s5 P_s6 P_s7
  obtain ⟨T5, lc5, z4_5, x8_5, t9_5, t10_5, X5, e5, N5, q4_5, q8_5, P_t9_5, P_t10_5, st5⟩ := sg_len l Z a0 hw u0 u1 u2 z3_2 z4_4 x5_4 x6_4 (t7_4) (s8) (s9) (s10) nn gg cl h0 n0 Z0 X4 hx hby hml hZ hown e4 N4 V_u0 (by omega) (by omega) (by rw [q4_4]; exact hl) (by omega) (by omega) P_s8 P_s9 P_s10
  obtain ⟨z6, ez6⟩ : ∃ y : Int32, y = (x5_4 - z4_5) := ⟨_, rfl⟩
  have nz6 : z6.toInt = x5_4.toInt - z4_5.toInt := by rw [ez6]; exact own_isub (x := x5_4.toInt) (y := z4_5.toInt) rfl rfl (by omega) (by omega)
  obtain ⟨z7, ez7⟩ : ∃ y : Int32, y = (x6_4 &&& (32 : Int32)) := ⟨_, rfl⟩
  obtain ⟨z8, ez8⟩ : ∃ y : Int32, y = (z3_2 + (1 : Int32)) := ⟨_, rfl⟩
  have nz8 : z8.toInt = z3_2.toInt + (1 : Int) := by rw [ez8]; exact own_iadd (x := z3_2.toInt) (y := (1 : Int)) rfl rfl (by omega) (by omega)
  obtain ⟨z9, ez9⟩ : ∃ y : Int32, y = (z4_5 + x8_5) := ⟨_, rfl⟩
  have nz9 : z9.toInt = z4_5.toInt + x8_5.toInt := by rw [ez9]; exact own_iadd (x := z4_5.toInt) (y := x8_5.toInt) rfl rfl (by omega) (by omega)
  obtain ⟨cl10, Ar10, Sa10, Ma10, Ha10⟩ := id V_u2
  have i10 : 0 ≤ (z8).toInt ∧ (z8).toInt < u1.toInt + 1 := by omega
  obtain ⟨T11, h11, X11, e11, W11, st11⟩ := stI X5 hx hZ e5 Ar10 (j := z8) (cel_inb Sa10 i10.1 i10.2) (g := (mkF m 312 #[.val (.ref u0), .val (.int u1), .val (.ref u2), .val (.int z8), .val (.int z4_5), .val (.int x5_4), .val (.int x6_4), t7_4, .val (.int x8_5), t9_5, t10_5] [(.int z9), (.int z8), (.ref u2)])) rfl rfl (hb hby d5_312)
  have V11 := Nts.set (g := ee) Ar10 Sa10 Ma10 Ha10 i10.1 i10.2 W11
  obtain ⟨g11, eg11⟩ : ∃ z, z = upd ee (z8).toInt ((z9).toInt) := ⟨_, rfl⟩
  rw [← eg11] at V11
  have ga11 : g11 z8.toInt = z9.toInt := by rw [eg11]; exact upd_at _ _ _
  have gn11 : ∀ i, i ≠ z8.toInt → g11 i = ee i := fun i hi => by rw [eg11]; exact upd_ne _ _ _ hi
  have N11 := Fr.snoc X11 N5 g_u2
  have Z11 : n0 ≤ h11.size := Nat.le_trans Z0 (Keep.of_wr W11).1
  have KK11 := (Keep.refl h0 [u2]).wr W11 (Or.inl (List.mem_of_getElem? (i := 0) rfl))
  refine ⟨T11, h11, _, g11, z8, z4_5, (.val (.int x5_4)), (.val (.int x6_4)), (t7_4), (.val (.int x8_5)), (t9_5), (t10_5), X11, e11, KK11, N11, (by omega), (by omega), (V_u0.other W11 hne), V11, (by rw [eg11, show (z8).toInt = u3.toInt - (jn : Int) + 1 from by omega, show (z9).toInt = u4.toInt + 1 + ff + ls cl + cl from by omega]), (Or.inr ⟨_, rfl⟩), (Or.inr ⟨_, rfl⟩), P_t7_4, (Or.inr ⟨_, rfl⟩), P_t9_5, P_t10_5, fun target kt => ?_⟩
  show Steps p.tables e below (s₁.setTop (mkF m 31 #[.val (.ref u0), .val (.int u1), .val (.ref u2), .val (.int u3), .val (.int u4), s5, s6, s7, s8, s9, s10] [])) _
  refine XS.iload X0.here hx rfl (hb hby d5_31) rfl ?_
  refine XS.aloadN X0.here hx rfl (hb hby d5_33) rfl rfl ?_
  refine st1 _ ?_
  show Steps p.tables e below (s₁.setTop (mkF m 35 #[.val (.ref u0), .val (.int u1), .val (.ref u2), .val (.int u3), .val (.int u4), s5, s6, s7, s8, s9, s10] [(.int lv1), (.int u4)])) _
  refine XS.icmpNo X0.here hx rfl (hb hby d5_35) rfl (tlt (own_lt1' (x := u4.toInt) (y := lv1.toInt) rfl rfl (by omega))).2.1 ?_
  refine st2 _ ?_
  refine st3 _ ?_
  refine st4 _ ?_
  refine st5 _ ?_
  show Steps p.tables e below (T5.setTop (mkF m 245 #[.val (.ref u0), .val (.int u1), .val (.ref u2), .val (.int z3_2), .val (.int z4_5), .val (.int x5_4), .val (.int x6_4), t7_4, .val (.int x8_5), t9_5, t10_5] [])) _
  refine XS.iload X5.here hx rfl (hb hby d5_245) rfl ?_
  refine XS.iload X5.here hx rfl (hb hby d5_247) rfl ?_
  refine XS.iload X5.here hx rfl (hb hby d5_249) rfl ?_
  show Steps p.tables e below (T5.setTop (mkF m 251 #[.val (.ref u0), .val (.int u1), .val (.ref u2), .val (.int z3_2), .val (.int z4_5), .val (.int x5_4), .val (.int x6_4), t7_4, .val (.int x8_5), t9_5, t10_5] [(.int z4_5), (.int x5_4), (.int x8_5)])) _
  refine XS.isub X5.here hx rfl (hb hby d5_251) rfl ?_
  show Steps p.tables e below (T5.setTop (mkF m 252 #[.val (.ref u0), .val (.int u1), .val (.ref u2), .val (.int z3_2), .val (.int z4_5), .val (.int x5_4), .val (.int x6_4), t7_4, .val (.int x8_5), t9_5, t10_5] [(.int (x5_4 - z4_5)), (.int x8_5)])) _
  rw [← ez6]
  refine XS.icmpYes X5.here hx rfl (pc0 := 252) (pc' := 265) rfl (hb hby d5_252) rfl (flt (own_lt0' (x := z6.toInt) (y := x8_5.toInt) rfl rfl (by omega))).2.2.2 (by decide) (by decide) ?_
  refine XS.iload X5.here hx rfl (hb hby d5_265) rfl ?_
  refine XS.bipush X5.here hx rfl (hb hby d5_267) ?_
  show Steps p.tables e below (T5.setTop (mkF m 269 #[.val (.ref u0), .val (.int u1), .val (.ref u2), .val (.int z3_2), .val (.int z4_5), .val (.int x5_4), .val (.int x6_4), t7_4, .val (.int x8_5), t9_5, t10_5] [(.int (32 : Int32)), (.int x6_4)])) _
  refine XS.iand X5.here hx rfl (hb hby d5_269) rfl ?_
  show Steps p.tables e below (T5.setTop (mkF m 270 #[.val (.ref u0), .val (.int u1), .val (.ref u2), .val (.int z3_2), .val (.int z4_5), .val (.int x5_4), .val (.int x6_4), t7_4, .val (.int x8_5), t9_5, t10_5] [(.int (x6_4 &&& (32 : Int32)))])) _
  rw [← ez7]
  refine XS.ifYes X5.here hx rfl (pc0 := 270) (pc' := 283) rfl (hb hby d5_270) rfl ((if0 _ _).trans (feq (fun q => absurd ((own_32 q6_4.2.1 q6_4.2.2).mp (ez7 ▸ q)) (by omega))).2) (by decide) (by decide) ?_
  refine XS.iloadN X5.here hx rfl (hb hby d5_283) rfl ?_
  refine XS.iloadN X5.here hx rfl (hb hby d5_284) rfl ?_
  refine XS.icmpYes X5.here hx rfl (pc0 := 285) (pc' := 302) rfl (hb hby d5_285) rfl (feq (own_eq0' (x := z3_2.toInt) (y := u1.toInt) rfl rfl (by omega))).2 (by decide) (by decide) ?_
  show Steps p.tables e below (T5.setTop (mkF m 302 #[.val (.ref u0), .val (.int u1), .val (.ref u2), .val (.int z3_2), .val (.int z4_5), .val (.int x5_4), .val (.int x6_4), t7_4, .val (.int x8_5), t9_5, t10_5] [])) _
  refine XS.iinc X5.here hx rfl (hb hby d5_302) rfl (l' := #[.val (.ref u0), .val (.int u1), .val (.ref u2), .val (.int (z3_2 + (1 : Int32))), .val (.int z4_5), .val (.int x5_4), .val (.int x6_4), t7_4, .val (.int x8_5), t9_5, t10_5]) rfl ?_
  show Steps p.tables e below (T5.setTop (mkF m 305 #[.val (.ref u0), .val (.int u1), .val (.ref u2), .val (.int (z3_2 + (1 : Int32))), .val (.int z4_5), .val (.int x5_4), .val (.int x6_4), t7_4, .val (.int x8_5), t9_5, t10_5] [])) _
  rw [← ez8]
  refine XS.aloadN X5.here hx rfl (hb hby d5_305) rfl rfl ?_
  refine XS.iloadN X5.here hx rfl (hb hby d5_306) rfl ?_
  refine XS.iload X5.here hx rfl (hb hby d5_307) rfl ?_
  refine XS.iload X5.here hx rfl (hb hby d5_309) rfl ?_
  show Steps p.tables e below (T5.setTop (mkF m 311 #[.val (.ref u0), .val (.int u1), .val (.ref u2), .val (.int z8), .val (.int z4_5), .val (.int x5_4), .val (.int x6_4), t7_4, .val (.int x8_5), t9_5, t10_5] [(.int x8_5), (.int z4_5), (.int z8), (.ref u2)])) _
  refine XS.iadd X5.here hx rfl (hb hby d5_311) rfl ?_
  show Steps p.tables e below (T5.setTop (mkF m 312 #[.val (.ref u0), .val (.int u1), .val (.ref u2), .val (.int z8), .val (.int z4_5), .val (.int x5_4), .val (.int x6_4), t7_4, .val (.int x8_5), t9_5, t10_5] [(.int (z4_5 + x8_5)), (.int z8), (.ref u2)])) _
  rw [← ez9]
  show Steps p.tables e below (T5.setTop (mkF m 312 #[.val (.ref u0), .val (.int u1), .val (.ref u2), .val (.int z8), .val (.int z4_5), .val (.int x5_4), .val (.int x6_4), t7_4, .val (.int x8_5), t9_5, t10_5] [(.int z9), (.int z8), (.ref u2)])) _
  refine st11 _ ?_
  show Steps p.tables e below (T11.setTop (mkF m 313 #[.val (.ref u0), .val (.int u1), .val (.ref u2), .val (.int z8), .val (.int z4_5), .val (.int x5_4), .val (.int x6_4), t7_4, .val (.int x8_5), t9_5, t10_5] [])) _
  refine XS.goto X11.here hx rfl (pc0 := 313) (pc' := 31) rfl (hb hby d5_313) (by decide) (by decide) ?_
  exact kt
theorem sg_loop (l : Launch) (Z : State) (a0 : Array Value) (hw : ∀ d ∈ tables_1, d.before a0 Z = true) {p : Program} {e : Env} {s : State} {m : MethodId} {args : Array Value} {below : List Frame} {meth : Method} {c : Code} {s₁ : State} {locs0 : List Loc} (u0 : Addr) (u1 : Int32) (u2 : Addr) (u3 : Int32) (u4 : Int32) (s5 : Slot) (s6 : Slot) (s7 : Slot) (s8 : Slot) (s9 : Slot) (s10 : Slot) (nn : Int) (gg : Int → Int) (ee : Int → Int) (es : List El) (h0 : Heap) (n0 : Nat) (Z0 : n0 ≤ h0.size) (X0 : Stand p l e ({ frames := 1, cells := 1, slots := 12, locals := 15 } : Room) s m args below meth c s₁ locs0 1 12) (hx : p.tables.exec = Jvm.exec) (hby : c.code = prog_3_method_2_code) (hml : c.maxLocals = 11) (hZ : Z.Warmed39 s.vm) (hown : s.vm.findClass "com/example/fides/fides/Der" = some m.cls) (e0 : s₁.heap = h0) (N0 : Fr n0 locs0) (V_u0 : Byt Z h0 u0 nn gg) (V_u2 : Nts Z h0 u2 (u1.toInt + 1) ee) (hne : u0 ≠ u2) (g_u2 : n0 ≤ u2) (hM : nn ≤ 65600) (hmx : u1.toInt ≤ 11) (hok : Ok gg nn u1.toInt es u4.toInt u3.toInt ee) (P_s5 : Pl s5) (P_s6 : Pl s6) (P_s7 : Pl s7) (P_s8 : Pl s8) (P_s9 : Pl s9) (P_s10 : Pl s10) : ∃ (T' : State) (h' : Heap) (locs' : List Loc) (z3 : Int32) (z4 : Int32) (t5 : Slot) (t6 : Slot) (t7 : Slot) (t8 : Slot) (t9 : Slot) (t10 : Slot), Stand p l e ({ frames := 1, cells := 1, slots := 12, locals := 15 } : Room) s m args below meth c T' locs' 1 12 ∧ T'.heap = h' ∧ Keep h0 h' [u2] ∧ Fr n0 locs' ∧ (z4.toInt = nn) ∧ (Byt Z h' u0 nn gg) ∧ ∀ target, Steps p.tables e below (T'.setTop (mkF m 31 #[.val (.ref u0), .val (.int u1), .val (.ref u2), .val (.int z3), .val (.int z4), t5, t6, t7, t8, t9, t10] [])) target → Steps p.tables e below (s₁.setTop (mkF m 31 #[.val (.ref u0), .val (.int u1), .val (.ref u2), .val (.int u3), .val (.int u4), s5, s6, s7, s8, s9, s10] [])) target := by
  induction es generalizing u3 u4 s5 s6 s7 s8 s9 s10 ee h0 s₁ locs0 with
  | nil => exact ⟨s₁, h0, locs0, u3, u4, s5, s6, s7, s8, s9, s10, X0, e0, Keep.refl h0 _, N0, hok, V_u0, fun _ k => k⟩
  | cons y ys ih =>
    obtain ⟨⟨k1, k2, k3, k4⟩, hpop, ⟨hstop, htop, f1, f2, f3⟩, ht, hl, hfit, hh⟩ := hok
    rcases hh with ⟨hc, hr⟩ | ⟨hc, hm, hr⟩
    · rw [hc] at ht
      obtain ⟨T1, lc1, z3, z4, t5, t6, t7, t8, t9, t10, X1, e1, N1, q3, q4, p5, p6, p7, p8, p9, p10, st1⟩ := sg_turn0 l Z a0 hw u0 u1 u2 u3 u4 s5 s6 s7 s8 s9 s10 nn gg ee y.1 y.2.1 y.2.2.2 h0 n0 Z0 X0 hx hby hml hZ hown e0 N0 V_u0 V_u2 hne g_u2 hM ⟨k1, k2, k3, k4, hmx⟩ hpop hstop htop ⟨f1, f2, f3⟩ ht hl hfit P_s5 P_s6 P_s7 P_s8 P_s9 P_s10
      obtain ⟨T2, h2, lc2, z3', z4', v5, v6, v7, v8, v9, v10, X2, e2, K2, N2, q4', V2, st2⟩ := ih z3 z4 t5 t6 t7 t8 t9 t10 ee h0 Z0 X1 e1 N1 V_u0 V_u2 (by rw [q4, q3]; exact hr) p5 p6 p7 p8 p9 p10
      exact ⟨T2, h2, lc2, z3', z4', v5, v6, v7, v8, v9, v10, X2, e2, K2, N2, q4', V2, fun t k => st1 t (st2 t k)⟩
    · rw [hc] at ht
      obtain ⟨T1, h1, lc1, ee', z3, z4, t5, t6, t7, t8, t9, t10, X1, e1, K1, N1, q3, q4, V0, Ve, qe, p5, p6, p7, p8, p9, p10, st1⟩ := sg_turn1 l Z a0 hw u0 u1 u2 u3 u4 s5 s6 s7 s8 s9 s10 nn gg ee y.1 y.2.1 y.2.2.2 h0 n0 Z0 X0 hx hby hml hZ hown e0 N0 V_u0 V_u2 hne g_u2 hM ⟨k1, k2, k3, k4, hmx⟩ hpop hstop htop ⟨f1, f2, f3⟩ ht hl hfit hm P_s5 P_s6 P_s7 P_s8 P_s9 P_s10
      obtain ⟨T2, h2, lc2, z3', z4', v5, v6, v7, v8, v9, v10, X2, e2, K2, N2, q4', V2, st2⟩ := ih z3 z4 t5 t6 t7 t8 t9 t10 ee' h1 (Nat.le_trans Z0 K1.1) X1 e1 N1 V0 Ve (by rw [q4, q3, qe]; exact hr) p5 p6 p7 p8 p9 p10
      exact ⟨T2, h2, lc2, z3', z4', v5, v6, v7, v8, v9, v10, X2, e2, K1.trans K2 (fun x hx => Or.inl hx), N2, q4', V2, fun t k => st1 t (st2 t k)⟩
theorem d5_0 : decode prog_3_method_2_code 0 = .ok (.aload_n 0, 1) := by decide +kernel
theorem d5_1 : decode prog_3_method_2_code 1 = .ok (.arraylength, 1) := by decide +kernel
theorem d5_2 : decode prog_3_method_2_code 2 = .ok (.ifCond .ne 13, 3) := by decide +kernel
theorem d5_15 : decode prog_3_method_2_code 15 = .ok (.iload_n 1, 1) := by decide +kernel
theorem d5_16 : decode prog_3_method_2_code 16 = .ok (.iconst 1, 1) := by decide +kernel
theorem d5_17 : decode prog_3_method_2_code 17 = .ok (.iadd, 1) := by decide +kernel
theorem d5_18 : decode prog_3_method_2_code 18 = .ok (.newarray .int, 2) := by decide +kernel
theorem d5_20 : decode prog_3_method_2_code 20 = .ok (.astore_n 2, 1) := by decide +kernel
theorem d5_21 : decode prog_3_method_2_code 21 = .ok (.aload_n 2, 1) := by decide +kernel
theorem d5_22 : decode prog_3_method_2_code 22 = .ok (.iconst 0, 1) := by decide +kernel
theorem d5_23 : decode prog_3_method_2_code 23 = .ok (.aload_n 0, 1) := by decide +kernel
theorem d5_24 : decode prog_3_method_2_code 24 = .ok (.arraylength, 1) := by decide +kernel
theorem d5_25 : decode prog_3_method_2_code 25 = .ok (.iastore, 1) := by decide +kernel
theorem d5_26 : decode prog_3_method_2_code 26 = .ok (.iconst 0, 1) := by decide +kernel
theorem d5_27 : decode prog_3_method_2_code 27 = .ok (.istore_n 3, 1) := by decide +kernel
theorem d5_28 : decode prog_3_method_2_code 28 = .ok (.iconst 0, 1) := by decide +kernel
theorem d5_29 : decode prog_3_method_2_code 29 = .ok (.istore 4, 2) := by decide +kernel
theorem d5_316 : decode prog_3_method_2_code 316 = .ok (.return_, 1) := by decide +kernel
theorem ef_5 (m : MethodId) (u0 : Addr) (u1 : Int32) : entryFrame m #[(.ref u0), (.int u1)] 11 = mkF m 0 #[.val (.ref u0), .val (.int u1), .unset, .unset, .unset, .unset, .unset, .unset, .unset, .unset, .unset] [] := by first | (simp [entryFrame, mkF, argsToLocals, Value.category]; done) | rfl
def Q5 (Z : State) (u0 : Addr) (u1 : Int32) (nn : Int) (gg : Int → Int) (es : List El) (h0 : Heap) (n0 : Nat) (v : Option Value) (h : Heap) (L : List Loc) : Prop := v = none ∧ Fr n0 L ∧ Keep h0 h []
set_option maxRecDepth 65536 in
set_option maxHeartbeats 40000000 in
theorem rm5 (l : Launch) (Z : State) (a0 : Array Value) (hw : ∀ d ∈ tables_1, d.before a0 Z = true) (ws : List Jvm.Cond) (u0 : Addr) (u1 : Int32) (nn : Int) (gg : Int → Int) (es : List El) (h0 : Heap) (n0 : Nat) (Z0 : n0 ≤ h0.size) (V_u0 : Byt Z h0 u0 nn gg) (hM : nn ≤ 65600) (hn : 1 ≤ nn) (hmx : 0 ≤ u1.toInt ∧ u1.toInt ≤ 11) (hok : Ok gg nn u1.toInt es 0 0 (upd (fun _ => 0) 0 nn)) :
    MetFree l (⟨"com/example/fides/fides/Der", "requireShape", "([BI)V"⟩ : MethodName) (head1 (Jvm.Cond.code (⟨"com/example/fides/fides/Der", "requireShape", "([BI)V"⟩ : MethodName) prog_3_method_2_code 11 none :: ws) ({ frames := 1, cells := 1, slots := 12, locals := 15 } : Room)) (fun a U => a = #[(.ref u0), (.int u1)] ∧ Z.Warmed39 U.vm ∧ U.heap = h0) (fun _ _ _ _ _ => True) (fun _ U o U' => ∃ v L, o = .returned v ∧ Q5 Z u0 u1 nn gg es h0 n0 v U'.heap L ∧ FrameEnd U o U' L ({ frames := 1, cells := 1, slots := 12, locals := 15 } : Room).cells ({ frames := 1, cells := 1, slots := 12, locals := 15 } : Room).slots) := by
  refine MetFree.of_bodySF (plainFor_of_name pn_com_example_fides_fides_Der) hisR ?_
  intro p e s m args below meth c s₁ Bd hml0 hP hK
  obtain ⟨rfl, hZ, hh⟩ := hP
  have hx := Bd.exec
  have hby := Bd.bytes
  have hml : c.maxLocals = 11 := hml0
  have hown : s.vm.findClass "com/example/fides/fides/Der" = some m.cls := findClass_of_methodNamed Bd.named
  have hnm := (name_of_methodNamed Bd.named Bd.method).1
  have X0 : Stand p l e ({ frames := 1, cells := 1, slots := 12, locals := 15 } : Room) s m #[(.ref u0), (.int u1)] below meth c s₁ [] 0 0 := Stand.of_body Bd
  have e0 : s₁.heap = h0 := by rw [← hh, Bd.state]; rfl
  have N0 := Fr.nil n0
  have pre0 : ∀ t, Steps p.tables e below (s₁.setTop (mkF m 0 #[.val (.ref u0), .val (.int u1), .unset, .unset, .unset, .unset, .unset, .unset, .unset, .unset, .unset] [])) t → Steps p.tables e below (s₁.setTop (entryFrame m #[(.ref u0), (.int u1)] 11)) t := fun t k => castTop (ef_5 m u0 u1) k
  obtain ⟨cl1, Ar1, Sa1, Ma1, Ha1⟩ := id V_u0
  have st1 := X0.arraylength hx (by rw [e0]; exact Ar1.1) (State.isArrayOf_alike hZ.alike Ar1.2.1) (g := (mkF m 1 #[.val (.ref u0), .val (.int u1), .unset, .unset, .unset, .unset, .unset, .unset, .unset, .unset, .unset] [(.ref u0)])) rfl rfl (hb hby d5_1)
  obtain ⟨lv1, elv1⟩ : ∃ z : Int32, z = cl1.slots.size.toInt32 := ⟨_, rfl⟩
  have nlv1 : lv1.toInt = nn := by rw [elv1]; exact cel_len Sa1 Ma1
  rw [← elv1] at st1
  obtain ⟨z2, ez2⟩ : ∃ y : Int32, y = (u1 + (1 : Int32)) := ⟨_, rfl⟩
  have nz2 : z2.toInt = u1.toInt + (1 : Int) := by rw [ez2]; exact own_iadd (x := u1.toInt) (y := (1 : Int)) rfl rfl (by omega) (by omega)
  obtain ⟨T3, h3, k3, X3, e3, E3, A3, st3⟩ := newP X0 hx hZ (hw _ (List.mem_of_getElem? (i := 20) rfl)) e0 (g := (mkF m 18 #[.val (.ref u0), .val (.int u1), .unset, .unset, .unset, .unset, .unset, .unset, .unset, .unset, .unset] [(.int z2)])) rfl (hb hby d5_18) rfl (own_nneg rfl (by omega)) (cap := 12) (own_cap (by omega) (by omega)) (by decide) (by decide) (by decide)
  obtain ⟨b3, g3⟩ : ∃ z, z = h0.size := ⟨_, rfl⟩
  rw [← g3] at A3 st3
  have g_b3 : n0 ≤ b3 := Nat.le_trans Z0 (Nat.le_of_eq g3.symm)
  have sz_b3 : h0.size ≤ b3 := Nat.le_trans (Keep.refl h0 []).1 (Nat.le_of_eq g3.symm)
  obtain ⟨gz3, ge3⟩ : ∃ z : Int → Int, z = fun _ => 0 := ⟨_, rfl⟩
  have V3 : Nts Z h3 b3 z2.toInt gz3 := by rw [ge3]; exact Nts.new A3 (by omega)
  have Z3 : n0 ≤ h3.size := Nat.le_trans Z0 E3.1
  have KK3 := (Keep.refl h0 []).ext E3
  obtain ⟨cl4, Ar4, Sa4, Ma4, Ha4⟩ := id (V_u0.ext E3)
  have st4 := X3.arraylength hx (by rw [e3]; exact Ar4.1) (State.isArrayOf_alike hZ.alike Ar4.2.1) (g := (mkF m 24 #[.val (.ref u0), .val (.int u1), .val (.ref b3), .unset, .unset, .unset, .unset, .unset, .unset, .unset, .unset] [(.ref u0), (.int (0 : Int32)), (.ref b3)])) rfl rfl (hb hby d5_24)
  rw [show cl4.slots.size.toInt32 = lv1 from Int32.toInt_inj.mp ((cel_len Sa4 Ma4).trans nlv1.symm)] at st4
  obtain ⟨cl5, Ar5, Sa5, Ma5, Ha5⟩ := id V3
  have i5 : 0 ≤ ((0 : Int32)).toInt ∧ ((0 : Int32)).toInt < z2.toInt := by have e : ((0 : Int32)).toInt = 0 := rfl; omega
  obtain ⟨T6, h6, X6, e6, W6, st6⟩ := stI X3 hx hZ e3 Ar5 (j := (0 : Int32)) (cel_inb Sa5 i5.1 i5.2) (g := (mkF m 25 #[.val (.ref u0), .val (.int u1), .val (.ref b3), .unset, .unset, .unset, .unset, .unset, .unset, .unset, .unset] [(.int lv1), (.int (0 : Int32)), (.ref b3)])) rfl rfl (hb hby d5_25)
  have V6 := Nts.set (g := gz3) Ar5 Sa5 Ma5 Ha5 i5.1 i5.2 W6
  obtain ⟨g6, eg6⟩ : ∃ z, z = upd gz3 ((0 : Int32)).toInt ((lv1).toInt) := ⟨_, rfl⟩
  rw [← eg6] at V6
  have ga6 : g6 (0 : Int) = lv1.toInt := by rw [eg6]; exact upd_at _ _ _
  have gn6 : ∀ i, i ≠ (0 : Int) → g6 i = gz3 i := fun i hi => by rw [eg6]; exact upd_ne _ _ _ hi
  have N6 := Fr.snoc X6 N0 g_b3
  have Z6 : n0 ≤ h6.size := Nat.le_trans Z3 (Keep.of_wr W6).1
  have KK6 := KK3.wr W6 (Or.inr sz_b3)
  obtain ⟨T7, h7, lc7, z3_7, z4_7, t5_7, t6_7, t7_7, t8_7, t9_7, t10_7, X7, e7, K7, N7, q4_7, V0_7, st7⟩ := sg_loop l Z a0 hw u0 u1 b3 (0 : Int32) (0 : Int32) (.unset) (.unset) (.unset) (.unset) (.unset) (.unset) nn gg g6 es h6 n0 Z6 X6 hx hby hml hZ hown e6 N6 ((V_u0.ext E3).other W6 (Nat.ne_of_lt (Nat.lt_of_lt_of_le V_u0.lt (Nat.le_of_eq g3.symm)))) (by have q := V6; rwa [nz2] at q) (Nat.ne_of_lt (Nat.lt_of_lt_of_le V_u0.lt (Nat.le_of_eq g3.symm))) g_b3 hM (by omega) (by rw [eg6, ge3, nlv1]; exact hok) (Or.inl rfl) (Or.inl rfl) (Or.inl rfl) (Or.inl rfl) (Or.inl rfl) (Or.inl rfl)
  have Z7 : n0 ≤ h7.size := Nat.le_trans Z6 K7.1
  have KK7 := KK6.trans K7 (allS (P := fun x => x ∈ [] ∨ h0.size ≤ x) (Or.inr sz_b3) all0)
  obtain ⟨cl8, Ar8, Sa8, Ma8, Ha8⟩ := id (((V_u0.ext E3).other W6 (Nat.ne_of_lt (Nat.lt_of_lt_of_le V_u0.lt (Nat.le_of_eq g3.symm)))).keep K7 (ninS (Nat.ne_of_lt (Nat.lt_of_lt_of_le V_u0.lt (Nat.le_of_eq g3.symm))) nin0))
  have st8 := X7.arraylength hx (by rw [e7]; exact Ar8.1) (State.isArrayOf_alike hZ.alike Ar8.2.1) (g := (mkF m 34 #[.val (.ref u0), .val (.int u1), .val (.ref b3), .val (.int z3_7), .val (.int z4_7), t5_7, t6_7, t7_7, t8_7, t9_7, t10_7] [(.ref u0), (.int z4_7)])) rfl rfl (hb hby d5_34)
  rw [show cl8.slots.size.toInt32 = lv1 from Int32.toInt_inj.mp ((cel_len Sa8 Ma8).trans nlv1.symm)] at st8
  obtain ⟨fs, hr, hrun, hended, hW, hsame⟩ := X7.leave (v := none) (fun _ => rfl)
  refine ⟨_, _, pre0 _ ?_, hrun, hended, _, _, rfl, ?_, ⟨_, rfl⟩, hW, hsame.mono (by decide) (by decide)⟩
  · show Steps p.tables e below (s₁.setTop (mkF m 0 #[.val (.ref u0), .val (.int u1), .unset, .unset, .unset, .unset, .unset, .unset, .unset, .unset, .unset] [])) _
    refine XS.aloadN X0.here hx rfl (hb hby d5_0) rfl rfl ?_
    refine st1 _ ?_
    show Steps p.tables e below (s₁.setTop (mkF m 2 #[.val (.ref u0), .val (.int u1), .unset, .unset, .unset, .unset, .unset, .unset, .unset, .unset, .unset] [(.int lv1)])) _
    refine XS.ifYes X0.here hx rfl (pc0 := 2) (pc' := 15) rfl (hb hby d5_2) rfl ((if0 _ _).trans (feq (own_eq0' (x := lv1.toInt) (y := (0 : Int)) rfl rfl (by omega))).2) (by decide) (by decide) ?_
    refine XS.iloadN X0.here hx rfl (hb hby d5_15) rfl ?_
    refine XS.iconst X0.here hx rfl (hb hby d5_16) ?_
    show Steps p.tables e below (s₁.setTop (mkF m 17 #[.val (.ref u0), .val (.int u1), .unset, .unset, .unset, .unset, .unset, .unset, .unset, .unset, .unset] [(.int (1 : Int32)), (.int u1)])) _
    refine XS.iadd X0.here hx rfl (hb hby d5_17) rfl ?_
    show Steps p.tables e below (s₁.setTop (mkF m 18 #[.val (.ref u0), .val (.int u1), .unset, .unset, .unset, .unset, .unset, .unset, .unset, .unset, .unset] [(.int (u1 + (1 : Int32)))])) _
    rw [← ez2]
    refine st3 _ ?_
    show Steps p.tables e below (T3.setTop (mkF m 20 #[.val (.ref u0), .val (.int u1), .unset, .unset, .unset, .unset, .unset, .unset, .unset, .unset, .unset] [(.ref b3)])) _
    refine XS.astoreN X3.here hx rfl (hb hby d5_20) rfl rfl (l' := #[.val (.ref u0), .val (.int u1), .val (.ref b3), .unset, .unset, .unset, .unset, .unset, .unset, .unset, .unset]) rfl ?_
    refine XS.aloadN X3.here hx rfl (hb hby d5_21) rfl rfl ?_
    refine XS.iconst X3.here hx rfl (hb hby d5_22) ?_
    refine XS.aloadN X3.here hx rfl (hb hby d5_23) rfl rfl ?_
    refine st4 _ ?_
    show Steps p.tables e below (T3.setTop (mkF m 25 #[.val (.ref u0), .val (.int u1), .val (.ref b3), .unset, .unset, .unset, .unset, .unset, .unset, .unset, .unset] [(.int lv1), (.int (0 : Int32)), (.ref b3)])) _
    refine st6 _ ?_
    show Steps p.tables e below (T6.setTop (mkF m 26 #[.val (.ref u0), .val (.int u1), .val (.ref b3), .unset, .unset, .unset, .unset, .unset, .unset, .unset, .unset] [])) _
    refine XS.iconst X6.here hx rfl (hb hby d5_26) ?_
    refine XS.istoreN X6.here hx rfl (hb hby d5_27) rfl (l' := #[.val (.ref u0), .val (.int u1), .val (.ref b3), .val (.int (0 : Int32)), .unset, .unset, .unset, .unset, .unset, .unset, .unset]) rfl ?_
    refine XS.iconst X6.here hx rfl (hb hby d5_28) ?_
    refine XS.istore X6.here hx rfl (hb hby d5_29) rfl (l' := #[.val (.ref u0), .val (.int u1), .val (.ref b3), .val (.int (0 : Int32)), .val (.int (0 : Int32)), .unset, .unset, .unset, .unset, .unset, .unset]) rfl ?_
    refine st7 _ ?_
    show Steps p.tables e below (T7.setTop (mkF m 31 #[.val (.ref u0), .val (.int u1), .val (.ref b3), .val (.int z3_7), .val (.int z4_7), t5_7, t6_7, t7_7, t8_7, t9_7, t10_7] [])) _
    refine XS.iload X7.here hx rfl (hb hby d5_31) rfl ?_
    refine XS.aloadN X7.here hx rfl (hb hby d5_33) rfl rfl ?_
    refine st8 _ ?_
    show Steps p.tables e below (T7.setTop (mkF m 35 #[.val (.ref u0), .val (.int u1), .val (.ref b3), .val (.int z3_7), .val (.int z4_7), t5_7, t6_7, t7_7, t8_7, t9_7, t10_7] [(.int lv1), (.int z4_7)])) _
    refine XS.icmpYes X7.here hx rfl (pc0 := 35) (pc' := 316) rfl (hb hby d5_35) rfl (flt (own_lt0' (x := z4_7.toInt) (y := lv1.toInt) rfl rfl (by omega))).2.1 (by decide) (by decide) ?_
    show Steps p.tables e below (T7.setTop (mkF m 316 #[.val (.ref u0), .val (.int u1), .val (.ref b3), .val (.int z3_7), .val (.int z4_7), t5_7, t6_7, t7_7, t8_7, t9_7, t10_7] [])) _
    exact X7.returnOut hx Bd.returns (hb hby d5_316) hr
  · show Q5 Z u0 u1 nn gg es h0 n0 _ T7.heap _
    rw [e7]
    exact ⟨rfl, N7, KK7⟩
set_option maxRecDepth 65536 in
set_option maxHeartbeats 40000000 in
theorem sg_law1 (l : Launch) (Z : State) (a0 : Array Value) (hw : ∀ d ∈ tables_1, d.before a0 Z = true) {p : Program} {e : Env} {s : State} {m : MethodId} {args : Array Value} {below : List Frame} {meth : Method} {c : Code} {s₁ : State} {locs0 : List Loc} (u0 : Int32) (u1 : Int32) (u2 : Int32) (u3 : Int32) (u4 : Int32) (h0 : Heap) (n0 : Nat) (Z0 : n0 ≤ h0.size) (X0 : Stand p l e room_1 s m args below meth c s₁ locs0 0 0) (hx : p.tables.exec = Jvm.exec) (hby : c.code = code) (hml : c.maxLocals = 29) (hZ : Z.Warmed39 s.vm) (hown : s.vm.findClass "com/example/fides/fides/DerRequireShapePinLaw" = some m.cls) (e0 : s₁.heap = h0) (N0 : Fr n0 locs0) : ∃ (T' : State) (locs' : List Loc) (x5 : Int32) (x6 : Int32) (x7 : Int32) (x8 : Int32) (x9 : Int32), Stand p l e room_1 s m args below meth c T' locs' 0 0 ∧ T'.heap = h0 ∧ Fr n0 locs' ∧ (BigN x5.toInt x9.toInt) ∧ (300 ≤ x9.toInt ∧ x9.toInt ≤ 65600) ∧ (0 ≤ x6.toInt ∧ x6.toInt ≤ 3) ∧ (0 ≤ x7.toInt ∧ x7.toInt ≤ 1) ∧ (0 ≤ x8.toInt ∧ x8.toInt ≤ 7) ∧ ∀ target, Steps p.tables e below (T'.setTop (mkF m 58 #[.val (.int u0), .val (.int u1), .val (.int u2), .val (.int u3), .val (.int u4), .val (.int x5), .val (.int x6), .val (.int x7), .val (.int x8), .val (.int x9), .unset, .unset, .unset, .unset, .unset, .unset, .unset, .unset, .unset, .unset, .unset, .unset, .unset, .unset, .unset, .unset, .unset, .unset, .unset] [])) target → Steps p.tables e below (s₁.setTop (mkF m 0 #[.val (.int u0), .val (.int u1), .val (.int u2), .val (.int u3), .val (.int u4), .unset, .unset, .unset, .unset, .unset, .unset, .unset, .unset, .unset, .unset, .unset, .unset, .unset, .unset, .unset, .unset, .unset, .unset, .unset, .unset, .unset, .unset, .unset, .unset] [])) target := by
  obtain ⟨z1, ez1⟩ : ∃ y : Int32, y = (u0 &&& (1 : Int32)) := ⟨_, rfl⟩
  have nz1 : 0 ≤ z1.toInt ∧ z1.toInt ≤ 1 := by rw [ez1]; exact c_and u0 (1 : Int32) (by decide)
  by_cases hc3 : z1 = (0 : Int32)
  · have nhc3 : z1.toInt = (0 : Int) := own_eq1 rfl rfl hc3
    obtain ⟨z2, ez2⟩ : ∃ y : Int32, y = ((u0.toUInt32 >>> ((1 : Int32) &&& 31).toUInt32).toInt32) := ⟨_, rfl⟩
    obtain ⟨z3, ez3⟩ : ∃ y : Int32, y = (z2 &&& (3 : Int32)) := ⟨_, rfl⟩
    have nz3 : 0 ≤ z3.toInt ∧ z3.toInt ≤ 3 := by rw [ez3]; exact c_and z2 (3 : Int32) (by decide)
    obtain ⟨z4, ez4⟩ : ∃ y : Int32, y = ((u0.toUInt32 >>> ((3 : Int32) &&& 31).toUInt32).toInt32) := ⟨_, rfl⟩
    obtain ⟨z5, ez5⟩ : ∃ y : Int32, y = (z4 &&& (1 : Int32)) := ⟨_, rfl⟩
    have nz5 : 0 ≤ z5.toInt ∧ z5.toInt ≤ 1 := by rw [ez5]; exact c_and z4 (1 : Int32) (by decide)
    by_cases hc25 : z5 = (0 : Int32)
    · have nhc25 : z5.toInt = (0 : Int) := own_eq1 rfl rfl hc25
      obtain ⟨z6, ez6⟩ : ∃ y : Int32, y = ((u0.toUInt32 >>> ((4 : Int32) &&& 31).toUInt32).toInt32) := ⟨_, rfl⟩
      obtain ⟨z7, ez7⟩ : ∃ y : Int32, y = (z6 &&& (7 : Int32)) := ⟨_, rfl⟩
      have nz7 : 0 ≤ z7.toInt ∧ z7.toInt ≤ 7 := by rw [ez7]; exact c_and z6 (7 : Int32) (by decide)
      refine ⟨s₁, _, (0 : Int32), z3, (0 : Int32), z7, (300 : Int32), X0, e0, N0, (Or.inl ⟨rfl, rfl⟩), ⟨by decide, by decide⟩, ⟨by omega, by omega⟩, ⟨by decide, by decide⟩, ⟨by omega, by omega⟩, fun target kt => ?_⟩
      show Steps p.tables e below (s₁.setTop (mkF m 0 #[.val (.int u0), .val (.int u1), .val (.int u2), .val (.int u3), .val (.int u4), .unset, .unset, .unset, .unset, .unset, .unset, .unset, .unset, .unset, .unset, .unset, .unset, .unset, .unset, .unset, .unset, .unset, .unset, .unset, .unset, .unset, .unset, .unset, .unset] [])) _
      refine XS.iloadN X0.here hx rfl (hb hby at_0) rfl ?_
      refine XS.iconst X0.here hx rfl (hb hby at_1) ?_
      show Steps p.tables e below (s₁.setTop (mkF m 2 #[.val (.int u0), .val (.int u1), .val (.int u2), .val (.int u3), .val (.int u4), .unset, .unset, .unset, .unset, .unset, .unset, .unset, .unset, .unset, .unset, .unset, .unset, .unset, .unset, .unset, .unset, .unset, .unset, .unset, .unset, .unset, .unset, .unset, .unset] [(.int (1 : Int32)), (.int u0)])) _
      refine XS.iand X0.here hx rfl (hb hby at_2) rfl ?_
      show Steps p.tables e below (s₁.setTop (mkF m 3 #[.val (.int u0), .val (.int u1), .val (.int u2), .val (.int u3), .val (.int u4), .unset, .unset, .unset, .unset, .unset, .unset, .unset, .unset, .unset, .unset, .unset, .unset, .unset, .unset, .unset, .unset, .unset, .unset, .unset, .unset, .unset, .unset, .unset, .unset] [(.int (u0 &&& (1 : Int32)))])) _
      rw [← ez1]
      refine XS.ifYes X0.here hx rfl (pc0 := 3) (pc' := 10) rfl (hb hby at_3) rfl ((if0 _ _).trans (teq hc3).1) (by decide) (by decide) ?_
      refine XS.iconst X0.here hx rfl (hb hby at_10) ?_
      refine XS.istore X0.here hx rfl (hb hby at_11) rfl (l' := #[.val (.int u0), .val (.int u1), .val (.int u2), .val (.int u3), .val (.int u4), .val (.int (0 : Int32)), .unset, .unset, .unset, .unset, .unset, .unset, .unset, .unset, .unset, .unset, .unset, .unset, .unset, .unset, .unset, .unset, .unset, .unset, .unset, .unset, .unset, .unset, .unset]) rfl ?_
      refine XS.iloadN X0.here hx rfl (hb hby at_13) rfl ?_
      refine XS.iconst X0.here hx rfl (hb hby at_14) ?_
      show Steps p.tables e below (s₁.setTop (mkF m 15 #[.val (.int u0), .val (.int u1), .val (.int u2), .val (.int u3), .val (.int u4), .val (.int (0 : Int32)), .unset, .unset, .unset, .unset, .unset, .unset, .unset, .unset, .unset, .unset, .unset, .unset, .unset, .unset, .unset, .unset, .unset, .unset, .unset, .unset, .unset, .unset, .unset] [(.int (1 : Int32)), (.int u0)])) _
      refine XS.iushr X0.here hx rfl (hb hby at_15) rfl ?_
      show Steps p.tables e below (s₁.setTop (mkF m 16 #[.val (.int u0), .val (.int u1), .val (.int u2), .val (.int u3), .val (.int u4), .val (.int (0 : Int32)), .unset, .unset, .unset, .unset, .unset, .unset, .unset, .unset, .unset, .unset, .unset, .unset, .unset, .unset, .unset, .unset, .unset, .unset, .unset, .unset, .unset, .unset, .unset] [(.int ((u0.toUInt32 >>> ((1 : Int32) &&& 31).toUInt32).toInt32))])) _
      rw [← ez2]
      refine XS.iconst X0.here hx rfl (hb hby at_16) ?_
      show Steps p.tables e below (s₁.setTop (mkF m 17 #[.val (.int u0), .val (.int u1), .val (.int u2), .val (.int u3), .val (.int u4), .val (.int (0 : Int32)), .unset, .unset, .unset, .unset, .unset, .unset, .unset, .unset, .unset, .unset, .unset, .unset, .unset, .unset, .unset, .unset, .unset, .unset, .unset, .unset, .unset, .unset, .unset] [(.int (3 : Int32)), (.int z2)])) _
      refine XS.iand X0.here hx rfl (hb hby at_17) rfl ?_
      show Steps p.tables e below (s₁.setTop (mkF m 18 #[.val (.int u0), .val (.int u1), .val (.int u2), .val (.int u3), .val (.int u4), .val (.int (0 : Int32)), .unset, .unset, .unset, .unset, .unset, .unset, .unset, .unset, .unset, .unset, .unset, .unset, .unset, .unset, .unset, .unset, .unset, .unset, .unset, .unset, .unset, .unset, .unset] [(.int (z2 &&& (3 : Int32)))])) _
      rw [← ez3]
      refine XS.istore X0.here hx rfl (hb hby at_18) rfl (l' := #[.val (.int u0), .val (.int u1), .val (.int u2), .val (.int u3), .val (.int u4), .val (.int (0 : Int32)), .val (.int z3), .unset, .unset, .unset, .unset, .unset, .unset, .unset, .unset, .unset, .unset, .unset, .unset, .unset, .unset, .unset, .unset, .unset, .unset, .unset, .unset, .unset, .unset]) rfl ?_
      refine XS.iloadN X0.here hx rfl (hb hby at_20) rfl ?_
      refine XS.iconst X0.here hx rfl (hb hby at_21) ?_
      show Steps p.tables e below (s₁.setTop (mkF m 22 #[.val (.int u0), .val (.int u1), .val (.int u2), .val (.int u3), .val (.int u4), .val (.int (0 : Int32)), .val (.int z3), .unset, .unset, .unset, .unset, .unset, .unset, .unset, .unset, .unset, .unset, .unset, .unset, .unset, .unset, .unset, .unset, .unset, .unset, .unset, .unset, .unset, .unset] [(.int (3 : Int32)), (.int u0)])) _
      refine XS.iushr X0.here hx rfl (hb hby at_22) rfl ?_
      show Steps p.tables e below (s₁.setTop (mkF m 23 #[.val (.int u0), .val (.int u1), .val (.int u2), .val (.int u3), .val (.int u4), .val (.int (0 : Int32)), .val (.int z3), .unset, .unset, .unset, .unset, .unset, .unset, .unset, .unset, .unset, .unset, .unset, .unset, .unset, .unset, .unset, .unset, .unset, .unset, .unset, .unset, .unset, .unset] [(.int ((u0.toUInt32 >>> ((3 : Int32) &&& 31).toUInt32).toInt32))])) _
      rw [← ez4]
      refine XS.iconst X0.here hx rfl (hb hby at_23) ?_
      show Steps p.tables e below (s₁.setTop (mkF m 24 #[.val (.int u0), .val (.int u1), .val (.int u2), .val (.int u3), .val (.int u4), .val (.int (0 : Int32)), .val (.int z3), .unset, .unset, .unset, .unset, .unset, .unset, .unset, .unset, .unset, .unset, .unset, .unset, .unset, .unset, .unset, .unset, .unset, .unset, .unset, .unset, .unset, .unset] [(.int (1 : Int32)), (.int z4)])) _
      refine XS.iand X0.here hx rfl (hb hby at_24) rfl ?_
      show Steps p.tables e below (s₁.setTop (mkF m 25 #[.val (.int u0), .val (.int u1), .val (.int u2), .val (.int u3), .val (.int u4), .val (.int (0 : Int32)), .val (.int z3), .unset, .unset, .unset, .unset, .unset, .unset, .unset, .unset, .unset, .unset, .unset, .unset, .unset, .unset, .unset, .unset, .unset, .unset, .unset, .unset, .unset, .unset] [(.int (z4 &&& (1 : Int32)))])) _
      rw [← ez5]
      refine XS.ifYes X0.here hx rfl (pc0 := 25) (pc' := 32) rfl (hb hby at_25) rfl ((if0 _ _).trans (teq hc25).1) (by decide) (by decide) ?_
      refine XS.iconst X0.here hx rfl (hb hby at_32) ?_
      refine XS.istore X0.here hx rfl (hb hby at_33) rfl (l' := #[.val (.int u0), .val (.int u1), .val (.int u2), .val (.int u3), .val (.int u4), .val (.int (0 : Int32)), .val (.int z3), .val (.int (0 : Int32)), .unset, .unset, .unset, .unset, .unset, .unset, .unset, .unset, .unset, .unset, .unset, .unset, .unset, .unset, .unset, .unset, .unset, .unset, .unset, .unset, .unset]) rfl ?_
      refine XS.iloadN X0.here hx rfl (hb hby at_35) rfl ?_
      refine XS.iconst X0.here hx rfl (hb hby at_36) ?_
      show Steps p.tables e below (s₁.setTop (mkF m 37 #[.val (.int u0), .val (.int u1), .val (.int u2), .val (.int u3), .val (.int u4), .val (.int (0 : Int32)), .val (.int z3), .val (.int (0 : Int32)), .unset, .unset, .unset, .unset, .unset, .unset, .unset, .unset, .unset, .unset, .unset, .unset, .unset, .unset, .unset, .unset, .unset, .unset, .unset, .unset, .unset] [(.int (4 : Int32)), (.int u0)])) _
      refine XS.iushr X0.here hx rfl (hb hby at_37) rfl ?_
      show Steps p.tables e below (s₁.setTop (mkF m 38 #[.val (.int u0), .val (.int u1), .val (.int u2), .val (.int u3), .val (.int u4), .val (.int (0 : Int32)), .val (.int z3), .val (.int (0 : Int32)), .unset, .unset, .unset, .unset, .unset, .unset, .unset, .unset, .unset, .unset, .unset, .unset, .unset, .unset, .unset, .unset, .unset, .unset, .unset, .unset, .unset] [(.int ((u0.toUInt32 >>> ((4 : Int32) &&& 31).toUInt32).toInt32))])) _
      rw [← ez6]
      refine XS.bipush X0.here hx rfl (hb hby at_38) ?_
      show Steps p.tables e below (s₁.setTop (mkF m 40 #[.val (.int u0), .val (.int u1), .val (.int u2), .val (.int u3), .val (.int u4), .val (.int (0 : Int32)), .val (.int z3), .val (.int (0 : Int32)), .unset, .unset, .unset, .unset, .unset, .unset, .unset, .unset, .unset, .unset, .unset, .unset, .unset, .unset, .unset, .unset, .unset, .unset, .unset, .unset, .unset] [(.int (7 : Int32)), (.int z6)])) _
      refine XS.iand X0.here hx rfl (hb hby at_40) rfl ?_
      show Steps p.tables e below (s₁.setTop (mkF m 41 #[.val (.int u0), .val (.int u1), .val (.int u2), .val (.int u3), .val (.int u4), .val (.int (0 : Int32)), .val (.int z3), .val (.int (0 : Int32)), .unset, .unset, .unset, .unset, .unset, .unset, .unset, .unset, .unset, .unset, .unset, .unset, .unset, .unset, .unset, .unset, .unset, .unset, .unset, .unset, .unset] [(.int (z6 &&& (7 : Int32)))])) _
      rw [← ez7]
      refine XS.istore X0.here hx rfl (hb hby at_41) rfl (l' := #[.val (.int u0), .val (.int u1), .val (.int u2), .val (.int u3), .val (.int u4), .val (.int (0 : Int32)), .val (.int z3), .val (.int (0 : Int32)), .val (.int z7), .unset, .unset, .unset, .unset, .unset, .unset, .unset, .unset, .unset, .unset, .unset, .unset, .unset, .unset, .unset, .unset, .unset, .unset, .unset, .unset]) rfl ?_
      refine XS.iload X0.here hx rfl (hb hby at_43) rfl ?_
      refine XS.ifYes X0.here hx rfl (pc0 := 45) (pc' := 53) rfl (hb hby at_45) rfl ((if0 _ _).trans (teq (by decide)).1) (by decide) (by decide) ?_
      refine XS.sipush X0.here hx rfl (hb hby at_53) ?_
      refine XS.istore X0.here hx rfl (hb hby at_56) rfl (l' := #[.val (.int u0), .val (.int u1), .val (.int u2), .val (.int u3), .val (.int u4), .val (.int (0 : Int32)), .val (.int z3), .val (.int (0 : Int32)), .val (.int z7), .val (.int (300 : Int32)), .unset, .unset, .unset, .unset, .unset, .unset, .unset, .unset, .unset, .unset, .unset, .unset, .unset, .unset, .unset, .unset, .unset, .unset, .unset]) rfl ?_
      exact kt
    · have nhc25 : ¬ z5.toInt = (0 : Int) := own_eq0 rfl rfl hc25
      obtain ⟨z8, ez8⟩ : ∃ y : Int32, y = ((u0.toUInt32 >>> ((4 : Int32) &&& 31).toUInt32).toInt32) := ⟨_, rfl⟩
      obtain ⟨z9, ez9⟩ : ∃ y : Int32, y = (z8 &&& (7 : Int32)) := ⟨_, rfl⟩
      have nz9 : 0 ≤ z9.toInt ∧ z9.toInt ≤ 7 := by rw [ez9]; exact c_and z8 (7 : Int32) (by decide)
      refine ⟨s₁, _, (0 : Int32), z3, (1 : Int32), z9, (300 : Int32), X0, e0, N0, (Or.inl ⟨rfl, rfl⟩), ⟨by decide, by decide⟩, ⟨by omega, by omega⟩, ⟨by decide, by decide⟩, ⟨by omega, by omega⟩, fun target kt => ?_⟩
      show Steps p.tables e below (s₁.setTop (mkF m 0 #[.val (.int u0), .val (.int u1), .val (.int u2), .val (.int u3), .val (.int u4), .unset, .unset, .unset, .unset, .unset, .unset, .unset, .unset, .unset, .unset, .unset, .unset, .unset, .unset, .unset, .unset, .unset, .unset, .unset, .unset, .unset, .unset, .unset, .unset] [])) _
      refine XS.iloadN X0.here hx rfl (hb hby at_0) rfl ?_
      refine XS.iconst X0.here hx rfl (hb hby at_1) ?_
      show Steps p.tables e below (s₁.setTop (mkF m 2 #[.val (.int u0), .val (.int u1), .val (.int u2), .val (.int u3), .val (.int u4), .unset, .unset, .unset, .unset, .unset, .unset, .unset, .unset, .unset, .unset, .unset, .unset, .unset, .unset, .unset, .unset, .unset, .unset, .unset, .unset, .unset, .unset, .unset, .unset] [(.int (1 : Int32)), (.int u0)])) _
      refine XS.iand X0.here hx rfl (hb hby at_2) rfl ?_
      show Steps p.tables e below (s₁.setTop (mkF m 3 #[.val (.int u0), .val (.int u1), .val (.int u2), .val (.int u3), .val (.int u4), .unset, .unset, .unset, .unset, .unset, .unset, .unset, .unset, .unset, .unset, .unset, .unset, .unset, .unset, .unset, .unset, .unset, .unset, .unset, .unset, .unset, .unset, .unset, .unset] [(.int (u0 &&& (1 : Int32)))])) _
      rw [← ez1]
      refine XS.ifYes X0.here hx rfl (pc0 := 3) (pc' := 10) rfl (hb hby at_3) rfl ((if0 _ _).trans (teq hc3).1) (by decide) (by decide) ?_
      refine XS.iconst X0.here hx rfl (hb hby at_10) ?_
      refine XS.istore X0.here hx rfl (hb hby at_11) rfl (l' := #[.val (.int u0), .val (.int u1), .val (.int u2), .val (.int u3), .val (.int u4), .val (.int (0 : Int32)), .unset, .unset, .unset, .unset, .unset, .unset, .unset, .unset, .unset, .unset, .unset, .unset, .unset, .unset, .unset, .unset, .unset, .unset, .unset, .unset, .unset, .unset, .unset]) rfl ?_
      refine XS.iloadN X0.here hx rfl (hb hby at_13) rfl ?_
      refine XS.iconst X0.here hx rfl (hb hby at_14) ?_
      show Steps p.tables e below (s₁.setTop (mkF m 15 #[.val (.int u0), .val (.int u1), .val (.int u2), .val (.int u3), .val (.int u4), .val (.int (0 : Int32)), .unset, .unset, .unset, .unset, .unset, .unset, .unset, .unset, .unset, .unset, .unset, .unset, .unset, .unset, .unset, .unset, .unset, .unset, .unset, .unset, .unset, .unset, .unset] [(.int (1 : Int32)), (.int u0)])) _
      refine XS.iushr X0.here hx rfl (hb hby at_15) rfl ?_
      show Steps p.tables e below (s₁.setTop (mkF m 16 #[.val (.int u0), .val (.int u1), .val (.int u2), .val (.int u3), .val (.int u4), .val (.int (0 : Int32)), .unset, .unset, .unset, .unset, .unset, .unset, .unset, .unset, .unset, .unset, .unset, .unset, .unset, .unset, .unset, .unset, .unset, .unset, .unset, .unset, .unset, .unset, .unset] [(.int ((u0.toUInt32 >>> ((1 : Int32) &&& 31).toUInt32).toInt32))])) _
      rw [← ez2]
      refine XS.iconst X0.here hx rfl (hb hby at_16) ?_
      show Steps p.tables e below (s₁.setTop (mkF m 17 #[.val (.int u0), .val (.int u1), .val (.int u2), .val (.int u3), .val (.int u4), .val (.int (0 : Int32)), .unset, .unset, .unset, .unset, .unset, .unset, .unset, .unset, .unset, .unset, .unset, .unset, .unset, .unset, .unset, .unset, .unset, .unset, .unset, .unset, .unset, .unset, .unset] [(.int (3 : Int32)), (.int z2)])) _
      refine XS.iand X0.here hx rfl (hb hby at_17) rfl ?_
      show Steps p.tables e below (s₁.setTop (mkF m 18 #[.val (.int u0), .val (.int u1), .val (.int u2), .val (.int u3), .val (.int u4), .val (.int (0 : Int32)), .unset, .unset, .unset, .unset, .unset, .unset, .unset, .unset, .unset, .unset, .unset, .unset, .unset, .unset, .unset, .unset, .unset, .unset, .unset, .unset, .unset, .unset, .unset] [(.int (z2 &&& (3 : Int32)))])) _
      rw [← ez3]
      refine XS.istore X0.here hx rfl (hb hby at_18) rfl (l' := #[.val (.int u0), .val (.int u1), .val (.int u2), .val (.int u3), .val (.int u4), .val (.int (0 : Int32)), .val (.int z3), .unset, .unset, .unset, .unset, .unset, .unset, .unset, .unset, .unset, .unset, .unset, .unset, .unset, .unset, .unset, .unset, .unset, .unset, .unset, .unset, .unset, .unset]) rfl ?_
      refine XS.iloadN X0.here hx rfl (hb hby at_20) rfl ?_
      refine XS.iconst X0.here hx rfl (hb hby at_21) ?_
      show Steps p.tables e below (s₁.setTop (mkF m 22 #[.val (.int u0), .val (.int u1), .val (.int u2), .val (.int u3), .val (.int u4), .val (.int (0 : Int32)), .val (.int z3), .unset, .unset, .unset, .unset, .unset, .unset, .unset, .unset, .unset, .unset, .unset, .unset, .unset, .unset, .unset, .unset, .unset, .unset, .unset, .unset, .unset, .unset] [(.int (3 : Int32)), (.int u0)])) _
      refine XS.iushr X0.here hx rfl (hb hby at_22) rfl ?_
      show Steps p.tables e below (s₁.setTop (mkF m 23 #[.val (.int u0), .val (.int u1), .val (.int u2), .val (.int u3), .val (.int u4), .val (.int (0 : Int32)), .val (.int z3), .unset, .unset, .unset, .unset, .unset, .unset, .unset, .unset, .unset, .unset, .unset, .unset, .unset, .unset, .unset, .unset, .unset, .unset, .unset, .unset, .unset, .unset] [(.int ((u0.toUInt32 >>> ((3 : Int32) &&& 31).toUInt32).toInt32))])) _
      rw [← ez4]
      refine XS.iconst X0.here hx rfl (hb hby at_23) ?_
      show Steps p.tables e below (s₁.setTop (mkF m 24 #[.val (.int u0), .val (.int u1), .val (.int u2), .val (.int u3), .val (.int u4), .val (.int (0 : Int32)), .val (.int z3), .unset, .unset, .unset, .unset, .unset, .unset, .unset, .unset, .unset, .unset, .unset, .unset, .unset, .unset, .unset, .unset, .unset, .unset, .unset, .unset, .unset, .unset] [(.int (1 : Int32)), (.int z4)])) _
      refine XS.iand X0.here hx rfl (hb hby at_24) rfl ?_
      show Steps p.tables e below (s₁.setTop (mkF m 25 #[.val (.int u0), .val (.int u1), .val (.int u2), .val (.int u3), .val (.int u4), .val (.int (0 : Int32)), .val (.int z3), .unset, .unset, .unset, .unset, .unset, .unset, .unset, .unset, .unset, .unset, .unset, .unset, .unset, .unset, .unset, .unset, .unset, .unset, .unset, .unset, .unset, .unset] [(.int (z4 &&& (1 : Int32)))])) _
      rw [← ez5]
      refine XS.ifNo X0.here hx rfl (hb hby at_25) rfl ((if0 _ _).trans (feq hc25).1) ?_
      refine XS.iconst X0.here hx rfl (hb hby at_28) ?_
      refine XS.goto X0.here hx rfl (pc0 := 29) (pc' := 33) rfl (hb hby at_29) (by decide) (by decide) ?_
      refine XS.istore X0.here hx rfl (hb hby at_33) rfl (l' := #[.val (.int u0), .val (.int u1), .val (.int u2), .val (.int u3), .val (.int u4), .val (.int (0 : Int32)), .val (.int z3), .val (.int (1 : Int32)), .unset, .unset, .unset, .unset, .unset, .unset, .unset, .unset, .unset, .unset, .unset, .unset, .unset, .unset, .unset, .unset, .unset, .unset, .unset, .unset, .unset]) rfl ?_
      refine XS.iloadN X0.here hx rfl (hb hby at_35) rfl ?_
      refine XS.iconst X0.here hx rfl (hb hby at_36) ?_
      show Steps p.tables e below (s₁.setTop (mkF m 37 #[.val (.int u0), .val (.int u1), .val (.int u2), .val (.int u3), .val (.int u4), .val (.int (0 : Int32)), .val (.int z3), .val (.int (1 : Int32)), .unset, .unset, .unset, .unset, .unset, .unset, .unset, .unset, .unset, .unset, .unset, .unset, .unset, .unset, .unset, .unset, .unset, .unset, .unset, .unset, .unset] [(.int (4 : Int32)), (.int u0)])) _
      refine XS.iushr X0.here hx rfl (hb hby at_37) rfl ?_
      show Steps p.tables e below (s₁.setTop (mkF m 38 #[.val (.int u0), .val (.int u1), .val (.int u2), .val (.int u3), .val (.int u4), .val (.int (0 : Int32)), .val (.int z3), .val (.int (1 : Int32)), .unset, .unset, .unset, .unset, .unset, .unset, .unset, .unset, .unset, .unset, .unset, .unset, .unset, .unset, .unset, .unset, .unset, .unset, .unset, .unset, .unset] [(.int ((u0.toUInt32 >>> ((4 : Int32) &&& 31).toUInt32).toInt32))])) _
      rw [← ez8]
      refine XS.bipush X0.here hx rfl (hb hby at_38) ?_
      show Steps p.tables e below (s₁.setTop (mkF m 40 #[.val (.int u0), .val (.int u1), .val (.int u2), .val (.int u3), .val (.int u4), .val (.int (0 : Int32)), .val (.int z3), .val (.int (1 : Int32)), .unset, .unset, .unset, .unset, .unset, .unset, .unset, .unset, .unset, .unset, .unset, .unset, .unset, .unset, .unset, .unset, .unset, .unset, .unset, .unset, .unset] [(.int (7 : Int32)), (.int z8)])) _
      refine XS.iand X0.here hx rfl (hb hby at_40) rfl ?_
      show Steps p.tables e below (s₁.setTop (mkF m 41 #[.val (.int u0), .val (.int u1), .val (.int u2), .val (.int u3), .val (.int u4), .val (.int (0 : Int32)), .val (.int z3), .val (.int (1 : Int32)), .unset, .unset, .unset, .unset, .unset, .unset, .unset, .unset, .unset, .unset, .unset, .unset, .unset, .unset, .unset, .unset, .unset, .unset, .unset, .unset, .unset] [(.int (z8 &&& (7 : Int32)))])) _
      rw [← ez9]
      refine XS.istore X0.here hx rfl (hb hby at_41) rfl (l' := #[.val (.int u0), .val (.int u1), .val (.int u2), .val (.int u3), .val (.int u4), .val (.int (0 : Int32)), .val (.int z3), .val (.int (1 : Int32)), .val (.int z9), .unset, .unset, .unset, .unset, .unset, .unset, .unset, .unset, .unset, .unset, .unset, .unset, .unset, .unset, .unset, .unset, .unset, .unset, .unset, .unset]) rfl ?_
      refine XS.iload X0.here hx rfl (hb hby at_43) rfl ?_
      refine XS.ifYes X0.here hx rfl (pc0 := 45) (pc' := 53) rfl (hb hby at_45) rfl ((if0 _ _).trans (teq (by decide)).1) (by decide) (by decide) ?_
      refine XS.sipush X0.here hx rfl (hb hby at_53) ?_
      refine XS.istore X0.here hx rfl (hb hby at_56) rfl (l' := #[.val (.int u0), .val (.int u1), .val (.int u2), .val (.int u3), .val (.int u4), .val (.int (0 : Int32)), .val (.int z3), .val (.int (1 : Int32)), .val (.int z9), .val (.int (300 : Int32)), .unset, .unset, .unset, .unset, .unset, .unset, .unset, .unset, .unset, .unset, .unset, .unset, .unset, .unset, .unset, .unset, .unset, .unset, .unset]) rfl ?_
      exact kt
  · have nhc3 : ¬ z1.toInt = (0 : Int) := own_eq0 rfl rfl hc3
    obtain ⟨z10, ez10⟩ : ∃ y : Int32, y = ((u0.toUInt32 >>> ((1 : Int32) &&& 31).toUInt32).toInt32) := ⟨_, rfl⟩
    obtain ⟨z11, ez11⟩ : ∃ y : Int32, y = (z10 &&& (3 : Int32)) := ⟨_, rfl⟩
    have nz11 : 0 ≤ z11.toInt ∧ z11.toInt ≤ 3 := by rw [ez11]; exact c_and z10 (3 : Int32) (by decide)
    obtain ⟨z12, ez12⟩ : ∃ y : Int32, y = ((u0.toUInt32 >>> ((3 : Int32) &&& 31).toUInt32).toInt32) := ⟨_, rfl⟩
    obtain ⟨z13, ez13⟩ : ∃ y : Int32, y = (z12 &&& (1 : Int32)) := ⟨_, rfl⟩
    have nz13 : 0 ≤ z13.toInt ∧ z13.toInt ≤ 1 := by rw [ez13]; exact c_and z12 (1 : Int32) (by decide)
    by_cases hc25 : z13 = (0 : Int32)
    · have nhc25 : z13.toInt = (0 : Int) := own_eq1 rfl rfl hc25
      obtain ⟨z14, ez14⟩ : ∃ y : Int32, y = ((u0.toUInt32 >>> ((4 : Int32) &&& 31).toUInt32).toInt32) := ⟨_, rfl⟩
      obtain ⟨z15, ez15⟩ : ∃ y : Int32, y = (z14 &&& (7 : Int32)) := ⟨_, rfl⟩
      have nz15 : 0 ≤ z15.toInt ∧ z15.toInt ≤ 7 := by rw [ez15]; exact c_and z14 (7 : Int32) (by decide)
      have st16 := X0.ldcInt hx hown (mvT hZ (hw _ (List.mem_of_getElem? (i := 24) rfl))) (g := (mkF m 48 #[.val (.int u0), .val (.int u1), .val (.int u2), .val (.int u3), .val (.int u4), .val (.int (1 : Int32)), .val (.int z11), .val (.int (0 : Int32)), .val (.int z15), .unset, .unset, .unset, .unset, .unset, .unset, .unset, .unset, .unset, .unset, .unset, .unset, .unset, .unset, .unset, .unset, .unset, .unset, .unset, .unset] [])) rfl (hb hby at_48)
      refine ⟨s₁, _, (1 : Int32), z11, (0 : Int32), z15, (65600 : Int32), X0, e0, N0, (Or.inr ⟨rfl, rfl⟩), ⟨by decide, by decide⟩, ⟨by omega, by omega⟩, ⟨by decide, by decide⟩, ⟨by omega, by omega⟩, fun target kt => ?_⟩
      show Steps p.tables e below (s₁.setTop (mkF m 0 #[.val (.int u0), .val (.int u1), .val (.int u2), .val (.int u3), .val (.int u4), .unset, .unset, .unset, .unset, .unset, .unset, .unset, .unset, .unset, .unset, .unset, .unset, .unset, .unset, .unset, .unset, .unset, .unset, .unset, .unset, .unset, .unset, .unset, .unset] [])) _
      refine XS.iloadN X0.here hx rfl (hb hby at_0) rfl ?_
      refine XS.iconst X0.here hx rfl (hb hby at_1) ?_
      show Steps p.tables e below (s₁.setTop (mkF m 2 #[.val (.int u0), .val (.int u1), .val (.int u2), .val (.int u3), .val (.int u4), .unset, .unset, .unset, .unset, .unset, .unset, .unset, .unset, .unset, .unset, .unset, .unset, .unset, .unset, .unset, .unset, .unset, .unset, .unset, .unset, .unset, .unset, .unset, .unset] [(.int (1 : Int32)), (.int u0)])) _
      refine XS.iand X0.here hx rfl (hb hby at_2) rfl ?_
      show Steps p.tables e below (s₁.setTop (mkF m 3 #[.val (.int u0), .val (.int u1), .val (.int u2), .val (.int u3), .val (.int u4), .unset, .unset, .unset, .unset, .unset, .unset, .unset, .unset, .unset, .unset, .unset, .unset, .unset, .unset, .unset, .unset, .unset, .unset, .unset, .unset, .unset, .unset, .unset, .unset] [(.int (u0 &&& (1 : Int32)))])) _
      rw [← ez1]
      refine XS.ifNo X0.here hx rfl (hb hby at_3) rfl ((if0 _ _).trans (feq hc3).1) ?_
      refine XS.iconst X0.here hx rfl (hb hby at_6) ?_
      refine XS.goto X0.here hx rfl (pc0 := 7) (pc' := 11) rfl (hb hby at_7) (by decide) (by decide) ?_
      refine XS.istore X0.here hx rfl (hb hby at_11) rfl (l' := #[.val (.int u0), .val (.int u1), .val (.int u2), .val (.int u3), .val (.int u4), .val (.int (1 : Int32)), .unset, .unset, .unset, .unset, .unset, .unset, .unset, .unset, .unset, .unset, .unset, .unset, .unset, .unset, .unset, .unset, .unset, .unset, .unset, .unset, .unset, .unset, .unset]) rfl ?_
      refine XS.iloadN X0.here hx rfl (hb hby at_13) rfl ?_
      refine XS.iconst X0.here hx rfl (hb hby at_14) ?_
      show Steps p.tables e below (s₁.setTop (mkF m 15 #[.val (.int u0), .val (.int u1), .val (.int u2), .val (.int u3), .val (.int u4), .val (.int (1 : Int32)), .unset, .unset, .unset, .unset, .unset, .unset, .unset, .unset, .unset, .unset, .unset, .unset, .unset, .unset, .unset, .unset, .unset, .unset, .unset, .unset, .unset, .unset, .unset] [(.int (1 : Int32)), (.int u0)])) _
      refine XS.iushr X0.here hx rfl (hb hby at_15) rfl ?_
      show Steps p.tables e below (s₁.setTop (mkF m 16 #[.val (.int u0), .val (.int u1), .val (.int u2), .val (.int u3), .val (.int u4), .val (.int (1 : Int32)), .unset, .unset, .unset, .unset, .unset, .unset, .unset, .unset, .unset, .unset, .unset, .unset, .unset, .unset, .unset, .unset, .unset, .unset, .unset, .unset, .unset, .unset, .unset] [(.int ((u0.toUInt32 >>> ((1 : Int32) &&& 31).toUInt32).toInt32))])) _
      rw [← ez10]
      refine XS.iconst X0.here hx rfl (hb hby at_16) ?_
      show Steps p.tables e below (s₁.setTop (mkF m 17 #[.val (.int u0), .val (.int u1), .val (.int u2), .val (.int u3), .val (.int u4), .val (.int (1 : Int32)), .unset, .unset, .unset, .unset, .unset, .unset, .unset, .unset, .unset, .unset, .unset, .unset, .unset, .unset, .unset, .unset, .unset, .unset, .unset, .unset, .unset, .unset, .unset] [(.int (3 : Int32)), (.int z10)])) _
      refine XS.iand X0.here hx rfl (hb hby at_17) rfl ?_
      show Steps p.tables e below (s₁.setTop (mkF m 18 #[.val (.int u0), .val (.int u1), .val (.int u2), .val (.int u3), .val (.int u4), .val (.int (1 : Int32)), .unset, .unset, .unset, .unset, .unset, .unset, .unset, .unset, .unset, .unset, .unset, .unset, .unset, .unset, .unset, .unset, .unset, .unset, .unset, .unset, .unset, .unset, .unset] [(.int (z10 &&& (3 : Int32)))])) _
      rw [← ez11]
      refine XS.istore X0.here hx rfl (hb hby at_18) rfl (l' := #[.val (.int u0), .val (.int u1), .val (.int u2), .val (.int u3), .val (.int u4), .val (.int (1 : Int32)), .val (.int z11), .unset, .unset, .unset, .unset, .unset, .unset, .unset, .unset, .unset, .unset, .unset, .unset, .unset, .unset, .unset, .unset, .unset, .unset, .unset, .unset, .unset, .unset]) rfl ?_
      refine XS.iloadN X0.here hx rfl (hb hby at_20) rfl ?_
      refine XS.iconst X0.here hx rfl (hb hby at_21) ?_
      show Steps p.tables e below (s₁.setTop (mkF m 22 #[.val (.int u0), .val (.int u1), .val (.int u2), .val (.int u3), .val (.int u4), .val (.int (1 : Int32)), .val (.int z11), .unset, .unset, .unset, .unset, .unset, .unset, .unset, .unset, .unset, .unset, .unset, .unset, .unset, .unset, .unset, .unset, .unset, .unset, .unset, .unset, .unset, .unset] [(.int (3 : Int32)), (.int u0)])) _
      refine XS.iushr X0.here hx rfl (hb hby at_22) rfl ?_
      show Steps p.tables e below (s₁.setTop (mkF m 23 #[.val (.int u0), .val (.int u1), .val (.int u2), .val (.int u3), .val (.int u4), .val (.int (1 : Int32)), .val (.int z11), .unset, .unset, .unset, .unset, .unset, .unset, .unset, .unset, .unset, .unset, .unset, .unset, .unset, .unset, .unset, .unset, .unset, .unset, .unset, .unset, .unset, .unset] [(.int ((u0.toUInt32 >>> ((3 : Int32) &&& 31).toUInt32).toInt32))])) _
      rw [← ez12]
      refine XS.iconst X0.here hx rfl (hb hby at_23) ?_
      show Steps p.tables e below (s₁.setTop (mkF m 24 #[.val (.int u0), .val (.int u1), .val (.int u2), .val (.int u3), .val (.int u4), .val (.int (1 : Int32)), .val (.int z11), .unset, .unset, .unset, .unset, .unset, .unset, .unset, .unset, .unset, .unset, .unset, .unset, .unset, .unset, .unset, .unset, .unset, .unset, .unset, .unset, .unset, .unset] [(.int (1 : Int32)), (.int z12)])) _
      refine XS.iand X0.here hx rfl (hb hby at_24) rfl ?_
      show Steps p.tables e below (s₁.setTop (mkF m 25 #[.val (.int u0), .val (.int u1), .val (.int u2), .val (.int u3), .val (.int u4), .val (.int (1 : Int32)), .val (.int z11), .unset, .unset, .unset, .unset, .unset, .unset, .unset, .unset, .unset, .unset, .unset, .unset, .unset, .unset, .unset, .unset, .unset, .unset, .unset, .unset, .unset, .unset] [(.int (z12 &&& (1 : Int32)))])) _
      rw [← ez13]
      refine XS.ifYes X0.here hx rfl (pc0 := 25) (pc' := 32) rfl (hb hby at_25) rfl ((if0 _ _).trans (teq hc25).1) (by decide) (by decide) ?_
      refine XS.iconst X0.here hx rfl (hb hby at_32) ?_
      refine XS.istore X0.here hx rfl (hb hby at_33) rfl (l' := #[.val (.int u0), .val (.int u1), .val (.int u2), .val (.int u3), .val (.int u4), .val (.int (1 : Int32)), .val (.int z11), .val (.int (0 : Int32)), .unset, .unset, .unset, .unset, .unset, .unset, .unset, .unset, .unset, .unset, .unset, .unset, .unset, .unset, .unset, .unset, .unset, .unset, .unset, .unset, .unset]) rfl ?_
      refine XS.iloadN X0.here hx rfl (hb hby at_35) rfl ?_
      refine XS.iconst X0.here hx rfl (hb hby at_36) ?_
      show Steps p.tables e below (s₁.setTop (mkF m 37 #[.val (.int u0), .val (.int u1), .val (.int u2), .val (.int u3), .val (.int u4), .val (.int (1 : Int32)), .val (.int z11), .val (.int (0 : Int32)), .unset, .unset, .unset, .unset, .unset, .unset, .unset, .unset, .unset, .unset, .unset, .unset, .unset, .unset, .unset, .unset, .unset, .unset, .unset, .unset, .unset] [(.int (4 : Int32)), (.int u0)])) _
      refine XS.iushr X0.here hx rfl (hb hby at_37) rfl ?_
      show Steps p.tables e below (s₁.setTop (mkF m 38 #[.val (.int u0), .val (.int u1), .val (.int u2), .val (.int u3), .val (.int u4), .val (.int (1 : Int32)), .val (.int z11), .val (.int (0 : Int32)), .unset, .unset, .unset, .unset, .unset, .unset, .unset, .unset, .unset, .unset, .unset, .unset, .unset, .unset, .unset, .unset, .unset, .unset, .unset, .unset, .unset] [(.int ((u0.toUInt32 >>> ((4 : Int32) &&& 31).toUInt32).toInt32))])) _
      rw [← ez14]
      refine XS.bipush X0.here hx rfl (hb hby at_38) ?_
      show Steps p.tables e below (s₁.setTop (mkF m 40 #[.val (.int u0), .val (.int u1), .val (.int u2), .val (.int u3), .val (.int u4), .val (.int (1 : Int32)), .val (.int z11), .val (.int (0 : Int32)), .unset, .unset, .unset, .unset, .unset, .unset, .unset, .unset, .unset, .unset, .unset, .unset, .unset, .unset, .unset, .unset, .unset, .unset, .unset, .unset, .unset] [(.int (7 : Int32)), (.int z14)])) _
      refine XS.iand X0.here hx rfl (hb hby at_40) rfl ?_
      show Steps p.tables e below (s₁.setTop (mkF m 41 #[.val (.int u0), .val (.int u1), .val (.int u2), .val (.int u3), .val (.int u4), .val (.int (1 : Int32)), .val (.int z11), .val (.int (0 : Int32)), .unset, .unset, .unset, .unset, .unset, .unset, .unset, .unset, .unset, .unset, .unset, .unset, .unset, .unset, .unset, .unset, .unset, .unset, .unset, .unset, .unset] [(.int (z14 &&& (7 : Int32)))])) _
      rw [← ez15]
      refine XS.istore X0.here hx rfl (hb hby at_41) rfl (l' := #[.val (.int u0), .val (.int u1), .val (.int u2), .val (.int u3), .val (.int u4), .val (.int (1 : Int32)), .val (.int z11), .val (.int (0 : Int32)), .val (.int z15), .unset, .unset, .unset, .unset, .unset, .unset, .unset, .unset, .unset, .unset, .unset, .unset, .unset, .unset, .unset, .unset, .unset, .unset, .unset, .unset]) rfl ?_
      refine XS.iload X0.here hx rfl (hb hby at_43) rfl ?_
      refine XS.ifNo X0.here hx rfl (hb hby at_45) rfl ((if0 _ _).trans (feq (by decide)).1) ?_
      show Steps p.tables e below (s₁.setTop (mkF m 48 #[.val (.int u0), .val (.int u1), .val (.int u2), .val (.int u3), .val (.int u4), .val (.int (1 : Int32)), .val (.int z11), .val (.int (0 : Int32)), .val (.int z15), .unset, .unset, .unset, .unset, .unset, .unset, .unset, .unset, .unset, .unset, .unset, .unset, .unset, .unset, .unset, .unset, .unset, .unset, .unset, .unset] [])) _
      refine st16 _ ?_
      show Steps p.tables e below (s₁.setTop (mkF m 50 #[.val (.int u0), .val (.int u1), .val (.int u2), .val (.int u3), .val (.int u4), .val (.int (1 : Int32)), .val (.int z11), .val (.int (0 : Int32)), .val (.int z15), .unset, .unset, .unset, .unset, .unset, .unset, .unset, .unset, .unset, .unset, .unset, .unset, .unset, .unset, .unset, .unset, .unset, .unset, .unset, .unset] [(.int (65600 : Int32))])) _
      refine XS.goto X0.here hx rfl (pc0 := 50) (pc' := 56) rfl (hb hby at_50) (by decide) (by decide) ?_
      refine XS.istore X0.here hx rfl (hb hby at_56) rfl (l' := #[.val (.int u0), .val (.int u1), .val (.int u2), .val (.int u3), .val (.int u4), .val (.int (1 : Int32)), .val (.int z11), .val (.int (0 : Int32)), .val (.int z15), .val (.int (65600 : Int32)), .unset, .unset, .unset, .unset, .unset, .unset, .unset, .unset, .unset, .unset, .unset, .unset, .unset, .unset, .unset, .unset, .unset, .unset, .unset]) rfl ?_
      exact kt
    · have nhc25 : ¬ z13.toInt = (0 : Int) := own_eq0 rfl rfl hc25
      obtain ⟨z17, ez17⟩ : ∃ y : Int32, y = ((u0.toUInt32 >>> ((4 : Int32) &&& 31).toUInt32).toInt32) := ⟨_, rfl⟩
      obtain ⟨z18, ez18⟩ : ∃ y : Int32, y = (z17 &&& (7 : Int32)) := ⟨_, rfl⟩
      have nz18 : 0 ≤ z18.toInt ∧ z18.toInt ≤ 7 := by rw [ez18]; exact c_and z17 (7 : Int32) (by decide)
      have st19 := X0.ldcInt hx hown (mvT hZ (hw _ (List.mem_of_getElem? (i := 24) rfl))) (g := (mkF m 48 #[.val (.int u0), .val (.int u1), .val (.int u2), .val (.int u3), .val (.int u4), .val (.int (1 : Int32)), .val (.int z11), .val (.int (1 : Int32)), .val (.int z18), .unset, .unset, .unset, .unset, .unset, .unset, .unset, .unset, .unset, .unset, .unset, .unset, .unset, .unset, .unset, .unset, .unset, .unset, .unset, .unset] [])) rfl (hb hby at_48)
      refine ⟨s₁, _, (1 : Int32), z11, (1 : Int32), z18, (65600 : Int32), X0, e0, N0, (Or.inr ⟨rfl, rfl⟩), ⟨by decide, by decide⟩, ⟨by omega, by omega⟩, ⟨by decide, by decide⟩, ⟨by omega, by omega⟩, fun target kt => ?_⟩
      show Steps p.tables e below (s₁.setTop (mkF m 0 #[.val (.int u0), .val (.int u1), .val (.int u2), .val (.int u3), .val (.int u4), .unset, .unset, .unset, .unset, .unset, .unset, .unset, .unset, .unset, .unset, .unset, .unset, .unset, .unset, .unset, .unset, .unset, .unset, .unset, .unset, .unset, .unset, .unset, .unset] [])) _
      refine XS.iloadN X0.here hx rfl (hb hby at_0) rfl ?_
      refine XS.iconst X0.here hx rfl (hb hby at_1) ?_
      show Steps p.tables e below (s₁.setTop (mkF m 2 #[.val (.int u0), .val (.int u1), .val (.int u2), .val (.int u3), .val (.int u4), .unset, .unset, .unset, .unset, .unset, .unset, .unset, .unset, .unset, .unset, .unset, .unset, .unset, .unset, .unset, .unset, .unset, .unset, .unset, .unset, .unset, .unset, .unset, .unset] [(.int (1 : Int32)), (.int u0)])) _
      refine XS.iand X0.here hx rfl (hb hby at_2) rfl ?_
      show Steps p.tables e below (s₁.setTop (mkF m 3 #[.val (.int u0), .val (.int u1), .val (.int u2), .val (.int u3), .val (.int u4), .unset, .unset, .unset, .unset, .unset, .unset, .unset, .unset, .unset, .unset, .unset, .unset, .unset, .unset, .unset, .unset, .unset, .unset, .unset, .unset, .unset, .unset, .unset, .unset] [(.int (u0 &&& (1 : Int32)))])) _
      rw [← ez1]
      refine XS.ifNo X0.here hx rfl (hb hby at_3) rfl ((if0 _ _).trans (feq hc3).1) ?_
      refine XS.iconst X0.here hx rfl (hb hby at_6) ?_
      refine XS.goto X0.here hx rfl (pc0 := 7) (pc' := 11) rfl (hb hby at_7) (by decide) (by decide) ?_
      refine XS.istore X0.here hx rfl (hb hby at_11) rfl (l' := #[.val (.int u0), .val (.int u1), .val (.int u2), .val (.int u3), .val (.int u4), .val (.int (1 : Int32)), .unset, .unset, .unset, .unset, .unset, .unset, .unset, .unset, .unset, .unset, .unset, .unset, .unset, .unset, .unset, .unset, .unset, .unset, .unset, .unset, .unset, .unset, .unset]) rfl ?_
      refine XS.iloadN X0.here hx rfl (hb hby at_13) rfl ?_
      refine XS.iconst X0.here hx rfl (hb hby at_14) ?_
      show Steps p.tables e below (s₁.setTop (mkF m 15 #[.val (.int u0), .val (.int u1), .val (.int u2), .val (.int u3), .val (.int u4), .val (.int (1 : Int32)), .unset, .unset, .unset, .unset, .unset, .unset, .unset, .unset, .unset, .unset, .unset, .unset, .unset, .unset, .unset, .unset, .unset, .unset, .unset, .unset, .unset, .unset, .unset] [(.int (1 : Int32)), (.int u0)])) _
      refine XS.iushr X0.here hx rfl (hb hby at_15) rfl ?_
      show Steps p.tables e below (s₁.setTop (mkF m 16 #[.val (.int u0), .val (.int u1), .val (.int u2), .val (.int u3), .val (.int u4), .val (.int (1 : Int32)), .unset, .unset, .unset, .unset, .unset, .unset, .unset, .unset, .unset, .unset, .unset, .unset, .unset, .unset, .unset, .unset, .unset, .unset, .unset, .unset, .unset, .unset, .unset] [(.int ((u0.toUInt32 >>> ((1 : Int32) &&& 31).toUInt32).toInt32))])) _
      rw [← ez10]
      refine XS.iconst X0.here hx rfl (hb hby at_16) ?_
      show Steps p.tables e below (s₁.setTop (mkF m 17 #[.val (.int u0), .val (.int u1), .val (.int u2), .val (.int u3), .val (.int u4), .val (.int (1 : Int32)), .unset, .unset, .unset, .unset, .unset, .unset, .unset, .unset, .unset, .unset, .unset, .unset, .unset, .unset, .unset, .unset, .unset, .unset, .unset, .unset, .unset, .unset, .unset] [(.int (3 : Int32)), (.int z10)])) _
      refine XS.iand X0.here hx rfl (hb hby at_17) rfl ?_
      show Steps p.tables e below (s₁.setTop (mkF m 18 #[.val (.int u0), .val (.int u1), .val (.int u2), .val (.int u3), .val (.int u4), .val (.int (1 : Int32)), .unset, .unset, .unset, .unset, .unset, .unset, .unset, .unset, .unset, .unset, .unset, .unset, .unset, .unset, .unset, .unset, .unset, .unset, .unset, .unset, .unset, .unset, .unset] [(.int (z10 &&& (3 : Int32)))])) _
      rw [← ez11]
      refine XS.istore X0.here hx rfl (hb hby at_18) rfl (l' := #[.val (.int u0), .val (.int u1), .val (.int u2), .val (.int u3), .val (.int u4), .val (.int (1 : Int32)), .val (.int z11), .unset, .unset, .unset, .unset, .unset, .unset, .unset, .unset, .unset, .unset, .unset, .unset, .unset, .unset, .unset, .unset, .unset, .unset, .unset, .unset, .unset, .unset]) rfl ?_
      refine XS.iloadN X0.here hx rfl (hb hby at_20) rfl ?_
      refine XS.iconst X0.here hx rfl (hb hby at_21) ?_
      show Steps p.tables e below (s₁.setTop (mkF m 22 #[.val (.int u0), .val (.int u1), .val (.int u2), .val (.int u3), .val (.int u4), .val (.int (1 : Int32)), .val (.int z11), .unset, .unset, .unset, .unset, .unset, .unset, .unset, .unset, .unset, .unset, .unset, .unset, .unset, .unset, .unset, .unset, .unset, .unset, .unset, .unset, .unset, .unset] [(.int (3 : Int32)), (.int u0)])) _
      refine XS.iushr X0.here hx rfl (hb hby at_22) rfl ?_
      show Steps p.tables e below (s₁.setTop (mkF m 23 #[.val (.int u0), .val (.int u1), .val (.int u2), .val (.int u3), .val (.int u4), .val (.int (1 : Int32)), .val (.int z11), .unset, .unset, .unset, .unset, .unset, .unset, .unset, .unset, .unset, .unset, .unset, .unset, .unset, .unset, .unset, .unset, .unset, .unset, .unset, .unset, .unset, .unset] [(.int ((u0.toUInt32 >>> ((3 : Int32) &&& 31).toUInt32).toInt32))])) _
      rw [← ez12]
      refine XS.iconst X0.here hx rfl (hb hby at_23) ?_
      show Steps p.tables e below (s₁.setTop (mkF m 24 #[.val (.int u0), .val (.int u1), .val (.int u2), .val (.int u3), .val (.int u4), .val (.int (1 : Int32)), .val (.int z11), .unset, .unset, .unset, .unset, .unset, .unset, .unset, .unset, .unset, .unset, .unset, .unset, .unset, .unset, .unset, .unset, .unset, .unset, .unset, .unset, .unset, .unset] [(.int (1 : Int32)), (.int z12)])) _
      refine XS.iand X0.here hx rfl (hb hby at_24) rfl ?_
      show Steps p.tables e below (s₁.setTop (mkF m 25 #[.val (.int u0), .val (.int u1), .val (.int u2), .val (.int u3), .val (.int u4), .val (.int (1 : Int32)), .val (.int z11), .unset, .unset, .unset, .unset, .unset, .unset, .unset, .unset, .unset, .unset, .unset, .unset, .unset, .unset, .unset, .unset, .unset, .unset, .unset, .unset, .unset, .unset] [(.int (z12 &&& (1 : Int32)))])) _
      rw [← ez13]
      refine XS.ifNo X0.here hx rfl (hb hby at_25) rfl ((if0 _ _).trans (feq hc25).1) ?_
      refine XS.iconst X0.here hx rfl (hb hby at_28) ?_
      refine XS.goto X0.here hx rfl (pc0 := 29) (pc' := 33) rfl (hb hby at_29) (by decide) (by decide) ?_
      refine XS.istore X0.here hx rfl (hb hby at_33) rfl (l' := #[.val (.int u0), .val (.int u1), .val (.int u2), .val (.int u3), .val (.int u4), .val (.int (1 : Int32)), .val (.int z11), .val (.int (1 : Int32)), .unset, .unset, .unset, .unset, .unset, .unset, .unset, .unset, .unset, .unset, .unset, .unset, .unset, .unset, .unset, .unset, .unset, .unset, .unset, .unset, .unset]) rfl ?_
      refine XS.iloadN X0.here hx rfl (hb hby at_35) rfl ?_
      refine XS.iconst X0.here hx rfl (hb hby at_36) ?_
      show Steps p.tables e below (s₁.setTop (mkF m 37 #[.val (.int u0), .val (.int u1), .val (.int u2), .val (.int u3), .val (.int u4), .val (.int (1 : Int32)), .val (.int z11), .val (.int (1 : Int32)), .unset, .unset, .unset, .unset, .unset, .unset, .unset, .unset, .unset, .unset, .unset, .unset, .unset, .unset, .unset, .unset, .unset, .unset, .unset, .unset, .unset] [(.int (4 : Int32)), (.int u0)])) _
      refine XS.iushr X0.here hx rfl (hb hby at_37) rfl ?_
      show Steps p.tables e below (s₁.setTop (mkF m 38 #[.val (.int u0), .val (.int u1), .val (.int u2), .val (.int u3), .val (.int u4), .val (.int (1 : Int32)), .val (.int z11), .val (.int (1 : Int32)), .unset, .unset, .unset, .unset, .unset, .unset, .unset, .unset, .unset, .unset, .unset, .unset, .unset, .unset, .unset, .unset, .unset, .unset, .unset, .unset, .unset] [(.int ((u0.toUInt32 >>> ((4 : Int32) &&& 31).toUInt32).toInt32))])) _
      rw [← ez17]
      refine XS.bipush X0.here hx rfl (hb hby at_38) ?_
      show Steps p.tables e below (s₁.setTop (mkF m 40 #[.val (.int u0), .val (.int u1), .val (.int u2), .val (.int u3), .val (.int u4), .val (.int (1 : Int32)), .val (.int z11), .val (.int (1 : Int32)), .unset, .unset, .unset, .unset, .unset, .unset, .unset, .unset, .unset, .unset, .unset, .unset, .unset, .unset, .unset, .unset, .unset, .unset, .unset, .unset, .unset] [(.int (7 : Int32)), (.int z17)])) _
      refine XS.iand X0.here hx rfl (hb hby at_40) rfl ?_
      show Steps p.tables e below (s₁.setTop (mkF m 41 #[.val (.int u0), .val (.int u1), .val (.int u2), .val (.int u3), .val (.int u4), .val (.int (1 : Int32)), .val (.int z11), .val (.int (1 : Int32)), .unset, .unset, .unset, .unset, .unset, .unset, .unset, .unset, .unset, .unset, .unset, .unset, .unset, .unset, .unset, .unset, .unset, .unset, .unset, .unset, .unset] [(.int (z17 &&& (7 : Int32)))])) _
      rw [← ez18]
      refine XS.istore X0.here hx rfl (hb hby at_41) rfl (l' := #[.val (.int u0), .val (.int u1), .val (.int u2), .val (.int u3), .val (.int u4), .val (.int (1 : Int32)), .val (.int z11), .val (.int (1 : Int32)), .val (.int z18), .unset, .unset, .unset, .unset, .unset, .unset, .unset, .unset, .unset, .unset, .unset, .unset, .unset, .unset, .unset, .unset, .unset, .unset, .unset, .unset]) rfl ?_
      refine XS.iload X0.here hx rfl (hb hby at_43) rfl ?_
      refine XS.ifNo X0.here hx rfl (hb hby at_45) rfl ((if0 _ _).trans (feq (by decide)).1) ?_
      show Steps p.tables e below (s₁.setTop (mkF m 48 #[.val (.int u0), .val (.int u1), .val (.int u2), .val (.int u3), .val (.int u4), .val (.int (1 : Int32)), .val (.int z11), .val (.int (1 : Int32)), .val (.int z18), .unset, .unset, .unset, .unset, .unset, .unset, .unset, .unset, .unset, .unset, .unset, .unset, .unset, .unset, .unset, .unset, .unset, .unset, .unset, .unset] [])) _
      refine st19 _ ?_
      show Steps p.tables e below (s₁.setTop (mkF m 50 #[.val (.int u0), .val (.int u1), .val (.int u2), .val (.int u3), .val (.int u4), .val (.int (1 : Int32)), .val (.int z11), .val (.int (1 : Int32)), .val (.int z18), .unset, .unset, .unset, .unset, .unset, .unset, .unset, .unset, .unset, .unset, .unset, .unset, .unset, .unset, .unset, .unset, .unset, .unset, .unset, .unset] [(.int (65600 : Int32))])) _
      refine XS.goto X0.here hx rfl (pc0 := 50) (pc' := 56) rfl (hb hby at_50) (by decide) (by decide) ?_
      refine XS.istore X0.here hx rfl (hb hby at_56) rfl (l' := #[.val (.int u0), .val (.int u1), .val (.int u2), .val (.int u3), .val (.int u4), .val (.int (1 : Int32)), .val (.int z11), .val (.int (1 : Int32)), .val (.int z18), .val (.int (65600 : Int32)), .unset, .unset, .unset, .unset, .unset, .unset, .unset, .unset, .unset, .unset, .unset, .unset, .unset, .unset, .unset, .unset, .unset, .unset, .unset]) rfl ?_
      exact kt
set_option maxRecDepth 65536 in
set_option maxHeartbeats 40000000 in
theorem sg_law2 (l : Launch) (Z : State) (a0 : Array Value) (hw : ∀ d ∈ tables_1, d.before a0 Z = true) {p : Program} {e : Env} {s : State} {m : MethodId} {args : Array Value} {below : List Frame} {meth : Method} {c : Code} {s₁ : State} {locs0 : List Loc} (u0 : Int32) (u1 : Int32) (u2 : Int32) (u3 : Int32) (u4 : Int32) (x5 : Int32) (x6 : Int32) (x7 : Int32) (x8 : Int32) (x9 : Int32) (b10 : Addr) (h0 : Heap) (n0 : Nat) (Z0 : n0 ≤ h0.size) (X0 : Stand p l e room_1 s m args below meth c s₁ locs0 1 65600) (hx : p.tables.exec = Jvm.exec) (hby : c.code = code) (hml : c.maxLocals = 29) (hZ : Z.Warmed39 s.vm) (hown : s.vm.findClass "com/example/fides/fides/DerRequireShapePinLaw" = some m.cls) (e0 : s₁.heap = h0) (N0 : Fr n0 locs0) : ∃ (T' : State) (locs' : List Loc) (x11 : Int32) (x12 : Int32) (x13 : Int32) (x14 : Int32) (x15 : Int32) (x16 : Int32) (x17 : Int32) (x18 : Int32) (x19 : Int32) (x20 : Int32) (x21 : Int32), Stand p l e room_1 s m args below meth c T' locs' 1 65600 ∧ T'.heap = h0 ∧ Fr n0 locs' ∧ (0 ≤ x11.toInt ∧ x11.toInt ≤ 3) ∧ (0 ≤ x12.toInt ∧ x12.toInt ≤ 3) ∧ (0 ≤ x13.toInt ∧ x13.toInt ≤ 3) ∧ (0 ≤ x14.toInt ∧ x14.toInt ≤ 3) ∧ (0 ≤ x15.toInt ∧ x15.toInt ≤ 3) ∧ (0 ≤ x21.toInt ∧ x21.toInt ≤ 255 ∧ (x7.toInt = 1 → x21.toInt = 0)) ∧ ∀ target, Steps p.tables e below (T'.setTop (mkF m 155 #[.val (.int u0), .val (.int u1), .val (.int u2), .val (.int u3), .val (.int u4), .val (.int x5), .val (.int x6), .val (.int x7), .val (.int x8), .val (.int x9), .val (.ref b10), .val (.int x11), .val (.int x12), .val (.int x13), .val (.int x14), .val (.int x15), .val (.int x16), .val (.int x17), .val (.int x18), .val (.int x19), .val (.int x20), .val (.int x21), .unset, .unset, .unset, .unset, .unset, .unset, .unset] [])) target → Steps p.tables e below (s₁.setTop (mkF m 64 #[.val (.int u0), .val (.int u1), .val (.int u2), .val (.int u3), .val (.int u4), .val (.int x5), .val (.int x6), .val (.int x7), .val (.int x8), .val (.int x9), .val (.ref b10), .unset, .unset, .unset, .unset, .unset, .unset, .unset, .unset, .unset, .unset, .unset, .unset, .unset, .unset, .unset, .unset, .unset, .unset] [])) target := by
  obtain ⟨z1, ez1⟩ : ∃ y : Int32, y = (u1 &&& (3 : Int32)) := ⟨_, rfl⟩
  have nz1 : 0 ≤ z1.toInt ∧ z1.toInt ≤ 3 := by rw [ez1]; exact c_and u1 (3 : Int32) (by decide)
  obtain ⟨z2, ez2⟩ : ∃ y : Int32, y = ((u1.toUInt32 >>> ((2 : Int32) &&& 31).toUInt32).toInt32) := ⟨_, rfl⟩
  obtain ⟨z3, ez3⟩ : ∃ y : Int32, y = (z2 &&& (3 : Int32)) := ⟨_, rfl⟩
  have nz3 : 0 ≤ z3.toInt ∧ z3.toInt ≤ 3 := by rw [ez3]; exact c_and z2 (3 : Int32) (by decide)
  obtain ⟨z4, ez4⟩ : ∃ y : Int32, y = ((u1.toUInt32 >>> ((4 : Int32) &&& 31).toUInt32).toInt32) := ⟨_, rfl⟩
  obtain ⟨z5, ez5⟩ : ∃ y : Int32, y = (z4 &&& (3 : Int32)) := ⟨_, rfl⟩
  have nz5 : 0 ≤ z5.toInt ∧ z5.toInt ≤ 3 := by rw [ez5]; exact c_and z4 (3 : Int32) (by decide)
  obtain ⟨z6, ez6⟩ : ∃ y : Int32, y = ((u1.toUInt32 >>> ((6 : Int32) &&& 31).toUInt32).toInt32) := ⟨_, rfl⟩
  obtain ⟨z7, ez7⟩ : ∃ y : Int32, y = (z6 &&& (3 : Int32)) := ⟨_, rfl⟩
  have nz7 : 0 ≤ z7.toInt ∧ z7.toInt ≤ 3 := by rw [ez7]; exact c_and z6 (3 : Int32) (by decide)
  obtain ⟨z8, ez8⟩ : ∃ y : Int32, y = ((u1.toUInt32 >>> ((8 : Int32) &&& 31).toUInt32).toInt32) := ⟨_, rfl⟩
  obtain ⟨z9, ez9⟩ : ∃ y : Int32, y = (z8 &&& (3 : Int32)) := ⟨_, rfl⟩
  have nz9 : 0 ≤ z9.toInt ∧ z9.toInt ≤ 3 := by rw [ez9]; exact c_and z8 (3 : Int32) (by decide)
  obtain ⟨z10, ez10⟩ : ∃ y : Int32, y = ((u1.toUInt32 >>> ((10 : Int32) &&& 31).toUInt32).toInt32) := ⟨_, rfl⟩
  obtain ⟨z11, ez11⟩ : ∃ y : Int32, y = (z10 &&& (3 : Int32)) := ⟨_, rfl⟩
  have nz11 : 0 ≤ z11.toInt ∧ z11.toInt ≤ 3 := by rw [ez11]; exact c_and z10 (3 : Int32) (by decide)
  obtain ⟨z12, ez12⟩ : ∃ y : Int32, y = ((u1.toUInt32 >>> ((12 : Int32) &&& 31).toUInt32).toInt32) := ⟨_, rfl⟩
  obtain ⟨z13, ez13⟩ : ∃ y : Int32, y = (z12 &&& (3 : Int32)) := ⟨_, rfl⟩
  have nz13 : 0 ≤ z13.toInt ∧ z13.toInt ≤ 3 := by rw [ez13]; exact c_and z12 (3 : Int32) (by decide)
  obtain ⟨z14, ez14⟩ : ∃ y : Int32, y = ((u1.toUInt32 >>> ((14 : Int32) &&& 31).toUInt32).toInt32) := ⟨_, rfl⟩
  obtain ⟨z15, ez15⟩ : ∃ y : Int32, y = (z14 &&& (3 : Int32)) := ⟨_, rfl⟩
  have nz15 : 0 ≤ z15.toInt ∧ z15.toInt ≤ 3 := by rw [ez15]; exact c_and z14 (3 : Int32) (by decide)
  obtain ⟨z16, ez16⟩ : ∃ y : Int32, y = ((u1.toUInt32 >>> ((16 : Int32) &&& 31).toUInt32).toInt32) := ⟨_, rfl⟩
  obtain ⟨z17, ez17⟩ : ∃ y : Int32, y = (z16 &&& (3 : Int32)) := ⟨_, rfl⟩
  have nz17 : 0 ≤ z17.toInt ∧ z17.toInt ≤ 3 := by rw [ez17]; exact c_and z16 (3 : Int32) (by decide)
  obtain ⟨z18, ez18⟩ : ∃ y : Int32, y = ((u1.toUInt32 >>> ((18 : Int32) &&& 31).toUInt32).toInt32) := ⟨_, rfl⟩
  obtain ⟨z19, ez19⟩ : ∃ y : Int32, y = (z18 &&& (3 : Int32)) := ⟨_, rfl⟩
  have nz19 : 0 ≤ z19.toInt ∧ z19.toInt ≤ 3 := by rw [ez19]; exact c_and z18 (3 : Int32) (by decide)
  by_cases hc141 : x7 = (0 : Int32)
  · have nhc141 : x7.toInt = (0 : Int) := own_eq1 rfl rfl hc141
    obtain ⟨z20, ez20⟩ : ∃ y : Int32, y = (u3 &&& (255 : Int32)) := ⟨_, rfl⟩
    have nz20 : 0 ≤ z20.toInt ∧ z20.toInt ≤ 255 := by rw [ez20]; exact c_and u3 (255 : Int32) (by decide)
    refine ⟨s₁, _, z1, z3, z5, z7, z9, z11, z13, z15, z17, z19, z20, X0, e0, N0, ⟨by omega, by omega⟩, ⟨by omega, by omega⟩, ⟨by omega, by omega⟩, ⟨by omega, by omega⟩, ⟨by omega, by omega⟩, ⟨by omega, by omega, fun q => by omega⟩, fun target kt => ?_⟩
    show Steps p.tables e below (s₁.setTop (mkF m 64 #[.val (.int u0), .val (.int u1), .val (.int u2), .val (.int u3), .val (.int u4), .val (.int x5), .val (.int x6), .val (.int x7), .val (.int x8), .val (.int x9), .val (.ref b10), .unset, .unset, .unset, .unset, .unset, .unset, .unset, .unset, .unset, .unset, .unset, .unset, .unset, .unset, .unset, .unset, .unset, .unset] [])) _
    refine XS.iloadN X0.here hx rfl (hb hby at_64) rfl ?_
    refine XS.iconst X0.here hx rfl (hb hby at_65) ?_
    show Steps p.tables e below (s₁.setTop (mkF m 66 #[.val (.int u0), .val (.int u1), .val (.int u2), .val (.int u3), .val (.int u4), .val (.int x5), .val (.int x6), .val (.int x7), .val (.int x8), .val (.int x9), .val (.ref b10), .unset, .unset, .unset, .unset, .unset, .unset, .unset, .unset, .unset, .unset, .unset, .unset, .unset, .unset, .unset, .unset, .unset, .unset] [(.int (3 : Int32)), (.int u1)])) _
    refine XS.iand X0.here hx rfl (hb hby at_66) rfl ?_
    show Steps p.tables e below (s₁.setTop (mkF m 67 #[.val (.int u0), .val (.int u1), .val (.int u2), .val (.int u3), .val (.int u4), .val (.int x5), .val (.int x6), .val (.int x7), .val (.int x8), .val (.int x9), .val (.ref b10), .unset, .unset, .unset, .unset, .unset, .unset, .unset, .unset, .unset, .unset, .unset, .unset, .unset, .unset, .unset, .unset, .unset, .unset] [(.int (u1 &&& (3 : Int32)))])) _
    rw [← ez1]
    refine XS.istore X0.here hx rfl (hb hby at_67) rfl (l' := #[.val (.int u0), .val (.int u1), .val (.int u2), .val (.int u3), .val (.int u4), .val (.int x5), .val (.int x6), .val (.int x7), .val (.int x8), .val (.int x9), .val (.ref b10), .val (.int z1), .unset, .unset, .unset, .unset, .unset, .unset, .unset, .unset, .unset, .unset, .unset, .unset, .unset, .unset, .unset, .unset, .unset]) rfl ?_
    refine XS.iloadN X0.here hx rfl (hb hby at_69) rfl ?_
    refine XS.iconst X0.here hx rfl (hb hby at_70) ?_
    show Steps p.tables e below (s₁.setTop (mkF m 71 #[.val (.int u0), .val (.int u1), .val (.int u2), .val (.int u3), .val (.int u4), .val (.int x5), .val (.int x6), .val (.int x7), .val (.int x8), .val (.int x9), .val (.ref b10), .val (.int z1), .unset, .unset, .unset, .unset, .unset, .unset, .unset, .unset, .unset, .unset, .unset, .unset, .unset, .unset, .unset, .unset, .unset] [(.int (2 : Int32)), (.int u1)])) _
    refine XS.iushr X0.here hx rfl (hb hby at_71) rfl ?_
    show Steps p.tables e below (s₁.setTop (mkF m 72 #[.val (.int u0), .val (.int u1), .val (.int u2), .val (.int u3), .val (.int u4), .val (.int x5), .val (.int x6), .val (.int x7), .val (.int x8), .val (.int x9), .val (.ref b10), .val (.int z1), .unset, .unset, .unset, .unset, .unset, .unset, .unset, .unset, .unset, .unset, .unset, .unset, .unset, .unset, .unset, .unset, .unset] [(.int ((u1.toUInt32 >>> ((2 : Int32) &&& 31).toUInt32).toInt32))])) _
    rw [← ez2]
    refine XS.iconst X0.here hx rfl (hb hby at_72) ?_
    show Steps p.tables e below (s₁.setTop (mkF m 73 #[.val (.int u0), .val (.int u1), .val (.int u2), .val (.int u3), .val (.int u4), .val (.int x5), .val (.int x6), .val (.int x7), .val (.int x8), .val (.int x9), .val (.ref b10), .val (.int z1), .unset, .unset, .unset, .unset, .unset, .unset, .unset, .unset, .unset, .unset, .unset, .unset, .unset, .unset, .unset, .unset, .unset] [(.int (3 : Int32)), (.int z2)])) _
    refine XS.iand X0.here hx rfl (hb hby at_73) rfl ?_
    show Steps p.tables e below (s₁.setTop (mkF m 74 #[.val (.int u0), .val (.int u1), .val (.int u2), .val (.int u3), .val (.int u4), .val (.int x5), .val (.int x6), .val (.int x7), .val (.int x8), .val (.int x9), .val (.ref b10), .val (.int z1), .unset, .unset, .unset, .unset, .unset, .unset, .unset, .unset, .unset, .unset, .unset, .unset, .unset, .unset, .unset, .unset, .unset] [(.int (z2 &&& (3 : Int32)))])) _
    rw [← ez3]
    refine XS.istore X0.here hx rfl (hb hby at_74) rfl (l' := #[.val (.int u0), .val (.int u1), .val (.int u2), .val (.int u3), .val (.int u4), .val (.int x5), .val (.int x6), .val (.int x7), .val (.int x8), .val (.int x9), .val (.ref b10), .val (.int z1), .val (.int z3), .unset, .unset, .unset, .unset, .unset, .unset, .unset, .unset, .unset, .unset, .unset, .unset, .unset, .unset, .unset, .unset]) rfl ?_
    refine XS.iloadN X0.here hx rfl (hb hby at_76) rfl ?_
    refine XS.iconst X0.here hx rfl (hb hby at_77) ?_
    show Steps p.tables e below (s₁.setTop (mkF m 78 #[.val (.int u0), .val (.int u1), .val (.int u2), .val (.int u3), .val (.int u4), .val (.int x5), .val (.int x6), .val (.int x7), .val (.int x8), .val (.int x9), .val (.ref b10), .val (.int z1), .val (.int z3), .unset, .unset, .unset, .unset, .unset, .unset, .unset, .unset, .unset, .unset, .unset, .unset, .unset, .unset, .unset, .unset] [(.int (4 : Int32)), (.int u1)])) _
    refine XS.iushr X0.here hx rfl (hb hby at_78) rfl ?_
    show Steps p.tables e below (s₁.setTop (mkF m 79 #[.val (.int u0), .val (.int u1), .val (.int u2), .val (.int u3), .val (.int u4), .val (.int x5), .val (.int x6), .val (.int x7), .val (.int x8), .val (.int x9), .val (.ref b10), .val (.int z1), .val (.int z3), .unset, .unset, .unset, .unset, .unset, .unset, .unset, .unset, .unset, .unset, .unset, .unset, .unset, .unset, .unset, .unset] [(.int ((u1.toUInt32 >>> ((4 : Int32) &&& 31).toUInt32).toInt32))])) _
    rw [← ez4]
    refine XS.iconst X0.here hx rfl (hb hby at_79) ?_
    show Steps p.tables e below (s₁.setTop (mkF m 80 #[.val (.int u0), .val (.int u1), .val (.int u2), .val (.int u3), .val (.int u4), .val (.int x5), .val (.int x6), .val (.int x7), .val (.int x8), .val (.int x9), .val (.ref b10), .val (.int z1), .val (.int z3), .unset, .unset, .unset, .unset, .unset, .unset, .unset, .unset, .unset, .unset, .unset, .unset, .unset, .unset, .unset, .unset] [(.int (3 : Int32)), (.int z4)])) _
    refine XS.iand X0.here hx rfl (hb hby at_80) rfl ?_
    show Steps p.tables e below (s₁.setTop (mkF m 81 #[.val (.int u0), .val (.int u1), .val (.int u2), .val (.int u3), .val (.int u4), .val (.int x5), .val (.int x6), .val (.int x7), .val (.int x8), .val (.int x9), .val (.ref b10), .val (.int z1), .val (.int z3), .unset, .unset, .unset, .unset, .unset, .unset, .unset, .unset, .unset, .unset, .unset, .unset, .unset, .unset, .unset, .unset] [(.int (z4 &&& (3 : Int32)))])) _
    rw [← ez5]
    refine XS.istore X0.here hx rfl (hb hby at_81) rfl (l' := #[.val (.int u0), .val (.int u1), .val (.int u2), .val (.int u3), .val (.int u4), .val (.int x5), .val (.int x6), .val (.int x7), .val (.int x8), .val (.int x9), .val (.ref b10), .val (.int z1), .val (.int z3), .val (.int z5), .unset, .unset, .unset, .unset, .unset, .unset, .unset, .unset, .unset, .unset, .unset, .unset, .unset, .unset, .unset]) rfl ?_
    refine XS.iloadN X0.here hx rfl (hb hby at_83) rfl ?_
    refine XS.bipush X0.here hx rfl (hb hby at_84) ?_
    show Steps p.tables e below (s₁.setTop (mkF m 86 #[.val (.int u0), .val (.int u1), .val (.int u2), .val (.int u3), .val (.int u4), .val (.int x5), .val (.int x6), .val (.int x7), .val (.int x8), .val (.int x9), .val (.ref b10), .val (.int z1), .val (.int z3), .val (.int z5), .unset, .unset, .unset, .unset, .unset, .unset, .unset, .unset, .unset, .unset, .unset, .unset, .unset, .unset, .unset] [(.int (6 : Int32)), (.int u1)])) _
    refine XS.iushr X0.here hx rfl (hb hby at_86) rfl ?_
    show Steps p.tables e below (s₁.setTop (mkF m 87 #[.val (.int u0), .val (.int u1), .val (.int u2), .val (.int u3), .val (.int u4), .val (.int x5), .val (.int x6), .val (.int x7), .val (.int x8), .val (.int x9), .val (.ref b10), .val (.int z1), .val (.int z3), .val (.int z5), .unset, .unset, .unset, .unset, .unset, .unset, .unset, .unset, .unset, .unset, .unset, .unset, .unset, .unset, .unset] [(.int ((u1.toUInt32 >>> ((6 : Int32) &&& 31).toUInt32).toInt32))])) _
    rw [← ez6]
    refine XS.iconst X0.here hx rfl (hb hby at_87) ?_
    show Steps p.tables e below (s₁.setTop (mkF m 88 #[.val (.int u0), .val (.int u1), .val (.int u2), .val (.int u3), .val (.int u4), .val (.int x5), .val (.int x6), .val (.int x7), .val (.int x8), .val (.int x9), .val (.ref b10), .val (.int z1), .val (.int z3), .val (.int z5), .unset, .unset, .unset, .unset, .unset, .unset, .unset, .unset, .unset, .unset, .unset, .unset, .unset, .unset, .unset] [(.int (3 : Int32)), (.int z6)])) _
    refine XS.iand X0.here hx rfl (hb hby at_88) rfl ?_
    show Steps p.tables e below (s₁.setTop (mkF m 89 #[.val (.int u0), .val (.int u1), .val (.int u2), .val (.int u3), .val (.int u4), .val (.int x5), .val (.int x6), .val (.int x7), .val (.int x8), .val (.int x9), .val (.ref b10), .val (.int z1), .val (.int z3), .val (.int z5), .unset, .unset, .unset, .unset, .unset, .unset, .unset, .unset, .unset, .unset, .unset, .unset, .unset, .unset, .unset] [(.int (z6 &&& (3 : Int32)))])) _
    rw [← ez7]
    refine XS.istore X0.here hx rfl (hb hby at_89) rfl (l' := #[.val (.int u0), .val (.int u1), .val (.int u2), .val (.int u3), .val (.int u4), .val (.int x5), .val (.int x6), .val (.int x7), .val (.int x8), .val (.int x9), .val (.ref b10), .val (.int z1), .val (.int z3), .val (.int z5), .val (.int z7), .unset, .unset, .unset, .unset, .unset, .unset, .unset, .unset, .unset, .unset, .unset, .unset, .unset, .unset]) rfl ?_
    refine XS.iloadN X0.here hx rfl (hb hby at_91) rfl ?_
    refine XS.bipush X0.here hx rfl (hb hby at_92) ?_
    show Steps p.tables e below (s₁.setTop (mkF m 94 #[.val (.int u0), .val (.int u1), .val (.int u2), .val (.int u3), .val (.int u4), .val (.int x5), .val (.int x6), .val (.int x7), .val (.int x8), .val (.int x9), .val (.ref b10), .val (.int z1), .val (.int z3), .val (.int z5), .val (.int z7), .unset, .unset, .unset, .unset, .unset, .unset, .unset, .unset, .unset, .unset, .unset, .unset, .unset, .unset] [(.int (8 : Int32)), (.int u1)])) _
    refine XS.iushr X0.here hx rfl (hb hby at_94) rfl ?_
    show Steps p.tables e below (s₁.setTop (mkF m 95 #[.val (.int u0), .val (.int u1), .val (.int u2), .val (.int u3), .val (.int u4), .val (.int x5), .val (.int x6), .val (.int x7), .val (.int x8), .val (.int x9), .val (.ref b10), .val (.int z1), .val (.int z3), .val (.int z5), .val (.int z7), .unset, .unset, .unset, .unset, .unset, .unset, .unset, .unset, .unset, .unset, .unset, .unset, .unset, .unset] [(.int ((u1.toUInt32 >>> ((8 : Int32) &&& 31).toUInt32).toInt32))])) _
    rw [← ez8]
    refine XS.iconst X0.here hx rfl (hb hby at_95) ?_
    show Steps p.tables e below (s₁.setTop (mkF m 96 #[.val (.int u0), .val (.int u1), .val (.int u2), .val (.int u3), .val (.int u4), .val (.int x5), .val (.int x6), .val (.int x7), .val (.int x8), .val (.int x9), .val (.ref b10), .val (.int z1), .val (.int z3), .val (.int z5), .val (.int z7), .unset, .unset, .unset, .unset, .unset, .unset, .unset, .unset, .unset, .unset, .unset, .unset, .unset, .unset] [(.int (3 : Int32)), (.int z8)])) _
    refine XS.iand X0.here hx rfl (hb hby at_96) rfl ?_
    show Steps p.tables e below (s₁.setTop (mkF m 97 #[.val (.int u0), .val (.int u1), .val (.int u2), .val (.int u3), .val (.int u4), .val (.int x5), .val (.int x6), .val (.int x7), .val (.int x8), .val (.int x9), .val (.ref b10), .val (.int z1), .val (.int z3), .val (.int z5), .val (.int z7), .unset, .unset, .unset, .unset, .unset, .unset, .unset, .unset, .unset, .unset, .unset, .unset, .unset, .unset] [(.int (z8 &&& (3 : Int32)))])) _
    rw [← ez9]
    refine XS.istore X0.here hx rfl (hb hby at_97) rfl (l' := #[.val (.int u0), .val (.int u1), .val (.int u2), .val (.int u3), .val (.int u4), .val (.int x5), .val (.int x6), .val (.int x7), .val (.int x8), .val (.int x9), .val (.ref b10), .val (.int z1), .val (.int z3), .val (.int z5), .val (.int z7), .val (.int z9), .unset, .unset, .unset, .unset, .unset, .unset, .unset, .unset, .unset, .unset, .unset, .unset, .unset]) rfl ?_
    refine XS.iloadN X0.here hx rfl (hb hby at_99) rfl ?_
    refine XS.bipush X0.here hx rfl (hb hby at_100) ?_
    show Steps p.tables e below (s₁.setTop (mkF m 102 #[.val (.int u0), .val (.int u1), .val (.int u2), .val (.int u3), .val (.int u4), .val (.int x5), .val (.int x6), .val (.int x7), .val (.int x8), .val (.int x9), .val (.ref b10), .val (.int z1), .val (.int z3), .val (.int z5), .val (.int z7), .val (.int z9), .unset, .unset, .unset, .unset, .unset, .unset, .unset, .unset, .unset, .unset, .unset, .unset, .unset] [(.int (10 : Int32)), (.int u1)])) _
    refine XS.iushr X0.here hx rfl (hb hby at_102) rfl ?_
    show Steps p.tables e below (s₁.setTop (mkF m 103 #[.val (.int u0), .val (.int u1), .val (.int u2), .val (.int u3), .val (.int u4), .val (.int x5), .val (.int x6), .val (.int x7), .val (.int x8), .val (.int x9), .val (.ref b10), .val (.int z1), .val (.int z3), .val (.int z5), .val (.int z7), .val (.int z9), .unset, .unset, .unset, .unset, .unset, .unset, .unset, .unset, .unset, .unset, .unset, .unset, .unset] [(.int ((u1.toUInt32 >>> ((10 : Int32) &&& 31).toUInt32).toInt32))])) _
    rw [← ez10]
    refine XS.iconst X0.here hx rfl (hb hby at_103) ?_
    show Steps p.tables e below (s₁.setTop (mkF m 104 #[.val (.int u0), .val (.int u1), .val (.int u2), .val (.int u3), .val (.int u4), .val (.int x5), .val (.int x6), .val (.int x7), .val (.int x8), .val (.int x9), .val (.ref b10), .val (.int z1), .val (.int z3), .val (.int z5), .val (.int z7), .val (.int z9), .unset, .unset, .unset, .unset, .unset, .unset, .unset, .unset, .unset, .unset, .unset, .unset, .unset] [(.int (3 : Int32)), (.int z10)])) _
    refine XS.iand X0.here hx rfl (hb hby at_104) rfl ?_
    show Steps p.tables e below (s₁.setTop (mkF m 105 #[.val (.int u0), .val (.int u1), .val (.int u2), .val (.int u3), .val (.int u4), .val (.int x5), .val (.int x6), .val (.int x7), .val (.int x8), .val (.int x9), .val (.ref b10), .val (.int z1), .val (.int z3), .val (.int z5), .val (.int z7), .val (.int z9), .unset, .unset, .unset, .unset, .unset, .unset, .unset, .unset, .unset, .unset, .unset, .unset, .unset] [(.int (z10 &&& (3 : Int32)))])) _
    rw [← ez11]
    refine XS.istore X0.here hx rfl (hb hby at_105) rfl (l' := #[.val (.int u0), .val (.int u1), .val (.int u2), .val (.int u3), .val (.int u4), .val (.int x5), .val (.int x6), .val (.int x7), .val (.int x8), .val (.int x9), .val (.ref b10), .val (.int z1), .val (.int z3), .val (.int z5), .val (.int z7), .val (.int z9), .val (.int z11), .unset, .unset, .unset, .unset, .unset, .unset, .unset, .unset, .unset, .unset, .unset, .unset]) rfl ?_
    refine XS.iloadN X0.here hx rfl (hb hby at_107) rfl ?_
    refine XS.bipush X0.here hx rfl (hb hby at_108) ?_
    show Steps p.tables e below (s₁.setTop (mkF m 110 #[.val (.int u0), .val (.int u1), .val (.int u2), .val (.int u3), .val (.int u4), .val (.int x5), .val (.int x6), .val (.int x7), .val (.int x8), .val (.int x9), .val (.ref b10), .val (.int z1), .val (.int z3), .val (.int z5), .val (.int z7), .val (.int z9), .val (.int z11), .unset, .unset, .unset, .unset, .unset, .unset, .unset, .unset, .unset, .unset, .unset, .unset] [(.int (12 : Int32)), (.int u1)])) _
    refine XS.iushr X0.here hx rfl (hb hby at_110) rfl ?_
    show Steps p.tables e below (s₁.setTop (mkF m 111 #[.val (.int u0), .val (.int u1), .val (.int u2), .val (.int u3), .val (.int u4), .val (.int x5), .val (.int x6), .val (.int x7), .val (.int x8), .val (.int x9), .val (.ref b10), .val (.int z1), .val (.int z3), .val (.int z5), .val (.int z7), .val (.int z9), .val (.int z11), .unset, .unset, .unset, .unset, .unset, .unset, .unset, .unset, .unset, .unset, .unset, .unset] [(.int ((u1.toUInt32 >>> ((12 : Int32) &&& 31).toUInt32).toInt32))])) _
    rw [← ez12]
    refine XS.iconst X0.here hx rfl (hb hby at_111) ?_
    show Steps p.tables e below (s₁.setTop (mkF m 112 #[.val (.int u0), .val (.int u1), .val (.int u2), .val (.int u3), .val (.int u4), .val (.int x5), .val (.int x6), .val (.int x7), .val (.int x8), .val (.int x9), .val (.ref b10), .val (.int z1), .val (.int z3), .val (.int z5), .val (.int z7), .val (.int z9), .val (.int z11), .unset, .unset, .unset, .unset, .unset, .unset, .unset, .unset, .unset, .unset, .unset, .unset] [(.int (3 : Int32)), (.int z12)])) _
    refine XS.iand X0.here hx rfl (hb hby at_112) rfl ?_
    show Steps p.tables e below (s₁.setTop (mkF m 113 #[.val (.int u0), .val (.int u1), .val (.int u2), .val (.int u3), .val (.int u4), .val (.int x5), .val (.int x6), .val (.int x7), .val (.int x8), .val (.int x9), .val (.ref b10), .val (.int z1), .val (.int z3), .val (.int z5), .val (.int z7), .val (.int z9), .val (.int z11), .unset, .unset, .unset, .unset, .unset, .unset, .unset, .unset, .unset, .unset, .unset, .unset] [(.int (z12 &&& (3 : Int32)))])) _
    rw [← ez13]
    refine XS.istore X0.here hx rfl (hb hby at_113) rfl (l' := #[.val (.int u0), .val (.int u1), .val (.int u2), .val (.int u3), .val (.int u4), .val (.int x5), .val (.int x6), .val (.int x7), .val (.int x8), .val (.int x9), .val (.ref b10), .val (.int z1), .val (.int z3), .val (.int z5), .val (.int z7), .val (.int z9), .val (.int z11), .val (.int z13), .unset, .unset, .unset, .unset, .unset, .unset, .unset, .unset, .unset, .unset, .unset]) rfl ?_
    refine XS.iloadN X0.here hx rfl (hb hby at_115) rfl ?_
    refine XS.bipush X0.here hx rfl (hb hby at_116) ?_
    show Steps p.tables e below (s₁.setTop (mkF m 118 #[.val (.int u0), .val (.int u1), .val (.int u2), .val (.int u3), .val (.int u4), .val (.int x5), .val (.int x6), .val (.int x7), .val (.int x8), .val (.int x9), .val (.ref b10), .val (.int z1), .val (.int z3), .val (.int z5), .val (.int z7), .val (.int z9), .val (.int z11), .val (.int z13), .unset, .unset, .unset, .unset, .unset, .unset, .unset, .unset, .unset, .unset, .unset] [(.int (14 : Int32)), (.int u1)])) _
    refine XS.iushr X0.here hx rfl (hb hby at_118) rfl ?_
    show Steps p.tables e below (s₁.setTop (mkF m 119 #[.val (.int u0), .val (.int u1), .val (.int u2), .val (.int u3), .val (.int u4), .val (.int x5), .val (.int x6), .val (.int x7), .val (.int x8), .val (.int x9), .val (.ref b10), .val (.int z1), .val (.int z3), .val (.int z5), .val (.int z7), .val (.int z9), .val (.int z11), .val (.int z13), .unset, .unset, .unset, .unset, .unset, .unset, .unset, .unset, .unset, .unset, .unset] [(.int ((u1.toUInt32 >>> ((14 : Int32) &&& 31).toUInt32).toInt32))])) _
    rw [← ez14]
    refine XS.iconst X0.here hx rfl (hb hby at_119) ?_
    show Steps p.tables e below (s₁.setTop (mkF m 120 #[.val (.int u0), .val (.int u1), .val (.int u2), .val (.int u3), .val (.int u4), .val (.int x5), .val (.int x6), .val (.int x7), .val (.int x8), .val (.int x9), .val (.ref b10), .val (.int z1), .val (.int z3), .val (.int z5), .val (.int z7), .val (.int z9), .val (.int z11), .val (.int z13), .unset, .unset, .unset, .unset, .unset, .unset, .unset, .unset, .unset, .unset, .unset] [(.int (3 : Int32)), (.int z14)])) _
    refine XS.iand X0.here hx rfl (hb hby at_120) rfl ?_
    show Steps p.tables e below (s₁.setTop (mkF m 121 #[.val (.int u0), .val (.int u1), .val (.int u2), .val (.int u3), .val (.int u4), .val (.int x5), .val (.int x6), .val (.int x7), .val (.int x8), .val (.int x9), .val (.ref b10), .val (.int z1), .val (.int z3), .val (.int z5), .val (.int z7), .val (.int z9), .val (.int z11), .val (.int z13), .unset, .unset, .unset, .unset, .unset, .unset, .unset, .unset, .unset, .unset, .unset] [(.int (z14 &&& (3 : Int32)))])) _
    rw [← ez15]
    refine XS.istore X0.here hx rfl (hb hby at_121) rfl (l' := #[.val (.int u0), .val (.int u1), .val (.int u2), .val (.int u3), .val (.int u4), .val (.int x5), .val (.int x6), .val (.int x7), .val (.int x8), .val (.int x9), .val (.ref b10), .val (.int z1), .val (.int z3), .val (.int z5), .val (.int z7), .val (.int z9), .val (.int z11), .val (.int z13), .val (.int z15), .unset, .unset, .unset, .unset, .unset, .unset, .unset, .unset, .unset, .unset]) rfl ?_
    refine XS.iloadN X0.here hx rfl (hb hby at_123) rfl ?_
    refine XS.bipush X0.here hx rfl (hb hby at_124) ?_
    show Steps p.tables e below (s₁.setTop (mkF m 126 #[.val (.int u0), .val (.int u1), .val (.int u2), .val (.int u3), .val (.int u4), .val (.int x5), .val (.int x6), .val (.int x7), .val (.int x8), .val (.int x9), .val (.ref b10), .val (.int z1), .val (.int z3), .val (.int z5), .val (.int z7), .val (.int z9), .val (.int z11), .val (.int z13), .val (.int z15), .unset, .unset, .unset, .unset, .unset, .unset, .unset, .unset, .unset, .unset] [(.int (16 : Int32)), (.int u1)])) _
    refine XS.iushr X0.here hx rfl (hb hby at_126) rfl ?_
    show Steps p.tables e below (s₁.setTop (mkF m 127 #[.val (.int u0), .val (.int u1), .val (.int u2), .val (.int u3), .val (.int u4), .val (.int x5), .val (.int x6), .val (.int x7), .val (.int x8), .val (.int x9), .val (.ref b10), .val (.int z1), .val (.int z3), .val (.int z5), .val (.int z7), .val (.int z9), .val (.int z11), .val (.int z13), .val (.int z15), .unset, .unset, .unset, .unset, .unset, .unset, .unset, .unset, .unset, .unset] [(.int ((u1.toUInt32 >>> ((16 : Int32) &&& 31).toUInt32).toInt32))])) _
    rw [← ez16]
    refine XS.iconst X0.here hx rfl (hb hby at_127) ?_
    show Steps p.tables e below (s₁.setTop (mkF m 128 #[.val (.int u0), .val (.int u1), .val (.int u2), .val (.int u3), .val (.int u4), .val (.int x5), .val (.int x6), .val (.int x7), .val (.int x8), .val (.int x9), .val (.ref b10), .val (.int z1), .val (.int z3), .val (.int z5), .val (.int z7), .val (.int z9), .val (.int z11), .val (.int z13), .val (.int z15), .unset, .unset, .unset, .unset, .unset, .unset, .unset, .unset, .unset, .unset] [(.int (3 : Int32)), (.int z16)])) _
    refine XS.iand X0.here hx rfl (hb hby at_128) rfl ?_
    show Steps p.tables e below (s₁.setTop (mkF m 129 #[.val (.int u0), .val (.int u1), .val (.int u2), .val (.int u3), .val (.int u4), .val (.int x5), .val (.int x6), .val (.int x7), .val (.int x8), .val (.int x9), .val (.ref b10), .val (.int z1), .val (.int z3), .val (.int z5), .val (.int z7), .val (.int z9), .val (.int z11), .val (.int z13), .val (.int z15), .unset, .unset, .unset, .unset, .unset, .unset, .unset, .unset, .unset, .unset] [(.int (z16 &&& (3 : Int32)))])) _
    rw [← ez17]
    refine XS.istore X0.here hx rfl (hb hby at_129) rfl (l' := #[.val (.int u0), .val (.int u1), .val (.int u2), .val (.int u3), .val (.int u4), .val (.int x5), .val (.int x6), .val (.int x7), .val (.int x8), .val (.int x9), .val (.ref b10), .val (.int z1), .val (.int z3), .val (.int z5), .val (.int z7), .val (.int z9), .val (.int z11), .val (.int z13), .val (.int z15), .val (.int z17), .unset, .unset, .unset, .unset, .unset, .unset, .unset, .unset, .unset]) rfl ?_
    refine XS.iloadN X0.here hx rfl (hb hby at_131) rfl ?_
    refine XS.bipush X0.here hx rfl (hb hby at_132) ?_
    show Steps p.tables e below (s₁.setTop (mkF m 134 #[.val (.int u0), .val (.int u1), .val (.int u2), .val (.int u3), .val (.int u4), .val (.int x5), .val (.int x6), .val (.int x7), .val (.int x8), .val (.int x9), .val (.ref b10), .val (.int z1), .val (.int z3), .val (.int z5), .val (.int z7), .val (.int z9), .val (.int z11), .val (.int z13), .val (.int z15), .val (.int z17), .unset, .unset, .unset, .unset, .unset, .unset, .unset, .unset, .unset] [(.int (18 : Int32)), (.int u1)])) _
    refine XS.iushr X0.here hx rfl (hb hby at_134) rfl ?_
    show Steps p.tables e below (s₁.setTop (mkF m 135 #[.val (.int u0), .val (.int u1), .val (.int u2), .val (.int u3), .val (.int u4), .val (.int x5), .val (.int x6), .val (.int x7), .val (.int x8), .val (.int x9), .val (.ref b10), .val (.int z1), .val (.int z3), .val (.int z5), .val (.int z7), .val (.int z9), .val (.int z11), .val (.int z13), .val (.int z15), .val (.int z17), .unset, .unset, .unset, .unset, .unset, .unset, .unset, .unset, .unset] [(.int ((u1.toUInt32 >>> ((18 : Int32) &&& 31).toUInt32).toInt32))])) _
    rw [← ez18]
    refine XS.iconst X0.here hx rfl (hb hby at_135) ?_
    show Steps p.tables e below (s₁.setTop (mkF m 136 #[.val (.int u0), .val (.int u1), .val (.int u2), .val (.int u3), .val (.int u4), .val (.int x5), .val (.int x6), .val (.int x7), .val (.int x8), .val (.int x9), .val (.ref b10), .val (.int z1), .val (.int z3), .val (.int z5), .val (.int z7), .val (.int z9), .val (.int z11), .val (.int z13), .val (.int z15), .val (.int z17), .unset, .unset, .unset, .unset, .unset, .unset, .unset, .unset, .unset] [(.int (3 : Int32)), (.int z18)])) _
    refine XS.iand X0.here hx rfl (hb hby at_136) rfl ?_
    show Steps p.tables e below (s₁.setTop (mkF m 137 #[.val (.int u0), .val (.int u1), .val (.int u2), .val (.int u3), .val (.int u4), .val (.int x5), .val (.int x6), .val (.int x7), .val (.int x8), .val (.int x9), .val (.ref b10), .val (.int z1), .val (.int z3), .val (.int z5), .val (.int z7), .val (.int z9), .val (.int z11), .val (.int z13), .val (.int z15), .val (.int z17), .unset, .unset, .unset, .unset, .unset, .unset, .unset, .unset, .unset] [(.int (z18 &&& (3 : Int32)))])) _
    rw [← ez19]
    refine XS.istore X0.here hx rfl (hb hby at_137) rfl (l' := #[.val (.int u0), .val (.int u1), .val (.int u2), .val (.int u3), .val (.int u4), .val (.int x5), .val (.int x6), .val (.int x7), .val (.int x8), .val (.int x9), .val (.ref b10), .val (.int z1), .val (.int z3), .val (.int z5), .val (.int z7), .val (.int z9), .val (.int z11), .val (.int z13), .val (.int z15), .val (.int z17), .val (.int z19), .unset, .unset, .unset, .unset, .unset, .unset, .unset, .unset]) rfl ?_
    refine XS.iload X0.here hx rfl (hb hby at_139) rfl ?_
    refine XS.ifYes X0.here hx rfl (pc0 := 141) (pc' := 148) rfl (hb hby at_141) rfl ((if0 _ _).trans (teq hc141).1) (by decide) (by decide) ?_
    refine XS.iloadN X0.here hx rfl (hb hby at_148) rfl ?_
    refine XS.sipush X0.here hx rfl (hb hby at_149) ?_
    show Steps p.tables e below (s₁.setTop (mkF m 152 #[.val (.int u0), .val (.int u1), .val (.int u2), .val (.int u3), .val (.int u4), .val (.int x5), .val (.int x6), .val (.int x7), .val (.int x8), .val (.int x9), .val (.ref b10), .val (.int z1), .val (.int z3), .val (.int z5), .val (.int z7), .val (.int z9), .val (.int z11), .val (.int z13), .val (.int z15), .val (.int z17), .val (.int z19), .unset, .unset, .unset, .unset, .unset, .unset, .unset, .unset] [(.int (255 : Int32)), (.int u3)])) _
    refine XS.iand X0.here hx rfl (hb hby at_152) rfl ?_
    show Steps p.tables e below (s₁.setTop (mkF m 153 #[.val (.int u0), .val (.int u1), .val (.int u2), .val (.int u3), .val (.int u4), .val (.int x5), .val (.int x6), .val (.int x7), .val (.int x8), .val (.int x9), .val (.ref b10), .val (.int z1), .val (.int z3), .val (.int z5), .val (.int z7), .val (.int z9), .val (.int z11), .val (.int z13), .val (.int z15), .val (.int z17), .val (.int z19), .unset, .unset, .unset, .unset, .unset, .unset, .unset, .unset] [(.int (u3 &&& (255 : Int32)))])) _
    rw [← ez20]
    refine XS.istore X0.here hx rfl (hb hby at_153) rfl (l' := #[.val (.int u0), .val (.int u1), .val (.int u2), .val (.int u3), .val (.int u4), .val (.int x5), .val (.int x6), .val (.int x7), .val (.int x8), .val (.int x9), .val (.ref b10), .val (.int z1), .val (.int z3), .val (.int z5), .val (.int z7), .val (.int z9), .val (.int z11), .val (.int z13), .val (.int z15), .val (.int z17), .val (.int z19), .val (.int z20), .unset, .unset, .unset, .unset, .unset, .unset, .unset]) rfl ?_
    exact kt
  · have nhc141 : ¬ x7.toInt = (0 : Int) := own_eq0 rfl rfl hc141
    refine ⟨s₁, _, z1, z3, z5, z7, z9, z11, z13, z15, z17, z19, (0 : Int32), X0, e0, N0, ⟨by omega, by omega⟩, ⟨by omega, by omega⟩, ⟨by omega, by omega⟩, ⟨by omega, by omega⟩, ⟨by omega, by omega⟩, ⟨by decide, by decide, fun _ => rfl⟩, fun target kt => ?_⟩
    show Steps p.tables e below (s₁.setTop (mkF m 64 #[.val (.int u0), .val (.int u1), .val (.int u2), .val (.int u3), .val (.int u4), .val (.int x5), .val (.int x6), .val (.int x7), .val (.int x8), .val (.int x9), .val (.ref b10), .unset, .unset, .unset, .unset, .unset, .unset, .unset, .unset, .unset, .unset, .unset, .unset, .unset, .unset, .unset, .unset, .unset, .unset] [])) _
    refine XS.iloadN X0.here hx rfl (hb hby at_64) rfl ?_
    refine XS.iconst X0.here hx rfl (hb hby at_65) ?_
    show Steps p.tables e below (s₁.setTop (mkF m 66 #[.val (.int u0), .val (.int u1), .val (.int u2), .val (.int u3), .val (.int u4), .val (.int x5), .val (.int x6), .val (.int x7), .val (.int x8), .val (.int x9), .val (.ref b10), .unset, .unset, .unset, .unset, .unset, .unset, .unset, .unset, .unset, .unset, .unset, .unset, .unset, .unset, .unset, .unset, .unset, .unset] [(.int (3 : Int32)), (.int u1)])) _
    refine XS.iand X0.here hx rfl (hb hby at_66) rfl ?_
    show Steps p.tables e below (s₁.setTop (mkF m 67 #[.val (.int u0), .val (.int u1), .val (.int u2), .val (.int u3), .val (.int u4), .val (.int x5), .val (.int x6), .val (.int x7), .val (.int x8), .val (.int x9), .val (.ref b10), .unset, .unset, .unset, .unset, .unset, .unset, .unset, .unset, .unset, .unset, .unset, .unset, .unset, .unset, .unset, .unset, .unset, .unset] [(.int (u1 &&& (3 : Int32)))])) _
    rw [← ez1]
    refine XS.istore X0.here hx rfl (hb hby at_67) rfl (l' := #[.val (.int u0), .val (.int u1), .val (.int u2), .val (.int u3), .val (.int u4), .val (.int x5), .val (.int x6), .val (.int x7), .val (.int x8), .val (.int x9), .val (.ref b10), .val (.int z1), .unset, .unset, .unset, .unset, .unset, .unset, .unset, .unset, .unset, .unset, .unset, .unset, .unset, .unset, .unset, .unset, .unset]) rfl ?_
    refine XS.iloadN X0.here hx rfl (hb hby at_69) rfl ?_
    refine XS.iconst X0.here hx rfl (hb hby at_70) ?_
    show Steps p.tables e below (s₁.setTop (mkF m 71 #[.val (.int u0), .val (.int u1), .val (.int u2), .val (.int u3), .val (.int u4), .val (.int x5), .val (.int x6), .val (.int x7), .val (.int x8), .val (.int x9), .val (.ref b10), .val (.int z1), .unset, .unset, .unset, .unset, .unset, .unset, .unset, .unset, .unset, .unset, .unset, .unset, .unset, .unset, .unset, .unset, .unset] [(.int (2 : Int32)), (.int u1)])) _
    refine XS.iushr X0.here hx rfl (hb hby at_71) rfl ?_
    show Steps p.tables e below (s₁.setTop (mkF m 72 #[.val (.int u0), .val (.int u1), .val (.int u2), .val (.int u3), .val (.int u4), .val (.int x5), .val (.int x6), .val (.int x7), .val (.int x8), .val (.int x9), .val (.ref b10), .val (.int z1), .unset, .unset, .unset, .unset, .unset, .unset, .unset, .unset, .unset, .unset, .unset, .unset, .unset, .unset, .unset, .unset, .unset] [(.int ((u1.toUInt32 >>> ((2 : Int32) &&& 31).toUInt32).toInt32))])) _
    rw [← ez2]
    refine XS.iconst X0.here hx rfl (hb hby at_72) ?_
    show Steps p.tables e below (s₁.setTop (mkF m 73 #[.val (.int u0), .val (.int u1), .val (.int u2), .val (.int u3), .val (.int u4), .val (.int x5), .val (.int x6), .val (.int x7), .val (.int x8), .val (.int x9), .val (.ref b10), .val (.int z1), .unset, .unset, .unset, .unset, .unset, .unset, .unset, .unset, .unset, .unset, .unset, .unset, .unset, .unset, .unset, .unset, .unset] [(.int (3 : Int32)), (.int z2)])) _
    refine XS.iand X0.here hx rfl (hb hby at_73) rfl ?_
    show Steps p.tables e below (s₁.setTop (mkF m 74 #[.val (.int u0), .val (.int u1), .val (.int u2), .val (.int u3), .val (.int u4), .val (.int x5), .val (.int x6), .val (.int x7), .val (.int x8), .val (.int x9), .val (.ref b10), .val (.int z1), .unset, .unset, .unset, .unset, .unset, .unset, .unset, .unset, .unset, .unset, .unset, .unset, .unset, .unset, .unset, .unset, .unset] [(.int (z2 &&& (3 : Int32)))])) _
    rw [← ez3]
    refine XS.istore X0.here hx rfl (hb hby at_74) rfl (l' := #[.val (.int u0), .val (.int u1), .val (.int u2), .val (.int u3), .val (.int u4), .val (.int x5), .val (.int x6), .val (.int x7), .val (.int x8), .val (.int x9), .val (.ref b10), .val (.int z1), .val (.int z3), .unset, .unset, .unset, .unset, .unset, .unset, .unset, .unset, .unset, .unset, .unset, .unset, .unset, .unset, .unset, .unset]) rfl ?_
    refine XS.iloadN X0.here hx rfl (hb hby at_76) rfl ?_
    refine XS.iconst X0.here hx rfl (hb hby at_77) ?_
    show Steps p.tables e below (s₁.setTop (mkF m 78 #[.val (.int u0), .val (.int u1), .val (.int u2), .val (.int u3), .val (.int u4), .val (.int x5), .val (.int x6), .val (.int x7), .val (.int x8), .val (.int x9), .val (.ref b10), .val (.int z1), .val (.int z3), .unset, .unset, .unset, .unset, .unset, .unset, .unset, .unset, .unset, .unset, .unset, .unset, .unset, .unset, .unset, .unset] [(.int (4 : Int32)), (.int u1)])) _
    refine XS.iushr X0.here hx rfl (hb hby at_78) rfl ?_
    show Steps p.tables e below (s₁.setTop (mkF m 79 #[.val (.int u0), .val (.int u1), .val (.int u2), .val (.int u3), .val (.int u4), .val (.int x5), .val (.int x6), .val (.int x7), .val (.int x8), .val (.int x9), .val (.ref b10), .val (.int z1), .val (.int z3), .unset, .unset, .unset, .unset, .unset, .unset, .unset, .unset, .unset, .unset, .unset, .unset, .unset, .unset, .unset, .unset] [(.int ((u1.toUInt32 >>> ((4 : Int32) &&& 31).toUInt32).toInt32))])) _
    rw [← ez4]
    refine XS.iconst X0.here hx rfl (hb hby at_79) ?_
    show Steps p.tables e below (s₁.setTop (mkF m 80 #[.val (.int u0), .val (.int u1), .val (.int u2), .val (.int u3), .val (.int u4), .val (.int x5), .val (.int x6), .val (.int x7), .val (.int x8), .val (.int x9), .val (.ref b10), .val (.int z1), .val (.int z3), .unset, .unset, .unset, .unset, .unset, .unset, .unset, .unset, .unset, .unset, .unset, .unset, .unset, .unset, .unset, .unset] [(.int (3 : Int32)), (.int z4)])) _
    refine XS.iand X0.here hx rfl (hb hby at_80) rfl ?_
    show Steps p.tables e below (s₁.setTop (mkF m 81 #[.val (.int u0), .val (.int u1), .val (.int u2), .val (.int u3), .val (.int u4), .val (.int x5), .val (.int x6), .val (.int x7), .val (.int x8), .val (.int x9), .val (.ref b10), .val (.int z1), .val (.int z3), .unset, .unset, .unset, .unset, .unset, .unset, .unset, .unset, .unset, .unset, .unset, .unset, .unset, .unset, .unset, .unset] [(.int (z4 &&& (3 : Int32)))])) _
    rw [← ez5]
    refine XS.istore X0.here hx rfl (hb hby at_81) rfl (l' := #[.val (.int u0), .val (.int u1), .val (.int u2), .val (.int u3), .val (.int u4), .val (.int x5), .val (.int x6), .val (.int x7), .val (.int x8), .val (.int x9), .val (.ref b10), .val (.int z1), .val (.int z3), .val (.int z5), .unset, .unset, .unset, .unset, .unset, .unset, .unset, .unset, .unset, .unset, .unset, .unset, .unset, .unset, .unset]) rfl ?_
    refine XS.iloadN X0.here hx rfl (hb hby at_83) rfl ?_
    refine XS.bipush X0.here hx rfl (hb hby at_84) ?_
    show Steps p.tables e below (s₁.setTop (mkF m 86 #[.val (.int u0), .val (.int u1), .val (.int u2), .val (.int u3), .val (.int u4), .val (.int x5), .val (.int x6), .val (.int x7), .val (.int x8), .val (.int x9), .val (.ref b10), .val (.int z1), .val (.int z3), .val (.int z5), .unset, .unset, .unset, .unset, .unset, .unset, .unset, .unset, .unset, .unset, .unset, .unset, .unset, .unset, .unset] [(.int (6 : Int32)), (.int u1)])) _
    refine XS.iushr X0.here hx rfl (hb hby at_86) rfl ?_
    show Steps p.tables e below (s₁.setTop (mkF m 87 #[.val (.int u0), .val (.int u1), .val (.int u2), .val (.int u3), .val (.int u4), .val (.int x5), .val (.int x6), .val (.int x7), .val (.int x8), .val (.int x9), .val (.ref b10), .val (.int z1), .val (.int z3), .val (.int z5), .unset, .unset, .unset, .unset, .unset, .unset, .unset, .unset, .unset, .unset, .unset, .unset, .unset, .unset, .unset] [(.int ((u1.toUInt32 >>> ((6 : Int32) &&& 31).toUInt32).toInt32))])) _
    rw [← ez6]
    refine XS.iconst X0.here hx rfl (hb hby at_87) ?_
    show Steps p.tables e below (s₁.setTop (mkF m 88 #[.val (.int u0), .val (.int u1), .val (.int u2), .val (.int u3), .val (.int u4), .val (.int x5), .val (.int x6), .val (.int x7), .val (.int x8), .val (.int x9), .val (.ref b10), .val (.int z1), .val (.int z3), .val (.int z5), .unset, .unset, .unset, .unset, .unset, .unset, .unset, .unset, .unset, .unset, .unset, .unset, .unset, .unset, .unset] [(.int (3 : Int32)), (.int z6)])) _
    refine XS.iand X0.here hx rfl (hb hby at_88) rfl ?_
    show Steps p.tables e below (s₁.setTop (mkF m 89 #[.val (.int u0), .val (.int u1), .val (.int u2), .val (.int u3), .val (.int u4), .val (.int x5), .val (.int x6), .val (.int x7), .val (.int x8), .val (.int x9), .val (.ref b10), .val (.int z1), .val (.int z3), .val (.int z5), .unset, .unset, .unset, .unset, .unset, .unset, .unset, .unset, .unset, .unset, .unset, .unset, .unset, .unset, .unset] [(.int (z6 &&& (3 : Int32)))])) _
    rw [← ez7]
    refine XS.istore X0.here hx rfl (hb hby at_89) rfl (l' := #[.val (.int u0), .val (.int u1), .val (.int u2), .val (.int u3), .val (.int u4), .val (.int x5), .val (.int x6), .val (.int x7), .val (.int x8), .val (.int x9), .val (.ref b10), .val (.int z1), .val (.int z3), .val (.int z5), .val (.int z7), .unset, .unset, .unset, .unset, .unset, .unset, .unset, .unset, .unset, .unset, .unset, .unset, .unset, .unset]) rfl ?_
    refine XS.iloadN X0.here hx rfl (hb hby at_91) rfl ?_
    refine XS.bipush X0.here hx rfl (hb hby at_92) ?_
    show Steps p.tables e below (s₁.setTop (mkF m 94 #[.val (.int u0), .val (.int u1), .val (.int u2), .val (.int u3), .val (.int u4), .val (.int x5), .val (.int x6), .val (.int x7), .val (.int x8), .val (.int x9), .val (.ref b10), .val (.int z1), .val (.int z3), .val (.int z5), .val (.int z7), .unset, .unset, .unset, .unset, .unset, .unset, .unset, .unset, .unset, .unset, .unset, .unset, .unset, .unset] [(.int (8 : Int32)), (.int u1)])) _
    refine XS.iushr X0.here hx rfl (hb hby at_94) rfl ?_
    show Steps p.tables e below (s₁.setTop (mkF m 95 #[.val (.int u0), .val (.int u1), .val (.int u2), .val (.int u3), .val (.int u4), .val (.int x5), .val (.int x6), .val (.int x7), .val (.int x8), .val (.int x9), .val (.ref b10), .val (.int z1), .val (.int z3), .val (.int z5), .val (.int z7), .unset, .unset, .unset, .unset, .unset, .unset, .unset, .unset, .unset, .unset, .unset, .unset, .unset, .unset] [(.int ((u1.toUInt32 >>> ((8 : Int32) &&& 31).toUInt32).toInt32))])) _
    rw [← ez8]
    refine XS.iconst X0.here hx rfl (hb hby at_95) ?_
    show Steps p.tables e below (s₁.setTop (mkF m 96 #[.val (.int u0), .val (.int u1), .val (.int u2), .val (.int u3), .val (.int u4), .val (.int x5), .val (.int x6), .val (.int x7), .val (.int x8), .val (.int x9), .val (.ref b10), .val (.int z1), .val (.int z3), .val (.int z5), .val (.int z7), .unset, .unset, .unset, .unset, .unset, .unset, .unset, .unset, .unset, .unset, .unset, .unset, .unset, .unset] [(.int (3 : Int32)), (.int z8)])) _
    refine XS.iand X0.here hx rfl (hb hby at_96) rfl ?_
    show Steps p.tables e below (s₁.setTop (mkF m 97 #[.val (.int u0), .val (.int u1), .val (.int u2), .val (.int u3), .val (.int u4), .val (.int x5), .val (.int x6), .val (.int x7), .val (.int x8), .val (.int x9), .val (.ref b10), .val (.int z1), .val (.int z3), .val (.int z5), .val (.int z7), .unset, .unset, .unset, .unset, .unset, .unset, .unset, .unset, .unset, .unset, .unset, .unset, .unset, .unset] [(.int (z8 &&& (3 : Int32)))])) _
    rw [← ez9]
    refine XS.istore X0.here hx rfl (hb hby at_97) rfl (l' := #[.val (.int u0), .val (.int u1), .val (.int u2), .val (.int u3), .val (.int u4), .val (.int x5), .val (.int x6), .val (.int x7), .val (.int x8), .val (.int x9), .val (.ref b10), .val (.int z1), .val (.int z3), .val (.int z5), .val (.int z7), .val (.int z9), .unset, .unset, .unset, .unset, .unset, .unset, .unset, .unset, .unset, .unset, .unset, .unset, .unset]) rfl ?_
    refine XS.iloadN X0.here hx rfl (hb hby at_99) rfl ?_
    refine XS.bipush X0.here hx rfl (hb hby at_100) ?_
    show Steps p.tables e below (s₁.setTop (mkF m 102 #[.val (.int u0), .val (.int u1), .val (.int u2), .val (.int u3), .val (.int u4), .val (.int x5), .val (.int x6), .val (.int x7), .val (.int x8), .val (.int x9), .val (.ref b10), .val (.int z1), .val (.int z3), .val (.int z5), .val (.int z7), .val (.int z9), .unset, .unset, .unset, .unset, .unset, .unset, .unset, .unset, .unset, .unset, .unset, .unset, .unset] [(.int (10 : Int32)), (.int u1)])) _
    refine XS.iushr X0.here hx rfl (hb hby at_102) rfl ?_
    show Steps p.tables e below (s₁.setTop (mkF m 103 #[.val (.int u0), .val (.int u1), .val (.int u2), .val (.int u3), .val (.int u4), .val (.int x5), .val (.int x6), .val (.int x7), .val (.int x8), .val (.int x9), .val (.ref b10), .val (.int z1), .val (.int z3), .val (.int z5), .val (.int z7), .val (.int z9), .unset, .unset, .unset, .unset, .unset, .unset, .unset, .unset, .unset, .unset, .unset, .unset, .unset] [(.int ((u1.toUInt32 >>> ((10 : Int32) &&& 31).toUInt32).toInt32))])) _
    rw [← ez10]
    refine XS.iconst X0.here hx rfl (hb hby at_103) ?_
    show Steps p.tables e below (s₁.setTop (mkF m 104 #[.val (.int u0), .val (.int u1), .val (.int u2), .val (.int u3), .val (.int u4), .val (.int x5), .val (.int x6), .val (.int x7), .val (.int x8), .val (.int x9), .val (.ref b10), .val (.int z1), .val (.int z3), .val (.int z5), .val (.int z7), .val (.int z9), .unset, .unset, .unset, .unset, .unset, .unset, .unset, .unset, .unset, .unset, .unset, .unset, .unset] [(.int (3 : Int32)), (.int z10)])) _
    refine XS.iand X0.here hx rfl (hb hby at_104) rfl ?_
    show Steps p.tables e below (s₁.setTop (mkF m 105 #[.val (.int u0), .val (.int u1), .val (.int u2), .val (.int u3), .val (.int u4), .val (.int x5), .val (.int x6), .val (.int x7), .val (.int x8), .val (.int x9), .val (.ref b10), .val (.int z1), .val (.int z3), .val (.int z5), .val (.int z7), .val (.int z9), .unset, .unset, .unset, .unset, .unset, .unset, .unset, .unset, .unset, .unset, .unset, .unset, .unset] [(.int (z10 &&& (3 : Int32)))])) _
    rw [← ez11]
    refine XS.istore X0.here hx rfl (hb hby at_105) rfl (l' := #[.val (.int u0), .val (.int u1), .val (.int u2), .val (.int u3), .val (.int u4), .val (.int x5), .val (.int x6), .val (.int x7), .val (.int x8), .val (.int x9), .val (.ref b10), .val (.int z1), .val (.int z3), .val (.int z5), .val (.int z7), .val (.int z9), .val (.int z11), .unset, .unset, .unset, .unset, .unset, .unset, .unset, .unset, .unset, .unset, .unset, .unset]) rfl ?_
    refine XS.iloadN X0.here hx rfl (hb hby at_107) rfl ?_
    refine XS.bipush X0.here hx rfl (hb hby at_108) ?_
    show Steps p.tables e below (s₁.setTop (mkF m 110 #[.val (.int u0), .val (.int u1), .val (.int u2), .val (.int u3), .val (.int u4), .val (.int x5), .val (.int x6), .val (.int x7), .val (.int x8), .val (.int x9), .val (.ref b10), .val (.int z1), .val (.int z3), .val (.int z5), .val (.int z7), .val (.int z9), .val (.int z11), .unset, .unset, .unset, .unset, .unset, .unset, .unset, .unset, .unset, .unset, .unset, .unset] [(.int (12 : Int32)), (.int u1)])) _
    refine XS.iushr X0.here hx rfl (hb hby at_110) rfl ?_
    show Steps p.tables e below (s₁.setTop (mkF m 111 #[.val (.int u0), .val (.int u1), .val (.int u2), .val (.int u3), .val (.int u4), .val (.int x5), .val (.int x6), .val (.int x7), .val (.int x8), .val (.int x9), .val (.ref b10), .val (.int z1), .val (.int z3), .val (.int z5), .val (.int z7), .val (.int z9), .val (.int z11), .unset, .unset, .unset, .unset, .unset, .unset, .unset, .unset, .unset, .unset, .unset, .unset] [(.int ((u1.toUInt32 >>> ((12 : Int32) &&& 31).toUInt32).toInt32))])) _
    rw [← ez12]
    refine XS.iconst X0.here hx rfl (hb hby at_111) ?_
    show Steps p.tables e below (s₁.setTop (mkF m 112 #[.val (.int u0), .val (.int u1), .val (.int u2), .val (.int u3), .val (.int u4), .val (.int x5), .val (.int x6), .val (.int x7), .val (.int x8), .val (.int x9), .val (.ref b10), .val (.int z1), .val (.int z3), .val (.int z5), .val (.int z7), .val (.int z9), .val (.int z11), .unset, .unset, .unset, .unset, .unset, .unset, .unset, .unset, .unset, .unset, .unset, .unset] [(.int (3 : Int32)), (.int z12)])) _
    refine XS.iand X0.here hx rfl (hb hby at_112) rfl ?_
    show Steps p.tables e below (s₁.setTop (mkF m 113 #[.val (.int u0), .val (.int u1), .val (.int u2), .val (.int u3), .val (.int u4), .val (.int x5), .val (.int x6), .val (.int x7), .val (.int x8), .val (.int x9), .val (.ref b10), .val (.int z1), .val (.int z3), .val (.int z5), .val (.int z7), .val (.int z9), .val (.int z11), .unset, .unset, .unset, .unset, .unset, .unset, .unset, .unset, .unset, .unset, .unset, .unset] [(.int (z12 &&& (3 : Int32)))])) _
    rw [← ez13]
    refine XS.istore X0.here hx rfl (hb hby at_113) rfl (l' := #[.val (.int u0), .val (.int u1), .val (.int u2), .val (.int u3), .val (.int u4), .val (.int x5), .val (.int x6), .val (.int x7), .val (.int x8), .val (.int x9), .val (.ref b10), .val (.int z1), .val (.int z3), .val (.int z5), .val (.int z7), .val (.int z9), .val (.int z11), .val (.int z13), .unset, .unset, .unset, .unset, .unset, .unset, .unset, .unset, .unset, .unset, .unset]) rfl ?_
    refine XS.iloadN X0.here hx rfl (hb hby at_115) rfl ?_
    refine XS.bipush X0.here hx rfl (hb hby at_116) ?_
    show Steps p.tables e below (s₁.setTop (mkF m 118 #[.val (.int u0), .val (.int u1), .val (.int u2), .val (.int u3), .val (.int u4), .val (.int x5), .val (.int x6), .val (.int x7), .val (.int x8), .val (.int x9), .val (.ref b10), .val (.int z1), .val (.int z3), .val (.int z5), .val (.int z7), .val (.int z9), .val (.int z11), .val (.int z13), .unset, .unset, .unset, .unset, .unset, .unset, .unset, .unset, .unset, .unset, .unset] [(.int (14 : Int32)), (.int u1)])) _
    refine XS.iushr X0.here hx rfl (hb hby at_118) rfl ?_
    show Steps p.tables e below (s₁.setTop (mkF m 119 #[.val (.int u0), .val (.int u1), .val (.int u2), .val (.int u3), .val (.int u4), .val (.int x5), .val (.int x6), .val (.int x7), .val (.int x8), .val (.int x9), .val (.ref b10), .val (.int z1), .val (.int z3), .val (.int z5), .val (.int z7), .val (.int z9), .val (.int z11), .val (.int z13), .unset, .unset, .unset, .unset, .unset, .unset, .unset, .unset, .unset, .unset, .unset] [(.int ((u1.toUInt32 >>> ((14 : Int32) &&& 31).toUInt32).toInt32))])) _
    rw [← ez14]
    refine XS.iconst X0.here hx rfl (hb hby at_119) ?_
    show Steps p.tables e below (s₁.setTop (mkF m 120 #[.val (.int u0), .val (.int u1), .val (.int u2), .val (.int u3), .val (.int u4), .val (.int x5), .val (.int x6), .val (.int x7), .val (.int x8), .val (.int x9), .val (.ref b10), .val (.int z1), .val (.int z3), .val (.int z5), .val (.int z7), .val (.int z9), .val (.int z11), .val (.int z13), .unset, .unset, .unset, .unset, .unset, .unset, .unset, .unset, .unset, .unset, .unset] [(.int (3 : Int32)), (.int z14)])) _
    refine XS.iand X0.here hx rfl (hb hby at_120) rfl ?_
    show Steps p.tables e below (s₁.setTop (mkF m 121 #[.val (.int u0), .val (.int u1), .val (.int u2), .val (.int u3), .val (.int u4), .val (.int x5), .val (.int x6), .val (.int x7), .val (.int x8), .val (.int x9), .val (.ref b10), .val (.int z1), .val (.int z3), .val (.int z5), .val (.int z7), .val (.int z9), .val (.int z11), .val (.int z13), .unset, .unset, .unset, .unset, .unset, .unset, .unset, .unset, .unset, .unset, .unset] [(.int (z14 &&& (3 : Int32)))])) _
    rw [← ez15]
    refine XS.istore X0.here hx rfl (hb hby at_121) rfl (l' := #[.val (.int u0), .val (.int u1), .val (.int u2), .val (.int u3), .val (.int u4), .val (.int x5), .val (.int x6), .val (.int x7), .val (.int x8), .val (.int x9), .val (.ref b10), .val (.int z1), .val (.int z3), .val (.int z5), .val (.int z7), .val (.int z9), .val (.int z11), .val (.int z13), .val (.int z15), .unset, .unset, .unset, .unset, .unset, .unset, .unset, .unset, .unset, .unset]) rfl ?_
    refine XS.iloadN X0.here hx rfl (hb hby at_123) rfl ?_
    refine XS.bipush X0.here hx rfl (hb hby at_124) ?_
    show Steps p.tables e below (s₁.setTop (mkF m 126 #[.val (.int u0), .val (.int u1), .val (.int u2), .val (.int u3), .val (.int u4), .val (.int x5), .val (.int x6), .val (.int x7), .val (.int x8), .val (.int x9), .val (.ref b10), .val (.int z1), .val (.int z3), .val (.int z5), .val (.int z7), .val (.int z9), .val (.int z11), .val (.int z13), .val (.int z15), .unset, .unset, .unset, .unset, .unset, .unset, .unset, .unset, .unset, .unset] [(.int (16 : Int32)), (.int u1)])) _
    refine XS.iushr X0.here hx rfl (hb hby at_126) rfl ?_
    show Steps p.tables e below (s₁.setTop (mkF m 127 #[.val (.int u0), .val (.int u1), .val (.int u2), .val (.int u3), .val (.int u4), .val (.int x5), .val (.int x6), .val (.int x7), .val (.int x8), .val (.int x9), .val (.ref b10), .val (.int z1), .val (.int z3), .val (.int z5), .val (.int z7), .val (.int z9), .val (.int z11), .val (.int z13), .val (.int z15), .unset, .unset, .unset, .unset, .unset, .unset, .unset, .unset, .unset, .unset] [(.int ((u1.toUInt32 >>> ((16 : Int32) &&& 31).toUInt32).toInt32))])) _
    rw [← ez16]
    refine XS.iconst X0.here hx rfl (hb hby at_127) ?_
    show Steps p.tables e below (s₁.setTop (mkF m 128 #[.val (.int u0), .val (.int u1), .val (.int u2), .val (.int u3), .val (.int u4), .val (.int x5), .val (.int x6), .val (.int x7), .val (.int x8), .val (.int x9), .val (.ref b10), .val (.int z1), .val (.int z3), .val (.int z5), .val (.int z7), .val (.int z9), .val (.int z11), .val (.int z13), .val (.int z15), .unset, .unset, .unset, .unset, .unset, .unset, .unset, .unset, .unset, .unset] [(.int (3 : Int32)), (.int z16)])) _
    refine XS.iand X0.here hx rfl (hb hby at_128) rfl ?_
    show Steps p.tables e below (s₁.setTop (mkF m 129 #[.val (.int u0), .val (.int u1), .val (.int u2), .val (.int u3), .val (.int u4), .val (.int x5), .val (.int x6), .val (.int x7), .val (.int x8), .val (.int x9), .val (.ref b10), .val (.int z1), .val (.int z3), .val (.int z5), .val (.int z7), .val (.int z9), .val (.int z11), .val (.int z13), .val (.int z15), .unset, .unset, .unset, .unset, .unset, .unset, .unset, .unset, .unset, .unset] [(.int (z16 &&& (3 : Int32)))])) _
    rw [← ez17]
    refine XS.istore X0.here hx rfl (hb hby at_129) rfl (l' := #[.val (.int u0), .val (.int u1), .val (.int u2), .val (.int u3), .val (.int u4), .val (.int x5), .val (.int x6), .val (.int x7), .val (.int x8), .val (.int x9), .val (.ref b10), .val (.int z1), .val (.int z3), .val (.int z5), .val (.int z7), .val (.int z9), .val (.int z11), .val (.int z13), .val (.int z15), .val (.int z17), .unset, .unset, .unset, .unset, .unset, .unset, .unset, .unset, .unset]) rfl ?_
    refine XS.iloadN X0.here hx rfl (hb hby at_131) rfl ?_
    refine XS.bipush X0.here hx rfl (hb hby at_132) ?_
    show Steps p.tables e below (s₁.setTop (mkF m 134 #[.val (.int u0), .val (.int u1), .val (.int u2), .val (.int u3), .val (.int u4), .val (.int x5), .val (.int x6), .val (.int x7), .val (.int x8), .val (.int x9), .val (.ref b10), .val (.int z1), .val (.int z3), .val (.int z5), .val (.int z7), .val (.int z9), .val (.int z11), .val (.int z13), .val (.int z15), .val (.int z17), .unset, .unset, .unset, .unset, .unset, .unset, .unset, .unset, .unset] [(.int (18 : Int32)), (.int u1)])) _
    refine XS.iushr X0.here hx rfl (hb hby at_134) rfl ?_
    show Steps p.tables e below (s₁.setTop (mkF m 135 #[.val (.int u0), .val (.int u1), .val (.int u2), .val (.int u3), .val (.int u4), .val (.int x5), .val (.int x6), .val (.int x7), .val (.int x8), .val (.int x9), .val (.ref b10), .val (.int z1), .val (.int z3), .val (.int z5), .val (.int z7), .val (.int z9), .val (.int z11), .val (.int z13), .val (.int z15), .val (.int z17), .unset, .unset, .unset, .unset, .unset, .unset, .unset, .unset, .unset] [(.int ((u1.toUInt32 >>> ((18 : Int32) &&& 31).toUInt32).toInt32))])) _
    rw [← ez18]
    refine XS.iconst X0.here hx rfl (hb hby at_135) ?_
    show Steps p.tables e below (s₁.setTop (mkF m 136 #[.val (.int u0), .val (.int u1), .val (.int u2), .val (.int u3), .val (.int u4), .val (.int x5), .val (.int x6), .val (.int x7), .val (.int x8), .val (.int x9), .val (.ref b10), .val (.int z1), .val (.int z3), .val (.int z5), .val (.int z7), .val (.int z9), .val (.int z11), .val (.int z13), .val (.int z15), .val (.int z17), .unset, .unset, .unset, .unset, .unset, .unset, .unset, .unset, .unset] [(.int (3 : Int32)), (.int z18)])) _
    refine XS.iand X0.here hx rfl (hb hby at_136) rfl ?_
    show Steps p.tables e below (s₁.setTop (mkF m 137 #[.val (.int u0), .val (.int u1), .val (.int u2), .val (.int u3), .val (.int u4), .val (.int x5), .val (.int x6), .val (.int x7), .val (.int x8), .val (.int x9), .val (.ref b10), .val (.int z1), .val (.int z3), .val (.int z5), .val (.int z7), .val (.int z9), .val (.int z11), .val (.int z13), .val (.int z15), .val (.int z17), .unset, .unset, .unset, .unset, .unset, .unset, .unset, .unset, .unset] [(.int (z18 &&& (3 : Int32)))])) _
    rw [← ez19]
    refine XS.istore X0.here hx rfl (hb hby at_137) rfl (l' := #[.val (.int u0), .val (.int u1), .val (.int u2), .val (.int u3), .val (.int u4), .val (.int x5), .val (.int x6), .val (.int x7), .val (.int x8), .val (.int x9), .val (.ref b10), .val (.int z1), .val (.int z3), .val (.int z5), .val (.int z7), .val (.int z9), .val (.int z11), .val (.int z13), .val (.int z15), .val (.int z17), .val (.int z19), .unset, .unset, .unset, .unset, .unset, .unset, .unset, .unset]) rfl ?_
    refine XS.iload X0.here hx rfl (hb hby at_139) rfl ?_
    refine XS.ifNo X0.here hx rfl (hb hby at_141) rfl ((if0 _ _).trans (feq hc141).1) ?_
    refine XS.iconst X0.here hx rfl (hb hby at_144) ?_
    refine XS.goto X0.here hx rfl (pc0 := 145) (pc' := 153) rfl (hb hby at_145) (by decide) (by decide) ?_
    refine XS.istore X0.here hx rfl (hb hby at_153) rfl (l' := #[.val (.int u0), .val (.int u1), .val (.int u2), .val (.int u3), .val (.int u4), .val (.int x5), .val (.int x6), .val (.int x7), .val (.int x8), .val (.int x9), .val (.ref b10), .val (.int z1), .val (.int z3), .val (.int z5), .val (.int z7), .val (.int z9), .val (.int z11), .val (.int z13), .val (.int z15), .val (.int z17), .val (.int z19), .val (.int (0 : Int32)), .unset, .unset, .unset, .unset, .unset, .unset, .unset]) rfl ?_
    exact kt
set_option maxRecDepth 65536 in
set_option maxHeartbeats 40000000 in
theorem sg_wa (l : Launch) (Z : State) (a0 : Array Value) (hw : ∀ d ∈ tables_1, d.before a0 Z = true) {p : Program} {e : Env} {s : State} {m : MethodId} {args : Array Value} {below : List Frame} {meth : Method} {c : Code} {s₁ : State} {locs0 : List Loc} (u0 : Int32) (u1 : Int32) (u2 : Int32) (u3 : Int32) (u4 : Int32) (x5 : Int32) (x6 : Int32) (x7 : Int32) (x8 : Int32) (x9 : Int32) (b10 : Addr) (x11 : Int32) (x12 : Int32) (x13 : Int32) (x14 : Int32) (x15 : Int32) (x16 : Int32) (x17 : Int32) (x18 : Int32) (x19 : Int32) (x20 : Int32) (x21 : Int32) (y24 : Int32) (y25 : Int32) (y26 : Int32) (h0 : Heap) (n0 : Nat) (Z0 : n0 ≤ h0.size) (X0 : Stand p l e room_1 s m args below meth c s₁ locs0 1 65600) (hx : p.tables.exec = Jvm.exec) (hby : c.code = code) (hml : c.maxLocals = 29) (hZ : Z.Warmed39 s.vm) (hown : s.vm.findClass "com/example/fides/fides/DerRequireShapePinLaw" = some m.cls) (e0 : s₁.heap = h0) (N0 : Fr n0 locs0) (hn : BigN x5.toInt x9.toInt) (hf : 0 ≤ x11.toInt ∧ x11.toInt ≤ 3) : ∃ (T' : State) (locs' : List Loc) (z27 : Int32), Stand p l e room_1 s m args below meth c T' locs' 1 65600 ∧ T'.heap = h0 ∧ Fr n0 locs' ∧ (1 + x11.toInt + ls z27.toInt + z27.toInt = x9.toInt ∧ 293 ≤ z27.toInt) ∧ ∀ target, Steps p.tables e below (T'.setTop (mkF m 270 #[.val (.int u0), .val (.int u1), .val (.int u2), .val (.int u3), .val (.int u4), .val (.int x5), .val (.int x6), .val (.int x7), .val (.int x8), .val (.int x9), .val (.ref b10), .val (.int x11), .val (.int x12), .val (.int x13), .val (.int x14), .val (.int x15), .val (.int x16), .val (.int x17), .val (.int x18), .val (.int x19), .val (.int x20), .val (.int x21), .unset, .unset, .val (.int y24), .val (.int y25), .val (.int y26), .val (.int z27), .unset] [])) target → Steps p.tables e below (s₁.setTop (mkF m 250 #[.val (.int u0), .val (.int u1), .val (.int u2), .val (.int u3), .val (.int u4), .val (.int x5), .val (.int x6), .val (.int x7), .val (.int x8), .val (.int x9), .val (.ref b10), .val (.int x11), .val (.int x12), .val (.int x13), .val (.int x14), .val (.int x15), .val (.int x16), .val (.int x17), .val (.int x18), .val (.int x19), .val (.int x20), .val (.int x21), .unset, .unset, .val (.int y24), .val (.int y25), .val (.int y26), .unset, .unset] [])) target := by
  have bn := hn
  unfold BigN at bn
  obtain ⟨z1, ez1⟩ : ∃ y : Int32, y = ((1 : Int32) + x11) := ⟨_, rfl⟩
  have nz1 : z1.toInt = (1 : Int) + x11.toInt := by rw [ez1]; exact own_iadd (x := (1 : Int)) (y := x11.toInt) rfl rfl (by omega) (by omega)
  obtain ⟨z2, ez2⟩ : ∃ y : Int32, y = (x9 - z1) := ⟨_, rfl⟩
  have nz2 : z2.toInt = x9.toInt - z1.toInt := by rw [ez2]; exact own_isub (x := x9.toInt) (y := z1.toInt) rfl rfl (by omega) (by omega)
  by_cases hc259 : x5 = (0 : Int32)
  · have nhc259 : x5.toInt = (0 : Int) := own_eq1 rfl rfl hc259
    obtain ⟨z3, ez3⟩ : ∃ y : Int32, y = (z2 - (3 : Int32)) := ⟨_, rfl⟩
    have nz3 : z3.toInt = z2.toInt - (3 : Int) := by rw [ez3]; exact own_isub (x := z2.toInt) (y := (3 : Int)) rfl rfl (by omega) (by omega)
    have hls := ls_3 (x := z3.toInt) (by omega) (by omega)
    refine ⟨s₁, _, z3, X0, e0, N0, ⟨by omega, by omega⟩, fun target kt => ?_⟩
    show Steps p.tables e below (s₁.setTop (mkF m 250 #[.val (.int u0), .val (.int u1), .val (.int u2), .val (.int u3), .val (.int u4), .val (.int x5), .val (.int x6), .val (.int x7), .val (.int x8), .val (.int x9), .val (.ref b10), .val (.int x11), .val (.int x12), .val (.int x13), .val (.int x14), .val (.int x15), .val (.int x16), .val (.int x17), .val (.int x18), .val (.int x19), .val (.int x20), .val (.int x21), .unset, .unset, .val (.int y24), .val (.int y25), .val (.int y26), .unset, .unset] [])) _
    refine XS.iload X0.here hx rfl (hb hby at_250) rfl ?_
    refine XS.iconst X0.here hx rfl (hb hby at_252) ?_
    refine XS.iload X0.here hx rfl (hb hby at_253) rfl ?_
    show Steps p.tables e below (s₁.setTop (mkF m 255 #[.val (.int u0), .val (.int u1), .val (.int u2), .val (.int u3), .val (.int u4), .val (.int x5), .val (.int x6), .val (.int x7), .val (.int x8), .val (.int x9), .val (.ref b10), .val (.int x11), .val (.int x12), .val (.int x13), .val (.int x14), .val (.int x15), .val (.int x16), .val (.int x17), .val (.int x18), .val (.int x19), .val (.int x20), .val (.int x21), .unset, .unset, .val (.int y24), .val (.int y25), .val (.int y26), .unset, .unset] [(.int x11), (.int (1 : Int32)), (.int x9)])) _
    refine XS.iadd X0.here hx rfl (hb hby at_255) rfl ?_
    show Steps p.tables e below (s₁.setTop (mkF m 256 #[.val (.int u0), .val (.int u1), .val (.int u2), .val (.int u3), .val (.int u4), .val (.int x5), .val (.int x6), .val (.int x7), .val (.int x8), .val (.int x9), .val (.ref b10), .val (.int x11), .val (.int x12), .val (.int x13), .val (.int x14), .val (.int x15), .val (.int x16), .val (.int x17), .val (.int x18), .val (.int x19), .val (.int x20), .val (.int x21), .unset, .unset, .val (.int y24), .val (.int y25), .val (.int y26), .unset, .unset] [(.int ((1 : Int32) + x11)), (.int x9)])) _
    rw [← ez1]
    show Steps p.tables e below (s₁.setTop (mkF m 256 #[.val (.int u0), .val (.int u1), .val (.int u2), .val (.int u3), .val (.int u4), .val (.int x5), .val (.int x6), .val (.int x7), .val (.int x8), .val (.int x9), .val (.ref b10), .val (.int x11), .val (.int x12), .val (.int x13), .val (.int x14), .val (.int x15), .val (.int x16), .val (.int x17), .val (.int x18), .val (.int x19), .val (.int x20), .val (.int x21), .unset, .unset, .val (.int y24), .val (.int y25), .val (.int y26), .unset, .unset] [(.int z1), (.int x9)])) _
    refine XS.isub X0.here hx rfl (hb hby at_256) rfl ?_
    show Steps p.tables e below (s₁.setTop (mkF m 257 #[.val (.int u0), .val (.int u1), .val (.int u2), .val (.int u3), .val (.int u4), .val (.int x5), .val (.int x6), .val (.int x7), .val (.int x8), .val (.int x9), .val (.ref b10), .val (.int x11), .val (.int x12), .val (.int x13), .val (.int x14), .val (.int x15), .val (.int x16), .val (.int x17), .val (.int x18), .val (.int x19), .val (.int x20), .val (.int x21), .unset, .unset, .val (.int y24), .val (.int y25), .val (.int y26), .unset, .unset] [(.int (x9 - z1))])) _
    rw [← ez2]
    refine XS.iload X0.here hx rfl (hb hby at_257) rfl ?_
    refine XS.ifYes X0.here hx rfl (pc0 := 259) (pc' := 266) rfl (hb hby at_259) rfl ((if0 _ _).trans (teq hc259).1) (by decide) (by decide) ?_
    refine XS.iconst X0.here hx rfl (hb hby at_266) ?_
    show Steps p.tables e below (s₁.setTop (mkF m 267 #[.val (.int u0), .val (.int u1), .val (.int u2), .val (.int u3), .val (.int u4), .val (.int x5), .val (.int x6), .val (.int x7), .val (.int x8), .val (.int x9), .val (.ref b10), .val (.int x11), .val (.int x12), .val (.int x13), .val (.int x14), .val (.int x15), .val (.int x16), .val (.int x17), .val (.int x18), .val (.int x19), .val (.int x20), .val (.int x21), .unset, .unset, .val (.int y24), .val (.int y25), .val (.int y26), .unset, .unset] [(.int (3 : Int32)), (.int z2)])) _
    refine XS.isub X0.here hx rfl (hb hby at_267) rfl ?_
    show Steps p.tables e below (s₁.setTop (mkF m 268 #[.val (.int u0), .val (.int u1), .val (.int u2), .val (.int u3), .val (.int u4), .val (.int x5), .val (.int x6), .val (.int x7), .val (.int x8), .val (.int x9), .val (.ref b10), .val (.int x11), .val (.int x12), .val (.int x13), .val (.int x14), .val (.int x15), .val (.int x16), .val (.int x17), .val (.int x18), .val (.int x19), .val (.int x20), .val (.int x21), .unset, .unset, .val (.int y24), .val (.int y25), .val (.int y26), .unset, .unset] [(.int (z2 - (3 : Int32)))])) _
    rw [← ez3]
    refine XS.istore X0.here hx rfl (hb hby at_268) rfl (l' := #[.val (.int u0), .val (.int u1), .val (.int u2), .val (.int u3), .val (.int u4), .val (.int x5), .val (.int x6), .val (.int x7), .val (.int x8), .val (.int x9), .val (.ref b10), .val (.int x11), .val (.int x12), .val (.int x13), .val (.int x14), .val (.int x15), .val (.int x16), .val (.int x17), .val (.int x18), .val (.int x19), .val (.int x20), .val (.int x21), .unset, .unset, .val (.int y24), .val (.int y25), .val (.int y26), .val (.int z3), .unset]) rfl ?_
    exact kt
  · have nhc259 : ¬ x5.toInt = (0 : Int) := own_eq0 rfl rfl hc259
    obtain ⟨z4, ez4⟩ : ∃ y : Int32, y = (z2 - (4 : Int32)) := ⟨_, rfl⟩
    have nz4 : z4.toInt = z2.toInt - (4 : Int) := by rw [ez4]; exact own_isub (x := z2.toInt) (y := (4 : Int)) rfl rfl (by omega) (by omega)
    have hls := ls_4 (x := z4.toInt) (by omega)
    refine ⟨s₁, _, z4, X0, e0, N0, ⟨by omega, by omega⟩, fun target kt => ?_⟩
    show Steps p.tables e below (s₁.setTop (mkF m 250 #[.val (.int u0), .val (.int u1), .val (.int u2), .val (.int u3), .val (.int u4), .val (.int x5), .val (.int x6), .val (.int x7), .val (.int x8), .val (.int x9), .val (.ref b10), .val (.int x11), .val (.int x12), .val (.int x13), .val (.int x14), .val (.int x15), .val (.int x16), .val (.int x17), .val (.int x18), .val (.int x19), .val (.int x20), .val (.int x21), .unset, .unset, .val (.int y24), .val (.int y25), .val (.int y26), .unset, .unset] [])) _
    refine XS.iload X0.here hx rfl (hb hby at_250) rfl ?_
    refine XS.iconst X0.here hx rfl (hb hby at_252) ?_
    refine XS.iload X0.here hx rfl (hb hby at_253) rfl ?_
    show Steps p.tables e below (s₁.setTop (mkF m 255 #[.val (.int u0), .val (.int u1), .val (.int u2), .val (.int u3), .val (.int u4), .val (.int x5), .val (.int x6), .val (.int x7), .val (.int x8), .val (.int x9), .val (.ref b10), .val (.int x11), .val (.int x12), .val (.int x13), .val (.int x14), .val (.int x15), .val (.int x16), .val (.int x17), .val (.int x18), .val (.int x19), .val (.int x20), .val (.int x21), .unset, .unset, .val (.int y24), .val (.int y25), .val (.int y26), .unset, .unset] [(.int x11), (.int (1 : Int32)), (.int x9)])) _
    refine XS.iadd X0.here hx rfl (hb hby at_255) rfl ?_
    show Steps p.tables e below (s₁.setTop (mkF m 256 #[.val (.int u0), .val (.int u1), .val (.int u2), .val (.int u3), .val (.int u4), .val (.int x5), .val (.int x6), .val (.int x7), .val (.int x8), .val (.int x9), .val (.ref b10), .val (.int x11), .val (.int x12), .val (.int x13), .val (.int x14), .val (.int x15), .val (.int x16), .val (.int x17), .val (.int x18), .val (.int x19), .val (.int x20), .val (.int x21), .unset, .unset, .val (.int y24), .val (.int y25), .val (.int y26), .unset, .unset] [(.int ((1 : Int32) + x11)), (.int x9)])) _
    rw [← ez1]
    show Steps p.tables e below (s₁.setTop (mkF m 256 #[.val (.int u0), .val (.int u1), .val (.int u2), .val (.int u3), .val (.int u4), .val (.int x5), .val (.int x6), .val (.int x7), .val (.int x8), .val (.int x9), .val (.ref b10), .val (.int x11), .val (.int x12), .val (.int x13), .val (.int x14), .val (.int x15), .val (.int x16), .val (.int x17), .val (.int x18), .val (.int x19), .val (.int x20), .val (.int x21), .unset, .unset, .val (.int y24), .val (.int y25), .val (.int y26), .unset, .unset] [(.int z1), (.int x9)])) _
    refine XS.isub X0.here hx rfl (hb hby at_256) rfl ?_
    show Steps p.tables e below (s₁.setTop (mkF m 257 #[.val (.int u0), .val (.int u1), .val (.int u2), .val (.int u3), .val (.int u4), .val (.int x5), .val (.int x6), .val (.int x7), .val (.int x8), .val (.int x9), .val (.ref b10), .val (.int x11), .val (.int x12), .val (.int x13), .val (.int x14), .val (.int x15), .val (.int x16), .val (.int x17), .val (.int x18), .val (.int x19), .val (.int x20), .val (.int x21), .unset, .unset, .val (.int y24), .val (.int y25), .val (.int y26), .unset, .unset] [(.int (x9 - z1))])) _
    rw [← ez2]
    refine XS.iload X0.here hx rfl (hb hby at_257) rfl ?_
    refine XS.ifNo X0.here hx rfl (hb hby at_259) rfl ((if0 _ _).trans (feq hc259).1) ?_
    refine XS.iconst X0.here hx rfl (hb hby at_262) ?_
    refine XS.goto X0.here hx rfl (pc0 := 263) (pc' := 267) rfl (hb hby at_263) (by decide) (by decide) ?_
    show Steps p.tables e below (s₁.setTop (mkF m 267 #[.val (.int u0), .val (.int u1), .val (.int u2), .val (.int u3), .val (.int u4), .val (.int x5), .val (.int x6), .val (.int x7), .val (.int x8), .val (.int x9), .val (.ref b10), .val (.int x11), .val (.int x12), .val (.int x13), .val (.int x14), .val (.int x15), .val (.int x16), .val (.int x17), .val (.int x18), .val (.int x19), .val (.int x20), .val (.int x21), .unset, .unset, .val (.int y24), .val (.int y25), .val (.int y26), .unset, .unset] [(.int (4 : Int32)), (.int z2)])) _
    refine XS.isub X0.here hx rfl (hb hby at_267) rfl ?_
    show Steps p.tables e below (s₁.setTop (mkF m 268 #[.val (.int u0), .val (.int u1), .val (.int u2), .val (.int u3), .val (.int u4), .val (.int x5), .val (.int x6), .val (.int x7), .val (.int x8), .val (.int x9), .val (.ref b10), .val (.int x11), .val (.int x12), .val (.int x13), .val (.int x14), .val (.int x15), .val (.int x16), .val (.int x17), .val (.int x18), .val (.int x19), .val (.int x20), .val (.int x21), .unset, .unset, .val (.int y24), .val (.int y25), .val (.int y26), .unset, .unset] [(.int (z2 - (4 : Int32)))])) _
    rw [← ez4]
    refine XS.istore X0.here hx rfl (hb hby at_268) rfl (l' := #[.val (.int u0), .val (.int u1), .val (.int u2), .val (.int u3), .val (.int u4), .val (.int x5), .val (.int x6), .val (.int x7), .val (.int x8), .val (.int x9), .val (.ref b10), .val (.int x11), .val (.int x12), .val (.int x13), .val (.int x14), .val (.int x15), .val (.int x16), .val (.int x17), .val (.int x18), .val (.int x19), .val (.int x20), .val (.int x21), .unset, .unset, .val (.int y24), .val (.int y25), .val (.int y26), .val (.int z4), .unset]) rfl ?_
    exact kt
set_option maxRecDepth 65536 in
set_option maxHeartbeats 40000000 in
theorem sg_h1 (l : Launch) (Z : State) (a0 : Array Value) (hw : ∀ d ∈ tables_1, d.before a0 Z = true) {p : Program} {e : Env} {s : State} {m : MethodId} {args : Array Value} {below : List Frame} {meth : Method} {c : Code} {s₁ : State} {locs0 : List Loc} (u0 : Int32) (u1 : Int32) (u2 : Int32) (u3 : Int32) (u4 : Int32) (x5 : Int32) (x6 : Int32) (x7 : Int32) (x8 : Int32) (x9 : Int32) (b10 : Addr) (x11 : Int32) (x12 : Int32) (x13 : Int32) (x14 : Int32) (x15 : Int32) (x16 : Int32) (x17 : Int32) (x18 : Int32) (x19 : Int32) (x20 : Int32) (x21 : Int32) (y24 : Int32) (y25 : Int32) (y26 : Int32) (z27 : Int32) (gg : Int → Int) (h0 : Heap) (n0 : Nat) (Z0 : n0 ≤ h0.size) (X0 : Stand p l e room_1 s m args below meth c s₁ locs0 1 65600) (hx : p.tables.exec = Jvm.exec) (hby : c.code = code) (hml : c.maxLocals = 29) (hZ : Z.Warmed39 s.vm) (hown : s.vm.findClass "com/example/fides/fides/DerRequireShapePinLaw" = some m.cls) (e0 : s₁.heap = h0) (N0 : Fr n0 locs0) (g_b10 : n0 ≤ b10) (V_b10 : Byt Z h0 b10 x9.toInt gg) (hn : 0 ≤ (0 : Int) ∧ 0 ≤ x11.toInt ∧ x11.toInt ≤ 3 ∧ 0 ≤ z27.toInt ∧ (0 : Int) + 1 + x11.toInt + ls z27.toInt + z27.toInt ≤ x9.toInt ∧ x9.toInt ≤ 65600 ∧ 0 ≤ x7.toInt ∧ x7.toInt ≤ 1) : ∃ (T' : State) (h' : Heap) (locs' : List Loc) (z28 : Int32) (g' : Int → Int), Stand p l e room_1 s m args below meth c T' locs' 1 65600 ∧ T'.heap = h' ∧ Keep h0 h' [b10] ∧ Fr n0 locs' ∧ (Byt Z h' b10 x9.toInt g') ∧ (z28.toInt = (0 : Int) + 1 + x11.toInt + ls z27.toInt) ∧ (∀ i, i < (0 : Int) → g' i = gg i) ∧ (TagOK g' (0 : Int) x11.toInt 1) ∧ (LenOK g' ((0 : Int) + 1 + x11.toInt) z27.toInt) ∧ ∀ target, Steps p.tables e below (T'.setTop (mkF m 295 #[.val (.int u0), .val (.int u1), .val (.int u2), .val (.int u3), .val (.int u4), .val (.int x5), .val (.int x6), .val (.int x7), .val (.int x8), .val (.int x9), .val (.ref b10), .val (.int x11), .val (.int x12), .val (.int x13), .val (.int x14), .val (.int x15), .val (.int x16), .val (.int x17), .val (.int x18), .val (.int x19), .val (.int x20), .val (.int x21), .unset, .unset, .val (.int y24), .val (.int y25), .val (.int y26), .val (.int z27), .val (.int z28)] [])) target → Steps p.tables e below (s₁.setTop (mkF m 270 #[.val (.int u0), .val (.int u1), .val (.int u2), .val (.int u3), .val (.int u4), .val (.int x5), .val (.int x6), .val (.int x7), .val (.int x8), .val (.int x9), .val (.ref b10), .val (.int x11), .val (.int x12), .val (.int x13), .val (.int x14), .val (.int x15), .val (.int x16), .val (.int x17), .val (.int x18), .val (.int x19), .val (.int x20), .val (.int x21), .unset, .unset, .val (.int y24), .val (.int y25), .val (.int y26), .val (.int z27), .unset] [])) target := by
  have lit0 : (0 : Int32).toInt = 0 := rfl
  have lit1 : (1 : Int32).toInt = 1 := rfl
  have lit3 : (3 : Int32).toInt = 3 := rfl
  have lit4 : (4 : Int32).toInt = 4 := rfl
  have lb := ls_b z27.toInt
  obtain ⟨_, _, ⟨T1, L1, k1, n1⟩, -, X1, ⟨Lc1, hQ1, l1, y1, z1⟩, st1⟩ := Jvm.LawKit.callS X0 hx (y := (⟨"com/example/fides/fides/DerRequireShapePinLaw", "putTag", "([BIIIZI)I"⟩ : MethodName)) hown (mvT hZ (hw _ (List.mem_of_getElem? (i := 9) rfl))) (mvT hZ (hw _ (List.mem_of_getElem? (i := 10) rfl))) (mvT hZ (hw _ (List.mem_of_getElem? (i := 3) rfl))) (mvT hZ (hw _ (List.mem_of_getElem? (i := 11) rfl))) (by decide) (backOf (W := 0) (rm3 l Z a0 hw [] b10 (0 : Int32) x11 x16 (1 : Int32) u2 x9.toInt gg h0 n0 Z0 g_b10 V_b10 (by omega) (by omega) (by omega) (by decide) (by omega)) hZ (hw _ (List.mem_of_getElem? (i := 11) rfl)) (hw _ (List.mem_of_getElem? (i := 3) rfl)) (by decide) (by decide)) (g := (mkF m 279 #[.val (.int u0), .val (.int u1), .val (.int u2), .val (.int u3), .val (.int u4), .val (.int x5), .val (.int x6), .val (.int x7), .val (.int x8), .val (.int x9), .val (.ref b10), .val (.int x11), .val (.int x12), .val (.int x13), .val (.int x14), .val (.int x15), .val (.int x16), .val (.int x17), .val (.int x18), .val (.int x19), .val (.int x20), .val (.int x21), .unset, .unset, .val (.int y24), .val (.int y25), .val (.int y26), .val (.int z27), .unset] [(.int u2), (.int (1 : Int32)), (.int x16), (.int x11), (.int (0 : Int32)), (.ref b10)])) rfl (by rw [hml]; rfl) (argsL := [(.ref b10), (.int (0 : Int32)), (.int x11), (.int x16), (.int (1 : Int32)), (.int u2)]) (rest := []) (lenOf pd_4 rfl) rfl (by show 2 * 0 + _ ≤ _; exact Nat.le_of_eq rfl) (hb hby at_279) (fun _ _ => ⟨rfl, e0, (by decide : 1 + 0 ≤ _), (by decide : 65600 + 0 ≤ _)⟩)
  dsimp only [Pt.U, Pt.locs, Pt.cells, Pt.slots] at X1 l1 y1 z1 st1 hQ1
  replace y1 : k1 = 1 := y1
  replace z1 : n1 = 65600 := z1
  rw [y1, z1] at X1
  obtain ⟨w1, gw1, rfl, N1q, K1, V1, nw1a, nw1b, nw1c⟩ := hQ1
  have N1 : Fr n0 L1 := l1 ▸ Fr.app N0 N1q
  have Z1 : n0 ≤ T1.heap.size := Nat.le_trans Z0 K1.1
  have KK1 := (Keep.refl h0 [b10]).trans K1 (allS (P := fun x => x ∈ [b10] ∨ h0.size ≤ x) (Or.inl (List.mem_of_getElem? (i := 0) rfl)) all0)
  obtain ⟨_, _, ⟨T2, L2, k2, n2⟩, -, X2, ⟨Lc2, hQ2, l2, y2, z2⟩, st2⟩ := Jvm.LawKit.callS X1 hx (y := (⟨"com/example/fides/fides/DerRequireShapePinLaw", "putLen", "([BII)I"⟩ : MethodName)) hown (mvT hZ (hw _ (List.mem_of_getElem? (i := 13) rfl))) (mvT hZ (hw _ (List.mem_of_getElem? (i := 14) rfl))) (mvT hZ (hw _ (List.mem_of_getElem? (i := 3) rfl))) (mvT hZ (hw _ (List.mem_of_getElem? (i := 15) rfl))) (by decide) (backOf (W := 0) (rm4 l Z a0 hw [] b10 w1 z27 x9.toInt gw1 T1.heap n0 Z1 g_b10 V1 (by omega) (by omega) (by omega) (by omega)) hZ (hw _ (List.mem_of_getElem? (i := 15) rfl)) (hw _ (List.mem_of_getElem? (i := 3) rfl)) (by decide) (by decide)) (g := (mkF m 290 #[.val (.int u0), .val (.int u1), .val (.int u2), .val (.int u3), .val (.int u4), .val (.int x5), .val (.int x6), .val (.int x7), .val (.int x8), .val (.int x9), .val (.ref b10), .val (.int x11), .val (.int x12), .val (.int x13), .val (.int x14), .val (.int x15), .val (.int x16), .val (.int x17), .val (.int x18), .val (.int x19), .val (.int x20), .val (.int x21), .unset, .unset, .val (.int y24), .val (.int y25), .val (.int y26), .val (.int z27), .val (.int w1)] [(.int z27), (.int w1), (.ref b10)])) rfl (by rw [hml]; rfl) (argsL := [(.ref b10), (.int w1), (.int z27)]) (rest := []) (lenOf pd_2 rfl) rfl (by show 2 * 0 + _ ≤ _; exact Nat.le_of_eq rfl) (hb hby at_290) (fun _ _ => ⟨rfl, rfl, (by decide : 1 + 0 ≤ _), (by decide : 65600 + 0 ≤ _)⟩)
  dsimp only [Pt.U, Pt.locs, Pt.cells, Pt.slots] at X2 l2 y2 z2 st2 hQ2
  replace y2 : k2 = 1 := y2
  replace z2 : n2 = 65600 := z2
  rw [y2, z2] at X2
  obtain ⟨w2, gw2, rfl, N2q, K2, V2, nw2a, nw2b, nw2c⟩ := hQ2
  have N2 : Fr n0 L2 := l2 ▸ Fr.app N1 N2q
  have Z2 : n0 ≤ T2.heap.size := Nat.le_trans Z1 K2.1
  have KK2 := KK1.trans K2 (allS (P := fun x => x ∈ [b10] ∨ h0.size ≤ x) (Or.inl (List.mem_of_getElem? (i := 0) rfl)) all0)
  have t1 : TagOK gw2 (0 : Int) x11.toInt 1 := TagOK.congr (show TagOK _ (0 : Int) _ 1 from nw1c) (by omega) (by omega) (fun i h1 h2 => by rw [nw2b i (by omega)])
  have t2 : LenOK gw2 ((0 : Int) + 1 + x11.toInt) z27.toInt := by have q := nw2c; rwa [show w1.toInt = (0 : Int) + 1 + x11.toInt from by omega] at q
  refine ⟨T2, T2.heap, _, w2, gw2, X2, rfl, KK2, N2, V2, (by omega), (fun i hi => by rw [nw2b i (by omega), nw1b i (by omega)]), t1, t2, fun target kt => ?_⟩
  show Steps p.tables e below (s₁.setTop (mkF m 270 #[.val (.int u0), .val (.int u1), .val (.int u2), .val (.int u3), .val (.int u4), .val (.int x5), .val (.int x6), .val (.int x7), .val (.int x8), .val (.int x9), .val (.ref b10), .val (.int x11), .val (.int x12), .val (.int x13), .val (.int x14), .val (.int x15), .val (.int x16), .val (.int x17), .val (.int x18), .val (.int x19), .val (.int x20), .val (.int x21), .unset, .unset, .val (.int y24), .val (.int y25), .val (.int y26), .val (.int z27), .unset] [])) _
  refine XS.aload X0.here hx rfl (hb hby at_270) rfl rfl ?_
  refine XS.iconst X0.here hx rfl (hb hby at_272) ?_
  refine XS.iload X0.here hx rfl (hb hby at_273) rfl ?_
  refine XS.iload X0.here hx rfl (hb hby at_275) rfl ?_
  refine XS.iconst X0.here hx rfl (hb hby at_277) ?_
  refine XS.iloadN X0.here hx rfl (hb hby at_278) rfl ?_
  refine st1 _ ?_
  show Steps p.tables e below (T1.setTop (mkF m 282 #[.val (.int u0), .val (.int u1), .val (.int u2), .val (.int u3), .val (.int u4), .val (.int x5), .val (.int x6), .val (.int x7), .val (.int x8), .val (.int x9), .val (.ref b10), .val (.int x11), .val (.int x12), .val (.int x13), .val (.int x14), .val (.int x15), .val (.int x16), .val (.int x17), .val (.int x18), .val (.int x19), .val (.int x20), .val (.int x21), .unset, .unset, .val (.int y24), .val (.int y25), .val (.int y26), .val (.int z27), .unset] [(.int w1)])) _
  refine XS.istore X1.here hx rfl (hb hby at_282) rfl (l' := #[.val (.int u0), .val (.int u1), .val (.int u2), .val (.int u3), .val (.int u4), .val (.int x5), .val (.int x6), .val (.int x7), .val (.int x8), .val (.int x9), .val (.ref b10), .val (.int x11), .val (.int x12), .val (.int x13), .val (.int x14), .val (.int x15), .val (.int x16), .val (.int x17), .val (.int x18), .val (.int x19), .val (.int x20), .val (.int x21), .unset, .unset, .val (.int y24), .val (.int y25), .val (.int y26), .val (.int z27), .val (.int w1)]) rfl ?_
  refine XS.aload X1.here hx rfl (hb hby at_284) rfl rfl ?_
  refine XS.iload X1.here hx rfl (hb hby at_286) rfl ?_
  refine XS.iload X1.here hx rfl (hb hby at_288) rfl ?_
  refine st2 _ ?_
  show Steps p.tables e below (T2.setTop (mkF m 293 #[.val (.int u0), .val (.int u1), .val (.int u2), .val (.int u3), .val (.int u4), .val (.int x5), .val (.int x6), .val (.int x7), .val (.int x8), .val (.int x9), .val (.ref b10), .val (.int x11), .val (.int x12), .val (.int x13), .val (.int x14), .val (.int x15), .val (.int x16), .val (.int x17), .val (.int x18), .val (.int x19), .val (.int x20), .val (.int x21), .unset, .unset, .val (.int y24), .val (.int y25), .val (.int y26), .val (.int z27), .val (.int w1)] [(.int w2)])) _
  refine XS.istore X2.here hx rfl (hb hby at_293) rfl (l' := #[.val (.int u0), .val (.int u1), .val (.int u2), .val (.int u3), .val (.int u4), .val (.int x5), .val (.int x6), .val (.int x7), .val (.int x8), .val (.int x9), .val (.ref b10), .val (.int x11), .val (.int x12), .val (.int x13), .val (.int x14), .val (.int x15), .val (.int x16), .val (.int x17), .val (.int x18), .val (.int x19), .val (.int x20), .val (.int x21), .unset, .unset, .val (.int y24), .val (.int y25), .val (.int y26), .val (.int z27), .val (.int w2)]) rfl ?_
  exact kt
set_option maxRecDepth 65536 in
set_option maxHeartbeats 40000000 in
theorem sg_h2 (l : Launch) (Z : State) (a0 : Array Value) (hw : ∀ d ∈ tables_1, d.before a0 Z = true) {p : Program} {e : Env} {s : State} {m : MethodId} {args : Array Value} {below : List Frame} {meth : Method} {c : Code} {s₁ : State} {locs0 : List Loc} (u0 : Int32) (u1 : Int32) (u2 : Int32) (u3 : Int32) (u4 : Int32) (x5 : Int32) (x6 : Int32) (x7 : Int32) (x8 : Int32) (x9 : Int32) (b10 : Addr) (x11 : Int32) (x12 : Int32) (x13 : Int32) (x14 : Int32) (x15 : Int32) (x16 : Int32) (x17 : Int32) (x18 : Int32) (x19 : Int32) (x20 : Int32) (x21 : Int32) (y24 : Int32) (y25 : Int32) (y26 : Int32) (z27 : Int32) (y28 : Int32) (gg : Int → Int) (h0 : Heap) (n0 : Nat) (Z0 : n0 ≤ h0.size) (X0 : Stand p l e room_1 s m args below meth c s₁ locs0 1 65600) (hx : p.tables.exec = Jvm.exec) (hby : c.code = code) (hml : c.maxLocals = 29) (hZ : Z.Warmed39 s.vm) (hown : s.vm.findClass "com/example/fides/fides/DerRequireShapePinLaw" = some m.cls) (e0 : s₁.heap = h0) (N0 : Fr n0 locs0) (g_b10 : n0 ≤ b10) (V_b10 : Byt Z h0 b10 x9.toInt gg) (hn : 0 ≤ y28.toInt ∧ 0 ≤ x12.toInt ∧ x12.toInt ≤ 3 ∧ 0 ≤ y25.toInt ∧ y28.toInt + 1 + x12.toInt + ls y25.toInt + y25.toInt ≤ x9.toInt ∧ x9.toInt ≤ 65600 ∧ 0 ≤ x7.toInt ∧ x7.toInt ≤ 1) : ∃ (T' : State) (h' : Heap) (locs' : List Loc) (z28 : Int32) (g' : Int → Int), Stand p l e room_1 s m args below meth c T' locs' 1 65600 ∧ T'.heap = h' ∧ Keep h0 h' [b10] ∧ Fr n0 locs' ∧ (Byt Z h' b10 x9.toInt g') ∧ (z28.toInt = y28.toInt + 1 + x12.toInt + ls y25.toInt) ∧ (∀ i, i < y28.toInt → g' i = gg i) ∧ (TagOK g' y28.toInt x12.toInt 1) ∧ (LenOK g' (y28.toInt + 1 + x12.toInt) y25.toInt) ∧ ∀ target, Steps p.tables e below (T'.setTop (mkF m 329 #[.val (.int u0), .val (.int u1), .val (.int u2), .val (.int u3), .val (.int u4), .val (.int x5), .val (.int x6), .val (.int x7), .val (.int x8), .val (.int x9), .val (.ref b10), .val (.int x11), .val (.int x12), .val (.int x13), .val (.int x14), .val (.int x15), .val (.int x16), .val (.int x17), .val (.int x18), .val (.int x19), .val (.int x20), .val (.int x21), .unset, .unset, .val (.int y24), .val (.int y25), .val (.int y26), .val (.int z27), .val (.int z28)] [])) target → Steps p.tables e below (s₁.setTop (mkF m 301 #[.val (.int u0), .val (.int u1), .val (.int u2), .val (.int u3), .val (.int u4), .val (.int x5), .val (.int x6), .val (.int x7), .val (.int x8), .val (.int x9), .val (.ref b10), .val (.int x11), .val (.int x12), .val (.int x13), .val (.int x14), .val (.int x15), .val (.int x16), .val (.int x17), .val (.int x18), .val (.int x19), .val (.int x20), .val (.int x21), .unset, .unset, .val (.int y24), .val (.int y25), .val (.int y26), .val (.int z27), .val (.int y28)] [])) target := by
  have lit0 : (0 : Int32).toInt = 0 := rfl
  have lit1 : (1 : Int32).toInt = 1 := rfl
  have lit3 : (3 : Int32).toInt = 3 := rfl
  have lit4 : (4 : Int32).toInt = 4 := rfl
  have lb := ls_b y25.toInt
  obtain ⟨z1, ez1⟩ : ∃ y : Int32, y = ((u2.toUInt32 >>> ((1 : Int32) &&& 31).toUInt32).toInt32) := ⟨_, rfl⟩
  obtain ⟨_, _, ⟨T2, L2, k2, n2⟩, -, X2, ⟨Lc2, hQ2, l2, y2, z2⟩, st2⟩ := Jvm.LawKit.callS X0 hx (y := (⟨"com/example/fides/fides/DerRequireShapePinLaw", "putTag", "([BIIIZI)I"⟩ : MethodName)) hown (mvT hZ (hw _ (List.mem_of_getElem? (i := 9) rfl))) (mvT hZ (hw _ (List.mem_of_getElem? (i := 10) rfl))) (mvT hZ (hw _ (List.mem_of_getElem? (i := 3) rfl))) (mvT hZ (hw _ (List.mem_of_getElem? (i := 11) rfl))) (by decide) (backOf (W := 0) (rm3 l Z a0 hw [] b10 y28 x12 x17 (1 : Int32) z1 x9.toInt gg h0 n0 Z0 g_b10 V_b10 (by omega) (by omega) (by omega) (by decide) (by omega)) hZ (hw _ (List.mem_of_getElem? (i := 11) rfl)) (hw _ (List.mem_of_getElem? (i := 3) rfl)) (by decide) (by decide)) (g := (mkF m 313 #[.val (.int u0), .val (.int u1), .val (.int u2), .val (.int u3), .val (.int u4), .val (.int x5), .val (.int x6), .val (.int x7), .val (.int x8), .val (.int x9), .val (.ref b10), .val (.int x11), .val (.int x12), .val (.int x13), .val (.int x14), .val (.int x15), .val (.int x16), .val (.int x17), .val (.int x18), .val (.int x19), .val (.int x20), .val (.int x21), .unset, .unset, .val (.int y24), .val (.int y25), .val (.int y26), .val (.int z27), .val (.int y28)] [(.int z1), (.int (1 : Int32)), (.int x17), (.int x12), (.int y28), (.ref b10)])) rfl (by rw [hml]; rfl) (argsL := [(.ref b10), (.int y28), (.int x12), (.int x17), (.int (1 : Int32)), (.int z1)]) (rest := []) (lenOf pd_4 rfl) rfl (by show 2 * 0 + _ ≤ _; exact Nat.le_of_eq rfl) (hb hby at_313) (fun _ _ => ⟨rfl, e0, (by decide : 1 + 0 ≤ _), (by decide : 65600 + 0 ≤ _)⟩)
  dsimp only [Pt.U, Pt.locs, Pt.cells, Pt.slots] at X2 l2 y2 z2 st2 hQ2
  replace y2 : k2 = 1 := y2
  replace z2 : n2 = 65600 := z2
  rw [y2, z2] at X2
  obtain ⟨w2, gw2, rfl, N2q, K2, V2, nw2a, nw2b, nw2c⟩ := hQ2
  have N2 : Fr n0 L2 := l2 ▸ Fr.app N0 N2q
  have Z2 : n0 ≤ T2.heap.size := Nat.le_trans Z0 K2.1
  have KK2 := (Keep.refl h0 [b10]).trans K2 (allS (P := fun x => x ∈ [b10] ∨ h0.size ≤ x) (Or.inl (List.mem_of_getElem? (i := 0) rfl)) all0)
  obtain ⟨_, _, ⟨T3, L3, k3, n3⟩, -, X3, ⟨Lc3, hQ3, l3, y3, z3⟩, st3⟩ := Jvm.LawKit.callS X2 hx (y := (⟨"com/example/fides/fides/DerRequireShapePinLaw", "putLen", "([BII)I"⟩ : MethodName)) hown (mvT hZ (hw _ (List.mem_of_getElem? (i := 13) rfl))) (mvT hZ (hw _ (List.mem_of_getElem? (i := 14) rfl))) (mvT hZ (hw _ (List.mem_of_getElem? (i := 3) rfl))) (mvT hZ (hw _ (List.mem_of_getElem? (i := 15) rfl))) (by decide) (backOf (W := 0) (rm4 l Z a0 hw [] b10 w2 y25 x9.toInt gw2 T2.heap n0 Z2 g_b10 V2 (by omega) (by omega) (by omega) (by omega)) hZ (hw _ (List.mem_of_getElem? (i := 15) rfl)) (hw _ (List.mem_of_getElem? (i := 3) rfl)) (by decide) (by decide)) (g := (mkF m 324 #[.val (.int u0), .val (.int u1), .val (.int u2), .val (.int u3), .val (.int u4), .val (.int x5), .val (.int x6), .val (.int x7), .val (.int x8), .val (.int x9), .val (.ref b10), .val (.int x11), .val (.int x12), .val (.int x13), .val (.int x14), .val (.int x15), .val (.int x16), .val (.int x17), .val (.int x18), .val (.int x19), .val (.int x20), .val (.int x21), .unset, .unset, .val (.int y24), .val (.int y25), .val (.int y26), .val (.int z27), .val (.int w2)] [(.int y25), (.int w2), (.ref b10)])) rfl (by rw [hml]; rfl) (argsL := [(.ref b10), (.int w2), (.int y25)]) (rest := []) (lenOf pd_2 rfl) rfl (by show 2 * 0 + _ ≤ _; exact Nat.le_of_eq rfl) (hb hby at_324) (fun _ _ => ⟨rfl, rfl, (by decide : 1 + 0 ≤ _), (by decide : 65600 + 0 ≤ _)⟩)
  dsimp only [Pt.U, Pt.locs, Pt.cells, Pt.slots] at X3 l3 y3 z3 st3 hQ3
  replace y3 : k3 = 1 := y3
  replace z3 : n3 = 65600 := z3
  rw [y3, z3] at X3
  obtain ⟨w3, gw3, rfl, N3q, K3, V3, nw3a, nw3b, nw3c⟩ := hQ3
  have N3 : Fr n0 L3 := l3 ▸ Fr.app N2 N3q
  have Z3 : n0 ≤ T3.heap.size := Nat.le_trans Z2 K3.1
  have KK3 := KK2.trans K3 (allS (P := fun x => x ∈ [b10] ∨ h0.size ≤ x) (Or.inl (List.mem_of_getElem? (i := 0) rfl)) all0)
  have t1 : TagOK gw3 y28.toInt x12.toInt 1 := TagOK.congr (show TagOK _ y28.toInt _ 1 from nw2c) (by omega) (by omega) (fun i h1 h2 => by rw [nw3b i (by omega)])
  have t2 : LenOK gw3 (y28.toInt + 1 + x12.toInt) y25.toInt := by have q := nw3c; rwa [show w2.toInt = y28.toInt + 1 + x12.toInt from by omega] at q
  refine ⟨T3, T3.heap, _, w3, gw3, X3, rfl, KK3, N3, V3, (by omega), (fun i hi => by rw [nw3b i (by omega), nw2b i (by omega)]), t1, t2, fun target kt => ?_⟩
  show Steps p.tables e below (s₁.setTop (mkF m 301 #[.val (.int u0), .val (.int u1), .val (.int u2), .val (.int u3), .val (.int u4), .val (.int x5), .val (.int x6), .val (.int x7), .val (.int x8), .val (.int x9), .val (.ref b10), .val (.int x11), .val (.int x12), .val (.int x13), .val (.int x14), .val (.int x15), .val (.int x16), .val (.int x17), .val (.int x18), .val (.int x19), .val (.int x20), .val (.int x21), .unset, .unset, .val (.int y24), .val (.int y25), .val (.int y26), .val (.int z27), .val (.int y28)] [])) _
  refine XS.aload X0.here hx rfl (hb hby at_301) rfl rfl ?_
  refine XS.iload X0.here hx rfl (hb hby at_303) rfl ?_
  refine XS.iload X0.here hx rfl (hb hby at_305) rfl ?_
  refine XS.iload X0.here hx rfl (hb hby at_307) rfl ?_
  refine XS.iconst X0.here hx rfl (hb hby at_309) ?_
  refine XS.iloadN X0.here hx rfl (hb hby at_310) rfl ?_
  refine XS.iconst X0.here hx rfl (hb hby at_311) ?_
  show Steps p.tables e below (s₁.setTop (mkF m 312 #[.val (.int u0), .val (.int u1), .val (.int u2), .val (.int u3), .val (.int u4), .val (.int x5), .val (.int x6), .val (.int x7), .val (.int x8), .val (.int x9), .val (.ref b10), .val (.int x11), .val (.int x12), .val (.int x13), .val (.int x14), .val (.int x15), .val (.int x16), .val (.int x17), .val (.int x18), .val (.int x19), .val (.int x20), .val (.int x21), .unset, .unset, .val (.int y24), .val (.int y25), .val (.int y26), .val (.int z27), .val (.int y28)] [(.int (1 : Int32)), (.int u2), (.int (1 : Int32)), (.int x17), (.int x12), (.int y28), (.ref b10)])) _
  refine XS.iushr X0.here hx rfl (hb hby at_312) rfl ?_
  show Steps p.tables e below (s₁.setTop (mkF m 313 #[.val (.int u0), .val (.int u1), .val (.int u2), .val (.int u3), .val (.int u4), .val (.int x5), .val (.int x6), .val (.int x7), .val (.int x8), .val (.int x9), .val (.ref b10), .val (.int x11), .val (.int x12), .val (.int x13), .val (.int x14), .val (.int x15), .val (.int x16), .val (.int x17), .val (.int x18), .val (.int x19), .val (.int x20), .val (.int x21), .unset, .unset, .val (.int y24), .val (.int y25), .val (.int y26), .val (.int z27), .val (.int y28)] [(.int ((u2.toUInt32 >>> ((1 : Int32) &&& 31).toUInt32).toInt32)), (.int (1 : Int32)), (.int x17), (.int x12), (.int y28), (.ref b10)])) _
  rw [← ez1]
  refine st2 _ ?_
  show Steps p.tables e below (T2.setTop (mkF m 316 #[.val (.int u0), .val (.int u1), .val (.int u2), .val (.int u3), .val (.int u4), .val (.int x5), .val (.int x6), .val (.int x7), .val (.int x8), .val (.int x9), .val (.ref b10), .val (.int x11), .val (.int x12), .val (.int x13), .val (.int x14), .val (.int x15), .val (.int x16), .val (.int x17), .val (.int x18), .val (.int x19), .val (.int x20), .val (.int x21), .unset, .unset, .val (.int y24), .val (.int y25), .val (.int y26), .val (.int z27), .val (.int y28)] [(.int w2)])) _
  refine XS.istore X2.here hx rfl (hb hby at_316) rfl (l' := #[.val (.int u0), .val (.int u1), .val (.int u2), .val (.int u3), .val (.int u4), .val (.int x5), .val (.int x6), .val (.int x7), .val (.int x8), .val (.int x9), .val (.ref b10), .val (.int x11), .val (.int x12), .val (.int x13), .val (.int x14), .val (.int x15), .val (.int x16), .val (.int x17), .val (.int x18), .val (.int x19), .val (.int x20), .val (.int x21), .unset, .unset, .val (.int y24), .val (.int y25), .val (.int y26), .val (.int z27), .val (.int w2)]) rfl ?_
  refine XS.aload X2.here hx rfl (hb hby at_318) rfl rfl ?_
  refine XS.iload X2.here hx rfl (hb hby at_320) rfl ?_
  refine XS.iload X2.here hx rfl (hb hby at_322) rfl ?_
  refine st3 _ ?_
  show Steps p.tables e below (T3.setTop (mkF m 327 #[.val (.int u0), .val (.int u1), .val (.int u2), .val (.int u3), .val (.int u4), .val (.int x5), .val (.int x6), .val (.int x7), .val (.int x8), .val (.int x9), .val (.ref b10), .val (.int x11), .val (.int x12), .val (.int x13), .val (.int x14), .val (.int x15), .val (.int x16), .val (.int x17), .val (.int x18), .val (.int x19), .val (.int x20), .val (.int x21), .unset, .unset, .val (.int y24), .val (.int y25), .val (.int y26), .val (.int z27), .val (.int w2)] [(.int w3)])) _
  refine XS.istore X3.here hx rfl (hb hby at_327) rfl (l' := #[.val (.int u0), .val (.int u1), .val (.int u2), .val (.int u3), .val (.int u4), .val (.int x5), .val (.int x6), .val (.int x7), .val (.int x8), .val (.int x9), .val (.ref b10), .val (.int x11), .val (.int x12), .val (.int x13), .val (.int x14), .val (.int x15), .val (.int x16), .val (.int x17), .val (.int x18), .val (.int x19), .val (.int x20), .val (.int x21), .unset, .unset, .val (.int y24), .val (.int y25), .val (.int y26), .val (.int z27), .val (.int w3)]) rfl ?_
  exact kt
set_option maxRecDepth 65536 in
set_option maxHeartbeats 40000000 in
theorem sg_h3 (l : Launch) (Z : State) (a0 : Array Value) (hw : ∀ d ∈ tables_1, d.before a0 Z = true) {p : Program} {e : Env} {s : State} {m : MethodId} {args : Array Value} {below : List Frame} {meth : Method} {c : Code} {s₁ : State} {locs0 : List Loc} (u0 : Int32) (u1 : Int32) (u2 : Int32) (u3 : Int32) (u4 : Int32) (x5 : Int32) (x6 : Int32) (x7 : Int32) (x8 : Int32) (x9 : Int32) (b10 : Addr) (x11 : Int32) (x12 : Int32) (x13 : Int32) (x14 : Int32) (x15 : Int32) (x16 : Int32) (x17 : Int32) (x18 : Int32) (x19 : Int32) (x20 : Int32) (x21 : Int32) (y24 : Int32) (y25 : Int32) (y26 : Int32) (z27 : Int32) (y28 : Int32) (gg : Int → Int) (h0 : Heap) (n0 : Nat) (Z0 : n0 ≤ h0.size) (X0 : Stand p l e room_1 s m args below meth c s₁ locs0 1 65600) (hx : p.tables.exec = Jvm.exec) (hby : c.code = code) (hml : c.maxLocals = 29) (hZ : Z.Warmed39 s.vm) (hown : s.vm.findClass "com/example/fides/fides/DerRequireShapePinLaw" = some m.cls) (e0 : s₁.heap = h0) (N0 : Fr n0 locs0) (g_b10 : n0 ≤ b10) (V_b10 : Byt Z h0 b10 x9.toInt gg) (hn : 0 ≤ y28.toInt ∧ 0 ≤ x13.toInt ∧ x13.toInt ≤ 3 ∧ 0 ≤ y24.toInt ∧ y28.toInt + 1 + x13.toInt + ls y24.toInt + y24.toInt ≤ x9.toInt ∧ x9.toInt ≤ 65600 ∧ 0 ≤ x7.toInt ∧ x7.toInt ≤ 1) : ∃ (T' : State) (h' : Heap) (locs' : List Loc) (z28 : Int32) (g' : Int → Int), Stand p l e room_1 s m args below meth c T' locs' 1 65600 ∧ T'.heap = h' ∧ Keep h0 h' [b10] ∧ Fr n0 locs' ∧ (Byt Z h' b10 x9.toInt g') ∧ (z28.toInt = y28.toInt + 1 + x13.toInt + ls y24.toInt) ∧ (∀ i, i < y28.toInt → g' i = gg i) ∧ (TagOK g' y28.toInt x13.toInt 1) ∧ (LenOK g' (y28.toInt + 1 + x13.toInt) y24.toInt) ∧ ∀ target, Steps p.tables e below (T'.setTop (mkF m 363 #[.val (.int u0), .val (.int u1), .val (.int u2), .val (.int u3), .val (.int u4), .val (.int x5), .val (.int x6), .val (.int x7), .val (.int x8), .val (.int x9), .val (.ref b10), .val (.int x11), .val (.int x12), .val (.int x13), .val (.int x14), .val (.int x15), .val (.int x16), .val (.int x17), .val (.int x18), .val (.int x19), .val (.int x20), .val (.int x21), .unset, .unset, .val (.int y24), .val (.int y25), .val (.int y26), .val (.int z27), .val (.int z28)] [])) target → Steps p.tables e below (s₁.setTop (mkF m 335 #[.val (.int u0), .val (.int u1), .val (.int u2), .val (.int u3), .val (.int u4), .val (.int x5), .val (.int x6), .val (.int x7), .val (.int x8), .val (.int x9), .val (.ref b10), .val (.int x11), .val (.int x12), .val (.int x13), .val (.int x14), .val (.int x15), .val (.int x16), .val (.int x17), .val (.int x18), .val (.int x19), .val (.int x20), .val (.int x21), .unset, .unset, .val (.int y24), .val (.int y25), .val (.int y26), .val (.int z27), .val (.int y28)] [])) target := by
  have lit0 : (0 : Int32).toInt = 0 := rfl
  have lit1 : (1 : Int32).toInt = 1 := rfl
  have lit3 : (3 : Int32).toInt = 3 := rfl
  have lit4 : (4 : Int32).toInt = 4 := rfl
  have lb := ls_b y24.toInt
  obtain ⟨z1, ez1⟩ : ∃ y : Int32, y = ((u2.toUInt32 >>> ((2 : Int32) &&& 31).toUInt32).toInt32) := ⟨_, rfl⟩
  obtain ⟨_, _, ⟨T2, L2, k2, n2⟩, -, X2, ⟨Lc2, hQ2, l2, y2, z2⟩, st2⟩ := Jvm.LawKit.callS X0 hx (y := (⟨"com/example/fides/fides/DerRequireShapePinLaw", "putTag", "([BIIIZI)I"⟩ : MethodName)) hown (mvT hZ (hw _ (List.mem_of_getElem? (i := 9) rfl))) (mvT hZ (hw _ (List.mem_of_getElem? (i := 10) rfl))) (mvT hZ (hw _ (List.mem_of_getElem? (i := 3) rfl))) (mvT hZ (hw _ (List.mem_of_getElem? (i := 11) rfl))) (by decide) (backOf (W := 0) (rm3 l Z a0 hw [] b10 y28 x13 x18 (1 : Int32) z1 x9.toInt gg h0 n0 Z0 g_b10 V_b10 (by omega) (by omega) (by omega) (by decide) (by omega)) hZ (hw _ (List.mem_of_getElem? (i := 11) rfl)) (hw _ (List.mem_of_getElem? (i := 3) rfl)) (by decide) (by decide)) (g := (mkF m 347 #[.val (.int u0), .val (.int u1), .val (.int u2), .val (.int u3), .val (.int u4), .val (.int x5), .val (.int x6), .val (.int x7), .val (.int x8), .val (.int x9), .val (.ref b10), .val (.int x11), .val (.int x12), .val (.int x13), .val (.int x14), .val (.int x15), .val (.int x16), .val (.int x17), .val (.int x18), .val (.int x19), .val (.int x20), .val (.int x21), .unset, .unset, .val (.int y24), .val (.int y25), .val (.int y26), .val (.int z27), .val (.int y28)] [(.int z1), (.int (1 : Int32)), (.int x18), (.int x13), (.int y28), (.ref b10)])) rfl (by rw [hml]; rfl) (argsL := [(.ref b10), (.int y28), (.int x13), (.int x18), (.int (1 : Int32)), (.int z1)]) (rest := []) (lenOf pd_4 rfl) rfl (by show 2 * 0 + _ ≤ _; exact Nat.le_of_eq rfl) (hb hby at_347) (fun _ _ => ⟨rfl, e0, (by decide : 1 + 0 ≤ _), (by decide : 65600 + 0 ≤ _)⟩)
  dsimp only [Pt.U, Pt.locs, Pt.cells, Pt.slots] at X2 l2 y2 z2 st2 hQ2
  replace y2 : k2 = 1 := y2
  replace z2 : n2 = 65600 := z2
  rw [y2, z2] at X2
  obtain ⟨w2, gw2, rfl, N2q, K2, V2, nw2a, nw2b, nw2c⟩ := hQ2
  have N2 : Fr n0 L2 := l2 ▸ Fr.app N0 N2q
  have Z2 : n0 ≤ T2.heap.size := Nat.le_trans Z0 K2.1
  have KK2 := (Keep.refl h0 [b10]).trans K2 (allS (P := fun x => x ∈ [b10] ∨ h0.size ≤ x) (Or.inl (List.mem_of_getElem? (i := 0) rfl)) all0)
  obtain ⟨_, _, ⟨T3, L3, k3, n3⟩, -, X3, ⟨Lc3, hQ3, l3, y3, z3⟩, st3⟩ := Jvm.LawKit.callS X2 hx (y := (⟨"com/example/fides/fides/DerRequireShapePinLaw", "putLen", "([BII)I"⟩ : MethodName)) hown (mvT hZ (hw _ (List.mem_of_getElem? (i := 13) rfl))) (mvT hZ (hw _ (List.mem_of_getElem? (i := 14) rfl))) (mvT hZ (hw _ (List.mem_of_getElem? (i := 3) rfl))) (mvT hZ (hw _ (List.mem_of_getElem? (i := 15) rfl))) (by decide) (backOf (W := 0) (rm4 l Z a0 hw [] b10 w2 y24 x9.toInt gw2 T2.heap n0 Z2 g_b10 V2 (by omega) (by omega) (by omega) (by omega)) hZ (hw _ (List.mem_of_getElem? (i := 15) rfl)) (hw _ (List.mem_of_getElem? (i := 3) rfl)) (by decide) (by decide)) (g := (mkF m 358 #[.val (.int u0), .val (.int u1), .val (.int u2), .val (.int u3), .val (.int u4), .val (.int x5), .val (.int x6), .val (.int x7), .val (.int x8), .val (.int x9), .val (.ref b10), .val (.int x11), .val (.int x12), .val (.int x13), .val (.int x14), .val (.int x15), .val (.int x16), .val (.int x17), .val (.int x18), .val (.int x19), .val (.int x20), .val (.int x21), .unset, .unset, .val (.int y24), .val (.int y25), .val (.int y26), .val (.int z27), .val (.int w2)] [(.int y24), (.int w2), (.ref b10)])) rfl (by rw [hml]; rfl) (argsL := [(.ref b10), (.int w2), (.int y24)]) (rest := []) (lenOf pd_2 rfl) rfl (by show 2 * 0 + _ ≤ _; exact Nat.le_of_eq rfl) (hb hby at_358) (fun _ _ => ⟨rfl, rfl, (by decide : 1 + 0 ≤ _), (by decide : 65600 + 0 ≤ _)⟩)
  dsimp only [Pt.U, Pt.locs, Pt.cells, Pt.slots] at X3 l3 y3 z3 st3 hQ3
  replace y3 : k3 = 1 := y3
  replace z3 : n3 = 65600 := z3
  rw [y3, z3] at X3
  obtain ⟨w3, gw3, rfl, N3q, K3, V3, nw3a, nw3b, nw3c⟩ := hQ3
  have N3 : Fr n0 L3 := l3 ▸ Fr.app N2 N3q
  have Z3 : n0 ≤ T3.heap.size := Nat.le_trans Z2 K3.1
  have KK3 := KK2.trans K3 (allS (P := fun x => x ∈ [b10] ∨ h0.size ≤ x) (Or.inl (List.mem_of_getElem? (i := 0) rfl)) all0)
  have t1 : TagOK gw3 y28.toInt x13.toInt 1 := TagOK.congr (show TagOK _ y28.toInt _ 1 from nw2c) (by omega) (by omega) (fun i h1 h2 => by rw [nw3b i (by omega)])
  have t2 : LenOK gw3 (y28.toInt + 1 + x13.toInt) y24.toInt := by have q := nw3c; rwa [show w2.toInt = y28.toInt + 1 + x13.toInt from by omega] at q
  refine ⟨T3, T3.heap, _, w3, gw3, X3, rfl, KK3, N3, V3, (by omega), (fun i hi => by rw [nw3b i (by omega), nw2b i (by omega)]), t1, t2, fun target kt => ?_⟩
  show Steps p.tables e below (s₁.setTop (mkF m 335 #[.val (.int u0), .val (.int u1), .val (.int u2), .val (.int u3), .val (.int u4), .val (.int x5), .val (.int x6), .val (.int x7), .val (.int x8), .val (.int x9), .val (.ref b10), .val (.int x11), .val (.int x12), .val (.int x13), .val (.int x14), .val (.int x15), .val (.int x16), .val (.int x17), .val (.int x18), .val (.int x19), .val (.int x20), .val (.int x21), .unset, .unset, .val (.int y24), .val (.int y25), .val (.int y26), .val (.int z27), .val (.int y28)] [])) _
  refine XS.aload X0.here hx rfl (hb hby at_335) rfl rfl ?_
  refine XS.iload X0.here hx rfl (hb hby at_337) rfl ?_
  refine XS.iload X0.here hx rfl (hb hby at_339) rfl ?_
  refine XS.iload X0.here hx rfl (hb hby at_341) rfl ?_
  refine XS.iconst X0.here hx rfl (hb hby at_343) ?_
  refine XS.iloadN X0.here hx rfl (hb hby at_344) rfl ?_
  refine XS.iconst X0.here hx rfl (hb hby at_345) ?_
  show Steps p.tables e below (s₁.setTop (mkF m 346 #[.val (.int u0), .val (.int u1), .val (.int u2), .val (.int u3), .val (.int u4), .val (.int x5), .val (.int x6), .val (.int x7), .val (.int x8), .val (.int x9), .val (.ref b10), .val (.int x11), .val (.int x12), .val (.int x13), .val (.int x14), .val (.int x15), .val (.int x16), .val (.int x17), .val (.int x18), .val (.int x19), .val (.int x20), .val (.int x21), .unset, .unset, .val (.int y24), .val (.int y25), .val (.int y26), .val (.int z27), .val (.int y28)] [(.int (2 : Int32)), (.int u2), (.int (1 : Int32)), (.int x18), (.int x13), (.int y28), (.ref b10)])) _
  refine XS.iushr X0.here hx rfl (hb hby at_346) rfl ?_
  show Steps p.tables e below (s₁.setTop (mkF m 347 #[.val (.int u0), .val (.int u1), .val (.int u2), .val (.int u3), .val (.int u4), .val (.int x5), .val (.int x6), .val (.int x7), .val (.int x8), .val (.int x9), .val (.ref b10), .val (.int x11), .val (.int x12), .val (.int x13), .val (.int x14), .val (.int x15), .val (.int x16), .val (.int x17), .val (.int x18), .val (.int x19), .val (.int x20), .val (.int x21), .unset, .unset, .val (.int y24), .val (.int y25), .val (.int y26), .val (.int z27), .val (.int y28)] [(.int ((u2.toUInt32 >>> ((2 : Int32) &&& 31).toUInt32).toInt32)), (.int (1 : Int32)), (.int x18), (.int x13), (.int y28), (.ref b10)])) _
  rw [← ez1]
  refine st2 _ ?_
  show Steps p.tables e below (T2.setTop (mkF m 350 #[.val (.int u0), .val (.int u1), .val (.int u2), .val (.int u3), .val (.int u4), .val (.int x5), .val (.int x6), .val (.int x7), .val (.int x8), .val (.int x9), .val (.ref b10), .val (.int x11), .val (.int x12), .val (.int x13), .val (.int x14), .val (.int x15), .val (.int x16), .val (.int x17), .val (.int x18), .val (.int x19), .val (.int x20), .val (.int x21), .unset, .unset, .val (.int y24), .val (.int y25), .val (.int y26), .val (.int z27), .val (.int y28)] [(.int w2)])) _
  refine XS.istore X2.here hx rfl (hb hby at_350) rfl (l' := #[.val (.int u0), .val (.int u1), .val (.int u2), .val (.int u3), .val (.int u4), .val (.int x5), .val (.int x6), .val (.int x7), .val (.int x8), .val (.int x9), .val (.ref b10), .val (.int x11), .val (.int x12), .val (.int x13), .val (.int x14), .val (.int x15), .val (.int x16), .val (.int x17), .val (.int x18), .val (.int x19), .val (.int x20), .val (.int x21), .unset, .unset, .val (.int y24), .val (.int y25), .val (.int y26), .val (.int z27), .val (.int w2)]) rfl ?_
  refine XS.aload X2.here hx rfl (hb hby at_352) rfl rfl ?_
  refine XS.iload X2.here hx rfl (hb hby at_354) rfl ?_
  refine XS.iload X2.here hx rfl (hb hby at_356) rfl ?_
  refine st3 _ ?_
  show Steps p.tables e below (T3.setTop (mkF m 361 #[.val (.int u0), .val (.int u1), .val (.int u2), .val (.int u3), .val (.int u4), .val (.int x5), .val (.int x6), .val (.int x7), .val (.int x8), .val (.int x9), .val (.ref b10), .val (.int x11), .val (.int x12), .val (.int x13), .val (.int x14), .val (.int x15), .val (.int x16), .val (.int x17), .val (.int x18), .val (.int x19), .val (.int x20), .val (.int x21), .unset, .unset, .val (.int y24), .val (.int y25), .val (.int y26), .val (.int z27), .val (.int w2)] [(.int w3)])) _
  refine XS.istore X3.here hx rfl (hb hby at_361) rfl (l' := #[.val (.int u0), .val (.int u1), .val (.int u2), .val (.int u3), .val (.int u4), .val (.int x5), .val (.int x6), .val (.int x7), .val (.int x8), .val (.int x9), .val (.ref b10), .val (.int x11), .val (.int x12), .val (.int x13), .val (.int x14), .val (.int x15), .val (.int x16), .val (.int x17), .val (.int x18), .val (.int x19), .val (.int x20), .val (.int x21), .unset, .unset, .val (.int y24), .val (.int y25), .val (.int y26), .val (.int z27), .val (.int w3)]) rfl ?_
  exact kt
set_option maxRecDepth 65536 in
set_option maxHeartbeats 40000000 in
theorem sg_hA (l : Launch) (Z : State) (a0 : Array Value) (hw : ∀ d ∈ tables_1, d.before a0 Z = true) {p : Program} {e : Env} {s : State} {m : MethodId} {args : Array Value} {below : List Frame} {meth : Method} {c : Code} {s₁ : State} {locs0 : List Loc} (u0 : Int32) (u1 : Int32) (u2 : Int32) (u3 : Int32) (u4 : Int32) (x5 : Int32) (x6 : Int32) (x7 : Int32) (x8 : Int32) (x9 : Int32) (b10 : Addr) (x11 : Int32) (x12 : Int32) (x13 : Int32) (x14 : Int32) (x15 : Int32) (x16 : Int32) (x17 : Int32) (x18 : Int32) (x19 : Int32) (x20 : Int32) (x21 : Int32) (y24 : Int32) (y25 : Int32) (y26 : Int32) (z27 : Int32) (y28 : Int32) (gg : Int → Int) (h0 : Heap) (n0 : Nat) (Z0 : n0 ≤ h0.size) (X0 : Stand p l e room_1 s m args below meth c s₁ locs0 1 65600) (hx : p.tables.exec = Jvm.exec) (hby : c.code = code) (hml : c.maxLocals = 29) (hZ : Z.Warmed39 s.vm) (hown : s.vm.findClass "com/example/fides/fides/DerRequireShapePinLaw" = some m.cls) (e0 : s₁.heap = h0) (N0 : Fr n0 locs0) (g_b10 : n0 ≤ b10) (V_b10 : Byt Z h0 b10 x9.toInt gg) (hn : 0 ≤ y28.toInt ∧ 0 ≤ x14.toInt ∧ x14.toInt ≤ 3 ∧ 0 ≤ x21.toInt ∧ y28.toInt + 1 + x14.toInt + ls x21.toInt + x21.toInt ≤ x9.toInt ∧ x9.toInt ≤ 65600 ∧ 0 ≤ x7.toInt ∧ x7.toInt ≤ 1) : ∃ (T' : State) (h' : Heap) (locs' : List Loc) (z28 : Int32) (g' : Int → Int), Stand p l e room_1 s m args below meth c T' locs' 1 65600 ∧ T'.heap = h' ∧ Keep h0 h' [b10] ∧ Fr n0 locs' ∧ (Byt Z h' b10 x9.toInt g') ∧ (z28.toInt = y28.toInt + 1 + x14.toInt + ls x21.toInt) ∧ (∀ i, i < y28.toInt → g' i = gg i) ∧ (TagOK g' y28.toInt x14.toInt x7.toInt) ∧ (LenOK g' (y28.toInt + 1 + x14.toInt) x21.toInt) ∧ ∀ target, Steps p.tables e below (T'.setTop (mkF m 392 #[.val (.int u0), .val (.int u1), .val (.int u2), .val (.int u3), .val (.int u4), .val (.int x5), .val (.int x6), .val (.int x7), .val (.int x8), .val (.int x9), .val (.ref b10), .val (.int x11), .val (.int x12), .val (.int x13), .val (.int x14), .val (.int x15), .val (.int x16), .val (.int x17), .val (.int x18), .val (.int x19), .val (.int x20), .val (.int x21), .unset, .unset, .val (.int y24), .val (.int y25), .val (.int y26), .val (.int z27), .val (.int z28)] [])) target → Steps p.tables e below (s₁.setTop (mkF m 363 #[.val (.int u0), .val (.int u1), .val (.int u2), .val (.int u3), .val (.int u4), .val (.int x5), .val (.int x6), .val (.int x7), .val (.int x8), .val (.int x9), .val (.ref b10), .val (.int x11), .val (.int x12), .val (.int x13), .val (.int x14), .val (.int x15), .val (.int x16), .val (.int x17), .val (.int x18), .val (.int x19), .val (.int x20), .val (.int x21), .unset, .unset, .val (.int y24), .val (.int y25), .val (.int y26), .val (.int z27), .val (.int y28)] [])) target := by
  have lit0 : (0 : Int32).toInt = 0 := rfl
  have lit1 : (1 : Int32).toInt = 1 := rfl
  have lit3 : (3 : Int32).toInt = 3 := rfl
  have lit4 : (4 : Int32).toInt = 4 := rfl
  have lb := ls_b x21.toInt
  obtain ⟨z1, ez1⟩ : ∃ y : Int32, y = ((u2.toUInt32 >>> ((3 : Int32) &&& 31).toUInt32).toInt32) := ⟨_, rfl⟩
  obtain ⟨_, _, ⟨T2, L2, k2, n2⟩, -, X2, ⟨Lc2, hQ2, l2, y2, z2⟩, st2⟩ := Jvm.LawKit.callS X0 hx (y := (⟨"com/example/fides/fides/DerRequireShapePinLaw", "putTag", "([BIIIZI)I"⟩ : MethodName)) hown (mvT hZ (hw _ (List.mem_of_getElem? (i := 9) rfl))) (mvT hZ (hw _ (List.mem_of_getElem? (i := 10) rfl))) (mvT hZ (hw _ (List.mem_of_getElem? (i := 3) rfl))) (mvT hZ (hw _ (List.mem_of_getElem? (i := 11) rfl))) (by decide) (backOf (W := 0) (rm3 l Z a0 hw [] b10 y28 x14 x19 x7 z1 x9.toInt gg h0 n0 Z0 g_b10 V_b10 (by omega) (by omega) (by omega) (by omega) (by omega)) hZ (hw _ (List.mem_of_getElem? (i := 11) rfl)) (hw _ (List.mem_of_getElem? (i := 3) rfl)) (by decide) (by decide)) (g := (mkF m 376 #[.val (.int u0), .val (.int u1), .val (.int u2), .val (.int u3), .val (.int u4), .val (.int x5), .val (.int x6), .val (.int x7), .val (.int x8), .val (.int x9), .val (.ref b10), .val (.int x11), .val (.int x12), .val (.int x13), .val (.int x14), .val (.int x15), .val (.int x16), .val (.int x17), .val (.int x18), .val (.int x19), .val (.int x20), .val (.int x21), .unset, .unset, .val (.int y24), .val (.int y25), .val (.int y26), .val (.int z27), .val (.int y28)] [(.int z1), (.int x7), (.int x19), (.int x14), (.int y28), (.ref b10)])) rfl (by rw [hml]; rfl) (argsL := [(.ref b10), (.int y28), (.int x14), (.int x19), (.int x7), (.int z1)]) (rest := []) (lenOf pd_4 rfl) rfl (by show 2 * 0 + _ ≤ _; exact Nat.le_of_eq rfl) (hb hby at_376) (fun _ _ => ⟨rfl, e0, (by decide : 1 + 0 ≤ _), (by decide : 65600 + 0 ≤ _)⟩)
  dsimp only [Pt.U, Pt.locs, Pt.cells, Pt.slots] at X2 l2 y2 z2 st2 hQ2
  replace y2 : k2 = 1 := y2
  replace z2 : n2 = 65600 := z2
  rw [y2, z2] at X2
  obtain ⟨w2, gw2, rfl, N2q, K2, V2, nw2a, nw2b, nw2c⟩ := hQ2
  have N2 : Fr n0 L2 := l2 ▸ Fr.app N0 N2q
  have Z2 : n0 ≤ T2.heap.size := Nat.le_trans Z0 K2.1
  have KK2 := (Keep.refl h0 [b10]).trans K2 (allS (P := fun x => x ∈ [b10] ∨ h0.size ≤ x) (Or.inl (List.mem_of_getElem? (i := 0) rfl)) all0)
  obtain ⟨_, _, ⟨T3, L3, k3, n3⟩, -, X3, ⟨Lc3, hQ3, l3, y3, z3⟩, st3⟩ := Jvm.LawKit.callS X2 hx (y := (⟨"com/example/fides/fides/DerRequireShapePinLaw", "putLen", "([BII)I"⟩ : MethodName)) hown (mvT hZ (hw _ (List.mem_of_getElem? (i := 13) rfl))) (mvT hZ (hw _ (List.mem_of_getElem? (i := 14) rfl))) (mvT hZ (hw _ (List.mem_of_getElem? (i := 3) rfl))) (mvT hZ (hw _ (List.mem_of_getElem? (i := 15) rfl))) (by decide) (backOf (W := 0) (rm4 l Z a0 hw [] b10 w2 x21 x9.toInt gw2 T2.heap n0 Z2 g_b10 V2 (by omega) (by omega) (by omega) (by omega)) hZ (hw _ (List.mem_of_getElem? (i := 15) rfl)) (hw _ (List.mem_of_getElem? (i := 3) rfl)) (by decide) (by decide)) (g := (mkF m 387 #[.val (.int u0), .val (.int u1), .val (.int u2), .val (.int u3), .val (.int u4), .val (.int x5), .val (.int x6), .val (.int x7), .val (.int x8), .val (.int x9), .val (.ref b10), .val (.int x11), .val (.int x12), .val (.int x13), .val (.int x14), .val (.int x15), .val (.int x16), .val (.int x17), .val (.int x18), .val (.int x19), .val (.int x20), .val (.int x21), .unset, .unset, .val (.int y24), .val (.int y25), .val (.int y26), .val (.int z27), .val (.int w2)] [(.int x21), (.int w2), (.ref b10)])) rfl (by rw [hml]; rfl) (argsL := [(.ref b10), (.int w2), (.int x21)]) (rest := []) (lenOf pd_2 rfl) rfl (by show 2 * 0 + _ ≤ _; exact Nat.le_of_eq rfl) (hb hby at_387) (fun _ _ => ⟨rfl, rfl, (by decide : 1 + 0 ≤ _), (by decide : 65600 + 0 ≤ _)⟩)
  dsimp only [Pt.U, Pt.locs, Pt.cells, Pt.slots] at X3 l3 y3 z3 st3 hQ3
  replace y3 : k3 = 1 := y3
  replace z3 : n3 = 65600 := z3
  rw [y3, z3] at X3
  obtain ⟨w3, gw3, rfl, N3q, K3, V3, nw3a, nw3b, nw3c⟩ := hQ3
  have N3 : Fr n0 L3 := l3 ▸ Fr.app N2 N3q
  have Z3 : n0 ≤ T3.heap.size := Nat.le_trans Z2 K3.1
  have KK3 := KK2.trans K3 (allS (P := fun x => x ∈ [b10] ∨ h0.size ≤ x) (Or.inl (List.mem_of_getElem? (i := 0) rfl)) all0)
  have t1 : TagOK gw3 y28.toInt x14.toInt x7.toInt := TagOK.congr (show TagOK _ y28.toInt _ x7.toInt from nw2c) (by omega) (by omega) (fun i h1 h2 => by rw [nw3b i (by omega)])
  have t2 : LenOK gw3 (y28.toInt + 1 + x14.toInt) x21.toInt := by have q := nw3c; rwa [show w2.toInt = y28.toInt + 1 + x14.toInt from by omega] at q
  refine ⟨T3, T3.heap, _, w3, gw3, X3, rfl, KK3, N3, V3, (by omega), (fun i hi => by rw [nw3b i (by omega), nw2b i (by omega)]), t1, t2, fun target kt => ?_⟩
  show Steps p.tables e below (s₁.setTop (mkF m 363 #[.val (.int u0), .val (.int u1), .val (.int u2), .val (.int u3), .val (.int u4), .val (.int x5), .val (.int x6), .val (.int x7), .val (.int x8), .val (.int x9), .val (.ref b10), .val (.int x11), .val (.int x12), .val (.int x13), .val (.int x14), .val (.int x15), .val (.int x16), .val (.int x17), .val (.int x18), .val (.int x19), .val (.int x20), .val (.int x21), .unset, .unset, .val (.int y24), .val (.int y25), .val (.int y26), .val (.int z27), .val (.int y28)] [])) _
  refine XS.aload X0.here hx rfl (hb hby at_363) rfl rfl ?_
  refine XS.iload X0.here hx rfl (hb hby at_365) rfl ?_
  refine XS.iload X0.here hx rfl (hb hby at_367) rfl ?_
  refine XS.iload X0.here hx rfl (hb hby at_369) rfl ?_
  refine XS.iload X0.here hx rfl (hb hby at_371) rfl ?_
  refine XS.iloadN X0.here hx rfl (hb hby at_373) rfl ?_
  refine XS.iconst X0.here hx rfl (hb hby at_374) ?_
  show Steps p.tables e below (s₁.setTop (mkF m 375 #[.val (.int u0), .val (.int u1), .val (.int u2), .val (.int u3), .val (.int u4), .val (.int x5), .val (.int x6), .val (.int x7), .val (.int x8), .val (.int x9), .val (.ref b10), .val (.int x11), .val (.int x12), .val (.int x13), .val (.int x14), .val (.int x15), .val (.int x16), .val (.int x17), .val (.int x18), .val (.int x19), .val (.int x20), .val (.int x21), .unset, .unset, .val (.int y24), .val (.int y25), .val (.int y26), .val (.int z27), .val (.int y28)] [(.int (3 : Int32)), (.int u2), (.int x7), (.int x19), (.int x14), (.int y28), (.ref b10)])) _
  refine XS.iushr X0.here hx rfl (hb hby at_375) rfl ?_
  show Steps p.tables e below (s₁.setTop (mkF m 376 #[.val (.int u0), .val (.int u1), .val (.int u2), .val (.int u3), .val (.int u4), .val (.int x5), .val (.int x6), .val (.int x7), .val (.int x8), .val (.int x9), .val (.ref b10), .val (.int x11), .val (.int x12), .val (.int x13), .val (.int x14), .val (.int x15), .val (.int x16), .val (.int x17), .val (.int x18), .val (.int x19), .val (.int x20), .val (.int x21), .unset, .unset, .val (.int y24), .val (.int y25), .val (.int y26), .val (.int z27), .val (.int y28)] [(.int ((u2.toUInt32 >>> ((3 : Int32) &&& 31).toUInt32).toInt32)), (.int x7), (.int x19), (.int x14), (.int y28), (.ref b10)])) _
  rw [← ez1]
  refine st2 _ ?_
  show Steps p.tables e below (T2.setTop (mkF m 379 #[.val (.int u0), .val (.int u1), .val (.int u2), .val (.int u3), .val (.int u4), .val (.int x5), .val (.int x6), .val (.int x7), .val (.int x8), .val (.int x9), .val (.ref b10), .val (.int x11), .val (.int x12), .val (.int x13), .val (.int x14), .val (.int x15), .val (.int x16), .val (.int x17), .val (.int x18), .val (.int x19), .val (.int x20), .val (.int x21), .unset, .unset, .val (.int y24), .val (.int y25), .val (.int y26), .val (.int z27), .val (.int y28)] [(.int w2)])) _
  refine XS.istore X2.here hx rfl (hb hby at_379) rfl (l' := #[.val (.int u0), .val (.int u1), .val (.int u2), .val (.int u3), .val (.int u4), .val (.int x5), .val (.int x6), .val (.int x7), .val (.int x8), .val (.int x9), .val (.ref b10), .val (.int x11), .val (.int x12), .val (.int x13), .val (.int x14), .val (.int x15), .val (.int x16), .val (.int x17), .val (.int x18), .val (.int x19), .val (.int x20), .val (.int x21), .unset, .unset, .val (.int y24), .val (.int y25), .val (.int y26), .val (.int z27), .val (.int w2)]) rfl ?_
  refine XS.aload X2.here hx rfl (hb hby at_381) rfl rfl ?_
  refine XS.iload X2.here hx rfl (hb hby at_383) rfl ?_
  refine XS.iload X2.here hx rfl (hb hby at_385) rfl ?_
  refine st3 _ ?_
  show Steps p.tables e below (T3.setTop (mkF m 390 #[.val (.int u0), .val (.int u1), .val (.int u2), .val (.int u3), .val (.int u4), .val (.int x5), .val (.int x6), .val (.int x7), .val (.int x8), .val (.int x9), .val (.ref b10), .val (.int x11), .val (.int x12), .val (.int x13), .val (.int x14), .val (.int x15), .val (.int x16), .val (.int x17), .val (.int x18), .val (.int x19), .val (.int x20), .val (.int x21), .unset, .unset, .val (.int y24), .val (.int y25), .val (.int y26), .val (.int z27), .val (.int w2)] [(.int w3)])) _
  refine XS.istore X3.here hx rfl (hb hby at_390) rfl (l' := #[.val (.int u0), .val (.int u1), .val (.int u2), .val (.int u3), .val (.int u4), .val (.int x5), .val (.int x6), .val (.int x7), .val (.int x8), .val (.int x9), .val (.ref b10), .val (.int x11), .val (.int x12), .val (.int x13), .val (.int x14), .val (.int x15), .val (.int x16), .val (.int x17), .val (.int x18), .val (.int x19), .val (.int x20), .val (.int x21), .unset, .unset, .val (.int y24), .val (.int y25), .val (.int y26), .val (.int z27), .val (.int w3)]) rfl ?_
  exact kt
set_option maxRecDepth 65536 in
set_option maxHeartbeats 40000000 in
theorem sg_cA (l : Launch) (Z : State) (a0 : Array Value) (hw : ∀ d ∈ tables_1, d.before a0 Z = true) {p : Program} {e : Env} {s : State} {m : MethodId} {args : Array Value} {below : List Frame} {meth : Method} {c : Code} {s₁ : State} {locs0 : List Loc} (u0 : Int32) (u1 : Int32) (u2 : Int32) (u3 : Int32) (u4 : Int32) (x5 : Int32) (x6 : Int32) (x7 : Int32) (x8 : Int32) (x9 : Int32) (b10 : Addr) (x11 : Int32) (x12 : Int32) (x13 : Int32) (x14 : Int32) (x15 : Int32) (x16 : Int32) (x17 : Int32) (x18 : Int32) (x19 : Int32) (x20 : Int32) (x21 : Int32) (y24 : Int32) (y25 : Int32) (y26 : Int32) (z27 : Int32) (y28 : Int32) (gg : Int → Int) (h0 : Heap) (n0 : Nat) (Z0 : n0 ≤ h0.size) (X0 : Stand p l e room_1 s m args below meth c s₁ locs0 1 65600) (hx : p.tables.exec = Jvm.exec) (hby : c.code = code) (hml : c.maxLocals = 29) (hZ : Z.Warmed39 s.vm) (hown : s.vm.findClass "com/example/fides/fides/DerRequireShapePinLaw" = some m.cls) (e0 : s₁.heap = h0) (N0 : Fr n0 locs0) (g_b10 : n0 ≤ b10) (V_b10 : Byt Z h0 b10 x9.toInt gg) (hn : 0 ≤ y28.toInt ∧ 0 ≤ x21.toInt ∧ y28.toInt + x21.toInt ≤ x9.toInt ∧ x9.toInt ≤ 65600) : ∃ (T' : State) (h' : Heap) (locs' : List Loc) (z28 : Int32) (g' : Int → Int), Stand p l e room_1 s m args below meth c T' locs' 1 65600 ∧ T'.heap = h' ∧ Keep h0 h' [b10] ∧ Fr n0 locs' ∧ (Byt Z h' b10 x9.toInt g') ∧ (z28.toInt = y28.toInt + x21.toInt) ∧ (∀ i, i < y28.toInt → g' i = gg i) ∧ ∀ target, Steps p.tables e below (T'.setTop (mkF m 435 #[.val (.int u0), .val (.int u1), .val (.int u2), .val (.int u3), .val (.int u4), .val (.int x5), .val (.int x6), .val (.int x7), .val (.int x8), .val (.int x9), .val (.ref b10), .val (.int x11), .val (.int x12), .val (.int x13), .val (.int x14), .val (.int x15), .val (.int x16), .val (.int x17), .val (.int x18), .val (.int x19), .val (.int x20), .val (.int x21), .unset, .unset, .val (.int y24), .val (.int y25), .val (.int y26), .val (.int z27), .val (.int z28)] [])) target → Steps p.tables e below (s₁.setTop (mkF m 392 #[.val (.int u0), .val (.int u1), .val (.int u2), .val (.int u3), .val (.int u4), .val (.int x5), .val (.int x6), .val (.int x7), .val (.int x8), .val (.int x9), .val (.ref b10), .val (.int x11), .val (.int x12), .val (.int x13), .val (.int x14), .val (.int x15), .val (.int x16), .val (.int x17), .val (.int x18), .val (.int x19), .val (.int x20), .val (.int x21), .unset, .unset, .val (.int y24), .val (.int y25), .val (.int y26), .val (.int z27), .val (.int y28)] [])) target := by
  by_cases hc395 : x21 < (1 : Int32)
  · have nhc395 : x21.toInt < (1 : Int) := own_lt1 rfl rfl hc395
    obtain ⟨z1, ez1⟩ : ∃ y : Int32, y = (y28 + x21) := ⟨_, rfl⟩
    have nz1 : z1.toInt = y28.toInt + x21.toInt := by rw [ez1]; exact own_iadd (x := y28.toInt) (y := x21.toInt) rfl rfl (by omega) (by omega)
    refine ⟨s₁, h0, _, z1, gg, X0, e0, (Keep.refl h0 [b10]), N0, V_b10, (by omega), (fun i hi => rfl), fun target kt => ?_⟩
    show Steps p.tables e below (s₁.setTop (mkF m 392 #[.val (.int u0), .val (.int u1), .val (.int u2), .val (.int u3), .val (.int u4), .val (.int x5), .val (.int x6), .val (.int x7), .val (.int x8), .val (.int x9), .val (.ref b10), .val (.int x11), .val (.int x12), .val (.int x13), .val (.int x14), .val (.int x15), .val (.int x16), .val (.int x17), .val (.int x18), .val (.int x19), .val (.int x20), .val (.int x21), .unset, .unset, .val (.int y24), .val (.int y25), .val (.int y26), .val (.int z27), .val (.int y28)] [])) _
    refine XS.iload X0.here hx rfl (hb hby at_392) rfl ?_
    refine XS.iconst X0.here hx rfl (hb hby at_394) ?_
    refine XS.icmpYes X0.here hx rfl (pc0 := 395) (pc' := 409) rfl (hb hby at_395) rfl (tlt hc395).1 (by decide) (by decide) ?_
    refine XS.iload X0.here hx rfl (hb hby at_409) rfl ?_
    refine XS.iconst X0.here hx rfl (hb hby at_411) ?_
    refine XS.icmpYes X0.here hx rfl (pc0 := 412) (pc' := 428) rfl (hb hby at_412) rfl (tlt (own_lt1' (x := x21.toInt) (y := (2 : Int)) rfl rfl (by omega))).1 (by decide) (by decide) ?_
    refine XS.iload X0.here hx rfl (hb hby at_428) rfl ?_
    refine XS.iload X0.here hx rfl (hb hby at_430) rfl ?_
    show Steps p.tables e below (s₁.setTop (mkF m 432 #[.val (.int u0), .val (.int u1), .val (.int u2), .val (.int u3), .val (.int u4), .val (.int x5), .val (.int x6), .val (.int x7), .val (.int x8), .val (.int x9), .val (.ref b10), .val (.int x11), .val (.int x12), .val (.int x13), .val (.int x14), .val (.int x15), .val (.int x16), .val (.int x17), .val (.int x18), .val (.int x19), .val (.int x20), .val (.int x21), .unset, .unset, .val (.int y24), .val (.int y25), .val (.int y26), .val (.int z27), .val (.int y28)] [(.int x21), (.int y28)])) _
    refine XS.iadd X0.here hx rfl (hb hby at_432) rfl ?_
    show Steps p.tables e below (s₁.setTop (mkF m 433 #[.val (.int u0), .val (.int u1), .val (.int u2), .val (.int u3), .val (.int u4), .val (.int x5), .val (.int x6), .val (.int x7), .val (.int x8), .val (.int x9), .val (.ref b10), .val (.int x11), .val (.int x12), .val (.int x13), .val (.int x14), .val (.int x15), .val (.int x16), .val (.int x17), .val (.int x18), .val (.int x19), .val (.int x20), .val (.int x21), .unset, .unset, .val (.int y24), .val (.int y25), .val (.int y26), .val (.int z27), .val (.int y28)] [(.int (y28 + x21))])) _
    rw [← ez1]
    refine XS.istore X0.here hx rfl (hb hby at_433) rfl (l' := #[.val (.int u0), .val (.int u1), .val (.int u2), .val (.int u3), .val (.int u4), .val (.int x5), .val (.int x6), .val (.int x7), .val (.int x8), .val (.int x9), .val (.ref b10), .val (.int x11), .val (.int x12), .val (.int x13), .val (.int x14), .val (.int x15), .val (.int x16), .val (.int x17), .val (.int x18), .val (.int x19), .val (.int x20), .val (.int x21), .unset, .unset, .val (.int y24), .val (.int y25), .val (.int y26), .val (.int z27), .val (.int z1)]) rfl ?_
    exact kt
  · have nhc395 : ¬ x21.toInt < (1 : Int) := own_lt0 rfl rfl hc395
    obtain ⟨z2, ez2⟩ : ∃ y : Int32, y = ((u4.toUInt32 >>> ((16 : Int32) &&& 31).toUInt32).toInt32) := ⟨_, rfl⟩
    obtain ⟨z3, ez3⟩ : ∃ y : Int32, y = (z2.toInt8.toInt32) := ⟨_, rfl⟩
    have nz3 : (z3.toInt - z2.toInt) % 256 = 0 ∧ -128 ≤ z3.toInt ∧ z3.toInt < 128 := by rw [ez3]; exact c_i2b z2
    obtain ⟨cl4, Ar4, Sa4, Ma4, Ha4⟩ := id V_b10
    have i4 : 0 ≤ (y28).toInt ∧ (y28).toInt < x9.toInt := by omega
    obtain ⟨T5, h5, X5, e5, W5, st5⟩ := stB X0 hx hZ e0 Ar4 (j := y28) (cel_inb Sa4 i4.1 i4.2) (g := (mkF m 408 #[.val (.int u0), .val (.int u1), .val (.int u2), .val (.int u3), .val (.int u4), .val (.int x5), .val (.int x6), .val (.int x7), .val (.int x8), .val (.int x9), .val (.ref b10), .val (.int x11), .val (.int x12), .val (.int x13), .val (.int x14), .val (.int x15), .val (.int x16), .val (.int x17), .val (.int x18), .val (.int x19), .val (.int x20), .val (.int x21), .unset, .unset, .val (.int y24), .val (.int y25), .val (.int y26), .val (.int z27), .val (.int y28)] [(.int z3), (.int y28), (.ref b10)])) rfl rfl (hb hby at_408)
    have V5 := Byt.set (g := gg) Ar4 Sa4 Ma4 Ha4 i4.1 i4.2 W5
    obtain ⟨g5, eg5⟩ : ∃ z, z = upd gg (y28).toInt ((z3).toInt % 256) := ⟨_, rfl⟩
    rw [← eg5] at V5
    have ga5 : g5 y28.toInt = z3.toInt % 256 := by rw [eg5]; exact upd_at _ _ _
    have gn5 : ∀ i, i ≠ y28.toInt → g5 i = gg i := fun i hi => by rw [eg5]; exact upd_ne _ _ _ hi
    have N5 := Fr.snoc X5 N0 g_b10
    have Z5 : n0 ≤ h5.size := Nat.le_trans Z0 (Keep.of_wr W5).1
    have KK5 := (Keep.refl h0 [b10]).wr W5 (Or.inl (List.mem_of_getElem? (i := 0) rfl))
    by_cases hc412 : x21 < (2 : Int32)
    · have nhc412 : x21.toInt < (2 : Int) := own_lt1 rfl rfl hc412
      obtain ⟨z6, ez6⟩ : ∃ y : Int32, y = (y28 + x21) := ⟨_, rfl⟩
      have nz6 : z6.toInt = y28.toInt + x21.toInt := by rw [ez6]; exact own_iadd (x := y28.toInt) (y := x21.toInt) rfl rfl (by omega) (by omega)
      refine ⟨T5, h5, _, z6, g5, X5, e5, KK5, N5, V5, (by omega), (fun i hi => by rw [gn5 i (by omega)]), fun target kt => ?_⟩
      show Steps p.tables e below (s₁.setTop (mkF m 392 #[.val (.int u0), .val (.int u1), .val (.int u2), .val (.int u3), .val (.int u4), .val (.int x5), .val (.int x6), .val (.int x7), .val (.int x8), .val (.int x9), .val (.ref b10), .val (.int x11), .val (.int x12), .val (.int x13), .val (.int x14), .val (.int x15), .val (.int x16), .val (.int x17), .val (.int x18), .val (.int x19), .val (.int x20), .val (.int x21), .unset, .unset, .val (.int y24), .val (.int y25), .val (.int y26), .val (.int z27), .val (.int y28)] [])) _
      refine XS.iload X0.here hx rfl (hb hby at_392) rfl ?_
      refine XS.iconst X0.here hx rfl (hb hby at_394) ?_
      refine XS.icmpNo X0.here hx rfl (hb hby at_395) rfl (flt hc395).1 ?_
      refine XS.aload X0.here hx rfl (hb hby at_398) rfl rfl ?_
      refine XS.iload X0.here hx rfl (hb hby at_400) rfl ?_
      refine XS.iload X0.here hx rfl (hb hby at_402) rfl ?_
      refine XS.bipush X0.here hx rfl (hb hby at_404) ?_
      show Steps p.tables e below (s₁.setTop (mkF m 406 #[.val (.int u0), .val (.int u1), .val (.int u2), .val (.int u3), .val (.int u4), .val (.int x5), .val (.int x6), .val (.int x7), .val (.int x8), .val (.int x9), .val (.ref b10), .val (.int x11), .val (.int x12), .val (.int x13), .val (.int x14), .val (.int x15), .val (.int x16), .val (.int x17), .val (.int x18), .val (.int x19), .val (.int x20), .val (.int x21), .unset, .unset, .val (.int y24), .val (.int y25), .val (.int y26), .val (.int z27), .val (.int y28)] [(.int (16 : Int32)), (.int u4), (.int y28), (.ref b10)])) _
      refine XS.iushr X0.here hx rfl (hb hby at_406) rfl ?_
      show Steps p.tables e below (s₁.setTop (mkF m 407 #[.val (.int u0), .val (.int u1), .val (.int u2), .val (.int u3), .val (.int u4), .val (.int x5), .val (.int x6), .val (.int x7), .val (.int x8), .val (.int x9), .val (.ref b10), .val (.int x11), .val (.int x12), .val (.int x13), .val (.int x14), .val (.int x15), .val (.int x16), .val (.int x17), .val (.int x18), .val (.int x19), .val (.int x20), .val (.int x21), .unset, .unset, .val (.int y24), .val (.int y25), .val (.int y26), .val (.int z27), .val (.int y28)] [(.int ((u4.toUInt32 >>> ((16 : Int32) &&& 31).toUInt32).toInt32)), (.int y28), (.ref b10)])) _
      rw [← ez2]
      show Steps p.tables e below (s₁.setTop (mkF m 407 #[.val (.int u0), .val (.int u1), .val (.int u2), .val (.int u3), .val (.int u4), .val (.int x5), .val (.int x6), .val (.int x7), .val (.int x8), .val (.int x9), .val (.ref b10), .val (.int x11), .val (.int x12), .val (.int x13), .val (.int x14), .val (.int x15), .val (.int x16), .val (.int x17), .val (.int x18), .val (.int x19), .val (.int x20), .val (.int x21), .unset, .unset, .val (.int y24), .val (.int y25), .val (.int y26), .val (.int z27), .val (.int y28)] [(.int z2), (.int y28), (.ref b10)])) _
      refine XS.i2b X0.here hx rfl (hb hby at_407) rfl ?_
      show Steps p.tables e below (s₁.setTop (mkF m 408 #[.val (.int u0), .val (.int u1), .val (.int u2), .val (.int u3), .val (.int u4), .val (.int x5), .val (.int x6), .val (.int x7), .val (.int x8), .val (.int x9), .val (.ref b10), .val (.int x11), .val (.int x12), .val (.int x13), .val (.int x14), .val (.int x15), .val (.int x16), .val (.int x17), .val (.int x18), .val (.int x19), .val (.int x20), .val (.int x21), .unset, .unset, .val (.int y24), .val (.int y25), .val (.int y26), .val (.int z27), .val (.int y28)] [(.int (z2.toInt8.toInt32)), (.int y28), (.ref b10)])) _
      rw [← ez3]
      show Steps p.tables e below (s₁.setTop (mkF m 408 #[.val (.int u0), .val (.int u1), .val (.int u2), .val (.int u3), .val (.int u4), .val (.int x5), .val (.int x6), .val (.int x7), .val (.int x8), .val (.int x9), .val (.ref b10), .val (.int x11), .val (.int x12), .val (.int x13), .val (.int x14), .val (.int x15), .val (.int x16), .val (.int x17), .val (.int x18), .val (.int x19), .val (.int x20), .val (.int x21), .unset, .unset, .val (.int y24), .val (.int y25), .val (.int y26), .val (.int z27), .val (.int y28)] [(.int z3), (.int y28), (.ref b10)])) _
      refine st5 _ ?_
      show Steps p.tables e below (T5.setTop (mkF m 409 #[.val (.int u0), .val (.int u1), .val (.int u2), .val (.int u3), .val (.int u4), .val (.int x5), .val (.int x6), .val (.int x7), .val (.int x8), .val (.int x9), .val (.ref b10), .val (.int x11), .val (.int x12), .val (.int x13), .val (.int x14), .val (.int x15), .val (.int x16), .val (.int x17), .val (.int x18), .val (.int x19), .val (.int x20), .val (.int x21), .unset, .unset, .val (.int y24), .val (.int y25), .val (.int y26), .val (.int z27), .val (.int y28)] [])) _
      refine XS.iload X5.here hx rfl (hb hby at_409) rfl ?_
      refine XS.iconst X5.here hx rfl (hb hby at_411) ?_
      refine XS.icmpYes X5.here hx rfl (pc0 := 412) (pc' := 428) rfl (hb hby at_412) rfl (tlt hc412).1 (by decide) (by decide) ?_
      refine XS.iload X5.here hx rfl (hb hby at_428) rfl ?_
      refine XS.iload X5.here hx rfl (hb hby at_430) rfl ?_
      show Steps p.tables e below (T5.setTop (mkF m 432 #[.val (.int u0), .val (.int u1), .val (.int u2), .val (.int u3), .val (.int u4), .val (.int x5), .val (.int x6), .val (.int x7), .val (.int x8), .val (.int x9), .val (.ref b10), .val (.int x11), .val (.int x12), .val (.int x13), .val (.int x14), .val (.int x15), .val (.int x16), .val (.int x17), .val (.int x18), .val (.int x19), .val (.int x20), .val (.int x21), .unset, .unset, .val (.int y24), .val (.int y25), .val (.int y26), .val (.int z27), .val (.int y28)] [(.int x21), (.int y28)])) _
      refine XS.iadd X5.here hx rfl (hb hby at_432) rfl ?_
      show Steps p.tables e below (T5.setTop (mkF m 433 #[.val (.int u0), .val (.int u1), .val (.int u2), .val (.int u3), .val (.int u4), .val (.int x5), .val (.int x6), .val (.int x7), .val (.int x8), .val (.int x9), .val (.ref b10), .val (.int x11), .val (.int x12), .val (.int x13), .val (.int x14), .val (.int x15), .val (.int x16), .val (.int x17), .val (.int x18), .val (.int x19), .val (.int x20), .val (.int x21), .unset, .unset, .val (.int y24), .val (.int y25), .val (.int y26), .val (.int z27), .val (.int y28)] [(.int (y28 + x21))])) _
      rw [← ez6]
      refine XS.istore X5.here hx rfl (hb hby at_433) rfl (l' := #[.val (.int u0), .val (.int u1), .val (.int u2), .val (.int u3), .val (.int u4), .val (.int x5), .val (.int x6), .val (.int x7), .val (.int x8), .val (.int x9), .val (.ref b10), .val (.int x11), .val (.int x12), .val (.int x13), .val (.int x14), .val (.int x15), .val (.int x16), .val (.int x17), .val (.int x18), .val (.int x19), .val (.int x20), .val (.int x21), .unset, .unset, .val (.int y24), .val (.int y25), .val (.int y26), .val (.int z27), .val (.int z6)]) rfl ?_
      exact kt
    · have nhc412 : ¬ x21.toInt < (2 : Int) := own_lt0 rfl rfl hc412
      obtain ⟨z7, ez7⟩ : ∃ y : Int32, y = (y28 + (1 : Int32)) := ⟨_, rfl⟩
      have nz7 : z7.toInt = y28.toInt + (1 : Int) := by rw [ez7]; exact own_iadd (x := y28.toInt) (y := (1 : Int)) rfl rfl (by omega) (by omega)
      obtain ⟨z8, ez8⟩ : ∃ y : Int32, y = ((u4.toUInt32 >>> ((24 : Int32) &&& 31).toUInt32).toInt32) := ⟨_, rfl⟩
      obtain ⟨z9, ez9⟩ : ∃ y : Int32, y = (z8.toInt8.toInt32) := ⟨_, rfl⟩
      have nz9 : (z9.toInt - z8.toInt) % 256 = 0 ∧ -128 ≤ z9.toInt ∧ z9.toInt < 128 := by rw [ez9]; exact c_i2b z8
      obtain ⟨cl10, Ar10, Sa10, Ma10, Ha10⟩ := id V5
      have i10 : 0 ≤ (z7).toInt ∧ (z7).toInt < x9.toInt := by omega
      obtain ⟨T11, h11, X11, e11, W11, st11⟩ := stB X5 hx hZ e5 Ar10 (j := z7) (cel_inb Sa10 i10.1 i10.2) (g := (mkF m 427 #[.val (.int u0), .val (.int u1), .val (.int u2), .val (.int u3), .val (.int u4), .val (.int x5), .val (.int x6), .val (.int x7), .val (.int x8), .val (.int x9), .val (.ref b10), .val (.int x11), .val (.int x12), .val (.int x13), .val (.int x14), .val (.int x15), .val (.int x16), .val (.int x17), .val (.int x18), .val (.int x19), .val (.int x20), .val (.int x21), .unset, .unset, .val (.int y24), .val (.int y25), .val (.int y26), .val (.int z27), .val (.int y28)] [(.int z9), (.int z7), (.ref b10)])) rfl rfl (hb hby at_427)
      have V11 := Byt.set (g := g5) Ar10 Sa10 Ma10 Ha10 i10.1 i10.2 W11
      obtain ⟨g11, eg11⟩ : ∃ z, z = upd g5 (z7).toInt ((z9).toInt % 256) := ⟨_, rfl⟩
      rw [← eg11] at V11
      have ga11 : g11 z7.toInt = z9.toInt % 256 := by rw [eg11]; exact upd_at _ _ _
      have gn11 : ∀ i, i ≠ z7.toInt → g11 i = g5 i := fun i hi => by rw [eg11]; exact upd_ne _ _ _ hi
      have N11 := Fr.snoc X11 N5 g_b10
      have Z11 : n0 ≤ h11.size := Nat.le_trans Z5 (Keep.of_wr W11).1
      have KK11 := KK5.wr W11 (Or.inl (List.mem_of_getElem? (i := 0) rfl))
      obtain ⟨z12, ez12⟩ : ∃ y : Int32, y = (y28 + x21) := ⟨_, rfl⟩
      have nz12 : z12.toInt = y28.toInt + x21.toInt := by rw [ez12]; exact own_iadd (x := y28.toInt) (y := x21.toInt) rfl rfl (by omega) (by omega)
      refine ⟨T11, h11, _, z12, g11, X11, e11, KK11, N11, V11, (by omega), (fun i hi => by rw [gn11 i (by omega), gn5 i (by omega)]), fun target kt => ?_⟩
      show Steps p.tables e below (s₁.setTop (mkF m 392 #[.val (.int u0), .val (.int u1), .val (.int u2), .val (.int u3), .val (.int u4), .val (.int x5), .val (.int x6), .val (.int x7), .val (.int x8), .val (.int x9), .val (.ref b10), .val (.int x11), .val (.int x12), .val (.int x13), .val (.int x14), .val (.int x15), .val (.int x16), .val (.int x17), .val (.int x18), .val (.int x19), .val (.int x20), .val (.int x21), .unset, .unset, .val (.int y24), .val (.int y25), .val (.int y26), .val (.int z27), .val (.int y28)] [])) _
      refine XS.iload X0.here hx rfl (hb hby at_392) rfl ?_
      refine XS.iconst X0.here hx rfl (hb hby at_394) ?_
      refine XS.icmpNo X0.here hx rfl (hb hby at_395) rfl (flt hc395).1 ?_
      refine XS.aload X0.here hx rfl (hb hby at_398) rfl rfl ?_
      refine XS.iload X0.here hx rfl (hb hby at_400) rfl ?_
      refine XS.iload X0.here hx rfl (hb hby at_402) rfl ?_
      refine XS.bipush X0.here hx rfl (hb hby at_404) ?_
      show Steps p.tables e below (s₁.setTop (mkF m 406 #[.val (.int u0), .val (.int u1), .val (.int u2), .val (.int u3), .val (.int u4), .val (.int x5), .val (.int x6), .val (.int x7), .val (.int x8), .val (.int x9), .val (.ref b10), .val (.int x11), .val (.int x12), .val (.int x13), .val (.int x14), .val (.int x15), .val (.int x16), .val (.int x17), .val (.int x18), .val (.int x19), .val (.int x20), .val (.int x21), .unset, .unset, .val (.int y24), .val (.int y25), .val (.int y26), .val (.int z27), .val (.int y28)] [(.int (16 : Int32)), (.int u4), (.int y28), (.ref b10)])) _
      refine XS.iushr X0.here hx rfl (hb hby at_406) rfl ?_
      show Steps p.tables e below (s₁.setTop (mkF m 407 #[.val (.int u0), .val (.int u1), .val (.int u2), .val (.int u3), .val (.int u4), .val (.int x5), .val (.int x6), .val (.int x7), .val (.int x8), .val (.int x9), .val (.ref b10), .val (.int x11), .val (.int x12), .val (.int x13), .val (.int x14), .val (.int x15), .val (.int x16), .val (.int x17), .val (.int x18), .val (.int x19), .val (.int x20), .val (.int x21), .unset, .unset, .val (.int y24), .val (.int y25), .val (.int y26), .val (.int z27), .val (.int y28)] [(.int ((u4.toUInt32 >>> ((16 : Int32) &&& 31).toUInt32).toInt32)), (.int y28), (.ref b10)])) _
      rw [← ez2]
      show Steps p.tables e below (s₁.setTop (mkF m 407 #[.val (.int u0), .val (.int u1), .val (.int u2), .val (.int u3), .val (.int u4), .val (.int x5), .val (.int x6), .val (.int x7), .val (.int x8), .val (.int x9), .val (.ref b10), .val (.int x11), .val (.int x12), .val (.int x13), .val (.int x14), .val (.int x15), .val (.int x16), .val (.int x17), .val (.int x18), .val (.int x19), .val (.int x20), .val (.int x21), .unset, .unset, .val (.int y24), .val (.int y25), .val (.int y26), .val (.int z27), .val (.int y28)] [(.int z2), (.int y28), (.ref b10)])) _
      refine XS.i2b X0.here hx rfl (hb hby at_407) rfl ?_
      show Steps p.tables e below (s₁.setTop (mkF m 408 #[.val (.int u0), .val (.int u1), .val (.int u2), .val (.int u3), .val (.int u4), .val (.int x5), .val (.int x6), .val (.int x7), .val (.int x8), .val (.int x9), .val (.ref b10), .val (.int x11), .val (.int x12), .val (.int x13), .val (.int x14), .val (.int x15), .val (.int x16), .val (.int x17), .val (.int x18), .val (.int x19), .val (.int x20), .val (.int x21), .unset, .unset, .val (.int y24), .val (.int y25), .val (.int y26), .val (.int z27), .val (.int y28)] [(.int (z2.toInt8.toInt32)), (.int y28), (.ref b10)])) _
      rw [← ez3]
      show Steps p.tables e below (s₁.setTop (mkF m 408 #[.val (.int u0), .val (.int u1), .val (.int u2), .val (.int u3), .val (.int u4), .val (.int x5), .val (.int x6), .val (.int x7), .val (.int x8), .val (.int x9), .val (.ref b10), .val (.int x11), .val (.int x12), .val (.int x13), .val (.int x14), .val (.int x15), .val (.int x16), .val (.int x17), .val (.int x18), .val (.int x19), .val (.int x20), .val (.int x21), .unset, .unset, .val (.int y24), .val (.int y25), .val (.int y26), .val (.int z27), .val (.int y28)] [(.int z3), (.int y28), (.ref b10)])) _
      refine st5 _ ?_
      show Steps p.tables e below (T5.setTop (mkF m 409 #[.val (.int u0), .val (.int u1), .val (.int u2), .val (.int u3), .val (.int u4), .val (.int x5), .val (.int x6), .val (.int x7), .val (.int x8), .val (.int x9), .val (.ref b10), .val (.int x11), .val (.int x12), .val (.int x13), .val (.int x14), .val (.int x15), .val (.int x16), .val (.int x17), .val (.int x18), .val (.int x19), .val (.int x20), .val (.int x21), .unset, .unset, .val (.int y24), .val (.int y25), .val (.int y26), .val (.int z27), .val (.int y28)] [])) _
      refine XS.iload X5.here hx rfl (hb hby at_409) rfl ?_
      refine XS.iconst X5.here hx rfl (hb hby at_411) ?_
      refine XS.icmpNo X5.here hx rfl (hb hby at_412) rfl (flt hc412).1 ?_
      refine XS.aload X5.here hx rfl (hb hby at_415) rfl rfl ?_
      refine XS.iload X5.here hx rfl (hb hby at_417) rfl ?_
      refine XS.iconst X5.here hx rfl (hb hby at_419) ?_
      show Steps p.tables e below (T5.setTop (mkF m 420 #[.val (.int u0), .val (.int u1), .val (.int u2), .val (.int u3), .val (.int u4), .val (.int x5), .val (.int x6), .val (.int x7), .val (.int x8), .val (.int x9), .val (.ref b10), .val (.int x11), .val (.int x12), .val (.int x13), .val (.int x14), .val (.int x15), .val (.int x16), .val (.int x17), .val (.int x18), .val (.int x19), .val (.int x20), .val (.int x21), .unset, .unset, .val (.int y24), .val (.int y25), .val (.int y26), .val (.int z27), .val (.int y28)] [(.int (1 : Int32)), (.int y28), (.ref b10)])) _
      refine XS.iadd X5.here hx rfl (hb hby at_420) rfl ?_
      show Steps p.tables e below (T5.setTop (mkF m 421 #[.val (.int u0), .val (.int u1), .val (.int u2), .val (.int u3), .val (.int u4), .val (.int x5), .val (.int x6), .val (.int x7), .val (.int x8), .val (.int x9), .val (.ref b10), .val (.int x11), .val (.int x12), .val (.int x13), .val (.int x14), .val (.int x15), .val (.int x16), .val (.int x17), .val (.int x18), .val (.int x19), .val (.int x20), .val (.int x21), .unset, .unset, .val (.int y24), .val (.int y25), .val (.int y26), .val (.int z27), .val (.int y28)] [(.int (y28 + (1 : Int32))), (.ref b10)])) _
      rw [← ez7]
      refine XS.iload X5.here hx rfl (hb hby at_421) rfl ?_
      refine XS.bipush X5.here hx rfl (hb hby at_423) ?_
      show Steps p.tables e below (T5.setTop (mkF m 425 #[.val (.int u0), .val (.int u1), .val (.int u2), .val (.int u3), .val (.int u4), .val (.int x5), .val (.int x6), .val (.int x7), .val (.int x8), .val (.int x9), .val (.ref b10), .val (.int x11), .val (.int x12), .val (.int x13), .val (.int x14), .val (.int x15), .val (.int x16), .val (.int x17), .val (.int x18), .val (.int x19), .val (.int x20), .val (.int x21), .unset, .unset, .val (.int y24), .val (.int y25), .val (.int y26), .val (.int z27), .val (.int y28)] [(.int (24 : Int32)), (.int u4), (.int z7), (.ref b10)])) _
      refine XS.iushr X5.here hx rfl (hb hby at_425) rfl ?_
      show Steps p.tables e below (T5.setTop (mkF m 426 #[.val (.int u0), .val (.int u1), .val (.int u2), .val (.int u3), .val (.int u4), .val (.int x5), .val (.int x6), .val (.int x7), .val (.int x8), .val (.int x9), .val (.ref b10), .val (.int x11), .val (.int x12), .val (.int x13), .val (.int x14), .val (.int x15), .val (.int x16), .val (.int x17), .val (.int x18), .val (.int x19), .val (.int x20), .val (.int x21), .unset, .unset, .val (.int y24), .val (.int y25), .val (.int y26), .val (.int z27), .val (.int y28)] [(.int ((u4.toUInt32 >>> ((24 : Int32) &&& 31).toUInt32).toInt32)), (.int z7), (.ref b10)])) _
      rw [← ez8]
      show Steps p.tables e below (T5.setTop (mkF m 426 #[.val (.int u0), .val (.int u1), .val (.int u2), .val (.int u3), .val (.int u4), .val (.int x5), .val (.int x6), .val (.int x7), .val (.int x8), .val (.int x9), .val (.ref b10), .val (.int x11), .val (.int x12), .val (.int x13), .val (.int x14), .val (.int x15), .val (.int x16), .val (.int x17), .val (.int x18), .val (.int x19), .val (.int x20), .val (.int x21), .unset, .unset, .val (.int y24), .val (.int y25), .val (.int y26), .val (.int z27), .val (.int y28)] [(.int z8), (.int z7), (.ref b10)])) _
      refine XS.i2b X5.here hx rfl (hb hby at_426) rfl ?_
      show Steps p.tables e below (T5.setTop (mkF m 427 #[.val (.int u0), .val (.int u1), .val (.int u2), .val (.int u3), .val (.int u4), .val (.int x5), .val (.int x6), .val (.int x7), .val (.int x8), .val (.int x9), .val (.ref b10), .val (.int x11), .val (.int x12), .val (.int x13), .val (.int x14), .val (.int x15), .val (.int x16), .val (.int x17), .val (.int x18), .val (.int x19), .val (.int x20), .val (.int x21), .unset, .unset, .val (.int y24), .val (.int y25), .val (.int y26), .val (.int z27), .val (.int y28)] [(.int (z8.toInt8.toInt32)), (.int z7), (.ref b10)])) _
      rw [← ez9]
      show Steps p.tables e below (T5.setTop (mkF m 427 #[.val (.int u0), .val (.int u1), .val (.int u2), .val (.int u3), .val (.int u4), .val (.int x5), .val (.int x6), .val (.int x7), .val (.int x8), .val (.int x9), .val (.ref b10), .val (.int x11), .val (.int x12), .val (.int x13), .val (.int x14), .val (.int x15), .val (.int x16), .val (.int x17), .val (.int x18), .val (.int x19), .val (.int x20), .val (.int x21), .unset, .unset, .val (.int y24), .val (.int y25), .val (.int y26), .val (.int z27), .val (.int y28)] [(.int z9), (.int z7), (.ref b10)])) _
      refine st11 _ ?_
      show Steps p.tables e below (T11.setTop (mkF m 428 #[.val (.int u0), .val (.int u1), .val (.int u2), .val (.int u3), .val (.int u4), .val (.int x5), .val (.int x6), .val (.int x7), .val (.int x8), .val (.int x9), .val (.ref b10), .val (.int x11), .val (.int x12), .val (.int x13), .val (.int x14), .val (.int x15), .val (.int x16), .val (.int x17), .val (.int x18), .val (.int x19), .val (.int x20), .val (.int x21), .unset, .unset, .val (.int y24), .val (.int y25), .val (.int y26), .val (.int z27), .val (.int y28)] [])) _
      refine XS.iload X11.here hx rfl (hb hby at_428) rfl ?_
      refine XS.iload X11.here hx rfl (hb hby at_430) rfl ?_
      show Steps p.tables e below (T11.setTop (mkF m 432 #[.val (.int u0), .val (.int u1), .val (.int u2), .val (.int u3), .val (.int u4), .val (.int x5), .val (.int x6), .val (.int x7), .val (.int x8), .val (.int x9), .val (.ref b10), .val (.int x11), .val (.int x12), .val (.int x13), .val (.int x14), .val (.int x15), .val (.int x16), .val (.int x17), .val (.int x18), .val (.int x19), .val (.int x20), .val (.int x21), .unset, .unset, .val (.int y24), .val (.int y25), .val (.int y26), .val (.int z27), .val (.int y28)] [(.int x21), (.int y28)])) _
      refine XS.iadd X11.here hx rfl (hb hby at_432) rfl ?_
      show Steps p.tables e below (T11.setTop (mkF m 433 #[.val (.int u0), .val (.int u1), .val (.int u2), .val (.int u3), .val (.int u4), .val (.int x5), .val (.int x6), .val (.int x7), .val (.int x8), .val (.int x9), .val (.ref b10), .val (.int x11), .val (.int x12), .val (.int x13), .val (.int x14), .val (.int x15), .val (.int x16), .val (.int x17), .val (.int x18), .val (.int x19), .val (.int x20), .val (.int x21), .unset, .unset, .val (.int y24), .val (.int y25), .val (.int y26), .val (.int z27), .val (.int y28)] [(.int (y28 + x21))])) _
      rw [← ez12]
      refine XS.istore X11.here hx rfl (hb hby at_433) rfl (l' := #[.val (.int u0), .val (.int u1), .val (.int u2), .val (.int u3), .val (.int u4), .val (.int x5), .val (.int x6), .val (.int x7), .val (.int x8), .val (.int x9), .val (.ref b10), .val (.int x11), .val (.int x12), .val (.int x13), .val (.int x14), .val (.int x15), .val (.int x16), .val (.int x17), .val (.int x18), .val (.int x19), .val (.int x20), .val (.int x21), .unset, .unset, .val (.int y24), .val (.int y25), .val (.int y26), .val (.int z27), .val (.int z12)]) rfl ?_
      exact kt
theorem pd_3 : parseMethodDescriptor "([BIIIIII)I" = some ⟨[(.array .byte), .int, .int, .int, .int, .int, .int], some .int⟩ := by decide +kernel
set_option maxRecDepth 65536 in
set_option maxHeartbeats 40000000 in
theorem sg_fl (l : Launch) (Z : State) (a0 : Array Value) (hw : ∀ d ∈ tables_1, d.before a0 Z = true) {p : Program} {e : Env} {s : State} {m : MethodId} {args : Array Value} {below : List Frame} {meth : Method} {c : Code} {s₁ : State} {locs0 : List Loc} (u0 : Int32) (u1 : Int32) (u2 : Int32) (u3 : Int32) (u4 : Int32) (x5 : Int32) (x6 : Int32) (x7 : Int32) (x8 : Int32) (x9 : Int32) (b10 : Addr) (x11 : Int32) (x12 : Int32) (x13 : Int32) (x14 : Int32) (x15 : Int32) (x16 : Int32) (x17 : Int32) (x18 : Int32) (x19 : Int32) (x20 : Int32) (x21 : Int32) (y24 : Int32) (y25 : Int32) (y26 : Int32) (z27 : Int32) (y28 : Int32) (gg : Int → Int) (h0 : Heap) (n0 : Nat) (Z0 : n0 ≤ h0.size) (X0 : Stand p l e room_1 s m args below meth c s₁ locs0 1 65600) (hx : p.tables.exec = Jvm.exec) (hby : c.code = code) (hml : c.maxLocals = 29) (hZ : Z.Warmed39 s.vm) (hown : s.vm.findClass "com/example/fides/fides/DerRequireShapePinLaw" = some m.cls) (e0 : s₁.heap = h0) (N0 : Fr n0 locs0) (g_b10 : n0 ≤ b10) (V_b10 : Byt Z h0 b10 x9.toInt gg) (hn : 0 ≤ y28.toInt ∧ 18 ≤ z27.toInt - y26.toInt ∧ y28.toInt + (z27.toInt - y26.toInt) ≤ x9.toInt ∧ x9.toInt ≤ 65600 ∧ 0 ≤ x15.toInt ∧ x15.toInt ≤ 3 ∧ 0 ≤ x6.toInt ∧ x6.toInt ≤ 3 ∧ 0 ≤ x7.toInt ∧ x7.toInt ≤ 1 ∧ 0 ≤ y26.toInt) : ∃ (T' : State) (h' : Heap) (locs' : List Loc) (z22 : Int32) (z23 : Int32) (g' : Int → Int) (ff : Int) (cc : Int), Stand p l e room_1 s m args below meth c T' locs' 1 65600 ∧ T'.heap = h' ∧ Keep h0 h' [b10] ∧ Fr n0 locs' ∧ (Byt Z h' b10 x9.toInt g') ∧ (z22.toInt = y28.toInt + (z27.toInt - y26.toInt)) ∧ (z23.toInt = x6.toInt + x7.toInt) ∧ (∀ i, i < y28.toInt → g' i = gg i) ∧ (0 ≤ ff ∧ ff ≤ 3) ∧ (TagOK g' y28.toInt ff 0) ∧ (LenOK g' (y28.toInt + 1 + ff) cc) ∧ (1 + ff + ls cc + cc = z27.toInt - y26.toInt ∧ 2 ≤ cc) ∧ ∀ target, Steps p.tables e below (T'.setTop (mkF m 473 #[.val (.int u0), .val (.int u1), .val (.int u2), .val (.int u3), .val (.int u4), .val (.int x5), .val (.int x6), .val (.int x7), .val (.int x8), .val (.int x9), .val (.ref b10), .val (.int x11), .val (.int x12), .val (.int x13), .val (.int x14), .val (.int x15), .val (.int x16), .val (.int x17), .val (.int x18), .val (.int x19), .val (.int x20), .val (.int x21), .val (.int z22), .val (.int z23), .val (.int y24), .val (.int y25), .val (.int y26), .val (.int z27), .val (.int y28)] [])) target → Steps p.tables e below (s₁.setTop (mkF m 435 #[.val (.int u0), .val (.int u1), .val (.int u2), .val (.int u3), .val (.int u4), .val (.int x5), .val (.int x6), .val (.int x7), .val (.int x8), .val (.int x9), .val (.ref b10), .val (.int x11), .val (.int x12), .val (.int x13), .val (.int x14), .val (.int x15), .val (.int x16), .val (.int x17), .val (.int x18), .val (.int x19), .val (.int x20), .val (.int x21), .unset, .unset, .val (.int y24), .val (.int y25), .val (.int y26), .val (.int z27), .val (.int y28)] [])) target := by
  obtain ⟨z1, ez1⟩ : ∃ y : Int32, y = (z27 - y26) := ⟨_, rfl⟩
  have nz1 : z1.toInt = z27.toInt - y26.toInt := by rw [ez1]; exact own_isub (x := z27.toInt) (y := y26.toInt) rfl rfl (by omega) (by omega)
  obtain ⟨z2, ez2⟩ : ∃ y : Int32, y = ((u2.toUInt32 >>> ((4 : Int32) &&& 31).toUInt32).toInt32) := ⟨_, rfl⟩
  obtain ⟨_, _, ⟨T3, L3, k3, n3⟩, -, X3, ⟨Lc3, hQ3, l3, y3, z3⟩, st3⟩ := Jvm.LawKit.callS X0 hx (y := (⟨"com/example/fides/fides/DerRequireShapePinLaw", "putFiller", "([BIIIIII)I"⟩ : MethodName)) hown (mvT hZ (hw _ (List.mem_of_getElem? (i := 1) rfl))) (mvT hZ (hw _ (List.mem_of_getElem? (i := 2) rfl))) (mvT hZ (hw _ (List.mem_of_getElem? (i := 3) rfl))) (mvT hZ (hw _ (List.mem_of_getElem? (i := 4) rfl))) (by decide) (backOf (W := 0) (rm1 l Z a0 hw [] b10 y28 z1 x15 x20 z2 u4 x9.toInt gg h0 n0 Z0 g_b10 V_b10 (by omega) (by omega) (by omega) (by omega) (by omega)) hZ (hw _ (List.mem_of_getElem? (i := 4) rfl)) (hw _ (List.mem_of_getElem? (i := 3) rfl)) (by decide) (by decide)) (g := (mkF m 453 #[.val (.int u0), .val (.int u1), .val (.int u2), .val (.int u3), .val (.int u4), .val (.int x5), .val (.int x6), .val (.int x7), .val (.int x8), .val (.int x9), .val (.ref b10), .val (.int x11), .val (.int x12), .val (.int x13), .val (.int x14), .val (.int x15), .val (.int x16), .val (.int x17), .val (.int x18), .val (.int x19), .val (.int x20), .val (.int x21), .unset, .unset, .val (.int y24), .val (.int y25), .val (.int y26), .val (.int z27), .val (.int y28)] [(.int u4), (.int z2), (.int x20), (.int x15), (.int z1), (.int y28), (.ref b10)])) rfl (by rw [hml]; rfl) (argsL := [(.ref b10), (.int y28), (.int z1), (.int x15), (.int x20), (.int z2), (.int u4)]) (rest := []) (lenOf pd_3 rfl) rfl (by show 2 * 0 + _ ≤ _; exact Nat.le_of_eq rfl) (hb hby at_453) (fun _ _ => ⟨rfl, e0, (by decide : 1 + 0 ≤ _), (by decide : 65600 + 0 ≤ _)⟩)
  dsimp only [Pt.U, Pt.locs, Pt.cells, Pt.slots] at X3 l3 y3 z3 st3 hQ3
  replace y3 : k3 = 1 := y3
  replace z3 : n3 = 65600 := z3
  rw [y3, z3] at X3
  obtain ⟨w3, gw3, ff3, cc3, rfl, N3q, K3, V3, nw3a, nw3b, nw3c, nw3d, nw3e, nw3f, nw3g⟩ := hQ3
  have N3 : Fr n0 L3 := l3 ▸ Fr.app N0 N3q
  have Z3 : n0 ≤ T3.heap.size := Nat.le_trans Z0 K3.1
  have KK3 := (Keep.refl h0 [b10]).trans K3 (allS (P := fun x => x ∈ [b10] ∨ h0.size ≤ x) (Or.inl (List.mem_of_getElem? (i := 0) rfl)) all0)
  by_cases hc462 : x7 = (0 : Int32)
  · have nhc462 : x7.toInt = (0 : Int) := own_eq1 rfl rfl hc462
    obtain ⟨z4, ez4⟩ : ∃ y : Int32, y = (x6 + (0 : Int32)) := ⟨_, rfl⟩
    have nz4 : z4.toInt = x6.toInt + (0 : Int) := by rw [ez4]; exact own_iadd (x := x6.toInt) (y := (0 : Int)) rfl rfl (by omega) (by omega)
    refine ⟨T3, T3.heap, _, w3, z4, gw3, ff3, cc3, X3, rfl, KK3, N3, V3, (by omega), (by omega), (fun i hi => nw3b i (by omega)), nw3c, nw3d, nw3e, ⟨by omega, by omega⟩, fun target kt => ?_⟩
    show Steps p.tables e below (s₁.setTop (mkF m 435 #[.val (.int u0), .val (.int u1), .val (.int u2), .val (.int u3), .val (.int u4), .val (.int x5), .val (.int x6), .val (.int x7), .val (.int x8), .val (.int x9), .val (.ref b10), .val (.int x11), .val (.int x12), .val (.int x13), .val (.int x14), .val (.int x15), .val (.int x16), .val (.int x17), .val (.int x18), .val (.int x19), .val (.int x20), .val (.int x21), .unset, .unset, .val (.int y24), .val (.int y25), .val (.int y26), .val (.int z27), .val (.int y28)] [])) _
    refine XS.aload X0.here hx rfl (hb hby at_435) rfl rfl ?_
    refine XS.iload X0.here hx rfl (hb hby at_437) rfl ?_
    refine XS.iload X0.here hx rfl (hb hby at_439) rfl ?_
    refine XS.iload X0.here hx rfl (hb hby at_441) rfl ?_
    show Steps p.tables e below (s₁.setTop (mkF m 443 #[.val (.int u0), .val (.int u1), .val (.int u2), .val (.int u3), .val (.int u4), .val (.int x5), .val (.int x6), .val (.int x7), .val (.int x8), .val (.int x9), .val (.ref b10), .val (.int x11), .val (.int x12), .val (.int x13), .val (.int x14), .val (.int x15), .val (.int x16), .val (.int x17), .val (.int x18), .val (.int x19), .val (.int x20), .val (.int x21), .unset, .unset, .val (.int y24), .val (.int y25), .val (.int y26), .val (.int z27), .val (.int y28)] [(.int y26), (.int z27), (.int y28), (.ref b10)])) _
    refine XS.isub X0.here hx rfl (hb hby at_443) rfl ?_
    show Steps p.tables e below (s₁.setTop (mkF m 444 #[.val (.int u0), .val (.int u1), .val (.int u2), .val (.int u3), .val (.int u4), .val (.int x5), .val (.int x6), .val (.int x7), .val (.int x8), .val (.int x9), .val (.ref b10), .val (.int x11), .val (.int x12), .val (.int x13), .val (.int x14), .val (.int x15), .val (.int x16), .val (.int x17), .val (.int x18), .val (.int x19), .val (.int x20), .val (.int x21), .unset, .unset, .val (.int y24), .val (.int y25), .val (.int y26), .val (.int z27), .val (.int y28)] [(.int (z27 - y26)), (.int y28), (.ref b10)])) _
    rw [← ez1]
    refine XS.iload X0.here hx rfl (hb hby at_444) rfl ?_
    refine XS.iload X0.here hx rfl (hb hby at_446) rfl ?_
    refine XS.iloadN X0.here hx rfl (hb hby at_448) rfl ?_
    refine XS.iconst X0.here hx rfl (hb hby at_449) ?_
    show Steps p.tables e below (s₁.setTop (mkF m 450 #[.val (.int u0), .val (.int u1), .val (.int u2), .val (.int u3), .val (.int u4), .val (.int x5), .val (.int x6), .val (.int x7), .val (.int x8), .val (.int x9), .val (.ref b10), .val (.int x11), .val (.int x12), .val (.int x13), .val (.int x14), .val (.int x15), .val (.int x16), .val (.int x17), .val (.int x18), .val (.int x19), .val (.int x20), .val (.int x21), .unset, .unset, .val (.int y24), .val (.int y25), .val (.int y26), .val (.int z27), .val (.int y28)] [(.int (4 : Int32)), (.int u2), (.int x20), (.int x15), (.int z1), (.int y28), (.ref b10)])) _
    refine XS.iushr X0.here hx rfl (hb hby at_450) rfl ?_
    show Steps p.tables e below (s₁.setTop (mkF m 451 #[.val (.int u0), .val (.int u1), .val (.int u2), .val (.int u3), .val (.int u4), .val (.int x5), .val (.int x6), .val (.int x7), .val (.int x8), .val (.int x9), .val (.ref b10), .val (.int x11), .val (.int x12), .val (.int x13), .val (.int x14), .val (.int x15), .val (.int x16), .val (.int x17), .val (.int x18), .val (.int x19), .val (.int x20), .val (.int x21), .unset, .unset, .val (.int y24), .val (.int y25), .val (.int y26), .val (.int z27), .val (.int y28)] [(.int ((u2.toUInt32 >>> ((4 : Int32) &&& 31).toUInt32).toInt32)), (.int x20), (.int x15), (.int z1), (.int y28), (.ref b10)])) _
    rw [← ez2]
    refine XS.iload X0.here hx rfl (hb hby at_451) rfl ?_
    refine st3 _ ?_
    show Steps p.tables e below (T3.setTop (mkF m 456 #[.val (.int u0), .val (.int u1), .val (.int u2), .val (.int u3), .val (.int u4), .val (.int x5), .val (.int x6), .val (.int x7), .val (.int x8), .val (.int x9), .val (.ref b10), .val (.int x11), .val (.int x12), .val (.int x13), .val (.int x14), .val (.int x15), .val (.int x16), .val (.int x17), .val (.int x18), .val (.int x19), .val (.int x20), .val (.int x21), .unset, .unset, .val (.int y24), .val (.int y25), .val (.int y26), .val (.int z27), .val (.int y28)] [(.int w3)])) _
    refine XS.istore X3.here hx rfl (hb hby at_456) rfl (l' := #[.val (.int u0), .val (.int u1), .val (.int u2), .val (.int u3), .val (.int u4), .val (.int x5), .val (.int x6), .val (.int x7), .val (.int x8), .val (.int x9), .val (.ref b10), .val (.int x11), .val (.int x12), .val (.int x13), .val (.int x14), .val (.int x15), .val (.int x16), .val (.int x17), .val (.int x18), .val (.int x19), .val (.int x20), .val (.int x21), .val (.int w3), .unset, .val (.int y24), .val (.int y25), .val (.int y26), .val (.int z27), .val (.int y28)]) rfl ?_
    refine XS.iload X3.here hx rfl (hb hby at_458) rfl ?_
    refine XS.iload X3.here hx rfl (hb hby at_460) rfl ?_
    refine XS.ifYes X3.here hx rfl (pc0 := 462) (pc' := 469) rfl (hb hby at_462) rfl ((if0 _ _).trans (teq hc462).1) (by decide) (by decide) ?_
    refine XS.iconst X3.here hx rfl (hb hby at_469) ?_
    show Steps p.tables e below (T3.setTop (mkF m 470 #[.val (.int u0), .val (.int u1), .val (.int u2), .val (.int u3), .val (.int u4), .val (.int x5), .val (.int x6), .val (.int x7), .val (.int x8), .val (.int x9), .val (.ref b10), .val (.int x11), .val (.int x12), .val (.int x13), .val (.int x14), .val (.int x15), .val (.int x16), .val (.int x17), .val (.int x18), .val (.int x19), .val (.int x20), .val (.int x21), .val (.int w3), .unset, .val (.int y24), .val (.int y25), .val (.int y26), .val (.int z27), .val (.int y28)] [(.int (0 : Int32)), (.int x6)])) _
    refine XS.iadd X3.here hx rfl (hb hby at_470) rfl ?_
    show Steps p.tables e below (T3.setTop (mkF m 471 #[.val (.int u0), .val (.int u1), .val (.int u2), .val (.int u3), .val (.int u4), .val (.int x5), .val (.int x6), .val (.int x7), .val (.int x8), .val (.int x9), .val (.ref b10), .val (.int x11), .val (.int x12), .val (.int x13), .val (.int x14), .val (.int x15), .val (.int x16), .val (.int x17), .val (.int x18), .val (.int x19), .val (.int x20), .val (.int x21), .val (.int w3), .unset, .val (.int y24), .val (.int y25), .val (.int y26), .val (.int z27), .val (.int y28)] [(.int (x6 + (0 : Int32)))])) _
    rw [← ez4]
    refine XS.istore X3.here hx rfl (hb hby at_471) rfl (l' := #[.val (.int u0), .val (.int u1), .val (.int u2), .val (.int u3), .val (.int u4), .val (.int x5), .val (.int x6), .val (.int x7), .val (.int x8), .val (.int x9), .val (.ref b10), .val (.int x11), .val (.int x12), .val (.int x13), .val (.int x14), .val (.int x15), .val (.int x16), .val (.int x17), .val (.int x18), .val (.int x19), .val (.int x20), .val (.int x21), .val (.int w3), .val (.int z4), .val (.int y24), .val (.int y25), .val (.int y26), .val (.int z27), .val (.int y28)]) rfl ?_
    exact kt
  · have nhc462 : ¬ x7.toInt = (0 : Int) := own_eq0 rfl rfl hc462
    obtain ⟨z5, ez5⟩ : ∃ y : Int32, y = (x6 + (1 : Int32)) := ⟨_, rfl⟩
    have nz5 : z5.toInt = x6.toInt + (1 : Int) := by rw [ez5]; exact own_iadd (x := x6.toInt) (y := (1 : Int)) rfl rfl (by omega) (by omega)
    refine ⟨T3, T3.heap, _, w3, z5, gw3, ff3, cc3, X3, rfl, KK3, N3, V3, (by omega), (by omega), (fun i hi => nw3b i (by omega)), nw3c, nw3d, nw3e, ⟨by omega, by omega⟩, fun target kt => ?_⟩
    show Steps p.tables e below (s₁.setTop (mkF m 435 #[.val (.int u0), .val (.int u1), .val (.int u2), .val (.int u3), .val (.int u4), .val (.int x5), .val (.int x6), .val (.int x7), .val (.int x8), .val (.int x9), .val (.ref b10), .val (.int x11), .val (.int x12), .val (.int x13), .val (.int x14), .val (.int x15), .val (.int x16), .val (.int x17), .val (.int x18), .val (.int x19), .val (.int x20), .val (.int x21), .unset, .unset, .val (.int y24), .val (.int y25), .val (.int y26), .val (.int z27), .val (.int y28)] [])) _
    refine XS.aload X0.here hx rfl (hb hby at_435) rfl rfl ?_
    refine XS.iload X0.here hx rfl (hb hby at_437) rfl ?_
    refine XS.iload X0.here hx rfl (hb hby at_439) rfl ?_
    refine XS.iload X0.here hx rfl (hb hby at_441) rfl ?_
    show Steps p.tables e below (s₁.setTop (mkF m 443 #[.val (.int u0), .val (.int u1), .val (.int u2), .val (.int u3), .val (.int u4), .val (.int x5), .val (.int x6), .val (.int x7), .val (.int x8), .val (.int x9), .val (.ref b10), .val (.int x11), .val (.int x12), .val (.int x13), .val (.int x14), .val (.int x15), .val (.int x16), .val (.int x17), .val (.int x18), .val (.int x19), .val (.int x20), .val (.int x21), .unset, .unset, .val (.int y24), .val (.int y25), .val (.int y26), .val (.int z27), .val (.int y28)] [(.int y26), (.int z27), (.int y28), (.ref b10)])) _
    refine XS.isub X0.here hx rfl (hb hby at_443) rfl ?_
    show Steps p.tables e below (s₁.setTop (mkF m 444 #[.val (.int u0), .val (.int u1), .val (.int u2), .val (.int u3), .val (.int u4), .val (.int x5), .val (.int x6), .val (.int x7), .val (.int x8), .val (.int x9), .val (.ref b10), .val (.int x11), .val (.int x12), .val (.int x13), .val (.int x14), .val (.int x15), .val (.int x16), .val (.int x17), .val (.int x18), .val (.int x19), .val (.int x20), .val (.int x21), .unset, .unset, .val (.int y24), .val (.int y25), .val (.int y26), .val (.int z27), .val (.int y28)] [(.int (z27 - y26)), (.int y28), (.ref b10)])) _
    rw [← ez1]
    refine XS.iload X0.here hx rfl (hb hby at_444) rfl ?_
    refine XS.iload X0.here hx rfl (hb hby at_446) rfl ?_
    refine XS.iloadN X0.here hx rfl (hb hby at_448) rfl ?_
    refine XS.iconst X0.here hx rfl (hb hby at_449) ?_
    show Steps p.tables e below (s₁.setTop (mkF m 450 #[.val (.int u0), .val (.int u1), .val (.int u2), .val (.int u3), .val (.int u4), .val (.int x5), .val (.int x6), .val (.int x7), .val (.int x8), .val (.int x9), .val (.ref b10), .val (.int x11), .val (.int x12), .val (.int x13), .val (.int x14), .val (.int x15), .val (.int x16), .val (.int x17), .val (.int x18), .val (.int x19), .val (.int x20), .val (.int x21), .unset, .unset, .val (.int y24), .val (.int y25), .val (.int y26), .val (.int z27), .val (.int y28)] [(.int (4 : Int32)), (.int u2), (.int x20), (.int x15), (.int z1), (.int y28), (.ref b10)])) _
    refine XS.iushr X0.here hx rfl (hb hby at_450) rfl ?_
    show Steps p.tables e below (s₁.setTop (mkF m 451 #[.val (.int u0), .val (.int u1), .val (.int u2), .val (.int u3), .val (.int u4), .val (.int x5), .val (.int x6), .val (.int x7), .val (.int x8), .val (.int x9), .val (.ref b10), .val (.int x11), .val (.int x12), .val (.int x13), .val (.int x14), .val (.int x15), .val (.int x16), .val (.int x17), .val (.int x18), .val (.int x19), .val (.int x20), .val (.int x21), .unset, .unset, .val (.int y24), .val (.int y25), .val (.int y26), .val (.int z27), .val (.int y28)] [(.int ((u2.toUInt32 >>> ((4 : Int32) &&& 31).toUInt32).toInt32)), (.int x20), (.int x15), (.int z1), (.int y28), (.ref b10)])) _
    rw [← ez2]
    refine XS.iload X0.here hx rfl (hb hby at_451) rfl ?_
    refine st3 _ ?_
    show Steps p.tables e below (T3.setTop (mkF m 456 #[.val (.int u0), .val (.int u1), .val (.int u2), .val (.int u3), .val (.int u4), .val (.int x5), .val (.int x6), .val (.int x7), .val (.int x8), .val (.int x9), .val (.ref b10), .val (.int x11), .val (.int x12), .val (.int x13), .val (.int x14), .val (.int x15), .val (.int x16), .val (.int x17), .val (.int x18), .val (.int x19), .val (.int x20), .val (.int x21), .unset, .unset, .val (.int y24), .val (.int y25), .val (.int y26), .val (.int z27), .val (.int y28)] [(.int w3)])) _
    refine XS.istore X3.here hx rfl (hb hby at_456) rfl (l' := #[.val (.int u0), .val (.int u1), .val (.int u2), .val (.int u3), .val (.int u4), .val (.int x5), .val (.int x6), .val (.int x7), .val (.int x8), .val (.int x9), .val (.ref b10), .val (.int x11), .val (.int x12), .val (.int x13), .val (.int x14), .val (.int x15), .val (.int x16), .val (.int x17), .val (.int x18), .val (.int x19), .val (.int x20), .val (.int x21), .val (.int w3), .unset, .val (.int y24), .val (.int y25), .val (.int y26), .val (.int z27), .val (.int y28)]) rfl ?_
    refine XS.iload X3.here hx rfl (hb hby at_458) rfl ?_
    refine XS.iload X3.here hx rfl (hb hby at_460) rfl ?_
    refine XS.ifNo X3.here hx rfl (hb hby at_462) rfl ((if0 _ _).trans (feq hc462).1) ?_
    refine XS.iconst X3.here hx rfl (hb hby at_465) ?_
    refine XS.goto X3.here hx rfl (pc0 := 466) (pc' := 470) rfl (hb hby at_466) (by decide) (by decide) ?_
    show Steps p.tables e below (T3.setTop (mkF m 470 #[.val (.int u0), .val (.int u1), .val (.int u2), .val (.int u3), .val (.int u4), .val (.int x5), .val (.int x6), .val (.int x7), .val (.int x8), .val (.int x9), .val (.ref b10), .val (.int x11), .val (.int x12), .val (.int x13), .val (.int x14), .val (.int x15), .val (.int x16), .val (.int x17), .val (.int x18), .val (.int x19), .val (.int x20), .val (.int x21), .val (.int w3), .unset, .val (.int y24), .val (.int y25), .val (.int y26), .val (.int z27), .val (.int y28)] [(.int (1 : Int32)), (.int x6)])) _
    refine XS.iadd X3.here hx rfl (hb hby at_470) rfl ?_
    show Steps p.tables e below (T3.setTop (mkF m 471 #[.val (.int u0), .val (.int u1), .val (.int u2), .val (.int u3), .val (.int u4), .val (.int x5), .val (.int x6), .val (.int x7), .val (.int x8), .val (.int x9), .val (.ref b10), .val (.int x11), .val (.int x12), .val (.int x13), .val (.int x14), .val (.int x15), .val (.int x16), .val (.int x17), .val (.int x18), .val (.int x19), .val (.int x20), .val (.int x21), .val (.int w3), .unset, .val (.int y24), .val (.int y25), .val (.int y26), .val (.int z27), .val (.int y28)] [(.int (x6 + (1 : Int32)))])) _
    rw [← ez5]
    refine XS.istore X3.here hx rfl (hb hby at_471) rfl (l' := #[.val (.int u0), .val (.int u1), .val (.int u2), .val (.int u3), .val (.int u4), .val (.int x5), .val (.int x6), .val (.int x7), .val (.int x8), .val (.int x9), .val (.ref b10), .val (.int x11), .val (.int x12), .val (.int x13), .val (.int x14), .val (.int x15), .val (.int x16), .val (.int x17), .val (.int x18), .val (.int x19), .val (.int x20), .val (.int x21), .val (.int w3), .val (.int z5), .val (.int y24), .val (.int y25), .val (.int y26), .val (.int z27), .val (.int y28)]) rfl ?_
    exact kt
theorem pd_1 : parseMethodDescriptor "([BI)V" = some ⟨[(.array .byte), .int], none⟩ := by decide +kernel
theorem ef_0 (m : MethodId) (u0 : Int32) (u1 : Int32) (u2 : Int32) (u3 : Int32) (u4 : Int32) : entryFrame m #[(.int u0), (.int u1), (.int u2), (.int u3), (.int u4)] maxLocals = mkF m 0 #[.val (.int u0), .val (.int u1), .val (.int u2), .val (.int u3), .val (.int u4), .unset, .unset, .unset, .unset, .unset, .unset, .unset, .unset, .unset, .unset, .unset, .unset, .unset, .unset, .unset, .unset, .unset, .unset, .unset, .unset, .unset, .unset, .unset, .unset] [] := by first | (simp [entryFrame, mkF, argsToLocals, Value.category, maxLocals]; done) | rfl
def Q0 (Z : State) (u0 : Int32) (u1 : Int32) (u2 : Int32) (u3 : Int32) (u4 : Int32) (h0 : Heap) (n0 : Nat) (v : Option Value) (h : Heap) (L : List Loc) : Prop := v = some (.int (1 : Int32)) ∧ Fr n0 L
set_option maxRecDepth 65536 in
set_option maxHeartbeats 40000000 in
theorem rm0 (l : Launch) (Z : State) (a0 : Array Value) (hw : ∀ d ∈ tables_1, d.before a0 Z = true) (ws : List Jvm.Cond) (u0 : Int32) (u1 : Int32) (u2 : Int32) (u3 : Int32) (u4 : Int32) (h0 : Heap) (n0 : Nat) (Z0 : n0 ≤ h0.size) :
    MetFree l x (head1 (Jvm.Cond.code x code maxLocals ret :: ws) room_1) (fun a U => a = #[(.int u0), (.int u1), (.int u2), (.int u3), (.int u4)] ∧ Z.Warmed39 U.vm ∧ U.heap = h0) (fun _ _ _ _ _ => True) (fun _ U o U' => ∃ v L, o = .returned v ∧ Q0 Z u0 u1 u2 u3 u4 h0 n0 v U'.heap L ∧ FrameEnd U o U' L room_1.cells room_1.slots) := by
  refine MetFree.of_bodySF (plainFor_of_name pn_com_example_fides_fides_DerRequireShapePinLaw) hisR ?_
  intro p e s m args below meth c s₁ Bd hml0 hP hK
  obtain ⟨rfl, hZ, hh⟩ := hP
  have hx := Bd.exec
  have hby := Bd.bytes
  have hml : c.maxLocals = 29 := hml0
  have hown : s.vm.findClass "com/example/fides/fides/DerRequireShapePinLaw" = some m.cls := findClass_of_methodNamed Bd.named
  have hnm := (name_of_methodNamed Bd.named Bd.method).1
  have X0 : Stand p l e room_1 s m #[(.int u0), (.int u1), (.int u2), (.int u3), (.int u4)] below meth c s₁ [] 0 0 := Stand.of_body Bd
  have e0 : s₁.heap = h0 := by rw [← hh, Bd.state]; rfl
  have N0 := Fr.nil n0
  have pre0 : ∀ t, Steps p.tables e below (s₁.setTop (mkF m 0 #[.val (.int u0), .val (.int u1), .val (.int u2), .val (.int u3), .val (.int u4), .unset, .unset, .unset, .unset, .unset, .unset, .unset, .unset, .unset, .unset, .unset, .unset, .unset, .unset, .unset, .unset, .unset, .unset, .unset, .unset, .unset, .unset, .unset, .unset] [])) t → Steps p.tables e below (s₁.setTop (entryFrame m #[(.int u0), (.int u1), (.int u2), (.int u3), (.int u4)] maxLocals)) t := fun t k => castTop (ef_0 m u0 u1 u2 u3 u4) k
  have lit0 : (0 : Int32).toInt = 0 := rfl
  have lit1 : (1 : Int32).toInt = 1 := rfl
  have lit3 : (3 : Int32).toInt = 3 := rfl
  have lit4 : (4 : Int32).toInt = 4 := rfl
  obtain ⟨T1, lc1, x5_1, x6_1, x7_1, x8_1, x9_1, X1, e1, N1, q5_1, q9_1, q6_1, q7_1, q8_1, st1⟩ := sg_law1 l Z a0 hw u0 u1 u2 u3 u4 h0 n0 Z0 X0 hx hby hml hZ hown e0 N0 
  obtain ⟨T2, h2, k2, X2, e2, E2, A2, st2⟩ := newP X1 hx hZ (hw _ (List.mem_of_getElem? (i := 0) rfl)) e1 (g := (mkF m 60 #[.val (.int u0), .val (.int u1), .val (.int u2), .val (.int u3), .val (.int u4), .val (.int x5_1), .val (.int x6_1), .val (.int x7_1), .val (.int x8_1), .val (.int x9_1), .unset, .unset, .unset, .unset, .unset, .unset, .unset, .unset, .unset, .unset, .unset, .unset, .unset, .unset, .unset, .unset, .unset, .unset, .unset] [(.int x9_1)])) rfl (hb hby at_60) rfl (own_nneg rfl (by omega)) (cap := 65600) (own_cap (by omega) (by omega)) (by decide) (by decide) (by decide)
  obtain ⟨b2, g2⟩ : ∃ z, z = h0.size := ⟨_, rfl⟩
  rw [← g2] at A2 st2
  have g_b2 : n0 ≤ b2 := Nat.le_trans Z0 (Nat.le_of_eq g2.symm)
  have sz_b2 : h0.size ≤ b2 := Nat.le_trans (Keep.refl h0 []).1 (Nat.le_of_eq g2.symm)
  obtain ⟨gz2, ge2⟩ : ∃ z : Int → Int, z = fun _ => 0 := ⟨_, rfl⟩
  have V2 : Byt Z h2 b2 x9_1.toInt gz2 := by rw [ge2]; exact Byt.new A2 (by omega)
  have Z2 : n0 ≤ h2.size := Nat.le_trans Z0 E2.1
  have KK2 := (Keep.refl h0 []).ext E2
  obtain ⟨T3, lc3, x11_3, x12_3, x13_3, x14_3, x15_3, x16_3, x17_3, x18_3, x19_3, x20_3, x21_3, X3, e3, N3, q11_3, q12_3, q13_3, q14_3, q15_3, q21_3, st3⟩ := sg_law2 l Z a0 hw u0 u1 u2 u3 u4 x5_1 x6_1 x7_1 x8_1 x9_1 b2 h2 n0 Z2 X2 hx hby hml hZ hown e2 N1 
  by_cases hc157 : x6_1 = (0 : Int32)
  · have nhc157 : x6_1.toInt = (0 : Int) := own_eq1 rfl rfl hc157
    obtain ⟨_, _, ⟨T4, L4, k4, n4⟩, -, X4, ⟨Lc4, hQ4, l4, y4, z4⟩, st4⟩ := Jvm.LawKit.callS X3 hx (y := (⟨"com/example/fides/fides/DerRequireShapePinLaw", "putFiller", "([BIIIIII)I"⟩ : MethodName)) hown (mvT hZ (hw _ (List.mem_of_getElem? (i := 1) rfl))) (mvT hZ (hw _ (List.mem_of_getElem? (i := 2) rfl))) (mvT hZ (hw _ (List.mem_of_getElem? (i := 3) rfl))) (mvT hZ (hw _ (List.mem_of_getElem? (i := 4) rfl))) (by decide) (backOf (W := 0) (rm1 l Z a0 hw [] b2 (0 : Int32) x9_1 x15_3 x20_3 u2 u4 x9_1.toInt gz2 h2 n0 Z2 g_b2 V2 (by omega) (by omega) (by omega) (by omega) (by omega)) hZ (hw _ (List.mem_of_getElem? (i := 4) rfl)) (hw _ (List.mem_of_getElem? (i := 3) rfl)) (by decide) (by decide)) (g := (mkF m 172 #[.val (.int u0), .val (.int u1), .val (.int u2), .val (.int u3), .val (.int u4), .val (.int x5_1), .val (.int x6_1), .val (.int x7_1), .val (.int x8_1), .val (.int x9_1), .val (.ref b2), .val (.int x11_3), .val (.int x12_3), .val (.int x13_3), .val (.int x14_3), .val (.int x15_3), .val (.int x16_3), .val (.int x17_3), .val (.int x18_3), .val (.int x19_3), .val (.int x20_3), .val (.int x21_3), .unset, .unset, .unset, .unset, .unset, .unset, .unset] [(.int u4), (.int u2), (.int x20_3), (.int x15_3), (.int x9_1), (.int (0 : Int32)), (.ref b2)])) rfl (by rw [hml]; rfl) (argsL := [(.ref b2), (.int (0 : Int32)), (.int x9_1), (.int x15_3), (.int x20_3), (.int u2), (.int u4)]) (rest := []) (lenOf pd_3 rfl) rfl (by show 2 * 0 + _ ≤ _; exact Nat.le_of_eq rfl) (hb hby at_172) (fun _ _ => ⟨rfl, e3, (by decide : 1 + 0 ≤ _), (by decide : 65600 + 0 ≤ _)⟩)
    dsimp only [Pt.U, Pt.locs, Pt.cells, Pt.slots] at X4 l4 y4 z4 st4 hQ4
    replace y4 : k4 = 1 := y4
    replace z4 : n4 = 65600 := z4
    rw [y4, z4] at X4
    obtain ⟨w4, gw4, ff4, cc4, rfl, N4q, K4, V4, nw4a, nw4b, nw4c, nw4d, nw4e, nw4f, nw4g⟩ := hQ4
    have N4 : Fr n0 L4 := l4 ▸ Fr.app N3 N4q
    have Z4 : n0 ≤ T4.heap.size := Nat.le_trans Z2 K4.1
    have KK4 := KK2.trans K4 (allS (P := fun x => x ∈ [] ∨ h0.size ≤ x) (Or.inr sz_b2) all0)
    obtain ⟨z5, ez5⟩ : ∃ y : Int32, y = ((0 : Int32) + x8_1) := ⟨_, rfl⟩
    have nz5 : z5.toInt = (0 : Int) + x8_1.toInt := by rw [ez5]; exact own_iadd (x := (0 : Int)) (y := x8_1.toInt) rfl rfl (by omega) (by omega)
    have hok := ok0 (n := x9_1.toInt) (mx := z5.toInt) (show TagOK _ 0 _ _ from nw4d) (by have q := nw4e; rwa [show (0 : Int32).toInt + 1 + ff4 = 1 + ff4 from by omega] at q) (by omega) (by omega) (by omega) (by omega) (by omega)
    obtain ⟨_, _, ⟨T6, L6, k6, n6⟩, -, X6, ⟨Lc6, hQ6, l6, y6, z6⟩, st6⟩ := Jvm.LawKit.callS X4 hx (y := (⟨"com/example/fides/fides/Der", "requireShape", "([BI)V"⟩ : MethodName)) hown (mvT hZ (hw _ (List.mem_of_getElem? (i := 16) rfl))) (mvT hZ (hw _ (List.mem_of_getElem? (i := 17) rfl))) (mvT hZ (hw _ (List.mem_of_getElem? (i := 18) rfl))) (mvT hZ (hw _ (List.mem_of_getElem? (i := 19) rfl))) (by decide) (backOf (W := 0) (rm5 l Z a0 hw [] b2 z5 x9_1.toInt gw4 _ T4.heap n0 Z4 V4 (by omega) (by omega) (by omega) hok) hZ (hw _ (List.mem_of_getElem? (i := 19) rfl)) (hw _ (List.mem_of_getElem? (i := 18) rfl)) (by decide) (by decide)) (g := (mkF m 489 #[.val (.int u0), .val (.int u1), .val (.int u2), .val (.int u3), .val (.int u4), .val (.int x5_1), .val (.int x6_1), .val (.int x7_1), .val (.int x8_1), .val (.int x9_1), .val (.ref b2), .val (.int x11_3), .val (.int x12_3), .val (.int x13_3), .val (.int x14_3), .val (.int x15_3), .val (.int x16_3), .val (.int x17_3), .val (.int x18_3), .val (.int x19_3), .val (.int x20_3), .val (.int x21_3), .val (.int w4), .val (.int (0 : Int32)), .unset, .unset, .unset, .unset, .unset] [(.int z5), (.ref b2)])) rfl (by rw [hml]; rfl) (argsL := [(.ref b2), (.int z5)]) (rest := []) (lenOf pd_1 rfl) rfl (by show 2 * 0 + _ ≤ _; exact Nat.le_of_eq rfl) (hb hby at_489) (fun _ _ => ⟨rfl, rfl, (by decide : 1 + 1 ≤ _), (by decide : 65600 + 12 ≤ _)⟩)
    dsimp only [Pt.U, Pt.locs, Pt.cells, Pt.slots] at X6 l6 y6 z6 st6 hQ6
    replace y6 : k6 = 2 := y6
    replace z6 : n6 = 65612 := z6
    rw [y6, z6] at X6
    obtain ⟨rfl, N6q, K6⟩ := hQ6
    have N6 : Fr n0 L6 := l6 ▸ Fr.app N4 N6q
    have Z6 : n0 ≤ T6.heap.size := Nat.le_trans Z4 K6.1
    have KK6 := KK4.trans K6 all0
    obtain ⟨fs, hr, hrun, hended, hW, hsame⟩ := X6.leave (v := some (.int (1 : Int32))) (fun h => by rw [Bd.returns] at h; cases h)
    refine ⟨_, _, pre0 _ ?_, hrun, hended, _, _, rfl, ?_, ⟨_, rfl⟩, hW, hsame.mono (by decide) (by decide)⟩
    · refine st1 _ ?_
      show Steps p.tables e below (T1.setTop (mkF m 58 #[.val (.int u0), .val (.int u1), .val (.int u2), .val (.int u3), .val (.int u4), .val (.int x5_1), .val (.int x6_1), .val (.int x7_1), .val (.int x8_1), .val (.int x9_1), .unset, .unset, .unset, .unset, .unset, .unset, .unset, .unset, .unset, .unset, .unset, .unset, .unset, .unset, .unset, .unset, .unset, .unset, .unset] [])) _
      refine XS.iload X1.here hx rfl (hb hby at_58) rfl ?_
      refine st2 _ ?_
      show Steps p.tables e below (T2.setTop (mkF m 62 #[.val (.int u0), .val (.int u1), .val (.int u2), .val (.int u3), .val (.int u4), .val (.int x5_1), .val (.int x6_1), .val (.int x7_1), .val (.int x8_1), .val (.int x9_1), .unset, .unset, .unset, .unset, .unset, .unset, .unset, .unset, .unset, .unset, .unset, .unset, .unset, .unset, .unset, .unset, .unset, .unset, .unset] [(.ref b2)])) _
      refine XS.astore X2.here hx rfl (hb hby at_62) rfl rfl (l' := #[.val (.int u0), .val (.int u1), .val (.int u2), .val (.int u3), .val (.int u4), .val (.int x5_1), .val (.int x6_1), .val (.int x7_1), .val (.int x8_1), .val (.int x9_1), .val (.ref b2), .unset, .unset, .unset, .unset, .unset, .unset, .unset, .unset, .unset, .unset, .unset, .unset, .unset, .unset, .unset, .unset, .unset, .unset]) rfl ?_
      refine st3 _ ?_
      show Steps p.tables e below (T3.setTop (mkF m 155 #[.val (.int u0), .val (.int u1), .val (.int u2), .val (.int u3), .val (.int u4), .val (.int x5_1), .val (.int x6_1), .val (.int x7_1), .val (.int x8_1), .val (.int x9_1), .val (.ref b2), .val (.int x11_3), .val (.int x12_3), .val (.int x13_3), .val (.int x14_3), .val (.int x15_3), .val (.int x16_3), .val (.int x17_3), .val (.int x18_3), .val (.int x19_3), .val (.int x20_3), .val (.int x21_3), .unset, .unset, .unset, .unset, .unset, .unset, .unset] [])) _
      refine XS.iload X3.here hx rfl (hb hby at_155) rfl ?_
      refine XS.ifNo X3.here hx rfl (hb hby at_157) rfl ((if0 _ _).trans (teq hc157).2) ?_
      refine XS.aload X3.here hx rfl (hb hby at_160) rfl rfl ?_
      refine XS.iconst X3.here hx rfl (hb hby at_162) ?_
      refine XS.iload X3.here hx rfl (hb hby at_163) rfl ?_
      refine XS.iload X3.here hx rfl (hb hby at_165) rfl ?_
      refine XS.iload X3.here hx rfl (hb hby at_167) rfl ?_
      refine XS.iloadN X3.here hx rfl (hb hby at_169) rfl ?_
      refine XS.iload X3.here hx rfl (hb hby at_170) rfl ?_
      refine st4 _ ?_
      show Steps p.tables e below (T4.setTop (mkF m 175 #[.val (.int u0), .val (.int u1), .val (.int u2), .val (.int u3), .val (.int u4), .val (.int x5_1), .val (.int x6_1), .val (.int x7_1), .val (.int x8_1), .val (.int x9_1), .val (.ref b2), .val (.int x11_3), .val (.int x12_3), .val (.int x13_3), .val (.int x14_3), .val (.int x15_3), .val (.int x16_3), .val (.int x17_3), .val (.int x18_3), .val (.int x19_3), .val (.int x20_3), .val (.int x21_3), .unset, .unset, .unset, .unset, .unset, .unset, .unset] [(.int w4)])) _
      refine XS.istore X4.here hx rfl (hb hby at_175) rfl (l' := #[.val (.int u0), .val (.int u1), .val (.int u2), .val (.int u3), .val (.int u4), .val (.int x5_1), .val (.int x6_1), .val (.int x7_1), .val (.int x8_1), .val (.int x9_1), .val (.ref b2), .val (.int x11_3), .val (.int x12_3), .val (.int x13_3), .val (.int x14_3), .val (.int x15_3), .val (.int x16_3), .val (.int x17_3), .val (.int x18_3), .val (.int x19_3), .val (.int x20_3), .val (.int x21_3), .val (.int w4), .unset, .unset, .unset, .unset, .unset, .unset]) rfl ?_
      refine XS.iconst X4.here hx rfl (hb hby at_177) ?_
      refine XS.istore X4.here hx rfl (hb hby at_178) rfl (l' := #[.val (.int u0), .val (.int u1), .val (.int u2), .val (.int u3), .val (.int u4), .val (.int x5_1), .val (.int x6_1), .val (.int x7_1), .val (.int x8_1), .val (.int x9_1), .val (.ref b2), .val (.int x11_3), .val (.int x12_3), .val (.int x13_3), .val (.int x14_3), .val (.int x15_3), .val (.int x16_3), .val (.int x17_3), .val (.int x18_3), .val (.int x19_3), .val (.int x20_3), .val (.int x21_3), .val (.int w4), .val (.int (0 : Int32)), .unset, .unset, .unset, .unset, .unset]) rfl ?_
      refine XS.goto X4.here hx rfl (pc0 := 180) (pc' := 473) rfl (hb hby at_180) (by decide) (by decide) ?_
      refine XS.iload X4.here hx rfl (hb hby at_473) rfl ?_
      refine XS.iload X4.here hx rfl (hb hby at_475) rfl ?_
      refine XS.icmpYes X4.here hx rfl (pc0 := 477) (pc' := 482) rfl (hb hby at_477) rfl (teq (own_eq1' (x := w4.toInt) (y := x9_1.toInt) rfl rfl (by omega))).1 (by decide) (by decide) ?_
      refine XS.aload X4.here hx rfl (hb hby at_482) rfl rfl ?_
      refine XS.iload X4.here hx rfl (hb hby at_484) rfl ?_
      refine XS.iload X4.here hx rfl (hb hby at_486) rfl ?_
      show Steps p.tables e below (T4.setTop (mkF m 488 #[.val (.int u0), .val (.int u1), .val (.int u2), .val (.int u3), .val (.int u4), .val (.int x5_1), .val (.int x6_1), .val (.int x7_1), .val (.int x8_1), .val (.int x9_1), .val (.ref b2), .val (.int x11_3), .val (.int x12_3), .val (.int x13_3), .val (.int x14_3), .val (.int x15_3), .val (.int x16_3), .val (.int x17_3), .val (.int x18_3), .val (.int x19_3), .val (.int x20_3), .val (.int x21_3), .val (.int w4), .val (.int (0 : Int32)), .unset, .unset, .unset, .unset, .unset] [(.int x8_1), (.int (0 : Int32)), (.ref b2)])) _
      refine XS.iadd X4.here hx rfl (hb hby at_488) rfl ?_
      show Steps p.tables e below (T4.setTop (mkF m 489 #[.val (.int u0), .val (.int u1), .val (.int u2), .val (.int u3), .val (.int u4), .val (.int x5_1), .val (.int x6_1), .val (.int x7_1), .val (.int x8_1), .val (.int x9_1), .val (.ref b2), .val (.int x11_3), .val (.int x12_3), .val (.int x13_3), .val (.int x14_3), .val (.int x15_3), .val (.int x16_3), .val (.int x17_3), .val (.int x18_3), .val (.int x19_3), .val (.int x20_3), .val (.int x21_3), .val (.int w4), .val (.int (0 : Int32)), .unset, .unset, .unset, .unset, .unset] [(.int ((0 : Int32) + x8_1)), (.ref b2)])) _
      rw [← ez5]
      refine st6 _ ?_
      show Steps p.tables e below (T6.setTop (mkF m 492 #[.val (.int u0), .val (.int u1), .val (.int u2), .val (.int u3), .val (.int u4), .val (.int x5_1), .val (.int x6_1), .val (.int x7_1), .val (.int x8_1), .val (.int x9_1), .val (.ref b2), .val (.int x11_3), .val (.int x12_3), .val (.int x13_3), .val (.int x14_3), .val (.int x15_3), .val (.int x16_3), .val (.int x17_3), .val (.int x18_3), .val (.int x19_3), .val (.int x20_3), .val (.int x21_3), .val (.int w4), .val (.int (0 : Int32)), .unset, .unset, .unset, .unset, .unset] [])) _
      refine XS.iconst X6.here hx rfl (hb hby at_492) ?_
      show Steps p.tables e below (T6.setTop (mkF m 493 #[.val (.int u0), .val (.int u1), .val (.int u2), .val (.int u3), .val (.int u4), .val (.int x5_1), .val (.int x6_1), .val (.int x7_1), .val (.int x8_1), .val (.int x9_1), .val (.ref b2), .val (.int x11_3), .val (.int x12_3), .val (.int x13_3), .val (.int x14_3), .val (.int x15_3), .val (.int x16_3), .val (.int x17_3), .val (.int x18_3), .val (.int x19_3), .val (.int x20_3), .val (.int x21_3), .val (.int w4), .val (.int (0 : Int32)), .unset, .unset, .unset, .unset, .unset] [(.int (1 : Int32))])) _
      exact retN X6 hx (t := .boolean) Bd.returns (by simp) (hb hby at_493) hr
    · show Q0 Z u0 u1 u2 u3 u4 h0 n0 _ T6.heap _
      exact ⟨rfl, N6⟩
  · have nhc157 : ¬ x6_1.toInt = (0 : Int) := own_eq0 rfl rfl hc157
    obtain ⟨z7, ez7⟩ : ∃ y : Int32, y = ((1 : Int32) + x14_3) := ⟨_, rfl⟩
    have nz7 : z7.toInt = (1 : Int) + x14_3.toInt := by rw [ez7]; exact own_iadd (x := (1 : Int)) (y := x14_3.toInt) rfl rfl (by omega) (by omega)
    obtain ⟨_, _, ⟨T8, L8, k8, n8⟩, -, X8, ⟨Lc8, hQ8, l8, y8, z8⟩, st8⟩ := Jvm.LawKit.callS X3 hx (y := (⟨"com/example/fides/fides/DerRequireShapePinLaw", "lenSize", "(I)I"⟩ : MethodName)) hown (mvT hZ (hw _ (List.mem_of_getElem? (i := 25) rfl))) (mvT hZ (hw _ (List.mem_of_getElem? (i := 26) rfl))) (mvT hZ (hw _ (List.mem_of_getElem? (i := 3) rfl))) (mvT hZ (hw _ (List.mem_of_getElem? (i := 27) rfl))) (by decide) (backOf (W := 1) (rm7 l Z a0 hw [] x21_3 h2 n0 Z2 ) hZ (hw _ (List.mem_of_getElem? (i := 27) rfl)) (hw _ (List.mem_of_getElem? (i := 3) rfl)) (by decide) (by decide)) (g := (mkF m 189 #[.val (.int u0), .val (.int u1), .val (.int u2), .val (.int u3), .val (.int u4), .val (.int x5_1), .val (.int x6_1), .val (.int x7_1), .val (.int x8_1), .val (.int x9_1), .val (.ref b2), .val (.int x11_3), .val (.int x12_3), .val (.int x13_3), .val (.int x14_3), .val (.int x15_3), .val (.int x16_3), .val (.int x17_3), .val (.int x18_3), .val (.int x19_3), .val (.int x20_3), .val (.int x21_3), .unset, .unset, .unset, .unset, .unset, .unset, .unset] [(.int x21_3), (.int z7)])) rfl (by rw [hml]; rfl) (argsL := [(.int x21_3)]) (rest := [(.int z7)]) (lenOf pd_0 rfl) rfl (by show 2 * 0 + _ ≤ _; exact Nat.le_of_eq rfl) (hb hby at_189) (fun _ _ => ⟨rfl, e3, (by decide : 1 + 0 ≤ _), (by decide : 65600 + 0 ≤ _)⟩)
    dsimp only [Pt.U, Pt.locs, Pt.cells, Pt.slots] at X8 l8 y8 z8 st8 hQ8
    replace y8 : k8 = 1 := y8
    replace z8 : n8 = 65600 := z8
    rw [y8, z8] at X8
    obtain ⟨w8, rfl, N8q, nw8a, e8⟩ := hQ8
    have N8 : Fr n0 L8 := l8 ▸ Fr.app N3 N8q
    have lb9 := ls_u2 (x := x21_3.toInt) (by omega)
    obtain ⟨z10, ez10⟩ : ∃ y : Int32, y = (z7 + w8) := ⟨_, rfl⟩
    have nz10 : z10.toInt = z7.toInt + w8.toInt := by rw [ez10]; exact own_iadd (x := z7.toInt) (y := w8.toInt) rfl rfl (by omega) (by omega)
    obtain ⟨z11, ez11⟩ : ∃ y : Int32, y = (z10 + x21_3) := ⟨_, rfl⟩
    have nz11 : z11.toInt = z10.toInt + x21_3.toInt := by rw [ez11]; exact own_iadd (x := z10.toInt) (y := x21_3.toInt) rfl rfl (by omega) (by omega)
    by_cases hc201 : x6_1 < (3 : Int32)
    · have nhc201 : x6_1.toInt < (3 : Int) := own_lt1 rfl rfl hc201
      by_cases hc227 : x6_1 < (2 : Int32)
      · have nhc227 : x6_1.toInt < (2 : Int) := own_lt1 rfl rfl hc227
        obtain ⟨T12, lc12, z27_12, X12, e12, N12, q27_12, st12⟩ := sg_wa l Z a0 hw u0 u1 u2 u3 u4 x5_1 x6_1 x7_1 x8_1 x9_1 b2 x11_3 x12_3 x13_3 x14_3 x15_3 x16_3 x17_3 x18_3 x19_3 x20_3 x21_3 z11 z11 z11 h2 n0 Z2 X8 hx hby hml hZ hown e8 N8 q5_1 (by omega)
        have lbw := ls_b z27_12.toInt
        obtain ⟨T13, h13, lc13, z28_13, g'_13, X13, e13, K13, N13, V_13, qp_13, qo_13, qt_13, ql_13, st13⟩ := sg_h1 l Z a0 hw u0 u1 u2 u3 u4 x5_1 x6_1 x7_1 x8_1 x9_1 b2 x11_3 x12_3 x13_3 x14_3 x15_3 x16_3 x17_3 x18_3 x19_3 x20_3 x21_3 z11 z11 z11 z27_12 gz2 h2 n0 Z2 X12 hx hby hml hZ hown e12 N12 g_b2 V2 (by omega)
        have Z13 : n0 ≤ h13.size := Nat.le_trans Z2 K13.1
        have KK13 := KK2.trans K13 (allS (P := fun x => x ∈ [] ∨ h0.size ≤ x) (Or.inr sz_b2) all0)
        obtain ⟨T14, h14, lc14, z28_14, g'_14, X14, e14, K14, N14, V_14, qp_14, qo_14, qt_14, ql_14, st14⟩ := sg_hA l Z a0 hw u0 u1 u2 u3 u4 x5_1 x6_1 x7_1 x8_1 x9_1 b2 x11_3 x12_3 x13_3 x14_3 x15_3 x16_3 x17_3 x18_3 x19_3 x20_3 x21_3 z11 z11 z11 z27_12 z28_13 g'_13 h13 n0 Z13 X13 hx hby hml hZ hown e13 N13 g_b2 V_13 (by omega)
        have Z14 : n0 ≤ h14.size := Nat.le_trans Z13 K14.1
        have KK14 := KK13.trans K14 (allS (P := fun x => x ∈ [] ∨ h0.size ≤ x) (Or.inr sz_b2) all0)
        obtain ⟨T15, h15, lc15, z28_15, g'_15, X15, e15, K15, N15, V_15, qp_15, qo_15, st15⟩ := sg_cA l Z a0 hw u0 u1 u2 u3 u4 x5_1 x6_1 x7_1 x8_1 x9_1 b2 x11_3 x12_3 x13_3 x14_3 x15_3 x16_3 x17_3 x18_3 x19_3 x20_3 x21_3 z11 z11 z11 z27_12 z28_14 g'_14 h14 n0 Z14 X14 hx hby hml hZ hown e14 N14 g_b2 V_14 (by omega)
        have Z15 : n0 ≤ h15.size := Nat.le_trans Z14 K15.1
        have KK15 := KK14.trans K15 (allS (P := fun x => x ∈ [] ∨ h0.size ≤ x) (Or.inr sz_b2) all0)
        obtain ⟨T16, h16, lc16, z22_16, z23_16, g'_16, ff_16, cc_16, X16, e16, K16, N16, V_16, q22_16, q23_16, qo_16, qf_16, qt_16, ql_16, qc_16, st16⟩ := sg_fl l Z a0 hw u0 u1 u2 u3 u4 x5_1 x6_1 x7_1 x8_1 x9_1 b2 x11_3 x12_3 x13_3 x14_3 x15_3 x16_3 x17_3 x18_3 x19_3 x20_3 x21_3 z11 z11 z11 z27_12 z28_15 g'_15 h15 n0 Z15 X15 hx hby hml hZ hown e15 N15 g_b2 V_15 (by omega)
        have Z16 : n0 ≤ h16.size := Nat.le_trans Z15 K16.1
        have KK16 := KK15.trans K16 (allS (P := fun x => x ∈ [] ∨ h0.size ≤ x) (Or.inr sz_b2) all0)
        obtain ⟨z17, ez17⟩ : ∃ y : Int32, y = (z23_16 + x8_1) := ⟨_, rfl⟩
        have nz17 : z17.toInt = z23_16.toInt + x8_1.toInt := by rw [ez17]; exact own_iadd (x := z23_16.toInt) (y := x8_1.toInt) rfl rfl (by omega) (by omega)
        have tt13 := TagOK.congr (g' := g'_16) qt_13 (by omega) (by omega) (fun i h1 h2 => by rw [qo_16 i (by omega), qo_15 i (by omega), qo_14 i (by omega)])
        have tl13 := LenOK.congr (g' := g'_16) ql_13 (fun i h1 h2 => by rw [qo_16 i (by omega), qo_15 i (by omega), qo_14 i (by omega)])
        have tt14 := TagOK.congr (g' := g'_16) qt_14 (by omega) (by omega) (fun i h1 h2 => by rw [qo_16 i (by omega), qo_15 i (by omega)])
        have tl14 := LenOK.congr (g' := g'_16) ql_14 (fun i h1 h2 => by rw [qo_16 i (by omega), qo_15 i (by omega)])
        obtain ⟨es, hok⟩ := plain1 (n := x9_1.toInt) (mx := z17.toInt) tt13 (by have q := tl13; rwa [show (0 : Int) + 1 + x11_3.toInt = 1 + x11_3.toInt from by omega] at q) (by omega) ⟨by omega, by omega, by omega⟩ (by omega) tt14 tl14 (by omega) ⟨by omega, by omega, by omega⟩ qt_16 ql_16 (by omega) ⟨by omega, by omega, by omega⟩ ⟨by omega, by omega⟩ q21_3.2.2 (by omega)
        obtain ⟨_, _, ⟨T18, L18, k18, n18⟩, -, X18, ⟨Lc18, hQ18, l18, y18, z18⟩, st18⟩ := Jvm.LawKit.callS X16 hx (y := (⟨"com/example/fides/fides/Der", "requireShape", "([BI)V"⟩ : MethodName)) hown (mvT hZ (hw _ (List.mem_of_getElem? (i := 16) rfl))) (mvT hZ (hw _ (List.mem_of_getElem? (i := 17) rfl))) (mvT hZ (hw _ (List.mem_of_getElem? (i := 18) rfl))) (mvT hZ (hw _ (List.mem_of_getElem? (i := 19) rfl))) (by decide) (backOf (W := 0) (rm5 l Z a0 hw [] b2 z17 x9_1.toInt g'_16 es h16 n0 Z16 V_16 (by omega) (by omega) (by omega) hok) hZ (hw _ (List.mem_of_getElem? (i := 19) rfl)) (hw _ (List.mem_of_getElem? (i := 18) rfl)) (by decide) (by decide)) (g := (mkF m 489 #[.val (.int u0), .val (.int u1), .val (.int u2), .val (.int u3), .val (.int u4), .val (.int x5_1), .val (.int x6_1), .val (.int x7_1), .val (.int x8_1), .val (.int x9_1), .val (.ref b2), .val (.int x11_3), .val (.int x12_3), .val (.int x13_3), .val (.int x14_3), .val (.int x15_3), .val (.int x16_3), .val (.int x17_3), .val (.int x18_3), .val (.int x19_3), .val (.int x20_3), .val (.int x21_3), .val (.int z22_16), .val (.int z23_16), .val (.int z11), .val (.int z11), .val (.int z11), .val (.int z27_12), .val (.int z28_15)] [(.int z17), (.ref b2)])) rfl (by rw [hml]; rfl) (argsL := [(.ref b2), (.int z17)]) (rest := []) (lenOf pd_1 rfl) rfl (by show 2 * 0 + _ ≤ _; exact Nat.le_of_eq rfl) (hb hby at_489) (fun _ _ => ⟨rfl, e16, (by decide : 1 + 1 ≤ _), (by decide : 65600 + 12 ≤ _)⟩)
        dsimp only [Pt.U, Pt.locs, Pt.cells, Pt.slots] at X18 l18 y18 z18 st18 hQ18
        replace y18 : k18 = 2 := y18
        replace z18 : n18 = 65612 := z18
        rw [y18, z18] at X18
        obtain ⟨rfl, N18q, K18⟩ := hQ18
        have N18 : Fr n0 L18 := l18 ▸ Fr.app N16 N18q
        have Z18 : n0 ≤ T18.heap.size := Nat.le_trans Z16 K18.1
        have KK18 := KK16.trans K18 all0
        obtain ⟨fs, hr, hrun, hended, hW, hsame⟩ := X18.leave (v := some (.int (1 : Int32))) (fun h => by rw [Bd.returns] at h; cases h)
        refine ⟨_, _, pre0 _ ?_, hrun, hended, _, _, rfl, ?_, ⟨_, rfl⟩, hW, hsame.mono (by decide) (by decide)⟩
        · refine st1 _ ?_
          show Steps p.tables e below (T1.setTop (mkF m 58 #[.val (.int u0), .val (.int u1), .val (.int u2), .val (.int u3), .val (.int u4), .val (.int x5_1), .val (.int x6_1), .val (.int x7_1), .val (.int x8_1), .val (.int x9_1), .unset, .unset, .unset, .unset, .unset, .unset, .unset, .unset, .unset, .unset, .unset, .unset, .unset, .unset, .unset, .unset, .unset, .unset, .unset] [])) _
          refine XS.iload X1.here hx rfl (hb hby at_58) rfl ?_
          refine st2 _ ?_
          show Steps p.tables e below (T2.setTop (mkF m 62 #[.val (.int u0), .val (.int u1), .val (.int u2), .val (.int u3), .val (.int u4), .val (.int x5_1), .val (.int x6_1), .val (.int x7_1), .val (.int x8_1), .val (.int x9_1), .unset, .unset, .unset, .unset, .unset, .unset, .unset, .unset, .unset, .unset, .unset, .unset, .unset, .unset, .unset, .unset, .unset, .unset, .unset] [(.ref b2)])) _
          refine XS.astore X2.here hx rfl (hb hby at_62) rfl rfl (l' := #[.val (.int u0), .val (.int u1), .val (.int u2), .val (.int u3), .val (.int u4), .val (.int x5_1), .val (.int x6_1), .val (.int x7_1), .val (.int x8_1), .val (.int x9_1), .val (.ref b2), .unset, .unset, .unset, .unset, .unset, .unset, .unset, .unset, .unset, .unset, .unset, .unset, .unset, .unset, .unset, .unset, .unset, .unset]) rfl ?_
          refine st3 _ ?_
          show Steps p.tables e below (T3.setTop (mkF m 155 #[.val (.int u0), .val (.int u1), .val (.int u2), .val (.int u3), .val (.int u4), .val (.int x5_1), .val (.int x6_1), .val (.int x7_1), .val (.int x8_1), .val (.int x9_1), .val (.ref b2), .val (.int x11_3), .val (.int x12_3), .val (.int x13_3), .val (.int x14_3), .val (.int x15_3), .val (.int x16_3), .val (.int x17_3), .val (.int x18_3), .val (.int x19_3), .val (.int x20_3), .val (.int x21_3), .unset, .unset, .unset, .unset, .unset, .unset, .unset] [])) _
          refine XS.iload X3.here hx rfl (hb hby at_155) rfl ?_
          refine XS.ifYes X3.here hx rfl (pc0 := 157) (pc' := 183) rfl (hb hby at_157) rfl ((if0 _ _).trans (feq hc157).2) (by decide) (by decide) ?_
          refine XS.iconst X3.here hx rfl (hb hby at_183) ?_
          refine XS.iload X3.here hx rfl (hb hby at_184) rfl ?_
          show Steps p.tables e below (T3.setTop (mkF m 186 #[.val (.int u0), .val (.int u1), .val (.int u2), .val (.int u3), .val (.int u4), .val (.int x5_1), .val (.int x6_1), .val (.int x7_1), .val (.int x8_1), .val (.int x9_1), .val (.ref b2), .val (.int x11_3), .val (.int x12_3), .val (.int x13_3), .val (.int x14_3), .val (.int x15_3), .val (.int x16_3), .val (.int x17_3), .val (.int x18_3), .val (.int x19_3), .val (.int x20_3), .val (.int x21_3), .unset, .unset, .unset, .unset, .unset, .unset, .unset] [(.int x14_3), (.int (1 : Int32))])) _
          refine XS.iadd X3.here hx rfl (hb hby at_186) rfl ?_
          show Steps p.tables e below (T3.setTop (mkF m 187 #[.val (.int u0), .val (.int u1), .val (.int u2), .val (.int u3), .val (.int u4), .val (.int x5_1), .val (.int x6_1), .val (.int x7_1), .val (.int x8_1), .val (.int x9_1), .val (.ref b2), .val (.int x11_3), .val (.int x12_3), .val (.int x13_3), .val (.int x14_3), .val (.int x15_3), .val (.int x16_3), .val (.int x17_3), .val (.int x18_3), .val (.int x19_3), .val (.int x20_3), .val (.int x21_3), .unset, .unset, .unset, .unset, .unset, .unset, .unset] [(.int ((1 : Int32) + x14_3))])) _
          rw [← ez7]
          refine XS.iload X3.here hx rfl (hb hby at_187) rfl ?_
          refine st8 _ ?_
          show Steps p.tables e below (T8.setTop (mkF m 192 #[.val (.int u0), .val (.int u1), .val (.int u2), .val (.int u3), .val (.int u4), .val (.int x5_1), .val (.int x6_1), .val (.int x7_1), .val (.int x8_1), .val (.int x9_1), .val (.ref b2), .val (.int x11_3), .val (.int x12_3), .val (.int x13_3), .val (.int x14_3), .val (.int x15_3), .val (.int x16_3), .val (.int x17_3), .val (.int x18_3), .val (.int x19_3), .val (.int x20_3), .val (.int x21_3), .unset, .unset, .unset, .unset, .unset, .unset, .unset] [(.int w8), (.int z7)])) _
          refine XS.iadd X8.here hx rfl (hb hby at_192) rfl ?_
          show Steps p.tables e below (T8.setTop (mkF m 193 #[.val (.int u0), .val (.int u1), .val (.int u2), .val (.int u3), .val (.int u4), .val (.int x5_1), .val (.int x6_1), .val (.int x7_1), .val (.int x8_1), .val (.int x9_1), .val (.ref b2), .val (.int x11_3), .val (.int x12_3), .val (.int x13_3), .val (.int x14_3), .val (.int x15_3), .val (.int x16_3), .val (.int x17_3), .val (.int x18_3), .val (.int x19_3), .val (.int x20_3), .val (.int x21_3), .unset, .unset, .unset, .unset, .unset, .unset, .unset] [(.int (z7 + w8))])) _
          rw [← ez10]
          refine XS.iload X8.here hx rfl (hb hby at_193) rfl ?_
          show Steps p.tables e below (T8.setTop (mkF m 195 #[.val (.int u0), .val (.int u1), .val (.int u2), .val (.int u3), .val (.int u4), .val (.int x5_1), .val (.int x6_1), .val (.int x7_1), .val (.int x8_1), .val (.int x9_1), .val (.ref b2), .val (.int x11_3), .val (.int x12_3), .val (.int x13_3), .val (.int x14_3), .val (.int x15_3), .val (.int x16_3), .val (.int x17_3), .val (.int x18_3), .val (.int x19_3), .val (.int x20_3), .val (.int x21_3), .unset, .unset, .unset, .unset, .unset, .unset, .unset] [(.int x21_3), (.int z10)])) _
          refine XS.iadd X8.here hx rfl (hb hby at_195) rfl ?_
          show Steps p.tables e below (T8.setTop (mkF m 196 #[.val (.int u0), .val (.int u1), .val (.int u2), .val (.int u3), .val (.int u4), .val (.int x5_1), .val (.int x6_1), .val (.int x7_1), .val (.int x8_1), .val (.int x9_1), .val (.ref b2), .val (.int x11_3), .val (.int x12_3), .val (.int x13_3), .val (.int x14_3), .val (.int x15_3), .val (.int x16_3), .val (.int x17_3), .val (.int x18_3), .val (.int x19_3), .val (.int x20_3), .val (.int x21_3), .unset, .unset, .unset, .unset, .unset, .unset, .unset] [(.int (z10 + x21_3))])) _
          rw [← ez11]
          refine XS.istore X8.here hx rfl (hb hby at_196) rfl (l' := #[.val (.int u0), .val (.int u1), .val (.int u2), .val (.int u3), .val (.int u4), .val (.int x5_1), .val (.int x6_1), .val (.int x7_1), .val (.int x8_1), .val (.int x9_1), .val (.ref b2), .val (.int x11_3), .val (.int x12_3), .val (.int x13_3), .val (.int x14_3), .val (.int x15_3), .val (.int x16_3), .val (.int x17_3), .val (.int x18_3), .val (.int x19_3), .val (.int x20_3), .val (.int x21_3), .unset, .unset, .val (.int z11), .unset, .unset, .unset, .unset]) rfl ?_
          refine XS.iload X8.here hx rfl (hb hby at_198) rfl ?_
          refine XS.iconst X8.here hx rfl (hb hby at_200) ?_
          refine XS.icmpYes X8.here hx rfl (pc0 := 201) (pc' := 220) rfl (hb hby at_201) rfl (tlt hc201).1 (by decide) (by decide) ?_
          refine XS.iload X8.here hx rfl (hb hby at_220) rfl ?_
          refine XS.istore X8.here hx rfl (hb hby at_222) rfl (l' := #[.val (.int u0), .val (.int u1), .val (.int u2), .val (.int u3), .val (.int u4), .val (.int x5_1), .val (.int x6_1), .val (.int x7_1), .val (.int x8_1), .val (.int x9_1), .val (.ref b2), .val (.int x11_3), .val (.int x12_3), .val (.int x13_3), .val (.int x14_3), .val (.int x15_3), .val (.int x16_3), .val (.int x17_3), .val (.int x18_3), .val (.int x19_3), .val (.int x20_3), .val (.int x21_3), .unset, .unset, .val (.int z11), .val (.int z11), .unset, .unset, .unset]) rfl ?_
          refine XS.iload X8.here hx rfl (hb hby at_224) rfl ?_
          refine XS.iconst X8.here hx rfl (hb hby at_226) ?_
          refine XS.icmpYes X8.here hx rfl (pc0 := 227) (pc' := 246) rfl (hb hby at_227) rfl (tlt hc227).1 (by decide) (by decide) ?_
          refine XS.iload X8.here hx rfl (hb hby at_246) rfl ?_
          refine XS.istore X8.here hx rfl (hb hby at_248) rfl (l' := #[.val (.int u0), .val (.int u1), .val (.int u2), .val (.int u3), .val (.int u4), .val (.int x5_1), .val (.int x6_1), .val (.int x7_1), .val (.int x8_1), .val (.int x9_1), .val (.ref b2), .val (.int x11_3), .val (.int x12_3), .val (.int x13_3), .val (.int x14_3), .val (.int x15_3), .val (.int x16_3), .val (.int x17_3), .val (.int x18_3), .val (.int x19_3), .val (.int x20_3), .val (.int x21_3), .unset, .unset, .val (.int z11), .val (.int z11), .val (.int z11), .unset, .unset]) rfl ?_
          refine st12 _ ?_
          refine st13 _ ?_
          show Steps p.tables e below (T13.setTop (mkF m 295 #[.val (.int u0), .val (.int u1), .val (.int u2), .val (.int u3), .val (.int u4), .val (.int x5_1), .val (.int x6_1), .val (.int x7_1), .val (.int x8_1), .val (.int x9_1), .val (.ref b2), .val (.int x11_3), .val (.int x12_3), .val (.int x13_3), .val (.int x14_3), .val (.int x15_3), .val (.int x16_3), .val (.int x17_3), .val (.int x18_3), .val (.int x19_3), .val (.int x20_3), .val (.int x21_3), .unset, .unset, .val (.int z11), .val (.int z11), .val (.int z11), .val (.int z27_12), .val (.int z28_13)] [])) _
          refine XS.iload X13.here hx rfl (hb hby at_295) rfl ?_
          refine XS.iconst X13.here hx rfl (hb hby at_297) ?_
          refine XS.icmpYes X13.here hx rfl (pc0 := 298) (pc' := 329) rfl (hb hby at_298) rfl (tlt hc227).1 (by decide) (by decide) ?_
          refine XS.iload X13.here hx rfl (hb hby at_329) rfl ?_
          refine XS.iconst X13.here hx rfl (hb hby at_331) ?_
          refine XS.icmpYes X13.here hx rfl (pc0 := 332) (pc' := 363) rfl (hb hby at_332) rfl (tlt hc201).1 (by decide) (by decide) ?_
          refine st14 _ ?_
          refine st15 _ ?_
          refine st16 _ ?_
          show Steps p.tables e below (T16.setTop (mkF m 473 #[.val (.int u0), .val (.int u1), .val (.int u2), .val (.int u3), .val (.int u4), .val (.int x5_1), .val (.int x6_1), .val (.int x7_1), .val (.int x8_1), .val (.int x9_1), .val (.ref b2), .val (.int x11_3), .val (.int x12_3), .val (.int x13_3), .val (.int x14_3), .val (.int x15_3), .val (.int x16_3), .val (.int x17_3), .val (.int x18_3), .val (.int x19_3), .val (.int x20_3), .val (.int x21_3), .val (.int z22_16), .val (.int z23_16), .val (.int z11), .val (.int z11), .val (.int z11), .val (.int z27_12), .val (.int z28_15)] [])) _
          refine XS.iload X16.here hx rfl (hb hby at_473) rfl ?_
          refine XS.iload X16.here hx rfl (hb hby at_475) rfl ?_
          refine XS.icmpYes X16.here hx rfl (pc0 := 477) (pc' := 482) rfl (hb hby at_477) rfl (teq (own_eq1' (x := z22_16.toInt) (y := x9_1.toInt) rfl rfl (by omega))).1 (by decide) (by decide) ?_
          refine XS.aload X16.here hx rfl (hb hby at_482) rfl rfl ?_
          refine XS.iload X16.here hx rfl (hb hby at_484) rfl ?_
          refine XS.iload X16.here hx rfl (hb hby at_486) rfl ?_
          show Steps p.tables e below (T16.setTop (mkF m 488 #[.val (.int u0), .val (.int u1), .val (.int u2), .val (.int u3), .val (.int u4), .val (.int x5_1), .val (.int x6_1), .val (.int x7_1), .val (.int x8_1), .val (.int x9_1), .val (.ref b2), .val (.int x11_3), .val (.int x12_3), .val (.int x13_3), .val (.int x14_3), .val (.int x15_3), .val (.int x16_3), .val (.int x17_3), .val (.int x18_3), .val (.int x19_3), .val (.int x20_3), .val (.int x21_3), .val (.int z22_16), .val (.int z23_16), .val (.int z11), .val (.int z11), .val (.int z11), .val (.int z27_12), .val (.int z28_15)] [(.int x8_1), (.int z23_16), (.ref b2)])) _
          refine XS.iadd X16.here hx rfl (hb hby at_488) rfl ?_
          show Steps p.tables e below (T16.setTop (mkF m 489 #[.val (.int u0), .val (.int u1), .val (.int u2), .val (.int u3), .val (.int u4), .val (.int x5_1), .val (.int x6_1), .val (.int x7_1), .val (.int x8_1), .val (.int x9_1), .val (.ref b2), .val (.int x11_3), .val (.int x12_3), .val (.int x13_3), .val (.int x14_3), .val (.int x15_3), .val (.int x16_3), .val (.int x17_3), .val (.int x18_3), .val (.int x19_3), .val (.int x20_3), .val (.int x21_3), .val (.int z22_16), .val (.int z23_16), .val (.int z11), .val (.int z11), .val (.int z11), .val (.int z27_12), .val (.int z28_15)] [(.int (z23_16 + x8_1)), (.ref b2)])) _
          rw [← ez17]
          refine st18 _ ?_
          show Steps p.tables e below (T18.setTop (mkF m 492 #[.val (.int u0), .val (.int u1), .val (.int u2), .val (.int u3), .val (.int u4), .val (.int x5_1), .val (.int x6_1), .val (.int x7_1), .val (.int x8_1), .val (.int x9_1), .val (.ref b2), .val (.int x11_3), .val (.int x12_3), .val (.int x13_3), .val (.int x14_3), .val (.int x15_3), .val (.int x16_3), .val (.int x17_3), .val (.int x18_3), .val (.int x19_3), .val (.int x20_3), .val (.int x21_3), .val (.int z22_16), .val (.int z23_16), .val (.int z11), .val (.int z11), .val (.int z11), .val (.int z27_12), .val (.int z28_15)] [])) _
          refine XS.iconst X18.here hx rfl (hb hby at_492) ?_
          show Steps p.tables e below (T18.setTop (mkF m 493 #[.val (.int u0), .val (.int u1), .val (.int u2), .val (.int u3), .val (.int u4), .val (.int x5_1), .val (.int x6_1), .val (.int x7_1), .val (.int x8_1), .val (.int x9_1), .val (.ref b2), .val (.int x11_3), .val (.int x12_3), .val (.int x13_3), .val (.int x14_3), .val (.int x15_3), .val (.int x16_3), .val (.int x17_3), .val (.int x18_3), .val (.int x19_3), .val (.int x20_3), .val (.int x21_3), .val (.int z22_16), .val (.int z23_16), .val (.int z11), .val (.int z11), .val (.int z11), .val (.int z27_12), .val (.int z28_15)] [(.int (1 : Int32))])) _
          exact retN X18 hx (t := .boolean) Bd.returns (by simp) (hb hby at_493) hr
        · show Q0 Z u0 u1 u2 u3 u4 h0 n0 _ T18.heap _
          exact ⟨rfl, N18⟩
      · have nhc227 : ¬ x6_1.toInt < (2 : Int) := own_lt0 rfl rfl hc227
        obtain ⟨z19, ez19⟩ : ∃ y : Int32, y = ((1 : Int32) + x12_3) := ⟨_, rfl⟩
        have nz19 : z19.toInt = (1 : Int) + x12_3.toInt := by rw [ez19]; exact own_iadd (x := (1 : Int)) (y := x12_3.toInt) rfl rfl (by omega) (by omega)
        obtain ⟨_, _, ⟨T20, L20, k20, n20⟩, -, X20, ⟨Lc20, hQ20, l20, y20, z20⟩, st20⟩ := Jvm.LawKit.callS X8 hx (y := (⟨"com/example/fides/fides/DerRequireShapePinLaw", "lenSize", "(I)I"⟩ : MethodName)) hown (mvT hZ (hw _ (List.mem_of_getElem? (i := 25) rfl))) (mvT hZ (hw _ (List.mem_of_getElem? (i := 26) rfl))) (mvT hZ (hw _ (List.mem_of_getElem? (i := 3) rfl))) (mvT hZ (hw _ (List.mem_of_getElem? (i := 27) rfl))) (by decide) (backOf (W := 1) (rm7 l Z a0 hw [] z11 h2 n0 Z2 ) hZ (hw _ (List.mem_of_getElem? (i := 27) rfl)) (hw _ (List.mem_of_getElem? (i := 3) rfl)) (by decide) (by decide)) (g := (mkF m 236 #[.val (.int u0), .val (.int u1), .val (.int u2), .val (.int u3), .val (.int u4), .val (.int x5_1), .val (.int x6_1), .val (.int x7_1), .val (.int x8_1), .val (.int x9_1), .val (.ref b2), .val (.int x11_3), .val (.int x12_3), .val (.int x13_3), .val (.int x14_3), .val (.int x15_3), .val (.int x16_3), .val (.int x17_3), .val (.int x18_3), .val (.int x19_3), .val (.int x20_3), .val (.int x21_3), .unset, .unset, .val (.int z11), .val (.int z11), .unset, .unset, .unset] [(.int z11), (.int z19)])) rfl (by rw [hml]; rfl) (argsL := [(.int z11)]) (rest := [(.int z19)]) (lenOf pd_0 rfl) rfl (by show 2 * 0 + _ ≤ _; exact Nat.le_of_eq rfl) (hb hby at_236) (fun _ _ => ⟨rfl, e8, (by decide : 1 + 0 ≤ _), (by decide : 65600 + 0 ≤ _)⟩)
        dsimp only [Pt.U, Pt.locs, Pt.cells, Pt.slots] at X20 l20 y20 z20 st20 hQ20
        replace y20 : k20 = 1 := y20
        replace z20 : n20 = 65600 := z20
        rw [y20, z20] at X20
        obtain ⟨w20, rfl, N20q, nw20a, e20⟩ := hQ20
        have N20 : Fr n0 L20 := l20 ▸ Fr.app N8 N20q
        have lb21 := ls_u3 (x := z11.toInt) (by omega)
        obtain ⟨z22, ez22⟩ : ∃ y : Int32, y = (z19 + w20) := ⟨_, rfl⟩
        have nz22 : z22.toInt = z19.toInt + w20.toInt := by rw [ez22]; exact own_iadd (x := z19.toInt) (y := w20.toInt) rfl rfl (by omega) (by omega)
        obtain ⟨z23, ez23⟩ : ∃ y : Int32, y = (z22 + z11) := ⟨_, rfl⟩
        have nz23 : z23.toInt = z22.toInt + z11.toInt := by rw [ez23]; exact own_iadd (x := z22.toInt) (y := z11.toInt) rfl rfl (by omega) (by omega)
        obtain ⟨T24, lc24, z27_24, X24, e24, N24, q27_24, st24⟩ := sg_wa l Z a0 hw u0 u1 u2 u3 u4 x5_1 x6_1 x7_1 x8_1 x9_1 b2 x11_3 x12_3 x13_3 x14_3 x15_3 x16_3 x17_3 x18_3 x19_3 x20_3 x21_3 z11 z11 z23 h2 n0 Z2 X20 hx hby hml hZ hown e20 N20 q5_1 (by omega)
        have lbw := ls_b z27_24.toInt
        obtain ⟨T25, h25, lc25, z28_25, g'_25, X25, e25, K25, N25, V_25, qp_25, qo_25, qt_25, ql_25, st25⟩ := sg_h1 l Z a0 hw u0 u1 u2 u3 u4 x5_1 x6_1 x7_1 x8_1 x9_1 b2 x11_3 x12_3 x13_3 x14_3 x15_3 x16_3 x17_3 x18_3 x19_3 x20_3 x21_3 z11 z11 z23 z27_24 gz2 h2 n0 Z2 X24 hx hby hml hZ hown e24 N24 g_b2 V2 (by omega)
        have Z25 : n0 ≤ h25.size := Nat.le_trans Z2 K25.1
        have KK25 := KK2.trans K25 (allS (P := fun x => x ∈ [] ∨ h0.size ≤ x) (Or.inr sz_b2) all0)
        obtain ⟨T26, h26, lc26, z28_26, g'_26, X26, e26, K26, N26, V_26, qp_26, qo_26, qt_26, ql_26, st26⟩ := sg_h2 l Z a0 hw u0 u1 u2 u3 u4 x5_1 x6_1 x7_1 x8_1 x9_1 b2 x11_3 x12_3 x13_3 x14_3 x15_3 x16_3 x17_3 x18_3 x19_3 x20_3 x21_3 z11 z11 z23 z27_24 z28_25 g'_25 h25 n0 Z25 X25 hx hby hml hZ hown e25 N25 g_b2 V_25 (by omega)
        have Z26 : n0 ≤ h26.size := Nat.le_trans Z25 K26.1
        have KK26 := KK25.trans K26 (allS (P := fun x => x ∈ [] ∨ h0.size ≤ x) (Or.inr sz_b2) all0)
        obtain ⟨T27, h27, lc27, z28_27, g'_27, X27, e27, K27, N27, V_27, qp_27, qo_27, qt_27, ql_27, st27⟩ := sg_hA l Z a0 hw u0 u1 u2 u3 u4 x5_1 x6_1 x7_1 x8_1 x9_1 b2 x11_3 x12_3 x13_3 x14_3 x15_3 x16_3 x17_3 x18_3 x19_3 x20_3 x21_3 z11 z11 z23 z27_24 z28_26 g'_26 h26 n0 Z26 X26 hx hby hml hZ hown e26 N26 g_b2 V_26 (by omega)
        have Z27 : n0 ≤ h27.size := Nat.le_trans Z26 K27.1
        have KK27 := KK26.trans K27 (allS (P := fun x => x ∈ [] ∨ h0.size ≤ x) (Or.inr sz_b2) all0)
        obtain ⟨T28, h28, lc28, z28_28, g'_28, X28, e28, K28, N28, V_28, qp_28, qo_28, st28⟩ := sg_cA l Z a0 hw u0 u1 u2 u3 u4 x5_1 x6_1 x7_1 x8_1 x9_1 b2 x11_3 x12_3 x13_3 x14_3 x15_3 x16_3 x17_3 x18_3 x19_3 x20_3 x21_3 z11 z11 z23 z27_24 z28_27 g'_27 h27 n0 Z27 X27 hx hby hml hZ hown e27 N27 g_b2 V_27 (by omega)
        have Z28 : n0 ≤ h28.size := Nat.le_trans Z27 K28.1
        have KK28 := KK27.trans K28 (allS (P := fun x => x ∈ [] ∨ h0.size ≤ x) (Or.inr sz_b2) all0)
        obtain ⟨T29, h29, lc29, z22_29, z23_29, g'_29, ff_29, cc_29, X29, e29, K29, N29, V_29, q22_29, q23_29, qo_29, qf_29, qt_29, ql_29, qc_29, st29⟩ := sg_fl l Z a0 hw u0 u1 u2 u3 u4 x5_1 x6_1 x7_1 x8_1 x9_1 b2 x11_3 x12_3 x13_3 x14_3 x15_3 x16_3 x17_3 x18_3 x19_3 x20_3 x21_3 z11 z11 z23 z27_24 z28_28 g'_28 h28 n0 Z28 X28 hx hby hml hZ hown e28 N28 g_b2 V_28 (by omega)
        have Z29 : n0 ≤ h29.size := Nat.le_trans Z28 K29.1
        have KK29 := KK28.trans K29 (allS (P := fun x => x ∈ [] ∨ h0.size ≤ x) (Or.inr sz_b2) all0)
        obtain ⟨z30, ez30⟩ : ∃ y : Int32, y = (z23_29 + x8_1) := ⟨_, rfl⟩
        have nz30 : z30.toInt = z23_29.toInt + x8_1.toInt := by rw [ez30]; exact own_iadd (x := z23_29.toInt) (y := x8_1.toInt) rfl rfl (by omega) (by omega)
        have tt25 := TagOK.congr (g' := g'_29) qt_25 (by omega) (by omega) (fun i h1 h2 => by rw [qo_29 i (by omega), qo_28 i (by omega), qo_27 i (by omega), qo_26 i (by omega)])
        have tl25 := LenOK.congr (g' := g'_29) ql_25 (fun i h1 h2 => by rw [qo_29 i (by omega), qo_28 i (by omega), qo_27 i (by omega), qo_26 i (by omega)])
        have tt26 := TagOK.congr (g' := g'_29) qt_26 (by omega) (by omega) (fun i h1 h2 => by rw [qo_29 i (by omega), qo_28 i (by omega), qo_27 i (by omega)])
        have tl26 := LenOK.congr (g' := g'_29) ql_26 (fun i h1 h2 => by rw [qo_29 i (by omega), qo_28 i (by omega), qo_27 i (by omega)])
        have tt27 := TagOK.congr (g' := g'_29) qt_27 (by omega) (by omega) (fun i h1 h2 => by rw [qo_29 i (by omega), qo_28 i (by omega)])
        have tl27 := LenOK.congr (g' := g'_29) ql_27 (fun i h1 h2 => by rw [qo_29 i (by omega), qo_28 i (by omega)])
        obtain ⟨es, hok⟩ := plain2 (n := x9_1.toInt) (mx := z30.toInt) tt25 (by have q := tl25; rwa [show (0 : Int) + 1 + x11_3.toInt = 1 + x11_3.toInt from by omega] at q) (by omega) ⟨by omega, by omega, by omega⟩ (by omega) tt26 tl26 (by omega) ⟨by omega, by omega, by omega⟩ (by omega) tt27 tl27 (by omega) ⟨by omega, by omega, by omega⟩ qt_29 ql_29 (by omega) ⟨by omega, by omega, by omega⟩ ⟨by omega, by omega⟩ q21_3.2.2 (by omega)
        obtain ⟨_, _, ⟨T31, L31, k31, n31⟩, -, X31, ⟨Lc31, hQ31, l31, y31, z31⟩, st31⟩ := Jvm.LawKit.callS X29 hx (y := (⟨"com/example/fides/fides/Der", "requireShape", "([BI)V"⟩ : MethodName)) hown (mvT hZ (hw _ (List.mem_of_getElem? (i := 16) rfl))) (mvT hZ (hw _ (List.mem_of_getElem? (i := 17) rfl))) (mvT hZ (hw _ (List.mem_of_getElem? (i := 18) rfl))) (mvT hZ (hw _ (List.mem_of_getElem? (i := 19) rfl))) (by decide) (backOf (W := 0) (rm5 l Z a0 hw [] b2 z30 x9_1.toInt g'_29 es h29 n0 Z29 V_29 (by omega) (by omega) (by omega) hok) hZ (hw _ (List.mem_of_getElem? (i := 19) rfl)) (hw _ (List.mem_of_getElem? (i := 18) rfl)) (by decide) (by decide)) (g := (mkF m 489 #[.val (.int u0), .val (.int u1), .val (.int u2), .val (.int u3), .val (.int u4), .val (.int x5_1), .val (.int x6_1), .val (.int x7_1), .val (.int x8_1), .val (.int x9_1), .val (.ref b2), .val (.int x11_3), .val (.int x12_3), .val (.int x13_3), .val (.int x14_3), .val (.int x15_3), .val (.int x16_3), .val (.int x17_3), .val (.int x18_3), .val (.int x19_3), .val (.int x20_3), .val (.int x21_3), .val (.int z22_29), .val (.int z23_29), .val (.int z11), .val (.int z11), .val (.int z23), .val (.int z27_24), .val (.int z28_28)] [(.int z30), (.ref b2)])) rfl (by rw [hml]; rfl) (argsL := [(.ref b2), (.int z30)]) (rest := []) (lenOf pd_1 rfl) rfl (by show 2 * 0 + _ ≤ _; exact Nat.le_of_eq rfl) (hb hby at_489) (fun _ _ => ⟨rfl, e29, (by decide : 1 + 1 ≤ _), (by decide : 65600 + 12 ≤ _)⟩)
        dsimp only [Pt.U, Pt.locs, Pt.cells, Pt.slots] at X31 l31 y31 z31 st31 hQ31
        replace y31 : k31 = 2 := y31
        replace z31 : n31 = 65612 := z31
        rw [y31, z31] at X31
        obtain ⟨rfl, N31q, K31⟩ := hQ31
        have N31 : Fr n0 L31 := l31 ▸ Fr.app N29 N31q
        have Z31 : n0 ≤ T31.heap.size := Nat.le_trans Z29 K31.1
        have KK31 := KK29.trans K31 all0
        obtain ⟨fs, hr, hrun, hended, hW, hsame⟩ := X31.leave (v := some (.int (1 : Int32))) (fun h => by rw [Bd.returns] at h; cases h)
        refine ⟨_, _, pre0 _ ?_, hrun, hended, _, _, rfl, ?_, ⟨_, rfl⟩, hW, hsame.mono (by decide) (by decide)⟩
        · refine st1 _ ?_
          show Steps p.tables e below (T1.setTop (mkF m 58 #[.val (.int u0), .val (.int u1), .val (.int u2), .val (.int u3), .val (.int u4), .val (.int x5_1), .val (.int x6_1), .val (.int x7_1), .val (.int x8_1), .val (.int x9_1), .unset, .unset, .unset, .unset, .unset, .unset, .unset, .unset, .unset, .unset, .unset, .unset, .unset, .unset, .unset, .unset, .unset, .unset, .unset] [])) _
          refine XS.iload X1.here hx rfl (hb hby at_58) rfl ?_
          refine st2 _ ?_
          show Steps p.tables e below (T2.setTop (mkF m 62 #[.val (.int u0), .val (.int u1), .val (.int u2), .val (.int u3), .val (.int u4), .val (.int x5_1), .val (.int x6_1), .val (.int x7_1), .val (.int x8_1), .val (.int x9_1), .unset, .unset, .unset, .unset, .unset, .unset, .unset, .unset, .unset, .unset, .unset, .unset, .unset, .unset, .unset, .unset, .unset, .unset, .unset] [(.ref b2)])) _
          refine XS.astore X2.here hx rfl (hb hby at_62) rfl rfl (l' := #[.val (.int u0), .val (.int u1), .val (.int u2), .val (.int u3), .val (.int u4), .val (.int x5_1), .val (.int x6_1), .val (.int x7_1), .val (.int x8_1), .val (.int x9_1), .val (.ref b2), .unset, .unset, .unset, .unset, .unset, .unset, .unset, .unset, .unset, .unset, .unset, .unset, .unset, .unset, .unset, .unset, .unset, .unset]) rfl ?_
          refine st3 _ ?_
          show Steps p.tables e below (T3.setTop (mkF m 155 #[.val (.int u0), .val (.int u1), .val (.int u2), .val (.int u3), .val (.int u4), .val (.int x5_1), .val (.int x6_1), .val (.int x7_1), .val (.int x8_1), .val (.int x9_1), .val (.ref b2), .val (.int x11_3), .val (.int x12_3), .val (.int x13_3), .val (.int x14_3), .val (.int x15_3), .val (.int x16_3), .val (.int x17_3), .val (.int x18_3), .val (.int x19_3), .val (.int x20_3), .val (.int x21_3), .unset, .unset, .unset, .unset, .unset, .unset, .unset] [])) _
          refine XS.iload X3.here hx rfl (hb hby at_155) rfl ?_
          refine XS.ifYes X3.here hx rfl (pc0 := 157) (pc' := 183) rfl (hb hby at_157) rfl ((if0 _ _).trans (feq hc157).2) (by decide) (by decide) ?_
          refine XS.iconst X3.here hx rfl (hb hby at_183) ?_
          refine XS.iload X3.here hx rfl (hb hby at_184) rfl ?_
          show Steps p.tables e below (T3.setTop (mkF m 186 #[.val (.int u0), .val (.int u1), .val (.int u2), .val (.int u3), .val (.int u4), .val (.int x5_1), .val (.int x6_1), .val (.int x7_1), .val (.int x8_1), .val (.int x9_1), .val (.ref b2), .val (.int x11_3), .val (.int x12_3), .val (.int x13_3), .val (.int x14_3), .val (.int x15_3), .val (.int x16_3), .val (.int x17_3), .val (.int x18_3), .val (.int x19_3), .val (.int x20_3), .val (.int x21_3), .unset, .unset, .unset, .unset, .unset, .unset, .unset] [(.int x14_3), (.int (1 : Int32))])) _
          refine XS.iadd X3.here hx rfl (hb hby at_186) rfl ?_
          show Steps p.tables e below (T3.setTop (mkF m 187 #[.val (.int u0), .val (.int u1), .val (.int u2), .val (.int u3), .val (.int u4), .val (.int x5_1), .val (.int x6_1), .val (.int x7_1), .val (.int x8_1), .val (.int x9_1), .val (.ref b2), .val (.int x11_3), .val (.int x12_3), .val (.int x13_3), .val (.int x14_3), .val (.int x15_3), .val (.int x16_3), .val (.int x17_3), .val (.int x18_3), .val (.int x19_3), .val (.int x20_3), .val (.int x21_3), .unset, .unset, .unset, .unset, .unset, .unset, .unset] [(.int ((1 : Int32) + x14_3))])) _
          rw [← ez7]
          refine XS.iload X3.here hx rfl (hb hby at_187) rfl ?_
          refine st8 _ ?_
          show Steps p.tables e below (T8.setTop (mkF m 192 #[.val (.int u0), .val (.int u1), .val (.int u2), .val (.int u3), .val (.int u4), .val (.int x5_1), .val (.int x6_1), .val (.int x7_1), .val (.int x8_1), .val (.int x9_1), .val (.ref b2), .val (.int x11_3), .val (.int x12_3), .val (.int x13_3), .val (.int x14_3), .val (.int x15_3), .val (.int x16_3), .val (.int x17_3), .val (.int x18_3), .val (.int x19_3), .val (.int x20_3), .val (.int x21_3), .unset, .unset, .unset, .unset, .unset, .unset, .unset] [(.int w8), (.int z7)])) _
          refine XS.iadd X8.here hx rfl (hb hby at_192) rfl ?_
          show Steps p.tables e below (T8.setTop (mkF m 193 #[.val (.int u0), .val (.int u1), .val (.int u2), .val (.int u3), .val (.int u4), .val (.int x5_1), .val (.int x6_1), .val (.int x7_1), .val (.int x8_1), .val (.int x9_1), .val (.ref b2), .val (.int x11_3), .val (.int x12_3), .val (.int x13_3), .val (.int x14_3), .val (.int x15_3), .val (.int x16_3), .val (.int x17_3), .val (.int x18_3), .val (.int x19_3), .val (.int x20_3), .val (.int x21_3), .unset, .unset, .unset, .unset, .unset, .unset, .unset] [(.int (z7 + w8))])) _
          rw [← ez10]
          refine XS.iload X8.here hx rfl (hb hby at_193) rfl ?_
          show Steps p.tables e below (T8.setTop (mkF m 195 #[.val (.int u0), .val (.int u1), .val (.int u2), .val (.int u3), .val (.int u4), .val (.int x5_1), .val (.int x6_1), .val (.int x7_1), .val (.int x8_1), .val (.int x9_1), .val (.ref b2), .val (.int x11_3), .val (.int x12_3), .val (.int x13_3), .val (.int x14_3), .val (.int x15_3), .val (.int x16_3), .val (.int x17_3), .val (.int x18_3), .val (.int x19_3), .val (.int x20_3), .val (.int x21_3), .unset, .unset, .unset, .unset, .unset, .unset, .unset] [(.int x21_3), (.int z10)])) _
          refine XS.iadd X8.here hx rfl (hb hby at_195) rfl ?_
          show Steps p.tables e below (T8.setTop (mkF m 196 #[.val (.int u0), .val (.int u1), .val (.int u2), .val (.int u3), .val (.int u4), .val (.int x5_1), .val (.int x6_1), .val (.int x7_1), .val (.int x8_1), .val (.int x9_1), .val (.ref b2), .val (.int x11_3), .val (.int x12_3), .val (.int x13_3), .val (.int x14_3), .val (.int x15_3), .val (.int x16_3), .val (.int x17_3), .val (.int x18_3), .val (.int x19_3), .val (.int x20_3), .val (.int x21_3), .unset, .unset, .unset, .unset, .unset, .unset, .unset] [(.int (z10 + x21_3))])) _
          rw [← ez11]
          refine XS.istore X8.here hx rfl (hb hby at_196) rfl (l' := #[.val (.int u0), .val (.int u1), .val (.int u2), .val (.int u3), .val (.int u4), .val (.int x5_1), .val (.int x6_1), .val (.int x7_1), .val (.int x8_1), .val (.int x9_1), .val (.ref b2), .val (.int x11_3), .val (.int x12_3), .val (.int x13_3), .val (.int x14_3), .val (.int x15_3), .val (.int x16_3), .val (.int x17_3), .val (.int x18_3), .val (.int x19_3), .val (.int x20_3), .val (.int x21_3), .unset, .unset, .val (.int z11), .unset, .unset, .unset, .unset]) rfl ?_
          refine XS.iload X8.here hx rfl (hb hby at_198) rfl ?_
          refine XS.iconst X8.here hx rfl (hb hby at_200) ?_
          refine XS.icmpYes X8.here hx rfl (pc0 := 201) (pc' := 220) rfl (hb hby at_201) rfl (tlt hc201).1 (by decide) (by decide) ?_
          refine XS.iload X8.here hx rfl (hb hby at_220) rfl ?_
          refine XS.istore X8.here hx rfl (hb hby at_222) rfl (l' := #[.val (.int u0), .val (.int u1), .val (.int u2), .val (.int u3), .val (.int u4), .val (.int x5_1), .val (.int x6_1), .val (.int x7_1), .val (.int x8_1), .val (.int x9_1), .val (.ref b2), .val (.int x11_3), .val (.int x12_3), .val (.int x13_3), .val (.int x14_3), .val (.int x15_3), .val (.int x16_3), .val (.int x17_3), .val (.int x18_3), .val (.int x19_3), .val (.int x20_3), .val (.int x21_3), .unset, .unset, .val (.int z11), .val (.int z11), .unset, .unset, .unset]) rfl ?_
          refine XS.iload X8.here hx rfl (hb hby at_224) rfl ?_
          refine XS.iconst X8.here hx rfl (hb hby at_226) ?_
          refine XS.icmpNo X8.here hx rfl (hb hby at_227) rfl (flt hc227).1 ?_
          refine XS.iconst X8.here hx rfl (hb hby at_230) ?_
          refine XS.iload X8.here hx rfl (hb hby at_231) rfl ?_
          show Steps p.tables e below (T8.setTop (mkF m 233 #[.val (.int u0), .val (.int u1), .val (.int u2), .val (.int u3), .val (.int u4), .val (.int x5_1), .val (.int x6_1), .val (.int x7_1), .val (.int x8_1), .val (.int x9_1), .val (.ref b2), .val (.int x11_3), .val (.int x12_3), .val (.int x13_3), .val (.int x14_3), .val (.int x15_3), .val (.int x16_3), .val (.int x17_3), .val (.int x18_3), .val (.int x19_3), .val (.int x20_3), .val (.int x21_3), .unset, .unset, .val (.int z11), .val (.int z11), .unset, .unset, .unset] [(.int x12_3), (.int (1 : Int32))])) _
          refine XS.iadd X8.here hx rfl (hb hby at_233) rfl ?_
          show Steps p.tables e below (T8.setTop (mkF m 234 #[.val (.int u0), .val (.int u1), .val (.int u2), .val (.int u3), .val (.int u4), .val (.int x5_1), .val (.int x6_1), .val (.int x7_1), .val (.int x8_1), .val (.int x9_1), .val (.ref b2), .val (.int x11_3), .val (.int x12_3), .val (.int x13_3), .val (.int x14_3), .val (.int x15_3), .val (.int x16_3), .val (.int x17_3), .val (.int x18_3), .val (.int x19_3), .val (.int x20_3), .val (.int x21_3), .unset, .unset, .val (.int z11), .val (.int z11), .unset, .unset, .unset] [(.int ((1 : Int32) + x12_3))])) _
          rw [← ez19]
          refine XS.iload X8.here hx rfl (hb hby at_234) rfl ?_
          refine st20 _ ?_
          show Steps p.tables e below (T20.setTop (mkF m 239 #[.val (.int u0), .val (.int u1), .val (.int u2), .val (.int u3), .val (.int u4), .val (.int x5_1), .val (.int x6_1), .val (.int x7_1), .val (.int x8_1), .val (.int x9_1), .val (.ref b2), .val (.int x11_3), .val (.int x12_3), .val (.int x13_3), .val (.int x14_3), .val (.int x15_3), .val (.int x16_3), .val (.int x17_3), .val (.int x18_3), .val (.int x19_3), .val (.int x20_3), .val (.int x21_3), .unset, .unset, .val (.int z11), .val (.int z11), .unset, .unset, .unset] [(.int w20), (.int z19)])) _
          refine XS.iadd X20.here hx rfl (hb hby at_239) rfl ?_
          show Steps p.tables e below (T20.setTop (mkF m 240 #[.val (.int u0), .val (.int u1), .val (.int u2), .val (.int u3), .val (.int u4), .val (.int x5_1), .val (.int x6_1), .val (.int x7_1), .val (.int x8_1), .val (.int x9_1), .val (.ref b2), .val (.int x11_3), .val (.int x12_3), .val (.int x13_3), .val (.int x14_3), .val (.int x15_3), .val (.int x16_3), .val (.int x17_3), .val (.int x18_3), .val (.int x19_3), .val (.int x20_3), .val (.int x21_3), .unset, .unset, .val (.int z11), .val (.int z11), .unset, .unset, .unset] [(.int (z19 + w20))])) _
          rw [← ez22]
          refine XS.iload X20.here hx rfl (hb hby at_240) rfl ?_
          show Steps p.tables e below (T20.setTop (mkF m 242 #[.val (.int u0), .val (.int u1), .val (.int u2), .val (.int u3), .val (.int u4), .val (.int x5_1), .val (.int x6_1), .val (.int x7_1), .val (.int x8_1), .val (.int x9_1), .val (.ref b2), .val (.int x11_3), .val (.int x12_3), .val (.int x13_3), .val (.int x14_3), .val (.int x15_3), .val (.int x16_3), .val (.int x17_3), .val (.int x18_3), .val (.int x19_3), .val (.int x20_3), .val (.int x21_3), .unset, .unset, .val (.int z11), .val (.int z11), .unset, .unset, .unset] [(.int z11), (.int z22)])) _
          refine XS.iadd X20.here hx rfl (hb hby at_242) rfl ?_
          show Steps p.tables e below (T20.setTop (mkF m 243 #[.val (.int u0), .val (.int u1), .val (.int u2), .val (.int u3), .val (.int u4), .val (.int x5_1), .val (.int x6_1), .val (.int x7_1), .val (.int x8_1), .val (.int x9_1), .val (.ref b2), .val (.int x11_3), .val (.int x12_3), .val (.int x13_3), .val (.int x14_3), .val (.int x15_3), .val (.int x16_3), .val (.int x17_3), .val (.int x18_3), .val (.int x19_3), .val (.int x20_3), .val (.int x21_3), .unset, .unset, .val (.int z11), .val (.int z11), .unset, .unset, .unset] [(.int (z22 + z11))])) _
          rw [← ez23]
          refine XS.goto X20.here hx rfl (pc0 := 243) (pc' := 248) rfl (hb hby at_243) (by decide) (by decide) ?_
          refine XS.istore X20.here hx rfl (hb hby at_248) rfl (l' := #[.val (.int u0), .val (.int u1), .val (.int u2), .val (.int u3), .val (.int u4), .val (.int x5_1), .val (.int x6_1), .val (.int x7_1), .val (.int x8_1), .val (.int x9_1), .val (.ref b2), .val (.int x11_3), .val (.int x12_3), .val (.int x13_3), .val (.int x14_3), .val (.int x15_3), .val (.int x16_3), .val (.int x17_3), .val (.int x18_3), .val (.int x19_3), .val (.int x20_3), .val (.int x21_3), .unset, .unset, .val (.int z11), .val (.int z11), .val (.int z23), .unset, .unset]) rfl ?_
          refine st24 _ ?_
          refine st25 _ ?_
          show Steps p.tables e below (T25.setTop (mkF m 295 #[.val (.int u0), .val (.int u1), .val (.int u2), .val (.int u3), .val (.int u4), .val (.int x5_1), .val (.int x6_1), .val (.int x7_1), .val (.int x8_1), .val (.int x9_1), .val (.ref b2), .val (.int x11_3), .val (.int x12_3), .val (.int x13_3), .val (.int x14_3), .val (.int x15_3), .val (.int x16_3), .val (.int x17_3), .val (.int x18_3), .val (.int x19_3), .val (.int x20_3), .val (.int x21_3), .unset, .unset, .val (.int z11), .val (.int z11), .val (.int z23), .val (.int z27_24), .val (.int z28_25)] [])) _
          refine XS.iload X25.here hx rfl (hb hby at_295) rfl ?_
          refine XS.iconst X25.here hx rfl (hb hby at_297) ?_
          refine XS.icmpNo X25.here hx rfl (hb hby at_298) rfl (flt hc227).1 ?_
          refine st26 _ ?_
          show Steps p.tables e below (T26.setTop (mkF m 329 #[.val (.int u0), .val (.int u1), .val (.int u2), .val (.int u3), .val (.int u4), .val (.int x5_1), .val (.int x6_1), .val (.int x7_1), .val (.int x8_1), .val (.int x9_1), .val (.ref b2), .val (.int x11_3), .val (.int x12_3), .val (.int x13_3), .val (.int x14_3), .val (.int x15_3), .val (.int x16_3), .val (.int x17_3), .val (.int x18_3), .val (.int x19_3), .val (.int x20_3), .val (.int x21_3), .unset, .unset, .val (.int z11), .val (.int z11), .val (.int z23), .val (.int z27_24), .val (.int z28_26)] [])) _
          refine XS.iload X26.here hx rfl (hb hby at_329) rfl ?_
          refine XS.iconst X26.here hx rfl (hb hby at_331) ?_
          refine XS.icmpYes X26.here hx rfl (pc0 := 332) (pc' := 363) rfl (hb hby at_332) rfl (tlt hc201).1 (by decide) (by decide) ?_
          refine st27 _ ?_
          refine st28 _ ?_
          refine st29 _ ?_
          show Steps p.tables e below (T29.setTop (mkF m 473 #[.val (.int u0), .val (.int u1), .val (.int u2), .val (.int u3), .val (.int u4), .val (.int x5_1), .val (.int x6_1), .val (.int x7_1), .val (.int x8_1), .val (.int x9_1), .val (.ref b2), .val (.int x11_3), .val (.int x12_3), .val (.int x13_3), .val (.int x14_3), .val (.int x15_3), .val (.int x16_3), .val (.int x17_3), .val (.int x18_3), .val (.int x19_3), .val (.int x20_3), .val (.int x21_3), .val (.int z22_29), .val (.int z23_29), .val (.int z11), .val (.int z11), .val (.int z23), .val (.int z27_24), .val (.int z28_28)] [])) _
          refine XS.iload X29.here hx rfl (hb hby at_473) rfl ?_
          refine XS.iload X29.here hx rfl (hb hby at_475) rfl ?_
          refine XS.icmpYes X29.here hx rfl (pc0 := 477) (pc' := 482) rfl (hb hby at_477) rfl (teq (own_eq1' (x := z22_29.toInt) (y := x9_1.toInt) rfl rfl (by omega))).1 (by decide) (by decide) ?_
          refine XS.aload X29.here hx rfl (hb hby at_482) rfl rfl ?_
          refine XS.iload X29.here hx rfl (hb hby at_484) rfl ?_
          refine XS.iload X29.here hx rfl (hb hby at_486) rfl ?_
          show Steps p.tables e below (T29.setTop (mkF m 488 #[.val (.int u0), .val (.int u1), .val (.int u2), .val (.int u3), .val (.int u4), .val (.int x5_1), .val (.int x6_1), .val (.int x7_1), .val (.int x8_1), .val (.int x9_1), .val (.ref b2), .val (.int x11_3), .val (.int x12_3), .val (.int x13_3), .val (.int x14_3), .val (.int x15_3), .val (.int x16_3), .val (.int x17_3), .val (.int x18_3), .val (.int x19_3), .val (.int x20_3), .val (.int x21_3), .val (.int z22_29), .val (.int z23_29), .val (.int z11), .val (.int z11), .val (.int z23), .val (.int z27_24), .val (.int z28_28)] [(.int x8_1), (.int z23_29), (.ref b2)])) _
          refine XS.iadd X29.here hx rfl (hb hby at_488) rfl ?_
          show Steps p.tables e below (T29.setTop (mkF m 489 #[.val (.int u0), .val (.int u1), .val (.int u2), .val (.int u3), .val (.int u4), .val (.int x5_1), .val (.int x6_1), .val (.int x7_1), .val (.int x8_1), .val (.int x9_1), .val (.ref b2), .val (.int x11_3), .val (.int x12_3), .val (.int x13_3), .val (.int x14_3), .val (.int x15_3), .val (.int x16_3), .val (.int x17_3), .val (.int x18_3), .val (.int x19_3), .val (.int x20_3), .val (.int x21_3), .val (.int z22_29), .val (.int z23_29), .val (.int z11), .val (.int z11), .val (.int z23), .val (.int z27_24), .val (.int z28_28)] [(.int (z23_29 + x8_1)), (.ref b2)])) _
          rw [← ez30]
          refine st31 _ ?_
          show Steps p.tables e below (T31.setTop (mkF m 492 #[.val (.int u0), .val (.int u1), .val (.int u2), .val (.int u3), .val (.int u4), .val (.int x5_1), .val (.int x6_1), .val (.int x7_1), .val (.int x8_1), .val (.int x9_1), .val (.ref b2), .val (.int x11_3), .val (.int x12_3), .val (.int x13_3), .val (.int x14_3), .val (.int x15_3), .val (.int x16_3), .val (.int x17_3), .val (.int x18_3), .val (.int x19_3), .val (.int x20_3), .val (.int x21_3), .val (.int z22_29), .val (.int z23_29), .val (.int z11), .val (.int z11), .val (.int z23), .val (.int z27_24), .val (.int z28_28)] [])) _
          refine XS.iconst X31.here hx rfl (hb hby at_492) ?_
          show Steps p.tables e below (T31.setTop (mkF m 493 #[.val (.int u0), .val (.int u1), .val (.int u2), .val (.int u3), .val (.int u4), .val (.int x5_1), .val (.int x6_1), .val (.int x7_1), .val (.int x8_1), .val (.int x9_1), .val (.ref b2), .val (.int x11_3), .val (.int x12_3), .val (.int x13_3), .val (.int x14_3), .val (.int x15_3), .val (.int x16_3), .val (.int x17_3), .val (.int x18_3), .val (.int x19_3), .val (.int x20_3), .val (.int x21_3), .val (.int z22_29), .val (.int z23_29), .val (.int z11), .val (.int z11), .val (.int z23), .val (.int z27_24), .val (.int z28_28)] [(.int (1 : Int32))])) _
          exact retN X31 hx (t := .boolean) Bd.returns (by simp) (hb hby at_493) hr
        · show Q0 Z u0 u1 u2 u3 u4 h0 n0 _ T31.heap _
          exact ⟨rfl, N31⟩
    · have nhc201 : ¬ x6_1.toInt < (3 : Int) := own_lt0 rfl rfl hc201
      obtain ⟨z32, ez32⟩ : ∃ y : Int32, y = ((1 : Int32) + x13_3) := ⟨_, rfl⟩
      have nz32 : z32.toInt = (1 : Int) + x13_3.toInt := by rw [ez32]; exact own_iadd (x := (1 : Int)) (y := x13_3.toInt) rfl rfl (by omega) (by omega)
      obtain ⟨_, _, ⟨T33, L33, k33, n33⟩, -, X33, ⟨Lc33, hQ33, l33, y33, z33⟩, st33⟩ := Jvm.LawKit.callS X8 hx (y := (⟨"com/example/fides/fides/DerRequireShapePinLaw", "lenSize", "(I)I"⟩ : MethodName)) hown (mvT hZ (hw _ (List.mem_of_getElem? (i := 25) rfl))) (mvT hZ (hw _ (List.mem_of_getElem? (i := 26) rfl))) (mvT hZ (hw _ (List.mem_of_getElem? (i := 3) rfl))) (mvT hZ (hw _ (List.mem_of_getElem? (i := 27) rfl))) (by decide) (backOf (W := 1) (rm7 l Z a0 hw [] z11 h2 n0 Z2 ) hZ (hw _ (List.mem_of_getElem? (i := 27) rfl)) (hw _ (List.mem_of_getElem? (i := 3) rfl)) (by decide) (by decide)) (g := (mkF m 210 #[.val (.int u0), .val (.int u1), .val (.int u2), .val (.int u3), .val (.int u4), .val (.int x5_1), .val (.int x6_1), .val (.int x7_1), .val (.int x8_1), .val (.int x9_1), .val (.ref b2), .val (.int x11_3), .val (.int x12_3), .val (.int x13_3), .val (.int x14_3), .val (.int x15_3), .val (.int x16_3), .val (.int x17_3), .val (.int x18_3), .val (.int x19_3), .val (.int x20_3), .val (.int x21_3), .unset, .unset, .val (.int z11), .unset, .unset, .unset, .unset] [(.int z11), (.int z32)])) rfl (by rw [hml]; rfl) (argsL := [(.int z11)]) (rest := [(.int z32)]) (lenOf pd_0 rfl) rfl (by show 2 * 0 + _ ≤ _; exact Nat.le_of_eq rfl) (hb hby at_210) (fun _ _ => ⟨rfl, e8, (by decide : 1 + 0 ≤ _), (by decide : 65600 + 0 ≤ _)⟩)
      dsimp only [Pt.U, Pt.locs, Pt.cells, Pt.slots] at X33 l33 y33 z33 st33 hQ33
      replace y33 : k33 = 1 := y33
      replace z33 : n33 = 65600 := z33
      rw [y33, z33] at X33
      obtain ⟨w33, rfl, N33q, nw33a, e33⟩ := hQ33
      have N33 : Fr n0 L33 := l33 ▸ Fr.app N8 N33q
      have lb34 := ls_u3 (x := z11.toInt) (by omega)
      obtain ⟨z35, ez35⟩ : ∃ y : Int32, y = (z32 + w33) := ⟨_, rfl⟩
      have nz35 : z35.toInt = z32.toInt + w33.toInt := by rw [ez35]; exact own_iadd (x := z32.toInt) (y := w33.toInt) rfl rfl (by omega) (by omega)
      obtain ⟨z36, ez36⟩ : ∃ y : Int32, y = (z35 + z11) := ⟨_, rfl⟩
      have nz36 : z36.toInt = z35.toInt + z11.toInt := by rw [ez36]; exact own_iadd (x := z35.toInt) (y := z11.toInt) rfl rfl (by omega) (by omega)
      obtain ⟨z37, ez37⟩ : ∃ y : Int32, y = ((1 : Int32) + x12_3) := ⟨_, rfl⟩
      have nz37 : z37.toInt = (1 : Int) + x12_3.toInt := by rw [ez37]; exact own_iadd (x := (1 : Int)) (y := x12_3.toInt) rfl rfl (by omega) (by omega)
      obtain ⟨_, _, ⟨T38, L38, k38, n38⟩, -, X38, ⟨Lc38, hQ38, l38, y38, z38⟩, st38⟩ := Jvm.LawKit.callS X33 hx (y := (⟨"com/example/fides/fides/DerRequireShapePinLaw", "lenSize", "(I)I"⟩ : MethodName)) hown (mvT hZ (hw _ (List.mem_of_getElem? (i := 25) rfl))) (mvT hZ (hw _ (List.mem_of_getElem? (i := 26) rfl))) (mvT hZ (hw _ (List.mem_of_getElem? (i := 3) rfl))) (mvT hZ (hw _ (List.mem_of_getElem? (i := 27) rfl))) (by decide) (backOf (W := 1) (rm7 l Z a0 hw [] z36 h2 n0 Z2 ) hZ (hw _ (List.mem_of_getElem? (i := 27) rfl)) (hw _ (List.mem_of_getElem? (i := 3) rfl)) (by decide) (by decide)) (g := (mkF m 236 #[.val (.int u0), .val (.int u1), .val (.int u2), .val (.int u3), .val (.int u4), .val (.int x5_1), .val (.int x6_1), .val (.int x7_1), .val (.int x8_1), .val (.int x9_1), .val (.ref b2), .val (.int x11_3), .val (.int x12_3), .val (.int x13_3), .val (.int x14_3), .val (.int x15_3), .val (.int x16_3), .val (.int x17_3), .val (.int x18_3), .val (.int x19_3), .val (.int x20_3), .val (.int x21_3), .unset, .unset, .val (.int z11), .val (.int z36), .unset, .unset, .unset] [(.int z36), (.int z37)])) rfl (by rw [hml]; rfl) (argsL := [(.int z36)]) (rest := [(.int z37)]) (lenOf pd_0 rfl) rfl (by show 2 * 0 + _ ≤ _; exact Nat.le_of_eq rfl) (hb hby at_236) (fun _ _ => ⟨rfl, e33, (by decide : 1 + 0 ≤ _), (by decide : 65600 + 0 ≤ _)⟩)
      dsimp only [Pt.U, Pt.locs, Pt.cells, Pt.slots] at X38 l38 y38 z38 st38 hQ38
      replace y38 : k38 = 1 := y38
      replace z38 : n38 = 65600 := z38
      rw [y38, z38] at X38
      obtain ⟨w38, rfl, N38q, nw38a, e38⟩ := hQ38
      have N38 : Fr n0 L38 := l38 ▸ Fr.app N33 N38q
      have lb39 := ls_u3 (x := z36.toInt) (by omega)
      obtain ⟨z40, ez40⟩ : ∃ y : Int32, y = (z37 + w38) := ⟨_, rfl⟩
      have nz40 : z40.toInt = z37.toInt + w38.toInt := by rw [ez40]; exact own_iadd (x := z37.toInt) (y := w38.toInt) rfl rfl (by omega) (by omega)
      obtain ⟨z41, ez41⟩ : ∃ y : Int32, y = (z40 + z36) := ⟨_, rfl⟩
      have nz41 : z41.toInt = z40.toInt + z36.toInt := by rw [ez41]; exact own_iadd (x := z40.toInt) (y := z36.toInt) rfl rfl (by omega) (by omega)
      obtain ⟨T42, lc42, z27_42, X42, e42, N42, q27_42, st42⟩ := sg_wa l Z a0 hw u0 u1 u2 u3 u4 x5_1 x6_1 x7_1 x8_1 x9_1 b2 x11_3 x12_3 x13_3 x14_3 x15_3 x16_3 x17_3 x18_3 x19_3 x20_3 x21_3 z11 z36 z41 h2 n0 Z2 X38 hx hby hml hZ hown e38 N38 q5_1 (by omega)
      have lbw := ls_b z27_42.toInt
      obtain ⟨T43, h43, lc43, z28_43, g'_43, X43, e43, K43, N43, V_43, qp_43, qo_43, qt_43, ql_43, st43⟩ := sg_h1 l Z a0 hw u0 u1 u2 u3 u4 x5_1 x6_1 x7_1 x8_1 x9_1 b2 x11_3 x12_3 x13_3 x14_3 x15_3 x16_3 x17_3 x18_3 x19_3 x20_3 x21_3 z11 z36 z41 z27_42 gz2 h2 n0 Z2 X42 hx hby hml hZ hown e42 N42 g_b2 V2 (by omega)
      have Z43 : n0 ≤ h43.size := Nat.le_trans Z2 K43.1
      have KK43 := KK2.trans K43 (allS (P := fun x => x ∈ [] ∨ h0.size ≤ x) (Or.inr sz_b2) all0)
      obtain ⟨T44, h44, lc44, z28_44, g'_44, X44, e44, K44, N44, V_44, qp_44, qo_44, qt_44, ql_44, st44⟩ := sg_h2 l Z a0 hw u0 u1 u2 u3 u4 x5_1 x6_1 x7_1 x8_1 x9_1 b2 x11_3 x12_3 x13_3 x14_3 x15_3 x16_3 x17_3 x18_3 x19_3 x20_3 x21_3 z11 z36 z41 z27_42 z28_43 g'_43 h43 n0 Z43 X43 hx hby hml hZ hown e43 N43 g_b2 V_43 (by omega)
      have Z44 : n0 ≤ h44.size := Nat.le_trans Z43 K44.1
      have KK44 := KK43.trans K44 (allS (P := fun x => x ∈ [] ∨ h0.size ≤ x) (Or.inr sz_b2) all0)
      obtain ⟨T45, h45, lc45, z28_45, g'_45, X45, e45, K45, N45, V_45, qp_45, qo_45, qt_45, ql_45, st45⟩ := sg_h3 l Z a0 hw u0 u1 u2 u3 u4 x5_1 x6_1 x7_1 x8_1 x9_1 b2 x11_3 x12_3 x13_3 x14_3 x15_3 x16_3 x17_3 x18_3 x19_3 x20_3 x21_3 z11 z36 z41 z27_42 z28_44 g'_44 h44 n0 Z44 X44 hx hby hml hZ hown e44 N44 g_b2 V_44 (by omega)
      have Z45 : n0 ≤ h45.size := Nat.le_trans Z44 K45.1
      have KK45 := KK44.trans K45 (allS (P := fun x => x ∈ [] ∨ h0.size ≤ x) (Or.inr sz_b2) all0)
      obtain ⟨T46, h46, lc46, z28_46, g'_46, X46, e46, K46, N46, V_46, qp_46, qo_46, qt_46, ql_46, st46⟩ := sg_hA l Z a0 hw u0 u1 u2 u3 u4 x5_1 x6_1 x7_1 x8_1 x9_1 b2 x11_3 x12_3 x13_3 x14_3 x15_3 x16_3 x17_3 x18_3 x19_3 x20_3 x21_3 z11 z36 z41 z27_42 z28_45 g'_45 h45 n0 Z45 X45 hx hby hml hZ hown e45 N45 g_b2 V_45 (by omega)
      have Z46 : n0 ≤ h46.size := Nat.le_trans Z45 K46.1
      have KK46 := KK45.trans K46 (allS (P := fun x => x ∈ [] ∨ h0.size ≤ x) (Or.inr sz_b2) all0)
      obtain ⟨T47, h47, lc47, z28_47, g'_47, X47, e47, K47, N47, V_47, qp_47, qo_47, st47⟩ := sg_cA l Z a0 hw u0 u1 u2 u3 u4 x5_1 x6_1 x7_1 x8_1 x9_1 b2 x11_3 x12_3 x13_3 x14_3 x15_3 x16_3 x17_3 x18_3 x19_3 x20_3 x21_3 z11 z36 z41 z27_42 z28_46 g'_46 h46 n0 Z46 X46 hx hby hml hZ hown e46 N46 g_b2 V_46 (by omega)
      have Z47 : n0 ≤ h47.size := Nat.le_trans Z46 K47.1
      have KK47 := KK46.trans K47 (allS (P := fun x => x ∈ [] ∨ h0.size ≤ x) (Or.inr sz_b2) all0)
      obtain ⟨T48, h48, lc48, z22_48, z23_48, g'_48, ff_48, cc_48, X48, e48, K48, N48, V_48, q22_48, q23_48, qo_48, qf_48, qt_48, ql_48, qc_48, st48⟩ := sg_fl l Z a0 hw u0 u1 u2 u3 u4 x5_1 x6_1 x7_1 x8_1 x9_1 b2 x11_3 x12_3 x13_3 x14_3 x15_3 x16_3 x17_3 x18_3 x19_3 x20_3 x21_3 z11 z36 z41 z27_42 z28_47 g'_47 h47 n0 Z47 X47 hx hby hml hZ hown e47 N47 g_b2 V_47 (by omega)
      have Z48 : n0 ≤ h48.size := Nat.le_trans Z47 K48.1
      have KK48 := KK47.trans K48 (allS (P := fun x => x ∈ [] ∨ h0.size ≤ x) (Or.inr sz_b2) all0)
      obtain ⟨z49, ez49⟩ : ∃ y : Int32, y = (z23_48 + x8_1) := ⟨_, rfl⟩
      have nz49 : z49.toInt = z23_48.toInt + x8_1.toInt := by rw [ez49]; exact own_iadd (x := z23_48.toInt) (y := x8_1.toInt) rfl rfl (by omega) (by omega)
      have tt43 := TagOK.congr (g' := g'_48) qt_43 (by omega) (by omega) (fun i h1 h2 => by rw [qo_48 i (by omega), qo_47 i (by omega), qo_46 i (by omega), qo_45 i (by omega), qo_44 i (by omega)])
      have tl43 := LenOK.congr (g' := g'_48) ql_43 (fun i h1 h2 => by rw [qo_48 i (by omega), qo_47 i (by omega), qo_46 i (by omega), qo_45 i (by omega), qo_44 i (by omega)])
      have tt44 := TagOK.congr (g' := g'_48) qt_44 (by omega) (by omega) (fun i h1 h2 => by rw [qo_48 i (by omega), qo_47 i (by omega), qo_46 i (by omega), qo_45 i (by omega)])
      have tl44 := LenOK.congr (g' := g'_48) ql_44 (fun i h1 h2 => by rw [qo_48 i (by omega), qo_47 i (by omega), qo_46 i (by omega), qo_45 i (by omega)])
      have tt45 := TagOK.congr (g' := g'_48) qt_45 (by omega) (by omega) (fun i h1 h2 => by rw [qo_48 i (by omega), qo_47 i (by omega), qo_46 i (by omega)])
      have tl45 := LenOK.congr (g' := g'_48) ql_45 (fun i h1 h2 => by rw [qo_48 i (by omega), qo_47 i (by omega), qo_46 i (by omega)])
      have tt46 := TagOK.congr (g' := g'_48) qt_46 (by omega) (by omega) (fun i h1 h2 => by rw [qo_48 i (by omega), qo_47 i (by omega)])
      have tl46 := LenOK.congr (g' := g'_48) ql_46 (fun i h1 h2 => by rw [qo_48 i (by omega), qo_47 i (by omega)])
      obtain ⟨es, hok⟩ := plain3 (n := x9_1.toInt) (mx := z49.toInt) tt43 (by have q := tl43; rwa [show (0 : Int) + 1 + x11_3.toInt = 1 + x11_3.toInt from by omega] at q) (by omega) ⟨by omega, by omega, by omega⟩ (by omega) tt44 tl44 (by omega) ⟨by omega, by omega, by omega⟩ (by omega) tt45 tl45 (by omega) ⟨by omega, by omega, by omega⟩ (by omega) tt46 tl46 (by omega) ⟨by omega, by omega, by omega⟩ qt_48 ql_48 (by omega) ⟨by omega, by omega, by omega⟩ ⟨by omega, by omega⟩ q21_3.2.2 (by omega)
      obtain ⟨_, _, ⟨T50, L50, k50, n50⟩, -, X50, ⟨Lc50, hQ50, l50, y50, z50⟩, st50⟩ := Jvm.LawKit.callS X48 hx (y := (⟨"com/example/fides/fides/Der", "requireShape", "([BI)V"⟩ : MethodName)) hown (mvT hZ (hw _ (List.mem_of_getElem? (i := 16) rfl))) (mvT hZ (hw _ (List.mem_of_getElem? (i := 17) rfl))) (mvT hZ (hw _ (List.mem_of_getElem? (i := 18) rfl))) (mvT hZ (hw _ (List.mem_of_getElem? (i := 19) rfl))) (by decide) (backOf (W := 0) (rm5 l Z a0 hw [] b2 z49 x9_1.toInt g'_48 es h48 n0 Z48 V_48 (by omega) (by omega) (by omega) hok) hZ (hw _ (List.mem_of_getElem? (i := 19) rfl)) (hw _ (List.mem_of_getElem? (i := 18) rfl)) (by decide) (by decide)) (g := (mkF m 489 #[.val (.int u0), .val (.int u1), .val (.int u2), .val (.int u3), .val (.int u4), .val (.int x5_1), .val (.int x6_1), .val (.int x7_1), .val (.int x8_1), .val (.int x9_1), .val (.ref b2), .val (.int x11_3), .val (.int x12_3), .val (.int x13_3), .val (.int x14_3), .val (.int x15_3), .val (.int x16_3), .val (.int x17_3), .val (.int x18_3), .val (.int x19_3), .val (.int x20_3), .val (.int x21_3), .val (.int z22_48), .val (.int z23_48), .val (.int z11), .val (.int z36), .val (.int z41), .val (.int z27_42), .val (.int z28_47)] [(.int z49), (.ref b2)])) rfl (by rw [hml]; rfl) (argsL := [(.ref b2), (.int z49)]) (rest := []) (lenOf pd_1 rfl) rfl (by show 2 * 0 + _ ≤ _; exact Nat.le_of_eq rfl) (hb hby at_489) (fun _ _ => ⟨rfl, e48, (by decide : 1 + 1 ≤ _), (by decide : 65600 + 12 ≤ _)⟩)
      dsimp only [Pt.U, Pt.locs, Pt.cells, Pt.slots] at X50 l50 y50 z50 st50 hQ50
      replace y50 : k50 = 2 := y50
      replace z50 : n50 = 65612 := z50
      rw [y50, z50] at X50
      obtain ⟨rfl, N50q, K50⟩ := hQ50
      have N50 : Fr n0 L50 := l50 ▸ Fr.app N48 N50q
      have Z50 : n0 ≤ T50.heap.size := Nat.le_trans Z48 K50.1
      have KK50 := KK48.trans K50 all0
      obtain ⟨fs, hr, hrun, hended, hW, hsame⟩ := X50.leave (v := some (.int (1 : Int32))) (fun h => by rw [Bd.returns] at h; cases h)
      refine ⟨_, _, pre0 _ ?_, hrun, hended, _, _, rfl, ?_, ⟨_, rfl⟩, hW, hsame.mono (by decide) (by decide)⟩
      · refine st1 _ ?_
        show Steps p.tables e below (T1.setTop (mkF m 58 #[.val (.int u0), .val (.int u1), .val (.int u2), .val (.int u3), .val (.int u4), .val (.int x5_1), .val (.int x6_1), .val (.int x7_1), .val (.int x8_1), .val (.int x9_1), .unset, .unset, .unset, .unset, .unset, .unset, .unset, .unset, .unset, .unset, .unset, .unset, .unset, .unset, .unset, .unset, .unset, .unset, .unset] [])) _
        refine XS.iload X1.here hx rfl (hb hby at_58) rfl ?_
        refine st2 _ ?_
        show Steps p.tables e below (T2.setTop (mkF m 62 #[.val (.int u0), .val (.int u1), .val (.int u2), .val (.int u3), .val (.int u4), .val (.int x5_1), .val (.int x6_1), .val (.int x7_1), .val (.int x8_1), .val (.int x9_1), .unset, .unset, .unset, .unset, .unset, .unset, .unset, .unset, .unset, .unset, .unset, .unset, .unset, .unset, .unset, .unset, .unset, .unset, .unset] [(.ref b2)])) _
        refine XS.astore X2.here hx rfl (hb hby at_62) rfl rfl (l' := #[.val (.int u0), .val (.int u1), .val (.int u2), .val (.int u3), .val (.int u4), .val (.int x5_1), .val (.int x6_1), .val (.int x7_1), .val (.int x8_1), .val (.int x9_1), .val (.ref b2), .unset, .unset, .unset, .unset, .unset, .unset, .unset, .unset, .unset, .unset, .unset, .unset, .unset, .unset, .unset, .unset, .unset, .unset]) rfl ?_
        refine st3 _ ?_
        show Steps p.tables e below (T3.setTop (mkF m 155 #[.val (.int u0), .val (.int u1), .val (.int u2), .val (.int u3), .val (.int u4), .val (.int x5_1), .val (.int x6_1), .val (.int x7_1), .val (.int x8_1), .val (.int x9_1), .val (.ref b2), .val (.int x11_3), .val (.int x12_3), .val (.int x13_3), .val (.int x14_3), .val (.int x15_3), .val (.int x16_3), .val (.int x17_3), .val (.int x18_3), .val (.int x19_3), .val (.int x20_3), .val (.int x21_3), .unset, .unset, .unset, .unset, .unset, .unset, .unset] [])) _
        refine XS.iload X3.here hx rfl (hb hby at_155) rfl ?_
        refine XS.ifYes X3.here hx rfl (pc0 := 157) (pc' := 183) rfl (hb hby at_157) rfl ((if0 _ _).trans (feq hc157).2) (by decide) (by decide) ?_
        refine XS.iconst X3.here hx rfl (hb hby at_183) ?_
        refine XS.iload X3.here hx rfl (hb hby at_184) rfl ?_
        show Steps p.tables e below (T3.setTop (mkF m 186 #[.val (.int u0), .val (.int u1), .val (.int u2), .val (.int u3), .val (.int u4), .val (.int x5_1), .val (.int x6_1), .val (.int x7_1), .val (.int x8_1), .val (.int x9_1), .val (.ref b2), .val (.int x11_3), .val (.int x12_3), .val (.int x13_3), .val (.int x14_3), .val (.int x15_3), .val (.int x16_3), .val (.int x17_3), .val (.int x18_3), .val (.int x19_3), .val (.int x20_3), .val (.int x21_3), .unset, .unset, .unset, .unset, .unset, .unset, .unset] [(.int x14_3), (.int (1 : Int32))])) _
        refine XS.iadd X3.here hx rfl (hb hby at_186) rfl ?_
        show Steps p.tables e below (T3.setTop (mkF m 187 #[.val (.int u0), .val (.int u1), .val (.int u2), .val (.int u3), .val (.int u4), .val (.int x5_1), .val (.int x6_1), .val (.int x7_1), .val (.int x8_1), .val (.int x9_1), .val (.ref b2), .val (.int x11_3), .val (.int x12_3), .val (.int x13_3), .val (.int x14_3), .val (.int x15_3), .val (.int x16_3), .val (.int x17_3), .val (.int x18_3), .val (.int x19_3), .val (.int x20_3), .val (.int x21_3), .unset, .unset, .unset, .unset, .unset, .unset, .unset] [(.int ((1 : Int32) + x14_3))])) _
        rw [← ez7]
        refine XS.iload X3.here hx rfl (hb hby at_187) rfl ?_
        refine st8 _ ?_
        show Steps p.tables e below (T8.setTop (mkF m 192 #[.val (.int u0), .val (.int u1), .val (.int u2), .val (.int u3), .val (.int u4), .val (.int x5_1), .val (.int x6_1), .val (.int x7_1), .val (.int x8_1), .val (.int x9_1), .val (.ref b2), .val (.int x11_3), .val (.int x12_3), .val (.int x13_3), .val (.int x14_3), .val (.int x15_3), .val (.int x16_3), .val (.int x17_3), .val (.int x18_3), .val (.int x19_3), .val (.int x20_3), .val (.int x21_3), .unset, .unset, .unset, .unset, .unset, .unset, .unset] [(.int w8), (.int z7)])) _
        refine XS.iadd X8.here hx rfl (hb hby at_192) rfl ?_
        show Steps p.tables e below (T8.setTop (mkF m 193 #[.val (.int u0), .val (.int u1), .val (.int u2), .val (.int u3), .val (.int u4), .val (.int x5_1), .val (.int x6_1), .val (.int x7_1), .val (.int x8_1), .val (.int x9_1), .val (.ref b2), .val (.int x11_3), .val (.int x12_3), .val (.int x13_3), .val (.int x14_3), .val (.int x15_3), .val (.int x16_3), .val (.int x17_3), .val (.int x18_3), .val (.int x19_3), .val (.int x20_3), .val (.int x21_3), .unset, .unset, .unset, .unset, .unset, .unset, .unset] [(.int (z7 + w8))])) _
        rw [← ez10]
        refine XS.iload X8.here hx rfl (hb hby at_193) rfl ?_
        show Steps p.tables e below (T8.setTop (mkF m 195 #[.val (.int u0), .val (.int u1), .val (.int u2), .val (.int u3), .val (.int u4), .val (.int x5_1), .val (.int x6_1), .val (.int x7_1), .val (.int x8_1), .val (.int x9_1), .val (.ref b2), .val (.int x11_3), .val (.int x12_3), .val (.int x13_3), .val (.int x14_3), .val (.int x15_3), .val (.int x16_3), .val (.int x17_3), .val (.int x18_3), .val (.int x19_3), .val (.int x20_3), .val (.int x21_3), .unset, .unset, .unset, .unset, .unset, .unset, .unset] [(.int x21_3), (.int z10)])) _
        refine XS.iadd X8.here hx rfl (hb hby at_195) rfl ?_
        show Steps p.tables e below (T8.setTop (mkF m 196 #[.val (.int u0), .val (.int u1), .val (.int u2), .val (.int u3), .val (.int u4), .val (.int x5_1), .val (.int x6_1), .val (.int x7_1), .val (.int x8_1), .val (.int x9_1), .val (.ref b2), .val (.int x11_3), .val (.int x12_3), .val (.int x13_3), .val (.int x14_3), .val (.int x15_3), .val (.int x16_3), .val (.int x17_3), .val (.int x18_3), .val (.int x19_3), .val (.int x20_3), .val (.int x21_3), .unset, .unset, .unset, .unset, .unset, .unset, .unset] [(.int (z10 + x21_3))])) _
        rw [← ez11]
        refine XS.istore X8.here hx rfl (hb hby at_196) rfl (l' := #[.val (.int u0), .val (.int u1), .val (.int u2), .val (.int u3), .val (.int u4), .val (.int x5_1), .val (.int x6_1), .val (.int x7_1), .val (.int x8_1), .val (.int x9_1), .val (.ref b2), .val (.int x11_3), .val (.int x12_3), .val (.int x13_3), .val (.int x14_3), .val (.int x15_3), .val (.int x16_3), .val (.int x17_3), .val (.int x18_3), .val (.int x19_3), .val (.int x20_3), .val (.int x21_3), .unset, .unset, .val (.int z11), .unset, .unset, .unset, .unset]) rfl ?_
        refine XS.iload X8.here hx rfl (hb hby at_198) rfl ?_
        refine XS.iconst X8.here hx rfl (hb hby at_200) ?_
        refine XS.icmpNo X8.here hx rfl (hb hby at_201) rfl (flt hc201).1 ?_
        refine XS.iconst X8.here hx rfl (hb hby at_204) ?_
        refine XS.iload X8.here hx rfl (hb hby at_205) rfl ?_
        show Steps p.tables e below (T8.setTop (mkF m 207 #[.val (.int u0), .val (.int u1), .val (.int u2), .val (.int u3), .val (.int u4), .val (.int x5_1), .val (.int x6_1), .val (.int x7_1), .val (.int x8_1), .val (.int x9_1), .val (.ref b2), .val (.int x11_3), .val (.int x12_3), .val (.int x13_3), .val (.int x14_3), .val (.int x15_3), .val (.int x16_3), .val (.int x17_3), .val (.int x18_3), .val (.int x19_3), .val (.int x20_3), .val (.int x21_3), .unset, .unset, .val (.int z11), .unset, .unset, .unset, .unset] [(.int x13_3), (.int (1 : Int32))])) _
        refine XS.iadd X8.here hx rfl (hb hby at_207) rfl ?_
        show Steps p.tables e below (T8.setTop (mkF m 208 #[.val (.int u0), .val (.int u1), .val (.int u2), .val (.int u3), .val (.int u4), .val (.int x5_1), .val (.int x6_1), .val (.int x7_1), .val (.int x8_1), .val (.int x9_1), .val (.ref b2), .val (.int x11_3), .val (.int x12_3), .val (.int x13_3), .val (.int x14_3), .val (.int x15_3), .val (.int x16_3), .val (.int x17_3), .val (.int x18_3), .val (.int x19_3), .val (.int x20_3), .val (.int x21_3), .unset, .unset, .val (.int z11), .unset, .unset, .unset, .unset] [(.int ((1 : Int32) + x13_3))])) _
        rw [← ez32]
        refine XS.iload X8.here hx rfl (hb hby at_208) rfl ?_
        refine st33 _ ?_
        show Steps p.tables e below (T33.setTop (mkF m 213 #[.val (.int u0), .val (.int u1), .val (.int u2), .val (.int u3), .val (.int u4), .val (.int x5_1), .val (.int x6_1), .val (.int x7_1), .val (.int x8_1), .val (.int x9_1), .val (.ref b2), .val (.int x11_3), .val (.int x12_3), .val (.int x13_3), .val (.int x14_3), .val (.int x15_3), .val (.int x16_3), .val (.int x17_3), .val (.int x18_3), .val (.int x19_3), .val (.int x20_3), .val (.int x21_3), .unset, .unset, .val (.int z11), .unset, .unset, .unset, .unset] [(.int w33), (.int z32)])) _
        refine XS.iadd X33.here hx rfl (hb hby at_213) rfl ?_
        show Steps p.tables e below (T33.setTop (mkF m 214 #[.val (.int u0), .val (.int u1), .val (.int u2), .val (.int u3), .val (.int u4), .val (.int x5_1), .val (.int x6_1), .val (.int x7_1), .val (.int x8_1), .val (.int x9_1), .val (.ref b2), .val (.int x11_3), .val (.int x12_3), .val (.int x13_3), .val (.int x14_3), .val (.int x15_3), .val (.int x16_3), .val (.int x17_3), .val (.int x18_3), .val (.int x19_3), .val (.int x20_3), .val (.int x21_3), .unset, .unset, .val (.int z11), .unset, .unset, .unset, .unset] [(.int (z32 + w33))])) _
        rw [← ez35]
        refine XS.iload X33.here hx rfl (hb hby at_214) rfl ?_
        show Steps p.tables e below (T33.setTop (mkF m 216 #[.val (.int u0), .val (.int u1), .val (.int u2), .val (.int u3), .val (.int u4), .val (.int x5_1), .val (.int x6_1), .val (.int x7_1), .val (.int x8_1), .val (.int x9_1), .val (.ref b2), .val (.int x11_3), .val (.int x12_3), .val (.int x13_3), .val (.int x14_3), .val (.int x15_3), .val (.int x16_3), .val (.int x17_3), .val (.int x18_3), .val (.int x19_3), .val (.int x20_3), .val (.int x21_3), .unset, .unset, .val (.int z11), .unset, .unset, .unset, .unset] [(.int z11), (.int z35)])) _
        refine XS.iadd X33.here hx rfl (hb hby at_216) rfl ?_
        show Steps p.tables e below (T33.setTop (mkF m 217 #[.val (.int u0), .val (.int u1), .val (.int u2), .val (.int u3), .val (.int u4), .val (.int x5_1), .val (.int x6_1), .val (.int x7_1), .val (.int x8_1), .val (.int x9_1), .val (.ref b2), .val (.int x11_3), .val (.int x12_3), .val (.int x13_3), .val (.int x14_3), .val (.int x15_3), .val (.int x16_3), .val (.int x17_3), .val (.int x18_3), .val (.int x19_3), .val (.int x20_3), .val (.int x21_3), .unset, .unset, .val (.int z11), .unset, .unset, .unset, .unset] [(.int (z35 + z11))])) _
        rw [← ez36]
        refine XS.goto X33.here hx rfl (pc0 := 217) (pc' := 222) rfl (hb hby at_217) (by decide) (by decide) ?_
        refine XS.istore X33.here hx rfl (hb hby at_222) rfl (l' := #[.val (.int u0), .val (.int u1), .val (.int u2), .val (.int u3), .val (.int u4), .val (.int x5_1), .val (.int x6_1), .val (.int x7_1), .val (.int x8_1), .val (.int x9_1), .val (.ref b2), .val (.int x11_3), .val (.int x12_3), .val (.int x13_3), .val (.int x14_3), .val (.int x15_3), .val (.int x16_3), .val (.int x17_3), .val (.int x18_3), .val (.int x19_3), .val (.int x20_3), .val (.int x21_3), .unset, .unset, .val (.int z11), .val (.int z36), .unset, .unset, .unset]) rfl ?_
        refine XS.iload X33.here hx rfl (hb hby at_224) rfl ?_
        refine XS.iconst X33.here hx rfl (hb hby at_226) ?_
        refine XS.icmpNo X33.here hx rfl (hb hby at_227) rfl (flt (own_lt0' (x := x6_1.toInt) (y := (2 : Int)) rfl rfl (by omega))).1 ?_
        refine XS.iconst X33.here hx rfl (hb hby at_230) ?_
        refine XS.iload X33.here hx rfl (hb hby at_231) rfl ?_
        show Steps p.tables e below (T33.setTop (mkF m 233 #[.val (.int u0), .val (.int u1), .val (.int u2), .val (.int u3), .val (.int u4), .val (.int x5_1), .val (.int x6_1), .val (.int x7_1), .val (.int x8_1), .val (.int x9_1), .val (.ref b2), .val (.int x11_3), .val (.int x12_3), .val (.int x13_3), .val (.int x14_3), .val (.int x15_3), .val (.int x16_3), .val (.int x17_3), .val (.int x18_3), .val (.int x19_3), .val (.int x20_3), .val (.int x21_3), .unset, .unset, .val (.int z11), .val (.int z36), .unset, .unset, .unset] [(.int x12_3), (.int (1 : Int32))])) _
        refine XS.iadd X33.here hx rfl (hb hby at_233) rfl ?_
        show Steps p.tables e below (T33.setTop (mkF m 234 #[.val (.int u0), .val (.int u1), .val (.int u2), .val (.int u3), .val (.int u4), .val (.int x5_1), .val (.int x6_1), .val (.int x7_1), .val (.int x8_1), .val (.int x9_1), .val (.ref b2), .val (.int x11_3), .val (.int x12_3), .val (.int x13_3), .val (.int x14_3), .val (.int x15_3), .val (.int x16_3), .val (.int x17_3), .val (.int x18_3), .val (.int x19_3), .val (.int x20_3), .val (.int x21_3), .unset, .unset, .val (.int z11), .val (.int z36), .unset, .unset, .unset] [(.int ((1 : Int32) + x12_3))])) _
        rw [← ez37]
        refine XS.iload X33.here hx rfl (hb hby at_234) rfl ?_
        refine st38 _ ?_
        show Steps p.tables e below (T38.setTop (mkF m 239 #[.val (.int u0), .val (.int u1), .val (.int u2), .val (.int u3), .val (.int u4), .val (.int x5_1), .val (.int x6_1), .val (.int x7_1), .val (.int x8_1), .val (.int x9_1), .val (.ref b2), .val (.int x11_3), .val (.int x12_3), .val (.int x13_3), .val (.int x14_3), .val (.int x15_3), .val (.int x16_3), .val (.int x17_3), .val (.int x18_3), .val (.int x19_3), .val (.int x20_3), .val (.int x21_3), .unset, .unset, .val (.int z11), .val (.int z36), .unset, .unset, .unset] [(.int w38), (.int z37)])) _
        refine XS.iadd X38.here hx rfl (hb hby at_239) rfl ?_
        show Steps p.tables e below (T38.setTop (mkF m 240 #[.val (.int u0), .val (.int u1), .val (.int u2), .val (.int u3), .val (.int u4), .val (.int x5_1), .val (.int x6_1), .val (.int x7_1), .val (.int x8_1), .val (.int x9_1), .val (.ref b2), .val (.int x11_3), .val (.int x12_3), .val (.int x13_3), .val (.int x14_3), .val (.int x15_3), .val (.int x16_3), .val (.int x17_3), .val (.int x18_3), .val (.int x19_3), .val (.int x20_3), .val (.int x21_3), .unset, .unset, .val (.int z11), .val (.int z36), .unset, .unset, .unset] [(.int (z37 + w38))])) _
        rw [← ez40]
        refine XS.iload X38.here hx rfl (hb hby at_240) rfl ?_
        show Steps p.tables e below (T38.setTop (mkF m 242 #[.val (.int u0), .val (.int u1), .val (.int u2), .val (.int u3), .val (.int u4), .val (.int x5_1), .val (.int x6_1), .val (.int x7_1), .val (.int x8_1), .val (.int x9_1), .val (.ref b2), .val (.int x11_3), .val (.int x12_3), .val (.int x13_3), .val (.int x14_3), .val (.int x15_3), .val (.int x16_3), .val (.int x17_3), .val (.int x18_3), .val (.int x19_3), .val (.int x20_3), .val (.int x21_3), .unset, .unset, .val (.int z11), .val (.int z36), .unset, .unset, .unset] [(.int z36), (.int z40)])) _
        refine XS.iadd X38.here hx rfl (hb hby at_242) rfl ?_
        show Steps p.tables e below (T38.setTop (mkF m 243 #[.val (.int u0), .val (.int u1), .val (.int u2), .val (.int u3), .val (.int u4), .val (.int x5_1), .val (.int x6_1), .val (.int x7_1), .val (.int x8_1), .val (.int x9_1), .val (.ref b2), .val (.int x11_3), .val (.int x12_3), .val (.int x13_3), .val (.int x14_3), .val (.int x15_3), .val (.int x16_3), .val (.int x17_3), .val (.int x18_3), .val (.int x19_3), .val (.int x20_3), .val (.int x21_3), .unset, .unset, .val (.int z11), .val (.int z36), .unset, .unset, .unset] [(.int (z40 + z36))])) _
        rw [← ez41]
        refine XS.goto X38.here hx rfl (pc0 := 243) (pc' := 248) rfl (hb hby at_243) (by decide) (by decide) ?_
        refine XS.istore X38.here hx rfl (hb hby at_248) rfl (l' := #[.val (.int u0), .val (.int u1), .val (.int u2), .val (.int u3), .val (.int u4), .val (.int x5_1), .val (.int x6_1), .val (.int x7_1), .val (.int x8_1), .val (.int x9_1), .val (.ref b2), .val (.int x11_3), .val (.int x12_3), .val (.int x13_3), .val (.int x14_3), .val (.int x15_3), .val (.int x16_3), .val (.int x17_3), .val (.int x18_3), .val (.int x19_3), .val (.int x20_3), .val (.int x21_3), .unset, .unset, .val (.int z11), .val (.int z36), .val (.int z41), .unset, .unset]) rfl ?_
        refine st42 _ ?_
        refine st43 _ ?_
        show Steps p.tables e below (T43.setTop (mkF m 295 #[.val (.int u0), .val (.int u1), .val (.int u2), .val (.int u3), .val (.int u4), .val (.int x5_1), .val (.int x6_1), .val (.int x7_1), .val (.int x8_1), .val (.int x9_1), .val (.ref b2), .val (.int x11_3), .val (.int x12_3), .val (.int x13_3), .val (.int x14_3), .val (.int x15_3), .val (.int x16_3), .val (.int x17_3), .val (.int x18_3), .val (.int x19_3), .val (.int x20_3), .val (.int x21_3), .unset, .unset, .val (.int z11), .val (.int z36), .val (.int z41), .val (.int z27_42), .val (.int z28_43)] [])) _
        refine XS.iload X43.here hx rfl (hb hby at_295) rfl ?_
        refine XS.iconst X43.here hx rfl (hb hby at_297) ?_
        refine XS.icmpNo X43.here hx rfl (hb hby at_298) rfl (flt (own_lt0' (x := x6_1.toInt) (y := (2 : Int)) rfl rfl (by omega))).1 ?_
        refine st44 _ ?_
        show Steps p.tables e below (T44.setTop (mkF m 329 #[.val (.int u0), .val (.int u1), .val (.int u2), .val (.int u3), .val (.int u4), .val (.int x5_1), .val (.int x6_1), .val (.int x7_1), .val (.int x8_1), .val (.int x9_1), .val (.ref b2), .val (.int x11_3), .val (.int x12_3), .val (.int x13_3), .val (.int x14_3), .val (.int x15_3), .val (.int x16_3), .val (.int x17_3), .val (.int x18_3), .val (.int x19_3), .val (.int x20_3), .val (.int x21_3), .unset, .unset, .val (.int z11), .val (.int z36), .val (.int z41), .val (.int z27_42), .val (.int z28_44)] [])) _
        refine XS.iload X44.here hx rfl (hb hby at_329) rfl ?_
        refine XS.iconst X44.here hx rfl (hb hby at_331) ?_
        refine XS.icmpNo X44.here hx rfl (hb hby at_332) rfl (flt hc201).1 ?_
        refine st45 _ ?_
        refine st46 _ ?_
        refine st47 _ ?_
        refine st48 _ ?_
        show Steps p.tables e below (T48.setTop (mkF m 473 #[.val (.int u0), .val (.int u1), .val (.int u2), .val (.int u3), .val (.int u4), .val (.int x5_1), .val (.int x6_1), .val (.int x7_1), .val (.int x8_1), .val (.int x9_1), .val (.ref b2), .val (.int x11_3), .val (.int x12_3), .val (.int x13_3), .val (.int x14_3), .val (.int x15_3), .val (.int x16_3), .val (.int x17_3), .val (.int x18_3), .val (.int x19_3), .val (.int x20_3), .val (.int x21_3), .val (.int z22_48), .val (.int z23_48), .val (.int z11), .val (.int z36), .val (.int z41), .val (.int z27_42), .val (.int z28_47)] [])) _
        refine XS.iload X48.here hx rfl (hb hby at_473) rfl ?_
        refine XS.iload X48.here hx rfl (hb hby at_475) rfl ?_
        refine XS.icmpYes X48.here hx rfl (pc0 := 477) (pc' := 482) rfl (hb hby at_477) rfl (teq (own_eq1' (x := z22_48.toInt) (y := x9_1.toInt) rfl rfl (by omega))).1 (by decide) (by decide) ?_
        refine XS.aload X48.here hx rfl (hb hby at_482) rfl rfl ?_
        refine XS.iload X48.here hx rfl (hb hby at_484) rfl ?_
        refine XS.iload X48.here hx rfl (hb hby at_486) rfl ?_
        show Steps p.tables e below (T48.setTop (mkF m 488 #[.val (.int u0), .val (.int u1), .val (.int u2), .val (.int u3), .val (.int u4), .val (.int x5_1), .val (.int x6_1), .val (.int x7_1), .val (.int x8_1), .val (.int x9_1), .val (.ref b2), .val (.int x11_3), .val (.int x12_3), .val (.int x13_3), .val (.int x14_3), .val (.int x15_3), .val (.int x16_3), .val (.int x17_3), .val (.int x18_3), .val (.int x19_3), .val (.int x20_3), .val (.int x21_3), .val (.int z22_48), .val (.int z23_48), .val (.int z11), .val (.int z36), .val (.int z41), .val (.int z27_42), .val (.int z28_47)] [(.int x8_1), (.int z23_48), (.ref b2)])) _
        refine XS.iadd X48.here hx rfl (hb hby at_488) rfl ?_
        show Steps p.tables e below (T48.setTop (mkF m 489 #[.val (.int u0), .val (.int u1), .val (.int u2), .val (.int u3), .val (.int u4), .val (.int x5_1), .val (.int x6_1), .val (.int x7_1), .val (.int x8_1), .val (.int x9_1), .val (.ref b2), .val (.int x11_3), .val (.int x12_3), .val (.int x13_3), .val (.int x14_3), .val (.int x15_3), .val (.int x16_3), .val (.int x17_3), .val (.int x18_3), .val (.int x19_3), .val (.int x20_3), .val (.int x21_3), .val (.int z22_48), .val (.int z23_48), .val (.int z11), .val (.int z36), .val (.int z41), .val (.int z27_42), .val (.int z28_47)] [(.int (z23_48 + x8_1)), (.ref b2)])) _
        rw [← ez49]
        refine st50 _ ?_
        show Steps p.tables e below (T50.setTop (mkF m 492 #[.val (.int u0), .val (.int u1), .val (.int u2), .val (.int u3), .val (.int u4), .val (.int x5_1), .val (.int x6_1), .val (.int x7_1), .val (.int x8_1), .val (.int x9_1), .val (.ref b2), .val (.int x11_3), .val (.int x12_3), .val (.int x13_3), .val (.int x14_3), .val (.int x15_3), .val (.int x16_3), .val (.int x17_3), .val (.int x18_3), .val (.int x19_3), .val (.int x20_3), .val (.int x21_3), .val (.int z22_48), .val (.int z23_48), .val (.int z11), .val (.int z36), .val (.int z41), .val (.int z27_42), .val (.int z28_47)] [])) _
        refine XS.iconst X50.here hx rfl (hb hby at_492) ?_
        show Steps p.tables e below (T50.setTop (mkF m 493 #[.val (.int u0), .val (.int u1), .val (.int u2), .val (.int u3), .val (.int u4), .val (.int x5_1), .val (.int x6_1), .val (.int x7_1), .val (.int x8_1), .val (.int x9_1), .val (.ref b2), .val (.int x11_3), .val (.int x12_3), .val (.int x13_3), .val (.int x14_3), .val (.int x15_3), .val (.int x16_3), .val (.int x17_3), .val (.int x18_3), .val (.int x19_3), .val (.int x20_3), .val (.int x21_3), .val (.int z22_48), .val (.int z23_48), .val (.int z11), .val (.int z36), .val (.int z41), .val (.int z27_42), .val (.int z28_47)] [(.int (1 : Int32))])) _
        exact retN X50 hx (t := .boolean) Bd.returns (by simp) (hb hby at_493) hr
      · show Q0 Z u0 u1 u2 u3 u4 h0 n0 _ T50.heap _
        exact ⟨rfl, N50⟩
set_option maxRecDepth 65536 in
set_option maxHeartbeats 40000000 in
theorem comes_1 {Post : Tables → Env → Array Value → State → Outcome → State → Prop} (hpost : ∀ tb e args s v u, (limb_1_1.after args s (.returned v) u = true ∧ limb_1_2.after args s (.returned v) u = true ∧ True) → FrameEnd s (.returned v) u (Jvm.fieldLocs frame_1_writes args s ++ Jvm.arrayLocs frame_1_arrays args s ++ Jvm.staticLocs frame_1_statics s) 16 131328 → Post tb e args s (.returned v) u) :
    ArmFor flags0 classFile x code maxLocals ret World_1 tables_1 room_1 Calls_1 rest_1 Pre_1 Post := by
  intro l hfl _ _ p e ha hc hk s m args below hf hA hF happ hP
  obtain ⟨hcalls, hrest, hpre⟩ := hP
  obtain ⟨-, -, -, hnamed, -, -, -, hat⟩ := (Spec.applies_iff hf).mp happ
  obtain ⟨hg, hn⟩ := and_e (Cond.before_iff.mp (show (Jvm.Cond.and given_1 narrow_1).before args s = true from hpre))
  obtain ⟨g1, g2⟩ := and_e hg
  obtain ⟨g3, g4⟩ := and_e g2
  obtain ⟨g5, g6⟩ := and_e g4
  obtain ⟨g7, g8⟩ := and_e g6
  obtain ⟨g9, g10⟩ := and_e g8
  obtain ⟨w0, w1, w2, w3, w4, rfl⟩ : ∃ w0 w1 w2 w3 w4 : Value, args = #[w0, w1, w2, w3, w4] := by
    have hs : args.size = 5 := by simpa [Cond.value, given_1] using g1
    obtain ⟨L⟩ := args
    match L, hs with
    | [w0, w1, w2, w3, w4], _ => exact ⟨w0, w1, w2, w3, w4, rfl⟩
  have hw := fun d (hd : d ∈ tables_1) => atoms_spec (ws := Jvm.Cond.code x code maxLocals ret :: tables_1) hat d (List.mem_cons_of_mem _ hd)
  have hfit : Fit s := fun {y c} hc i hi => by
    obtain ⟨ha, rfl⟩ := Array.getElem?_eq_some_iff.mp hc
    have q := List.all_eq_true.mp ((Array.all_eq_true_iff_forall_mem.mp hF) _ (Array.getElem_mem ha)) i (List.mem_range.mpr hi)
    simpa [Array.getElem?_eq_getElem hi] using q
  obtain ⟨i0, ei0⟩ := is_v g3
  obtain rfl : w0 = (.int i0) := Option.some.inj ei0
  obtain ⟨i1, ei1⟩ := is_v g5
  obtain rfl : w1 = (.int i1) := Option.some.inj ei1
  obtain ⟨i2, ei2⟩ := is_v g7
  obtain rfl : w2 = (.int i2) := Option.some.inj ei2
  obtain ⟨i3, ei3⟩ := is_v g9
  obtain rfl : w3 = (.int i3) := Option.some.inj ei3
  obtain ⟨i4, ei4⟩ := is_v g10
  obtain rfl : w4 = (.int i4) := Option.some.inj ei4
  obtain ⟨n, o, h1, h2, h3, _, L, rfl, ⟨rfl, N⟩, hq⟩ := rm0 l s _ hw tables_1 i0 i1 i2 i3 i4 s.heap s.heap.size (Nat.le_refl _)  p e ha hc hk s m _ below hf ((Spec.applies_iff_loose hf).mp happ).1 ⟨rfl, State.Warmed39.refl s, rfl⟩ trivial
  refine ⟨n, _, h1, h2, h3, hpost _ _ _ _ _ _ ⟨Cond.after_iff.mpr rfl, Cond.after_iff.mpr (eq_i res_at (Term.int_eval (1)) rfl), trivial⟩ ⟨hq.1, hq.2.1, (hq.2.2.sift fun y hy => Or.inr (N y hy)).mono (by decide) (by decide)⟩⟩
theorem main_1_1 : Claimed_1_1 := comes_1 fun _ _ _ _ _ _ h hF => ⟨h.1, hF⟩
theorem main_1_2 : Claimed_1_2 := comes_1 fun _ _ _ _ _ _ h hF => ⟨h.2.1, hF⟩
end Jvm.Pilot.@@N@@
namespace Jvm.Pilot.@@N@@
open Jvm Jvm.ClassFile Sem Op Lib Jvm.Free Jvm.Stand Jvm.Pilot.@@N@@.Jvm.D
/-! MADE BY PROGRAM (witnessworld.py) out of the Statement's table words and the real class files: 9 classes; the members and pool entries that the words name. The judged class is class 1, her method 6. -/
namespace start1
open Jvm.ClassFile
def u (s : String) : CpInfo := .utf8 (stringToUtf16 s)
/-- a pool by its gaps: so many unusable entries, then the entry; so many at the end -/
def gap : Nat → List CpInfo → List CpInfo
  | 0, r => r
  | n + 1, r => .unusable :: gap n r
def poolList (es : List (Nat × CpInfo)) (last : Nat) : List CpInfo := es.foldr (fun e r => gap e.1 (e.2 :: r)) (gap last [])
def pool (es : List (Nat × CpInfo)) (last : Nat) : Array CpInfo := ⟨poolList es last⟩
def fileOf (pool : Array CpInfo) (this : Nat) (attrs : Array Attribute := #[]) (ms : Array MethodInfo := #[]) (fl : Nat := 33) (sup : Nat := 0) (ifs : Array Nat := #[]) (fds : Array FieldInfo := #[]) : ClassFile where
  minorVersion := 0
  majorVersion := 65
  constantPool := pool
  accessFlags := fl
  thisClass := this
  superClass := sup
  interfaces := ifs
  fields := fds
  methods := ms
  attributes := attrs
def plain (name : String) (sup : Option ClassId) : Class where
  name := name
  kind := .ordinary
  loader := none
  accessFlags := 33
  super := sup
  interfaces := #[]
  cf := none
  fields := #[]
  methods := #[]
  instanceTypes := #[]
  staticTypes := #[]
  resolved := #[]
  callSites := []
  init := .initialized
  statics := none
  mirror := none

def pool0 : Array CpInfo := pool [(5, u "<init>"), (0, u "()V"), (1, .class_ 10), (1, u "java/lang/Object")] 113

def k0m0 : Method := { name := "<init>", desc := "()V", sig := { parameters := [], returnType := none }, accessFlags := 1, code := none }
/-- java/lang/Object -/
def k0 : Class := { plain "java/lang/Object" none with
  accessFlags := 33
  interfaces := #[]
  cf := some (fileOf pool0 8 #[] #[{ accessFlags := 1, nameIndex := 5, descriptorIndex := 6, attributes := #[] }] 33 0 #[] #[])
  fields := #[]
  methods := #[k0m0]
  instanceTypes := #[]
  staticTypes := #[]
  resolved := Array.replicate 124 none
  statics := none }

def pool1 : Array CpInfo := pool [(2, .class_ 4), (1, u "java/lang/Object"), (0, u "<init>"), (0, u "()V"), (0, .integer 65536), (0, .integer 2147483647), (0, .methodref 10 11), (0, .class_ 12), (0, .nameAndType 13 14), (0, u "com/example/fides/fides/DerRequireShapePinLaw"), (0, u "contentFor"), (0, u "(I)I"), (0, .methodref 10 16), (0, .nameAndType 17 18), (0, u "putTag"), (0, u "([BIIIZI)I"), (0, .methodref 10 20), (0, .nameAndType 21 22), (0, u "putLen"), (0, u "([BII)I"), (0, .integer 65600), (0, .methodref 10 25), (0, .nameAndType 26 27), (0, u "putFiller"), (0, u "([BIIIIII)I"), (0, .methodref 10 29), (0, .nameAndType 30 14), (0, u "lenSize"), (0, .methodref 32 33), (0, .class_ 34), (0, .nameAndType 35 36), (0, u "com/example/fides/fides/Der"), (0, u "requireShape"), (0, u "([BI)V"), (5, u "law"), (0, u "(IIIII)Z")] 2

def k1m0 : Method := { name := "<init>", desc := "()V", sig := { parameters := [], returnType := none }, accessFlags := 2, code := none }
def k1c1 : Code := { maxStack := 2, maxLocals := 1, code := method_2_code, exceptionTable := #[], attributes := #[] }
def k1m1 : Method := { name := "lenSize", desc := "(I)I", sig := { parameters := [.int], returnType := some .int }, accessFlags := 10, code := some k1c1 }
def k1c2 : Code := { maxStack := 4, maxLocals := 3, code := method_3_code, exceptionTable := #[], attributes := #[] }
def k1m2 : Method := { name := "putLen", desc := "([BII)I", sig := { parameters := [(.array .byte), .int, .int], returnType := some .int }, accessFlags := 10, code := some k1c2 }
def k1c3 : Code := { maxStack := 6, maxLocals := 8, code := method_4_code, exceptionTable := #[], attributes := #[] }
def k1m3 : Method := { name := "putTag", desc := "([BIIIZI)I", sig := { parameters := [(.array .byte), .int, .int, .int, .boolean, .int], returnType := some .int }, accessFlags := 10, code := some k1c3 }
def k1c4 : Code := { maxStack := 2, maxLocals := 1, code := method_5_code, exceptionTable := #[], attributes := #[] }
def k1m4 : Method := { name := "contentFor", desc := "(I)I", sig := { parameters := [.int], returnType := some .int }, accessFlags := 10, code := some k1c4 }
def k1c5 : Code := { maxStack := 6, maxLocals := 10, code := method_6_code, exceptionTable := #[], attributes := #[] }
def k1m5 : Method := { name := "putFiller", desc := "([BIIIIII)I", sig := { parameters := [(.array .byte), .int, .int, .int, .int, .int, .int], returnType := some .int }, accessFlags := 10, code := some k1c5 }
def k1c6 : Code := { maxStack := 7, maxLocals := 29, code := code, exceptionTable := #[], attributes := #[] }
def k1m6 : Method := { name := "law", desc := "(IIIII)Z", sig := { parameters := [.int, .int, .int, .int, .int], returnType := some .boolean }, accessFlags := 9, code := some k1c6 }
/-- com/example/fides/fides/DerRequireShapePinLaw -/
def k1 : Class := { plain "com/example/fides/fides/DerRequireShapePinLaw" (some 0) with
  accessFlags := 49
  interfaces := #[]
  cf := some (fileOf pool1 10 #[] #[{ accessFlags := 2, nameIndex := 5, descriptorIndex := 6, attributes := #[] }, { accessFlags := 10, nameIndex := 30, descriptorIndex := 14, attributes := #[] }, { accessFlags := 10, nameIndex := 21, descriptorIndex := 22, attributes := #[] }, { accessFlags := 10, nameIndex := 17, descriptorIndex := 18, attributes := #[] }, { accessFlags := 10, nameIndex := 13, descriptorIndex := 14, attributes := #[] }, { accessFlags := 10, nameIndex := 26, descriptorIndex := 27, attributes := #[] }, { accessFlags := 9, nameIndex := 42, descriptorIndex := 43, attributes := #[] }] 49 2 #[] #[])
  fields := #[]
  methods := #[k1m0, k1m1, k1m2, k1m3, k1m4, k1m5, k1m6]
  instanceTypes := #[]
  staticTypes := #[]
  resolved := Array.replicate 46 none
  statics := none }

def pool2 : Array CpInfo := pool [(2, .class_ 4), (1, u "java/lang/Object"), (0, u "<init>"), (0, u "()V"), (9, .methodref 17 18), (0, .class_ 19), (0, .nameAndType 20 21), (0, u "com/example/fides/fides/Der"), (0, u "byteAt"), (0, u "([BII)I"), (9, u "CONSTRUCTED"), (0, u "I"), (2, u "HIGH_TAG_NUMBER"), (1, u "MORE_BYTES"), (1, u "MAX_LENGTH_BYTES"), (1, u "RUNS_PAST"), (0, u "Ljava/lang/String;"), (2, u "requireShape"), (0, u "([BI)V")] 24

def k2m0 : Method := { name := "<init>", desc := "()V", sig := { parameters := [], returnType := none }, accessFlags := 2, code := none }
def k2c1 : Code := { maxStack := 4, maxLocals := 11, code := prog_3_method_2_code, exceptionTable := #[], attributes := #[] }
def k2m1 : Method := { name := "requireShape", desc := "([BI)V", sig := { parameters := [(.array .byte), .int], returnType := none }, accessFlags := 8, code := some k2c1 }
def k2c2 : Code := { maxStack := 3, maxLocals := 3, code := prog_3_method_3_code, exceptionTable := #[], attributes := #[] }
def k2m2 : Method := { name := "byteAt", desc := "([BII)I", sig := { parameters := [(.array .byte), .int, .int], returnType := some .int }, accessFlags := 10, code := some k2c2 }
/-- com/example/fides/fides/Der -/
def k2 : Class := { plain "com/example/fides/fides/Der" (some 0) with
  accessFlags := 32
  interfaces := #[]
  cf := some (fileOf pool2 17 #[] #[{ accessFlags := 2, nameIndex := 5, descriptorIndex := 6, attributes := #[] }, { accessFlags := 8, nameIndex := 45, descriptorIndex := 46, attributes := #[] }, { accessFlags := 10, nameIndex := 20, descriptorIndex := 21, attributes := #[] }] 32 2 #[] #[{ accessFlags := 26, nameIndex := 31, descriptorIndex := 32, attributes := #[] }, { accessFlags := 26, nameIndex := 35, descriptorIndex := 32, attributes := #[] }, { accessFlags := 26, nameIndex := 37, descriptorIndex := 32, attributes := #[] }, { accessFlags := 26, nameIndex := 39, descriptorIndex := 32, attributes := #[] }, { accessFlags := 26, nameIndex := 41, descriptorIndex := 42, attributes := #[] }])
  fields := #[{ name := "CONSTRUCTED", type := .int, accessFlags := 26, slot := 0, constantValue := 0 }, { name := "HIGH_TAG_NUMBER", type := .int, accessFlags := 26, slot := 1, constantValue := 0 }, { name := "MORE_BYTES", type := .int, accessFlags := 26, slot := 2, constantValue := 0 }, { name := "MAX_LENGTH_BYTES", type := .int, accessFlags := 26, slot := 3, constantValue := 0 }, { name := "RUNS_PAST", type := (.object "java/lang/String"), accessFlags := 26, slot := 4, constantValue := 0 }]
  methods := #[k2m0, k2m1, k2m2]
  instanceTypes := #[]
  staticTypes := #[.int, .int, .int, .int, (.object "java/lang/String")]
  resolved := Array.replicate 71 none
  statics := none }

def pool3 : Array CpInfo := pool [(1, u "java/lang/Cloneable"), (0, .class_ 1), (0, u "java/lang/Object"), (0, .class_ 3)] 3

/-- java/lang/Cloneable -/
def k3 : Class := { plain "java/lang/Cloneable" (some 0) with
  accessFlags := 1537
  interfaces := #[]
  cf := some (fileOf pool3 2 #[] #[] 1537 4 #[] #[])
  fields := #[]
  methods := #[]
  instanceTypes := #[]
  staticTypes := #[]
  resolved := Array.replicate 8 none
  statics := none }

def pool4 : Array CpInfo := pool [(1, u "java/io/Serializable"), (0, .class_ 1), (0, u "java/lang/Object"), (0, .class_ 3)] 3

/-- java/io/Serializable -/
def k4 : Class := { plain "java/io/Serializable" (some 0) with
  accessFlags := 1537
  interfaces := #[]
  cf := some (fileOf pool4 2 #[] #[] 1537 4 #[] #[])
  fields := #[]
  methods := #[]
  instanceTypes := #[]
  staticTypes := #[]
  resolved := Array.replicate 8 none
  statics := none }

/-- the primitive byte -/
def k5 : Class := { plain "byte" none with kind := .primitive 'B', accessFlags := 0x411 }
/-- [B -/
def k6 : Class := { plain "[B" (some 0) with kind := .array 5 .byte, interfaces := #[3, 4], accessFlags := 1041 }

/-- the primitive int -/
def k7 : Class := { plain "int" none with kind := .primitive 'I', accessFlags := 0x411 }
/-- [I -/
def k8 : Class := { plain "[I" (some 0) with kind := .array 7 .int, interfaces := #[3, 4], accessFlags := 1041 }

def heap : Heap := #[]
def classes : Array Class := #[k0, k1, k2, k3, k4, k5, k6, k7, k8]
def interned : List (Array UInt16 × Addr) := []
def slotsUsed : Nat := 0
def theMethod : MethodId := ⟨1, 6⟩
def args0 : Array Value := #[.int 5, .int 5, .int 5, .int 5, .int 5]
def aboutOver (below : List Frame) : State where
  vm := { classes := classes, interned := interned.toArray }
  heap := heap
  slotsUsed := slotsUsed
  threads := #[{ frames := .invoking theMethod args0 :: below }]
def below0 : List Frame := [.native { method := ⟨0, 0⟩, args := #[] }]
def about1 : State := aboutOver below0
def p0 : Program := .bare "" "" ""
def e0 : Env := launch0.env 0 0 0
theorem w_frames : about1.frames = Frame.invoking theMethod args0 :: below0 := rfl
set_option maxRecDepth 65536 in
theorem w_args : argsFit about1.vm theMethod args0 = true := by decide +kernel
set_option maxRecDepth 65536 in
theorem w_heap : heapFits about1 = true := by decide +kernel
set_option maxRecDepth 65536 in
theorem w_runnable : about1.curStatus? = some .runnable := by decide +kernel
set_option maxRecDepth 65536 in
theorem w_alone : about1.alone = true := by decide +kernel
set_option maxRecDepth 65536 in
theorem w_named : about1.methodNamed? x = some theMethod := by decide +kernel
set_option maxRecDepth 65536 in
theorem w_hears : about1.hears theMethod below0 = true := by decide +kernel
set_option maxRecDepth 65536 in
theorem w_ripe : about1.ripe theMethod args0 below0 = true := by decide +kernel
theorem w_running : about1.status = .running := rfl
set_option maxRecDepth 65536 in
theorem w_room : about1.hasRoom e0.platform room_1 = true :=
  launch0.hasRoom_least _ room_1 (by decide +kernel) (by decide +kernel) (by decide +kernel) (by decide +kernel) (by decide +kernel) (by decide +kernel)
theorem allAtoms_all (ts : List Jvm.Cond) (a : Array Jvm.Value) (st : Jvm.State) : (allAtoms ts).before a st = ts.all (fun c => c.before a st) := by
  induction ts with
  | nil => rfl
  | cons c t ih =>
    show (Jvm.Cond.and c (allAtoms t)).before a st = _
    rw [Jvm.Cond.before_and, ih, List.all_cons]
def words1 : List Jvm.Cond := Jvm.Cond.code x code maxLocals ret :: tables_1
/-- a 'code' word, met by the world's own term for the bytes: nothing is compared byte by byte -/
theorem code_word {y : MethodName} {bytes : ByteArray} {mx : Nat} {rt : Option FieldType} {a : Array Value} {s : State} {m : MethodId} {meth : Method} {c : Code} (h1 : s.methodNamed? y = some m) (h2 : s.vm.method? m = some meth) (h3 : meth.code = some c) (h4 : c.code = bytes)
    (h5 : (c.maxLocals == mx && c.exceptionTable.isEmpty && decide (c.maxStack ≤ mostOperands) && decide (meth.sig.returnType = rt) && !meth.locks && decide (parseMethodDescriptor y.desc = some meth.sig)) = true) : (Jvm.Cond.code y bytes mx rt).before a s = true := by
  simp only [Bool.and_eq_true, beq_iff_eq, Bool.not_eq_true', decide_eq_true_eq] at h5
  obtain ⟨⟨⟨⟨⟨g1, g2⟩, g3⟩, g4⟩, g5⟩, g6⟩ := h5
  simp [Cond.before, Cond.holds, Cond.value, h1, h2, h3, h4, g1, g2, g3, g4, g5, g6]
def isCode : Jvm.Cond → Bool
  | .code _ _ _ _ => true
  | _ => false
theorem all_split {L : List Jvm.Cond} {P : Jvm.Cond → Bool} (h1 : L.all (fun c => isCode c || P c) = true) (h2 : ∀ c ∈ L.filter isCode, P c = true) : L.all P = true := by
  refine List.all_eq_true.mpr fun c hc => ?_
  have h := List.all_eq_true.mp h1 c hc
  rcases Bool.eq_false_or_eq_true (isCode c) with hi | hi
  · exact h2 c (List.mem_filter.mpr ⟨hc, hi⟩)
  · simpa [hi] using h
set_option maxRecDepth 65536 in
theorem w_c0 : (Jvm.Cond.code x code maxLocals ret).before args0 about1 = true := code_word (m := ⟨1, 6⟩) (meth := k1m6) (c := k1c6) (by decide +kernel) rfl rfl rfl (by decide +kernel)
set_option maxRecDepth 65536 in
theorem w_c1 : (Jvm.Cond.code ({ cls := "com/example/fides/fides/DerRequireShapePinLaw", name := "putFiller", desc := "([BIIIIII)I" } : Jvm.MethodName) method_6_code (10 : Nat) (Option.some Jvm.ClassFile.FieldType.int)).before args0 about1 = true := code_word (m := ⟨1, 5⟩) (meth := k1m5) (c := k1c5) (by decide +kernel) rfl rfl rfl (by decide +kernel)
set_option maxRecDepth 65536 in
theorem w_c2 : (Jvm.Cond.code ({ cls := "com/example/fides/fides/DerRequireShapePinLaw", name := "contentFor", desc := "(I)I" } : Jvm.MethodName) method_5_code (1 : Nat) (Option.some Jvm.ClassFile.FieldType.int)).before args0 about1 = true := code_word (m := ⟨1, 4⟩) (meth := k1m4) (c := k1c4) (by decide +kernel) rfl rfl rfl (by decide +kernel)
set_option maxRecDepth 65536 in
theorem w_c3 : (Jvm.Cond.code ({ cls := "com/example/fides/fides/DerRequireShapePinLaw", name := "putTag", desc := "([BIIIZI)I" } : Jvm.MethodName) method_4_code (8 : Nat) (Option.some Jvm.ClassFile.FieldType.int)).before args0 about1 = true := code_word (m := ⟨1, 3⟩) (meth := k1m3) (c := k1c3) (by decide +kernel) rfl rfl rfl (by decide +kernel)
set_option maxRecDepth 65536 in
theorem w_c4 : (Jvm.Cond.code ({ cls := "com/example/fides/fides/DerRequireShapePinLaw", name := "putLen", desc := "([BII)I" } : Jvm.MethodName) method_3_code (3 : Nat) (Option.some Jvm.ClassFile.FieldType.int)).before args0 about1 = true := code_word (m := ⟨1, 2⟩) (meth := k1m2) (c := k1c2) (by decide +kernel) rfl rfl rfl (by decide +kernel)
set_option maxRecDepth 65536 in
theorem w_c5 : (Jvm.Cond.code ({ cls := "com/example/fides/fides/Der", name := "requireShape", desc := "([BI)V" } : Jvm.MethodName) prog_3_method_2_code (11 : Nat) (Option.none : Option Jvm.ClassFile.FieldType)).before args0 about1 = true := code_word (m := ⟨2, 1⟩) (meth := k2m1) (c := k2c1) (by decide +kernel) rfl rfl rfl (by decide +kernel)
set_option maxRecDepth 65536 in
theorem w_c6 : (Jvm.Cond.code ({ cls := "com/example/fides/fides/Der", name := "byteAt", desc := "([BII)I" } : Jvm.MethodName) prog_3_method_3_code (3 : Nat) (Option.some Jvm.ClassFile.FieldType.int)).before args0 about1 = true := code_word (m := ⟨2, 2⟩) (meth := k2m2) (c := k2c2) (by decide +kernel) rfl rfl rfl (by decide +kernel)
set_option maxRecDepth 65536 in
theorem w_c7 : (Jvm.Cond.code ({ cls := "com/example/fides/fides/DerRequireShapePinLaw", name := "lenSize", desc := "(I)I" } : Jvm.MethodName) method_2_code (1 : Nat) (Option.some Jvm.ClassFile.FieldType.int)).before args0 about1 = true := code_word (m := ⟨1, 1⟩) (meth := k1m1) (c := k1c1) (by decide +kernel) rfl rfl rfl (by decide +kernel)
def codes1 : List Jvm.Cond := [Jvm.Cond.code x code maxLocals ret, Jvm.Cond.code ({ cls := "com/example/fides/fides/DerRequireShapePinLaw", name := "putFiller", desc := "([BIIIIII)I" } : Jvm.MethodName) method_6_code (10 : Nat) (Option.some Jvm.ClassFile.FieldType.int), Jvm.Cond.code ({ cls := "com/example/fides/fides/DerRequireShapePinLaw", name := "contentFor", desc := "(I)I" } : Jvm.MethodName) method_5_code (1 : Nat) (Option.some Jvm.ClassFile.FieldType.int), Jvm.Cond.code ({ cls := "com/example/fides/fides/DerRequireShapePinLaw", name := "putTag", desc := "([BIIIZI)I" } : Jvm.MethodName) method_4_code (8 : Nat) (Option.some Jvm.ClassFile.FieldType.int), Jvm.Cond.code ({ cls := "com/example/fides/fides/DerRequireShapePinLaw", name := "putLen", desc := "([BII)I" } : Jvm.MethodName) method_3_code (3 : Nat) (Option.some Jvm.ClassFile.FieldType.int), Jvm.Cond.code ({ cls := "com/example/fides/fides/Der", name := "requireShape", desc := "([BI)V" } : Jvm.MethodName) prog_3_method_2_code (11 : Nat) (Option.none : Option Jvm.ClassFile.FieldType), Jvm.Cond.code ({ cls := "com/example/fides/fides/Der", name := "byteAt", desc := "([BII)I" } : Jvm.MethodName) prog_3_method_3_code (3 : Nat) (Option.some Jvm.ClassFile.FieldType.int), Jvm.Cond.code ({ cls := "com/example/fides/fides/DerRequireShapePinLaw", name := "lenSize", desc := "(I)I" } : Jvm.MethodName) method_2_code (1 : Nat) (Option.some Jvm.ClassFile.FieldType.int)]
set_option maxRecDepth 65536 in
theorem codes_eq : words1.filter isCode = codes1 := rfl
theorem w_codes : ∀ c ∈ words1.filter isCode, c.before args0 about1 = true := by
  rw [codes_eq]
  intro c hc
  simp only [codes1, List.mem_cons, List.not_mem_nil, or_false] at hc
  rcases hc with rfl | rfl | rfl | rfl | rfl | rfl | rfl | rfl
  · exact w_c0
  · exact w_c1
  · exact w_c2
  · exact w_c3
  · exact w_c4
  · exact w_c5
  · exact w_c6
  · exact w_c7
set_option maxRecDepth 65536 in
theorem w_t1 : (words1.take 24).all (fun c => isCode c || c.before args0 about1) = true := by decide +kernel
set_option maxRecDepth 65536 in
theorem w_t2 : (words1.drop 24).all (fun c => isCode c || c.before args0 about1) = true := by decide +kernel
theorem w_tables : (allAtoms (Jvm.Cond.code x code maxLocals ret :: tables_1)).before args0 about1 = true := by
  rw [allAtoms_all]
  show words1.all (fun c => c.before args0 about1) = true
  refine all_split ?_ w_codes
  rw [← List.take_append_drop 24 words1, List.all_append, w_t1, w_t2]
  rfl
set_option maxRecDepth 65536 in
theorem w_case : (Jvm.Cond.and given_1 narrow_1).before args0 about1 = true := by decide +kernel
theorem w_applies : (headSpec (Jvm.Cond.code x code maxLocals ret :: tables_1) room_1).applies x e0.platform about1 = true :=
  (Spec.applies_iff w_frames).mpr ⟨w_running, w_runnable, w_alone, w_named, w_hears, w_ripe, w_room, w_tables⟩
theorem atStart : AtStart classFile x code maxLocals ret World_1 tables_1 room_1 Calls_1 rest_1 Pre_1 launch0 p0 e0 about1 theMethod args0 below0 :=
  ⟨lists_1, trivial, launch0.admits_env _ _ _, launch0.least_env, fairChoices_fair.cas, fairChoices_fair.clock, w_frames, w_args, w_heap, w_applies, trivial, trivial, w_case⟩
end start1
theorem witness_1 : WitnessClaimed_1 := ⟨start1.p0, start1.e0, start1.about1, start1.theMethod, start1.args0, start1.below0, start1.atStart⟩
end Jvm.Pilot.@@N@@
