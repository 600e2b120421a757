import JvmDerived
import JvmDerived.Pilot.@@N@@Statement
import JvmDerived.Pilot.@@N@@Code
set_option linter.unusedVariables false
set_option linter.unusedSimpArgs false
namespace Jvm.RoadKit
open Sem ClassFile Op Lib Jvm.Stand Jvm.Free Jvm.LawKit
section New
variable {p : Program} {l : Launch} {e : Env} {R : Room} {s : State} {m : MethodId} {args : Array Value} {below : List Frame} {meth : Method} {c : Code} {T : State} {locs : List Loc} {cells slots : Nat}
theorem retI (X : Stand p l e R s m args below meth c T locs cells slots) (hx : p.tables.exec = Jvm.exec) {pc : Nat} {Ls : Array Slot} {z : Int32} {rest : List Value} (hret : meth.sig.returnType = some .int) (hd : decode c.code pc = .ok (.ireturn, 1)) {fs : List Frame}
    (hl : ∀ (f : JFrame) (acts : List Action), f.method = m → f.locked = none → f.entered = [] → (doReturn e (T.setTop f) acts (some (.int z))).1 = T.setFrames fs) : Steps p.tables e below (T.setTop (mkF m pc Ls (.int z :: rest))) (T.setFrames fs) := by
  have hm' : T.vm.method? m = some meth := X.method'
  have hn : narrow .int (.int z) = .int z := rfl
  show Steps p.tables e below (T.setTop { method := m, pc := pc, locals := Ls, stack := _ :: rest, locked := none }) _
  jvm_step X.here [X.here.top, hx, hd, hm', hret, hn]
  first | (intro acts; rw [hl _ acts rfl rfl rfl]) | rw [hl _ _ rfl rfl rfl]
  exact Steps.refl _
end New
end Jvm.RoadKit
namespace Jvm.Pilot.@@N@@
open Jvm Jvm.ClassFile Sem Op Lib Jvm.Free Jvm.Stand Jvm.LawKit Jvm.RoadKit Bundle Jvm.Pilot.@@N@@.Jvm.D
theorem pd_0 : parseMethodDescriptor "(I)I" = some ⟨[.int], some .int⟩ := by decide +kernel
theorem pd_1 : parseMethodDescriptor "(I)Z" = some ⟨[.int], some .boolean⟩ := by decide +kernel
theorem pd_2 : parseMethodDescriptor "(I[I[II)Z" = some ⟨[.int, (.array .int), (.array .int), .int], some .boolean⟩ := by decide +kernel
theorem pd_3 : parseMethodDescriptor "(I[I[II)I" = some ⟨[.int, (.array .int), (.array .int), .int], some .int⟩ := by decide +kernel
theorem pd_4 : parseMethodDescriptor "(J)I" = some ⟨[.long], some .int⟩ := by decide +kernel
theorem pd_5 : parseMethodDescriptor "(I)V" = some ⟨[.int], none⟩ := by decide +kernel
theorem pd_6 : parseMethodDescriptor "([II)V" = some ⟨[(.array .int), .int], none⟩ := by decide +kernel
theorem pd_7 : parseMethodDescriptor "(IIIII)I" = some ⟨[.int, .int, .int, .int, .int], some .int⟩ := by decide +kernel
theorem pd_8 : parseMethodDescriptor "(J)V" = some ⟨[.long], none⟩ := by decide +kernel
theorem pd_9 : parseMethodDescriptor "(ILjava/util/function/IntSupplier;Lcom/example/knotwork/knotwork/generate/SeededRandom;[II)V" = some ⟨[.int, (.object "java/util/function/IntSupplier"), (.object "com/example/knotwork/knotwork/generate/SeededRandom"), (.array .int), .int], none⟩ := by decide +kernel
theorem pd_10 : parseMethodDescriptor "(I[I[II[II)Z" = some ⟨[.int, (.array .int), (.array .int), .int, (.array .int), .int], some .boolean⟩ := by decide +kernel
def getI (ps : List Int32) (j : Int32) : Int32 := ps.getD j.toNatClampNeg 0
def setI (ps : List Int32) (j x : Int32) : List Int32 := ps.set j.toNatClampNeg x
/-- an array of ints (or booleans) whose elements are all known -/
def Ia (Z : State) (h : Heap) (a : Addr) (k : ClassId) (ty : FieldType) (n : Int32) (ps : List Int32) : Prop := Arv Z h a k ty n (ps.map Value.int) (.int 0) ∧ ps.length = n.toNatClampNeg
section OwnArr
variable {Z : State} {h h' : Heap} {a b : Addr} {k : ClassId} {ty : FieldType} {n j x : Int32} {ps : List Int32} {v : Value} {sl : Nat} {ws : List Addr}
theorem Ia.lt (F : Ia Z h a k ty n ps) : a < h.size := F.1.lt
theorem Ia.ext (F : Ia Z h a k ty n ps) (E : Ext h h') : Ia Z h' a k ty n ps := ⟨F.1.ext E, F.2⟩
theorem Ia.other (F : Ia Z h b k ty n ps) (W : Wr h h' a sl v) (q : b ≠ a) : Ia Z h' b k ty n ps := ⟨F.1.other W q, F.2⟩
theorem Ia.keep (F : Ia Z h a k ty n ps) (K : Keep h h' ws) (q : a ∉ ws) : Ia Z h' a k ty n ps := ⟨F.1.keep K q, F.2⟩
theorem own_lenlt (hj : ¬ j < 0 ∧ j < n) : j.toNatClampNeg < n.toNatClampNeg := by
  obtain ⟨h1, h2⟩ := hj
  have e0 : (0 : Int32).toInt = 0 := rfl
  rw [Int32.lt_iff_toInt_lt] at h1 h2
  simp only [Int32.toNatClampNeg]; omega
theorem Ia.get (F : Ia Z h a k ty n ps) (hj : ¬ j < 0 ∧ j < n) : ∃ cl : Cell, Arr Z h a cl ty ∧ ¬ (j < 0 ∨ cl.slots.size ≤ j.toNatClampNeg) ∧ cl.slots[j.toNatClampNeg]? = some (.int (getI ps j)) := by
  obtain ⟨⟨cl, A, q1, S, q3, H, G⟩, hl⟩ := F
  have hin := inb_of S hj
  refine ⟨cl, A, hin, Has.at H hin ?_⟩
  simp only [getI, List.getD_eq_getElem?_getD, List.getElem?_map]
  cases ps[j.toNatClampNeg]? <;> rfl
theorem Ia.set (F : Ia Z h a k ty n ps) (hj : ¬ j < 0 ∧ j < n) (hv : fits ty (.int x) = true) (W : Wr h h' a j.toNatClampNeg (.int x)) : Ia Z h' a k ty n (setI ps j x) := by
  obtain ⟨⟨cl, A, q1, S, q3, H, G⟩, hl⟩ := F
  have hi : j.toNatClampNeg < (ps.map Value.int).length := by rw [List.length_map, hl]; exact own_lenlt hj
  have r := Arv.set A q1 S q3 H G hv W _ rfl hi
  refine ⟨?_, by rw [setI, List.length_set]; exact hl⟩
  rw [setI, List.map_set]; exact r
theorem Ia.new (A : Arr Z h a (newA k ty n) ty) (q : ¬ n < 0) (hd : defaultValue ty = .int 0) : Ia Z h a k ty n (List.replicate n.toNatClampNeg 0) := by
  refine ⟨?_, List.length_replicate⟩
  have r := Arv.new A q
  rw [hd] at r
  rw [List.map_replicate]
  exact r.pad (pad_rep [] (.int 0) n.toNatClampNeg)
theorem Ia.size (F : Ia Z h a k ty n ps) : ∃ cl : Cell, Arr Z h a cl ty ∧ cl.slots.size.toInt32 = n := by
  obtain ⟨⟨cl, A, q1, S, q3, H, G⟩, hl⟩ := F
  exact ⟨cl, A, len_of S q3⟩
end OwnArr

def getJ (ps : List Int64) (j : Int32) : Int64 := ps.getD j.toNatClampNeg 0
def setJ (ps : List Int64) (j : Int32) (x : Int64) : List Int64 := ps.set j.toNatClampNeg x
/-- an array of longs whose elements are all known -/
def La (Z : State) (h : Heap) (a : Addr) (k : ClassId) (n : Int32) (ps : List Int64) : Prop := Arv Z h a k .long n (ps.map Value.long) (.long 0) ∧ ps.length = n.toNatClampNeg
section OwnArrL
variable {Z : State} {h h' : Heap} {a b : Addr} {k : ClassId} {n j : Int32} {x : Int64} {ps : List Int64} {v : Value} {sl : Nat} {ws : List Addr}
theorem La.lt (F : La Z h a k n ps) : a < h.size := F.1.lt
theorem La.ext (F : La Z h a k n ps) (E : Ext h h') : La Z h' a k n ps := ⟨F.1.ext E, F.2⟩
theorem La.other (F : La Z h b k n ps) (W : Wr h h' a sl v) (q : b ≠ a) : La Z h' b k n ps := ⟨F.1.other W q, F.2⟩
theorem La.keep (F : La Z h a k n ps) (K : Keep h h' ws) (q : a ∉ ws) : La Z h' a k n ps := ⟨F.1.keep K q, F.2⟩
theorem La.get (F : La Z h a k n ps) (hj : ¬ j < 0 ∧ j < n) : ∃ cl : Cell, Arr Z h a cl .long ∧ ¬ (j < 0 ∨ cl.slots.size ≤ j.toNatClampNeg) ∧ cl.slots[j.toNatClampNeg]? = some (.long (getJ ps j)) := by
  obtain ⟨⟨cl, A, q1, S, q3, H, G⟩, hl⟩ := F
  have hin := inb_of S hj
  refine ⟨cl, A, hin, Has.at H hin ?_⟩
  simp only [getJ, List.getD_eq_getElem?_getD, List.getElem?_map]
  cases ps[j.toNatClampNeg]? <;> rfl
theorem La.set (F : La Z h a k n ps) (hj : ¬ j < 0 ∧ j < n) (W : Wr h h' a j.toNatClampNeg (.long x)) : La Z h' a k n (setJ ps j x) := by
  obtain ⟨⟨cl, A, q1, S, q3, H, G⟩, hl⟩ := F
  have hi : j.toNatClampNeg < (ps.map Value.long).length := by rw [List.length_map, hl]; exact own_lenlt hj
  have r := Arv.set A q1 S q3 H G rfl W _ rfl hi
  refine ⟨?_, by rw [setJ, List.length_set]; exact hl⟩
  rw [setJ, List.map_set]; exact r
theorem La.new (A : Arr Z h a (newA k .long n) .long) (q : ¬ n < 0) : La Z h a k n (List.replicate n.toNatClampNeg 0) := by
  refine ⟨?_, List.length_replicate⟩
  have r := Arv.new A q
  rw [show defaultValue .long = .long 0 from rfl] at r
  rw [List.map_replicate]
  exact r.pad (pad_rep [] (.long 0) n.toNatClampNeg)
theorem La.size (F : La Z h a k n ps) : ∃ cl : Cell, Arr Z h a cl .long ∧ cl.slots.size.toInt32 = n := by
  obtain ⟨⟨cl, A, q1, S, q3, H, G⟩, hl⟩ := F
  exact ⟨cl, A, len_of S q3⟩
end OwnArrL

def cntN (S : Nat → Bool) : Nat → Nat
  | 0 => 0
  | n + 1 => cntN S n + (if S n then 1 else 0)
theorem own_cnt_congr {S S' : Nat → Bool} : ∀ n, (∀ m, m < n → S m = S' m) → cntN S n = cntN S' n
  | 0, _ => rfl
  | n + 1, h => by rw [cntN, cntN, own_cnt_congr n (fun m hm => h m (by omega)), h n (by omega)]
theorem own_cnt_mono (S : Nat → Bool) : ∀ n k, cntN S n ≤ cntN S (n + k)
  | n, 0 => Nat.le_refl _
  | n, k + 1 => Nat.le_trans (own_cnt_mono S n k) (by rw [← Nat.add_assoc, cntN]; omega)
theorem own_cnt_le (S : Nat → Bool) : ∀ n, cntN S n ≤ n
  | 0 => Nat.le_refl _
  | n + 1 => by have := own_cnt_le S n; rw [cntN]; split <;> omega
theorem own_cnt_lt (S : Nat → Bool) {z n : Nat} (h : z < n) (hs : S z = true) : cntN S z < cntN S n := by
  obtain ⟨k, rfl⟩ : ∃ k, n = z + 1 + k := ⟨n - z - 1, by omega⟩
  have := own_cnt_mono S (z + 1) k
  rw [cntN, if_pos hs] at this; omega
theorem own_cnt_add (S : Nat → Bool) (x : Nat) (hx : S x = false) : ∀ n, cntN (fun m => S m || m == x) n = cntN S n + (if x < n then 1 else 0)
  | 0 => by simp [cntN]
  | n + 1 => by
    rw [cntN, cntN, own_cnt_add S x hx n]
    by_cases h : n = x
    · subst h; simp [hx]
    · have h2 : (n == x) = false := by simpa using h
      rw [h2, Bool.or_false]
      by_cases h3 : x < n
      · rw [if_pos h3, show (if x < n + 1 then 1 else 0) = 1 from if_pos (by omega)]; omega
      · rw [if_neg h3, show (if x < n + 1 then 1 else 0) = 0 from if_neg (by omega)]; omega
theorem own_cnt_del (S : Nat → Bool) (x : Nat) (hx : S x = true) : ∀ n, cntN (fun m => S m && !(m == x)) n + (if x < n then 1 else 0) = cntN S n
  | 0 => by simp [cntN]
  | n + 1 => by
    have ih := own_cnt_del S x hx n
    rw [cntN, cntN]
    by_cases h : n = x
    · subst h
      rw [if_neg (by omega)] at ih
      simp [hx]; omega
    · have h2 : (n == x) = false := by simpa using h
      rw [h2, Bool.not_false, Bool.and_true]
      by_cases h3 : x < n
      · rw [if_pos h3] at ih; rw [show (if x < n + 1 then 1 else 0) = 1 from if_pos (by omega)]; omega
      · rw [if_neg h3] at ih; rw [show (if x < n + 1 then 1 else 0) = 0 from if_neg (by omega)]; omega
theorem own_cnt_compl (T : Nat → Bool) (B : Nat) : ∀ n, n ≤ B → cntN (fun z => !T z && decide (z < B)) n + cntN T n = n
  | 0, _ => rfl
  | n + 1, h => by
    have ih := own_cnt_compl T B n (by omega)
    rw [cntN, cntN]
    have h2 : decide (n < B) = true := by simp; omega
    cases q : T n <;> simp [q, h2] <;> omega
theorem own_cnt_beyond (T : Nat → Bool) (B : Nat) : ∀ k, cntN (fun z => !T z && decide (z < B)) (B + k) = cntN (fun z => !T z && decide (z < B)) B
  | 0 => rfl
  | k + 1 => by
    rw [← Nat.add_assoc, cntN, own_cnt_beyond T B k]
    have : decide (B + k < B) = false := by simp
    simp
/-- the numbers y .. y + n - 1 of S, written one behind the other from the place q on -/
def pushR (S : Nat → Bool) : Nat → Nat → Nat → List Int32 → Nat × List Int32
  | 0, _, q, l => (q, l)
  | n + 1, y, q, l => if S y then pushR S n (y + 1) (q + 1) (l.set q (Int32.ofNat y)) else pushR S n (y + 1) q l
theorem own_push (S : Nat → Bool) : ∀ (n y : Nat) (l : List Int32), cntN S (y + n) ≤ l.length →
    (pushR S n y (cntN S y) l).1 = cntN S (y + n) ∧ (pushR S n y (cntN S y) l).2.length = l.length ∧
    (∀ i, i < cntN S y → (pushR S n y (cntN S y) l).2.getD i 0 = l.getD i 0) ∧
    (∀ z, y ≤ z → z < y + n → S z = true → (pushR S n y (cntN S y) l).2.getD (cntN S z) 0 = Int32.ofNat z) ∧
    (∀ i, cntN S (y + n) ≤ i → (pushR S n y (cntN S y) l).2.getD i 0 = l.getD i 0)
  | 0, y, l, _ => ⟨rfl, rfl, fun _ _ => rfl, fun z h1 h2 => by omega, fun _ _ => rfl⟩
  | n + 1, y, l, h => by
    have eqn : y + (n + 1) = y + 1 + n := by omega
    by_cases hs : S y = true
    · have ec : cntN S (y + 1) = cntN S y + 1 := by rw [cntN, if_pos hs]
      have hm := own_cnt_mono S (y + 1) n
      have ih := own_push S n (y + 1) (l.set (cntN S y) (Int32.ofNat y)) (by rw [List.length_set, ← eqn]; exact h)
      rw [ec] at ih
      rw [pushR, if_pos hs, eqn]
      rw [eqn] at h
      obtain ⟨i1, i2, i3, i4, i5⟩ := ih
      refine ⟨i1, by rw [i2, List.length_set], fun i hi => ?_, fun z h1 h2 h3 => ?_, fun i hi => ?_⟩
      · rw [i3 i (by omega), List.getD_eq_getElem?_getD, List.getD_eq_getElem?_getD, List.getElem?_set_ne (by omega)]
      · by_cases hz : z = y
        · subst hz
          rw [i3 _ (by omega), List.getD_eq_getElem?_getD, List.getElem?_set_self (by omega)]; rfl
        · exact i4 z (by omega) (by omega) h3
      · rw [i5 i hi, List.getD_eq_getElem?_getD, List.getD_eq_getElem?_getD, List.getElem?_set_ne (by omega)]
    · have ec : cntN S (y + 1) = cntN S y := by rw [cntN, if_neg hs]; rfl
      have ih := own_push S n (y + 1) l (by rw [← eqn]; exact h)
      rw [ec] at ih
      rw [pushR, if_neg hs, eqn]
      obtain ⟨i1, i2, i3, i4, i5⟩ := ih
      refine ⟨i1, i2, i3, fun z h1 h2 h3 => ?_, i5⟩
      by_cases hz : z = y
      · subst hz; exact absurd h3 hs
      · exact i4 z (by omega) (by omega) h3
theorem own_push_add (S : Nat → Bool) : ∀ (n k y q : Nat) (l : List Int32), pushR S (n + k) y q l = pushR S k (y + n) (pushR S n y q l).1 (pushR S n y q l).2
  | 0, k, y, q, l => by simp [pushR]
  | n + 1, k, y, q, l => by
    rw [show n + 1 + k = (n + k) + 1 by omega, pushR, pushR, show y + (n + 1) = y + 1 + n by omega]
    by_cases hs : S y = true
    · rw [if_pos hs, if_pos hs]; exact own_push_add S n k (y + 1) (q + 1) _
    · rw [if_neg hs, if_neg hs]; exact own_push_add S n k (y + 1) q _

/-- j is the place of the lowest bit that is set -/
def Lo {w : Nat} (y : BitVec w) (j : Nat) : Prop := j < w ∧ (∀ i, i < j → y.getLsbD i = false) ∧ y.getLsbD j = true
theorem own_odd (n j : Nat) (h : ∀ i, i < j → n.testBit i = false) : n = 2 ^ j * (n / 2 ^ j) := by
  have e : n % 2 ^ j = 0 := by
    apply Nat.eq_of_testBit_eq
    intro i
    rw [Nat.testBit_mod_two_pow, Nat.zero_testBit]
    by_cases q : i < j
    · simp [q, h i q]
    · simp [q]
  have := Nat.div_add_mod n (2 ^ j)
  omega
theorem own_pred {w : Nat} (y : BitVec w) (j : Nat) (h : Lo y j) (i : Nat) (hi : i < w) : (y - 1#w).getLsbD i = (if i < j then true else if i = j then false else y.getLsbD i) := by
  obtain ⟨hj, h1, h2⟩ := h
  have e := own_odd y.toNat j h1
  have hq : (y.toNat / 2 ^ j) % 2 = 1 := by
    have : y.toNat.testBit j = true := h2
    rw [Nat.testBit_eq_decide_div_mod_eq] at this
    exact of_decide_eq_true this
  have hw0 : 1 < 2 ^ w := Nat.one_lt_two_pow (by omega)
  have hpos : 1 ≤ y.toNat := by
    rcases Nat.eq_zero_or_pos y.toNat with z | z
    · rw [z] at hq; simp at hq
    · exact z
  have hsub : (y - 1#w).toNat = y.toNat - 1 := by
    have hlt := y.isLt
    rw [BitVec.toNat_sub_of_le]
    · simp; rw [Nat.mod_eq_of_lt hw0]
    · rw [BitVec.le_def]; simp; rw [Nat.mod_eq_of_lt hw0]; exact hpos
  have hp : 0 < 2 ^ j := Nat.two_pow_pos j
  have e2 : y.toNat - 1 = 2 ^ j * (y.toNat / 2 ^ j - 1) + (2 ^ j - 1) := by
    generalize y.toNat / 2 ^ j = q at *
    have : 2 ^ j * q = 2 ^ j * (q - 1) + 2 ^ j := by
      conv => lhs; rw [show q = (q - 1) + 1 by omega]
      rw [Nat.mul_add, Nat.mul_one]
    omega
  show (y - 1#w).toNat.testBit i = _
  rw [hsub, e2, Nat.testBit_two_pow_mul_add _ (by omega)]
  by_cases c1 : i < j
  · rw [if_pos c1, if_pos c1, Nat.testBit_two_pow_sub_one]; simp [c1]
  · rw [if_neg c1, if_neg c1]
    by_cases c2 : i = j
    · rw [if_pos c2, c2, Nat.sub_self, Nat.testBit_zero]
      have : (y.toNat / 2 ^ j - 1) % 2 = 0 := by omega
      simp [this]
    · rw [if_neg c2]
      obtain ⟨d, hd⟩ : ∃ d, i = j + (d + 1) := ⟨i - j - 1, by omega⟩
      subst hd
      rw [show j + (d + 1) - j = d + 1 by omega, Nat.testBit_succ]
      show _ = y.toNat.testBit _
      rw [show j + (d + 1) = (d + 1) + j by omega, Nat.testBit_add, Nat.testBit_succ]
      have e3 : (y.toNat / 2 ^ j - 1) / 2 = y.toNat / 2 ^ j / 2 := by
        clear e e2
        generalize y.toNat / 2 ^ j = q at hq ⊢
        omega
      rw [e3]
theorem own_mask {w : Nat} (y : BitVec w) (j : Nat) (h : Lo y j) : (~~~y) &&& (y - 1#w) = BitVec.ofNat w (2 ^ j - 1) := by
  apply BitVec.eq_of_getLsbD_eq
  intro i hi
  rw [BitVec.getLsbD_and, BitVec.getLsbD_not, own_pred y j h i hi, BitVec.getLsbD_ofNat, Nat.testBit_two_pow_sub_one]
  obtain ⟨hj, h1, h2⟩ := h
  by_cases c1 : i < j
  · rw [h1 i c1]; simp only [c1, hi, decide_true, Bool.not_false, Bool.and_self, if_true]
  · by_cases c2 : i = j
    · subst c2; rw [h2]; simp
    · rw [if_neg c1, if_neg c2]; cases y.getLsbD i <;> simp [c1]
theorem own_clr {w : Nat} (y : BitVec w) (j : Nat) (h : Lo y j) (i : Nat) : (y &&& (y - 1#w)).getLsbD i = (if i ≤ j then false else y.getLsbD i) := by
  by_cases hi : i < w
  · rw [BitVec.getLsbD_and, own_pred y j h i hi]
    obtain ⟨hj, h1, h2⟩ := h
    by_cases c1 : i < j
    · simp [h1 i c1, Nat.le_of_lt c1]
    · by_cases c2 : i = j
      · subst c2; simp
      · simp [c1, c2, show ¬ i ≤ j by omega]
  · rw [BitVec.getLsbD_of_ge _ _ (by omega), BitVec.getLsbD_of_ge _ _ (by omega)]; simp

theorem own_lo_ext {w : Nat} {y : BitVec w} {j : Nat} (h : Lo y j) : y ≠ 0#w := fun q => by
  have := h.2.2; rw [q] at this; simp at this

theorem d13_0 : decode jdk_33_method_48_code 0 = .ok (.iload_n 0, 1) := by decide +kernel
theorem d13_1 : decode jdk_33_method_48_code 1 = .ok (.iconst (-1), 1) := by decide +kernel
theorem d13_2 : decode jdk_33_method_48_code 2 = .ok (.ixor, 1) := by decide +kernel
theorem d13_3 : decode jdk_33_method_48_code 3 = .ok (.iload_n 0, 1) := by decide +kernel
theorem d13_4 : decode jdk_33_method_48_code 4 = .ok (.iconst 1, 1) := by decide +kernel
theorem d13_5 : decode jdk_33_method_48_code 5 = .ok (.isub, 1) := by decide +kernel
theorem d13_6 : decode jdk_33_method_48_code 6 = .ok (.iand, 1) := by decide +kernel
theorem d13_7 : decode jdk_33_method_48_code 7 = .ok (.istore_n 0, 1) := by decide +kernel
theorem d13_8 : decode jdk_33_method_48_code 8 = .ok (.iload_n 0, 1) := by decide +kernel
theorem d13_9 : decode jdk_33_method_48_code 9 = .ok (.ifCond .gt 8, 3) := by decide +kernel
theorem d13_12 : decode jdk_33_method_48_code 12 = .ok (.iload_n 0, 1) := by decide +kernel
theorem d13_13 : decode jdk_33_method_48_code 13 = .ok (.bipush 32, 2) := by decide +kernel
theorem d13_15 : decode jdk_33_method_48_code 15 = .ok (.iand, 1) := by decide +kernel
theorem d13_16 : decode jdk_33_method_48_code 16 = .ok (.ireturn, 1) := by decide +kernel
theorem d13_17 : decode jdk_33_method_48_code 17 = .ok (.iconst 1, 1) := by decide +kernel
theorem d13_18 : decode jdk_33_method_48_code 18 = .ok (.istore_n 1, 1) := by decide +kernel
theorem d13_19 : decode jdk_33_method_48_code 19 = .ok (.iload_n 0, 1) := by decide +kernel
theorem d13_20 : decode jdk_33_method_48_code 20 = .ok (.ldc_w 264, 3) := by decide +kernel
theorem d13_23 : decode jdk_33_method_48_code 23 = .ok (.if_icmp .le 11, 3) := by decide +kernel
theorem d13_26 : decode jdk_33_method_48_code 26 = .ok (.iinc 1 16, 3) := by decide +kernel
theorem d13_29 : decode jdk_33_method_48_code 29 = .ok (.iload_n 0, 1) := by decide +kernel
theorem d13_30 : decode jdk_33_method_48_code 30 = .ok (.bipush 16, 2) := by decide +kernel
theorem d13_32 : decode jdk_33_method_48_code 32 = .ok (.iushr, 1) := by decide +kernel
theorem d13_33 : decode jdk_33_method_48_code 33 = .ok (.istore_n 0, 1) := by decide +kernel
theorem d13_34 : decode jdk_33_method_48_code 34 = .ok (.iload_n 0, 1) := by decide +kernel
theorem d13_35 : decode jdk_33_method_48_code 35 = .ok (.sipush 256, 3) := by decide +kernel
theorem d13_38 : decode jdk_33_method_48_code 38 = .ok (.if_icmp .le 11, 3) := by decide +kernel
theorem d13_41 : decode jdk_33_method_48_code 41 = .ok (.iinc 1 8, 3) := by decide +kernel
theorem d13_44 : decode jdk_33_method_48_code 44 = .ok (.iload_n 0, 1) := by decide +kernel
theorem d13_45 : decode jdk_33_method_48_code 45 = .ok (.bipush 8, 2) := by decide +kernel
theorem d13_47 : decode jdk_33_method_48_code 47 = .ok (.iushr, 1) := by decide +kernel
theorem d13_48 : decode jdk_33_method_48_code 48 = .ok (.istore_n 0, 1) := by decide +kernel
theorem d13_49 : decode jdk_33_method_48_code 49 = .ok (.iload_n 0, 1) := by decide +kernel
theorem d13_50 : decode jdk_33_method_48_code 50 = .ok (.bipush 16, 2) := by decide +kernel
theorem d13_52 : decode jdk_33_method_48_code 52 = .ok (.if_icmp .le 10, 3) := by decide +kernel
theorem d13_55 : decode jdk_33_method_48_code 55 = .ok (.iinc 1 4, 3) := by decide +kernel
theorem d13_58 : decode jdk_33_method_48_code 58 = .ok (.iload_n 0, 1) := by decide +kernel
theorem d13_59 : decode jdk_33_method_48_code 59 = .ok (.iconst 4, 1) := by decide +kernel
theorem d13_60 : decode jdk_33_method_48_code 60 = .ok (.iushr, 1) := by decide +kernel
theorem d13_61 : decode jdk_33_method_48_code 61 = .ok (.istore_n 0, 1) := by decide +kernel
theorem d13_62 : decode jdk_33_method_48_code 62 = .ok (.iload_n 0, 1) := by decide +kernel
theorem d13_63 : decode jdk_33_method_48_code 63 = .ok (.iconst 4, 1) := by decide +kernel
theorem d13_64 : decode jdk_33_method_48_code 64 = .ok (.if_icmp .le 10, 3) := by decide +kernel
theorem d13_67 : decode jdk_33_method_48_code 67 = .ok (.iinc 1 2, 3) := by decide +kernel
theorem d13_70 : decode jdk_33_method_48_code 70 = .ok (.iload_n 0, 1) := by decide +kernel
theorem d13_71 : decode jdk_33_method_48_code 71 = .ok (.iconst 2, 1) := by decide +kernel
theorem d13_72 : decode jdk_33_method_48_code 72 = .ok (.iushr, 1) := by decide +kernel
theorem d13_73 : decode jdk_33_method_48_code 73 = .ok (.istore_n 0, 1) := by decide +kernel
theorem d13_74 : decode jdk_33_method_48_code 74 = .ok (.iload_n 1, 1) := by decide +kernel
theorem d13_75 : decode jdk_33_method_48_code 75 = .ok (.iload_n 0, 1) := by decide +kernel
theorem d13_76 : decode jdk_33_method_48_code 76 = .ok (.iconst 1, 1) := by decide +kernel
theorem d13_77 : decode jdk_33_method_48_code 77 = .ok (.iushr, 1) := by decide +kernel
theorem d13_78 : decode jdk_33_method_48_code 78 = .ok (.iadd, 1) := by decide +kernel
theorem d13_79 : decode jdk_33_method_48_code 79 = .ok (.ireturn, 1) := by decide +kernel
theorem pn_13 : plainName "java/lang/Integer" = true := by first | (simp [plainName, overriddenIn]; done) | decide +kernel
theorem ef_13 (m : MethodId) (x0 : Int32) : entryFrame m #[(.int x0)] 2 = mkF m 0 #[.val (.int x0), .unset] [] := by first | (simp [entryFrame, mkF, argsToLocals, Value.category]; done) | rfl
def v13_1 (p0 : Int32) : Int32 := ((p0 ^^^ (-1 : Int32)) &&& (p0 - (1 : Int32)))
def v13_2 (p0 : Int32) : Int32 := (if (65536 : Int32) < (v13_1 p0) then (((v13_1 p0).toUInt32 >>> ((16 : Int32) &&& 31).toUInt32).toInt32) else (v13_1 p0))
def v13_3 (p0 : Int32) : Int32 := (if (65536 : Int32) < (v13_1 p0) then (17 : Int32) else (1 : Int32))
def v13_4 (p0 : Int32) : Int32 := (if (256 : Int32) < (v13_2 p0) then (((v13_2 p0).toUInt32 >>> ((8 : Int32) &&& 31).toUInt32).toInt32) else (v13_2 p0))
def v13_5 (p0 : Int32) : Int32 := (if (256 : Int32) < (v13_2 p0) then ((v13_3 p0) + (8 : Int32)) else (v13_3 p0))
def v13_6 (p0 : Int32) : Int32 := (if (16 : Int32) < (v13_4 p0) then (((v13_4 p0).toUInt32 >>> ((4 : Int32) &&& 31).toUInt32).toInt32) else (v13_4 p0))
def v13_7 (p0 : Int32) : Int32 := (if (16 : Int32) < (v13_4 p0) then ((v13_5 p0) + (4 : Int32)) else (v13_5 p0))
def v13_8 (p0 : Int32) : Int32 := (if (4 : Int32) < (v13_6 p0) then (((v13_6 p0).toUInt32 >>> ((2 : Int32) &&& 31).toUInt32).toInt32) else (v13_6 p0))
def v13_9 (p0 : Int32) : Int32 := (if (4 : Int32) < (v13_6 p0) then ((v13_7 p0) + (2 : Int32)) else (v13_7 p0))
def f13 (p0 : Int32) : Int32 := (if (0 : Int32) < (v13_1 p0) then ((v13_9 p0) + (((v13_8 p0).toUInt32 >>> ((1 : Int32) &&& 31).toUInt32).toInt32)) else ((v13_1 p0) &&& (32 : Int32)))
def Q13 (Z : State) (p0 : Int32) (h0 : Heap) (n0 : Nat) (v : Option Value) (h : Heap) (L : List Loc) : Prop := v = some (.int (f13 p0)) ∧ Fr n0 L ∧ h = h0
set_option maxRecDepth 65536 in
set_option maxHeartbeats 40000000 in
theorem rm13 (l : Launch) (Z : State) (a0 : Array Value) (hw : ∀ d ∈ tables_1, d.before a0 Z = true) (ws : List Jvm.Cond) (p0 : Int32)  (h0 : Heap) (n0 : Nat) (Z0 : n0 ≤ h0.size)  :
    MetFree l (⟨"java/lang/Integer", "numberOfTrailingZeros", "(I)I"⟩ : MethodName) (head1 (Jvm.Cond.code (⟨"java/lang/Integer", "numberOfTrailingZeros", "(I)I"⟩ : MethodName) jdk_33_method_48_code 2 (some .int) :: ws) ({ frames := 0, cells := 0, slots := 0, locals := 0 } : Room)) (fun a U => a = #[(.int p0)] ∧ Z.Warmed39 U.vm ∧ U.heap = h0) (fun _ _ _ _ _ => True) (fun _ U o U' => ∃ v L, o = .returned v ∧ Q13 Z p0 h0 n0 v U'.heap L ∧ FrameEnd U o U' L ({ frames := 0, cells := 0, slots := 0, locals := 0 } : Room).cells ({ frames := 0, cells := 0, slots := 0, locals := 0 } : Room).slots) := by
  refine MetFree.of_bodySF (plainFor_of_name pn_13) hisR ?_
  intro p e s m args below meth c s₁ Bd hml0 hP hK
  obtain ⟨rfl, hZ, hh⟩ := hP
  have hx := Bd.exec
  have hby := Bd.bytes
  have hml : c.maxLocals = 2 := hml0
  have hown : s.vm.findClass "java/lang/Integer" = some m.cls := findClass_of_methodNamed Bd.named
  have hnm := (name_of_methodNamed Bd.named Bd.method).1
  have X0 : Stand p l e ({ frames := 0, cells := 0, slots := 0, locals := 0 } : Room) s m #[(.int p0)] below meth c s₁ [] 0 0 := Stand.of_body Bd
  have e0 : s₁.heap = h0 := by rw [← hh, Bd.state]; rfl
  have N0 := Fr.nil n0
  have hlk : meth.locks = false := by first | exact BodyLoose.notSynchronized Bd | exact Body.notSynchronized Bd
  have pre0 : ∀ t, Steps p.tables e below (s₁.setTop (mkF m 0 #[.val (.int p0), .unset] [])) t → Steps p.tables e below (s₁.setTop (entryFrame m #[(.int p0)] 2)) t := fun t k => castTop (ef_13 m p0) k
  have pre1 : ∀ t, Steps p.tables e below (s₁.setTop (mkF m 9 #[.val (.int (v13_1 p0)), .unset] [(.int (v13_1 p0))])) t → Steps p.tables e below (s₁.setTop (entryFrame m #[(.int p0)] 2)) t := fun t k => pre0 t (by
    show Steps p.tables e below (s₁.setTop (mkF m 0 #[.val (.int p0), .unset] [])) _
    refine XS.iloadN X0.here hx rfl (hb hby d13_0) rfl ?_
    show Steps p.tables e below (s₁.setTop (mkF m 1 #[.val (.int p0), .unset] [(.int p0)])) _
    refine XS.iconst X0.here hx rfl (hb hby d13_1) ?_
    show Steps p.tables e below (s₁.setTop (mkF m 2 #[.val (.int p0), .unset] [(.int (-1 : Int32)), (.int p0)])) _
    refine XS.ixor X0.here hx rfl (hb hby d13_2) rfl ?_
    show Steps p.tables e below (s₁.setTop (mkF m 3 #[.val (.int p0), .unset] [(.int (p0 ^^^ (-1 : Int32)))])) _
    refine XS.iloadN X0.here hx rfl (hb hby d13_3) rfl ?_
    show Steps p.tables e below (s₁.setTop (mkF m 4 #[.val (.int p0), .unset] [(.int p0), (.int (p0 ^^^ (-1 : Int32)))])) _
    refine XS.iconst X0.here hx rfl (hb hby d13_4) ?_
    show Steps p.tables e below (s₁.setTop (mkF m 5 #[.val (.int p0), .unset] [(.int (1 : Int32)), (.int p0), (.int (p0 ^^^ (-1 : Int32)))])) _
    refine XS.isub X0.here hx rfl (hb hby d13_5) rfl ?_
    show Steps p.tables e below (s₁.setTop (mkF m 6 #[.val (.int p0), .unset] [(.int (p0 - (1 : Int32))), (.int (p0 ^^^ (-1 : Int32)))])) _
    refine XS.iand X0.here hx rfl (hb hby d13_6) rfl ?_
    show Steps p.tables e below (s₁.setTop (mkF m 7 #[.val (.int p0), .unset] [(.int ((p0 ^^^ (-1 : Int32)) &&& (p0 - (1 : Int32))))])) _
    refine XS.istoreN X0.here hx rfl (hb hby d13_7) rfl (l' := #[.val (.int ((p0 ^^^ (-1 : Int32)) &&& (p0 - (1 : Int32)))), .unset]) rfl ?_
    show Steps p.tables e below (s₁.setTop (mkF m 8 #[.val (.int (v13_1 p0)), .unset] [])) _
    refine XS.iloadN X0.here hx rfl (hb hby d13_8) rfl ?_
    show Steps p.tables e below (s₁.setTop (mkF m 9 #[.val (.int (v13_1 p0)), .unset] [(.int (v13_1 p0))])) _
    exact k)
  by_cases hc9_2 : (0 : Int32) < (v13_1 p0)
  · have pre3 : ∀ t, Steps p.tables e below (s₁.setTop (mkF m 23 #[.val (.int (v13_1 p0)), .val (.int (1 : Int32))] [(.int (65536 : Int32)), (.int (v13_1 p0))])) t → Steps p.tables e below (s₁.setTop (entryFrame m #[(.int p0)] 2)) t := fun t k => pre1 t (by
      show Steps p.tables e below (s₁.setTop (mkF m 9 #[.val (.int (v13_1 p0)), .unset] [(.int (v13_1 p0))])) _
      refine XS.ifYes X0.here hx rfl (pc0 := 9) (pc' := 17) rfl (hb hby d13_9) rfl ((if0 _ _).trans (tlt hc9_2).2.2.1) (by decide) (by decide) ?_
      show Steps p.tables e below (s₁.setTop (mkF m 17 #[.val (.int (v13_1 p0)), .unset] [])) _
      refine XS.iconst X0.here hx rfl (hb hby d13_17) ?_
      show Steps p.tables e below (s₁.setTop (mkF m 18 #[.val (.int (v13_1 p0)), .unset] [(.int (1 : Int32))])) _
      refine XS.istoreN X0.here hx rfl (hb hby d13_18) rfl (l' := #[.val (.int (v13_1 p0)), .val (.int (1 : Int32))]) rfl ?_
      show Steps p.tables e below (s₁.setTop (mkF m 19 #[.val (.int (v13_1 p0)), .val (.int (1 : Int32))] [])) _
      refine XS.iloadN X0.here hx rfl (hb hby d13_19) rfl ?_
      show Steps p.tables e below (s₁.setTop (mkF m 20 #[.val (.int (v13_1 p0)), .val (.int (1 : Int32))] [(.int (v13_1 p0))])) _
      refine X0.ldcwInt hx hown (mvT hZ (hw _ (List.mem_of_getElem? (i := 69) rfl))) (g := (mkF m 20 #[.val (.int (v13_1 p0)), .val (.int (1 : Int32))] [(.int (v13_1 p0))])) rfl (hb hby d13_20) _ ?_
      show Steps p.tables e below (s₁.setTop (mkF m 23 #[.val (.int (v13_1 p0)), .val (.int (1 : Int32))] [(.int (65536 : Int32)), (.int (v13_1 p0))])) _
      exact k)
    have pre5 : ∀ t, Steps p.tables e below (s₁.setTop (mkF m 34 #[.val (.int (if (65536 : Int32) < (v13_1 p0) then (((v13_1 p0).toUInt32 >>> ((16 : Int32) &&& 31).toUInt32).toInt32) else (v13_1 p0))), .val (.int (if (65536 : Int32) < (v13_1 p0) then (17 : Int32) else (1 : Int32)))] [])) t → Steps p.tables e below (s₁.setTop (entryFrame m #[(.int p0)] 2)) t := fun t k => pre3 t (by
      show Steps p.tables e below (s₁.setTop (mkF m 23 #[.val (.int (v13_1 p0)), .val (.int (1 : Int32))] [(.int (65536 : Int32)), (.int (v13_1 p0))])) _
      by_cases hd23_4 : (65536 : Int32) < (v13_1 p0)
      · try simp only [if_pos hd23_4] at k
        show Steps p.tables e below (s₁.setTop (mkF m 23 #[.val (.int (v13_1 p0)), .val (.int (1 : Int32))] [(.int (65536 : Int32)), (.int (v13_1 p0))])) _
        refine XS.icmpNo X0.here hx rfl (hb hby d13_23) rfl (tlt hd23_4).2.2.2 ?_
        show Steps p.tables e below (s₁.setTop (mkF m 26 #[.val (.int (v13_1 p0)), .val (.int (1 : Int32))] [])) _
        refine XS.iinc X0.here hx rfl (hb hby d13_26) rfl (l' := #[.val (.int (v13_1 p0)), .val (.int (17 : Int32))]) rfl ?_
        show Steps p.tables e below (s₁.setTop (mkF m 29 #[.val (.int (v13_1 p0)), .val (.int (17 : Int32))] [])) _
        refine XS.iloadN X0.here hx rfl (hb hby d13_29) rfl ?_
        show Steps p.tables e below (s₁.setTop (mkF m 30 #[.val (.int (v13_1 p0)), .val (.int (17 : Int32))] [(.int (v13_1 p0))])) _
        refine XS.bipush X0.here hx rfl (hb hby d13_30) ?_
        show Steps p.tables e below (s₁.setTop (mkF m 32 #[.val (.int (v13_1 p0)), .val (.int (17 : Int32))] [(.int (16 : Int32)), (.int (v13_1 p0))])) _
        refine XS.iushr X0.here hx rfl (hb hby d13_32) rfl ?_
        show Steps p.tables e below (s₁.setTop (mkF m 33 #[.val (.int (v13_1 p0)), .val (.int (17 : Int32))] [(.int (((v13_1 p0).toUInt32 >>> ((16 : Int32) &&& 31).toUInt32).toInt32))])) _
        refine XS.istoreN X0.here hx rfl (hb hby d13_33) rfl (l' := #[.val (.int (((v13_1 p0).toUInt32 >>> ((16 : Int32) &&& 31).toUInt32).toInt32)), .val (.int (17 : Int32))]) rfl ?_
        exact k
      · try simp only [if_neg hd23_4] at k
        show Steps p.tables e below (s₁.setTop (mkF m 23 #[.val (.int (v13_1 p0)), .val (.int (1 : Int32))] [(.int (65536 : Int32)), (.int (v13_1 p0))])) _
        refine XS.icmpYes X0.here hx rfl (pc0 := 23) (pc' := 34) rfl (hb hby d13_23) rfl (flt hd23_4).2.2.2 (by decide) (by decide) ?_
        exact k
      )
    have pre6 : ∀ t, Steps p.tables e below (s₁.setTop (mkF m 38 #[.val (.int (v13_2 p0)), .val (.int (v13_3 p0))] [(.int (256 : Int32)), (.int (v13_2 p0))])) t → Steps p.tables e below (s₁.setTop (entryFrame m #[(.int p0)] 2)) t := fun t k => pre5 t (by
      show Steps p.tables e below (s₁.setTop (mkF m 34 #[.val (.int (v13_2 p0)), .val (.int (v13_3 p0))] [])) _
      refine XS.iloadN X0.here hx rfl (hb hby d13_34) rfl ?_
      show Steps p.tables e below (s₁.setTop (mkF m 35 #[.val (.int (v13_2 p0)), .val (.int (v13_3 p0))] [(.int (v13_2 p0))])) _
      refine XS.sipush X0.here hx rfl (hb hby d13_35) ?_
      show Steps p.tables e below (s₁.setTop (mkF m 38 #[.val (.int (v13_2 p0)), .val (.int (v13_3 p0))] [(.int (256 : Int32)), (.int (v13_2 p0))])) _
      exact k)
    have pre8 : ∀ t, Steps p.tables e below (s₁.setTop (mkF m 49 #[.val (.int (if (256 : Int32) < (v13_2 p0) then (((v13_2 p0).toUInt32 >>> ((8 : Int32) &&& 31).toUInt32).toInt32) else (v13_2 p0))), .val (.int (if (256 : Int32) < (v13_2 p0) then ((v13_3 p0) + (8 : Int32)) else (v13_3 p0)))] [])) t → Steps p.tables e below (s₁.setTop (entryFrame m #[(.int p0)] 2)) t := fun t k => pre6 t (by
      show Steps p.tables e below (s₁.setTop (mkF m 38 #[.val (.int (v13_2 p0)), .val (.int (v13_3 p0))] [(.int (256 : Int32)), (.int (v13_2 p0))])) _
      by_cases hd38_7 : (256 : Int32) < (v13_2 p0)
      · try simp only [if_pos hd38_7] at k
        show Steps p.tables e below (s₁.setTop (mkF m 38 #[.val (.int (v13_2 p0)), .val (.int (v13_3 p0))] [(.int (256 : Int32)), (.int (v13_2 p0))])) _
        refine XS.icmpNo X0.here hx rfl (hb hby d13_38) rfl (tlt hd38_7).2.2.2 ?_
        show Steps p.tables e below (s₁.setTop (mkF m 41 #[.val (.int (v13_2 p0)), .val (.int (v13_3 p0))] [])) _
        refine XS.iinc X0.here hx rfl (hb hby d13_41) rfl (l' := #[.val (.int (v13_2 p0)), .val (.int ((v13_3 p0) + (8 : Int32)))]) rfl ?_
        show Steps p.tables e below (s₁.setTop (mkF m 44 #[.val (.int (v13_2 p0)), .val (.int ((v13_3 p0) + (8 : Int32)))] [])) _
        refine XS.iloadN X0.here hx rfl (hb hby d13_44) rfl ?_
        show Steps p.tables e below (s₁.setTop (mkF m 45 #[.val (.int (v13_2 p0)), .val (.int ((v13_3 p0) + (8 : Int32)))] [(.int (v13_2 p0))])) _
        refine XS.bipush X0.here hx rfl (hb hby d13_45) ?_
        show Steps p.tables e below (s₁.setTop (mkF m 47 #[.val (.int (v13_2 p0)), .val (.int ((v13_3 p0) + (8 : Int32)))] [(.int (8 : Int32)), (.int (v13_2 p0))])) _
        refine XS.iushr X0.here hx rfl (hb hby d13_47) rfl ?_
        show Steps p.tables e below (s₁.setTop (mkF m 48 #[.val (.int (v13_2 p0)), .val (.int ((v13_3 p0) + (8 : Int32)))] [(.int (((v13_2 p0).toUInt32 >>> ((8 : Int32) &&& 31).toUInt32).toInt32))])) _
        refine XS.istoreN X0.here hx rfl (hb hby d13_48) rfl (l' := #[.val (.int (((v13_2 p0).toUInt32 >>> ((8 : Int32) &&& 31).toUInt32).toInt32)), .val (.int ((v13_3 p0) + (8 : Int32)))]) rfl ?_
        exact k
      · try simp only [if_neg hd38_7] at k
        show Steps p.tables e below (s₁.setTop (mkF m 38 #[.val (.int (v13_2 p0)), .val (.int (v13_3 p0))] [(.int (256 : Int32)), (.int (v13_2 p0))])) _
        refine XS.icmpYes X0.here hx rfl (pc0 := 38) (pc' := 49) rfl (hb hby d13_38) rfl (flt hd38_7).2.2.2 (by decide) (by decide) ?_
        exact k
      )
    have pre9 : ∀ t, Steps p.tables e below (s₁.setTop (mkF m 52 #[.val (.int (v13_4 p0)), .val (.int (v13_5 p0))] [(.int (16 : Int32)), (.int (v13_4 p0))])) t → Steps p.tables e below (s₁.setTop (entryFrame m #[(.int p0)] 2)) t := fun t k => pre8 t (by
      show Steps p.tables e below (s₁.setTop (mkF m 49 #[.val (.int (v13_4 p0)), .val (.int (v13_5 p0))] [])) _
      refine XS.iloadN X0.here hx rfl (hb hby d13_49) rfl ?_
      show Steps p.tables e below (s₁.setTop (mkF m 50 #[.val (.int (v13_4 p0)), .val (.int (v13_5 p0))] [(.int (v13_4 p0))])) _
      refine XS.bipush X0.here hx rfl (hb hby d13_50) ?_
      show Steps p.tables e below (s₁.setTop (mkF m 52 #[.val (.int (v13_4 p0)), .val (.int (v13_5 p0))] [(.int (16 : Int32)), (.int (v13_4 p0))])) _
      exact k)
    have pre11 : ∀ t, Steps p.tables e below (s₁.setTop (mkF m 62 #[.val (.int (if (16 : Int32) < (v13_4 p0) then (((v13_4 p0).toUInt32 >>> ((4 : Int32) &&& 31).toUInt32).toInt32) else (v13_4 p0))), .val (.int (if (16 : Int32) < (v13_4 p0) then ((v13_5 p0) + (4 : Int32)) else (v13_5 p0)))] [])) t → Steps p.tables e below (s₁.setTop (entryFrame m #[(.int p0)] 2)) t := fun t k => pre9 t (by
      show Steps p.tables e below (s₁.setTop (mkF m 52 #[.val (.int (v13_4 p0)), .val (.int (v13_5 p0))] [(.int (16 : Int32)), (.int (v13_4 p0))])) _
      by_cases hd52_10 : (16 : Int32) < (v13_4 p0)
      · try simp only [if_pos hd52_10] at k
        show Steps p.tables e below (s₁.setTop (mkF m 52 #[.val (.int (v13_4 p0)), .val (.int (v13_5 p0))] [(.int (16 : Int32)), (.int (v13_4 p0))])) _
        refine XS.icmpNo X0.here hx rfl (hb hby d13_52) rfl (tlt hd52_10).2.2.2 ?_
        show Steps p.tables e below (s₁.setTop (mkF m 55 #[.val (.int (v13_4 p0)), .val (.int (v13_5 p0))] [])) _
        refine XS.iinc X0.here hx rfl (hb hby d13_55) rfl (l' := #[.val (.int (v13_4 p0)), .val (.int ((v13_5 p0) + (4 : Int32)))]) rfl ?_
        show Steps p.tables e below (s₁.setTop (mkF m 58 #[.val (.int (v13_4 p0)), .val (.int ((v13_5 p0) + (4 : Int32)))] [])) _
        refine XS.iloadN X0.here hx rfl (hb hby d13_58) rfl ?_
        show Steps p.tables e below (s₁.setTop (mkF m 59 #[.val (.int (v13_4 p0)), .val (.int ((v13_5 p0) + (4 : Int32)))] [(.int (v13_4 p0))])) _
        refine XS.iconst X0.here hx rfl (hb hby d13_59) ?_
        show Steps p.tables e below (s₁.setTop (mkF m 60 #[.val (.int (v13_4 p0)), .val (.int ((v13_5 p0) + (4 : Int32)))] [(.int (4 : Int32)), (.int (v13_4 p0))])) _
        refine XS.iushr X0.here hx rfl (hb hby d13_60) rfl ?_
        show Steps p.tables e below (s₁.setTop (mkF m 61 #[.val (.int (v13_4 p0)), .val (.int ((v13_5 p0) + (4 : Int32)))] [(.int (((v13_4 p0).toUInt32 >>> ((4 : Int32) &&& 31).toUInt32).toInt32))])) _
        refine XS.istoreN X0.here hx rfl (hb hby d13_61) rfl (l' := #[.val (.int (((v13_4 p0).toUInt32 >>> ((4 : Int32) &&& 31).toUInt32).toInt32)), .val (.int ((v13_5 p0) + (4 : Int32)))]) rfl ?_
        exact k
      · try simp only [if_neg hd52_10] at k
        show Steps p.tables e below (s₁.setTop (mkF m 52 #[.val (.int (v13_4 p0)), .val (.int (v13_5 p0))] [(.int (16 : Int32)), (.int (v13_4 p0))])) _
        refine XS.icmpYes X0.here hx rfl (pc0 := 52) (pc' := 62) rfl (hb hby d13_52) rfl (flt hd52_10).2.2.2 (by decide) (by decide) ?_
        exact k
      )
    have pre12 : ∀ t, Steps p.tables e below (s₁.setTop (mkF m 64 #[.val (.int (v13_6 p0)), .val (.int (v13_7 p0))] [(.int (4 : Int32)), (.int (v13_6 p0))])) t → Steps p.tables e below (s₁.setTop (entryFrame m #[(.int p0)] 2)) t := fun t k => pre11 t (by
      show Steps p.tables e below (s₁.setTop (mkF m 62 #[.val (.int (v13_6 p0)), .val (.int (v13_7 p0))] [])) _
      refine XS.iloadN X0.here hx rfl (hb hby d13_62) rfl ?_
      show Steps p.tables e below (s₁.setTop (mkF m 63 #[.val (.int (v13_6 p0)), .val (.int (v13_7 p0))] [(.int (v13_6 p0))])) _
      refine XS.iconst X0.here hx rfl (hb hby d13_63) ?_
      show Steps p.tables e below (s₁.setTop (mkF m 64 #[.val (.int (v13_6 p0)), .val (.int (v13_7 p0))] [(.int (4 : Int32)), (.int (v13_6 p0))])) _
      exact k)
    have pre14 : ∀ t, Steps p.tables e below (s₁.setTop (mkF m 74 #[.val (.int (if (4 : Int32) < (v13_6 p0) then (((v13_6 p0).toUInt32 >>> ((2 : Int32) &&& 31).toUInt32).toInt32) else (v13_6 p0))), .val (.int (if (4 : Int32) < (v13_6 p0) then ((v13_7 p0) + (2 : Int32)) else (v13_7 p0)))] [])) t → Steps p.tables e below (s₁.setTop (entryFrame m #[(.int p0)] 2)) t := fun t k => pre12 t (by
      show Steps p.tables e below (s₁.setTop (mkF m 64 #[.val (.int (v13_6 p0)), .val (.int (v13_7 p0))] [(.int (4 : Int32)), (.int (v13_6 p0))])) _
      by_cases hd64_13 : (4 : Int32) < (v13_6 p0)
      · try simp only [if_pos hd64_13] at k
        show Steps p.tables e below (s₁.setTop (mkF m 64 #[.val (.int (v13_6 p0)), .val (.int (v13_7 p0))] [(.int (4 : Int32)), (.int (v13_6 p0))])) _
        refine XS.icmpNo X0.here hx rfl (hb hby d13_64) rfl (tlt hd64_13).2.2.2 ?_
        show Steps p.tables e below (s₁.setTop (mkF m 67 #[.val (.int (v13_6 p0)), .val (.int (v13_7 p0))] [])) _
        refine XS.iinc X0.here hx rfl (hb hby d13_67) rfl (l' := #[.val (.int (v13_6 p0)), .val (.int ((v13_7 p0) + (2 : Int32)))]) rfl ?_
        show Steps p.tables e below (s₁.setTop (mkF m 70 #[.val (.int (v13_6 p0)), .val (.int ((v13_7 p0) + (2 : Int32)))] [])) _
        refine XS.iloadN X0.here hx rfl (hb hby d13_70) rfl ?_
        show Steps p.tables e below (s₁.setTop (mkF m 71 #[.val (.int (v13_6 p0)), .val (.int ((v13_7 p0) + (2 : Int32)))] [(.int (v13_6 p0))])) _
        refine XS.iconst X0.here hx rfl (hb hby d13_71) ?_
        show Steps p.tables e below (s₁.setTop (mkF m 72 #[.val (.int (v13_6 p0)), .val (.int ((v13_7 p0) + (2 : Int32)))] [(.int (2 : Int32)), (.int (v13_6 p0))])) _
        refine XS.iushr X0.here hx rfl (hb hby d13_72) rfl ?_
        show Steps p.tables e below (s₁.setTop (mkF m 73 #[.val (.int (v13_6 p0)), .val (.int ((v13_7 p0) + (2 : Int32)))] [(.int (((v13_6 p0).toUInt32 >>> ((2 : Int32) &&& 31).toUInt32).toInt32))])) _
        refine XS.istoreN X0.here hx rfl (hb hby d13_73) rfl (l' := #[.val (.int (((v13_6 p0).toUInt32 >>> ((2 : Int32) &&& 31).toUInt32).toInt32)), .val (.int ((v13_7 p0) + (2 : Int32)))]) rfl ?_
        exact k
      · try simp only [if_neg hd64_13] at k
        show Steps p.tables e below (s₁.setTop (mkF m 64 #[.val (.int (v13_6 p0)), .val (.int (v13_7 p0))] [(.int (4 : Int32)), (.int (v13_6 p0))])) _
        refine XS.icmpYes X0.here hx rfl (pc0 := 64) (pc' := 74) rfl (hb hby d13_64) rfl (flt hd64_13).2.2.2 (by decide) (by decide) ?_
        exact k
      )
    have hv : (f13 p0) = ((v13_9 p0) + (((v13_8 p0).toUInt32 >>> ((1 : Int32) &&& 31).toUInt32).toInt32)) := by simp only [f13, if_pos hc9_2]
    obtain ⟨fs, hr, hrun, hended, hW, hsame⟩ := X0.leave (v := some (.int ((v13_9 p0) + (((v13_8 p0).toUInt32 >>> ((1 : Int32) &&& 31).toUInt32).toInt32)))) (fun h => nomatch (Bd.returns.symm.trans h)) hlk
    refine ⟨_, _, pre14 _ ?_, hrun, hended, _, _, rfl, ?_, ⟨_, rfl⟩, hW, hsame.mono (by decide) (by decide)⟩
    · show Steps p.tables e below (s₁.setTop (mkF m 74 #[.val (.int (v13_8 p0)), .val (.int (v13_9 p0))] [])) _
      refine XS.iloadN X0.here hx rfl (hb hby d13_74) rfl ?_
      show Steps p.tables e below (s₁.setTop (mkF m 75 #[.val (.int (v13_8 p0)), .val (.int (v13_9 p0))] [(.int (v13_9 p0))])) _
      refine XS.iloadN X0.here hx rfl (hb hby d13_75) rfl ?_
      show Steps p.tables e below (s₁.setTop (mkF m 76 #[.val (.int (v13_8 p0)), .val (.int (v13_9 p0))] [(.int (v13_8 p0)), (.int (v13_9 p0))])) _
      refine XS.iconst X0.here hx rfl (hb hby d13_76) ?_
      show Steps p.tables e below (s₁.setTop (mkF m 77 #[.val (.int (v13_8 p0)), .val (.int (v13_9 p0))] [(.int (1 : Int32)), (.int (v13_8 p0)), (.int (v13_9 p0))])) _
      refine XS.iushr X0.here hx rfl (hb hby d13_77) rfl ?_
      show Steps p.tables e below (s₁.setTop (mkF m 78 #[.val (.int (v13_8 p0)), .val (.int (v13_9 p0))] [(.int (((v13_8 p0).toUInt32 >>> ((1 : Int32) &&& 31).toUInt32).toInt32)), (.int (v13_9 p0))])) _
      refine XS.iadd X0.here hx rfl (hb hby d13_78) rfl ?_
      show Steps p.tables e below (s₁.setTop (mkF m 79 #[.val (.int (v13_8 p0)), .val (.int (v13_9 p0))] [(.int ((v13_9 p0) + (((v13_8 p0).toUInt32 >>> ((1 : Int32) &&& 31).toUInt32).toInt32)))])) _
      exact retI X0 hx Bd.returns (hb hby d13_79) hr
    · exact ⟨by rw [hv], N0, e0⟩
  · have hv : (f13 p0) = ((v13_1 p0) &&& (32 : Int32)) := by simp only [f13, if_neg hc9_2]
    obtain ⟨fs, hr, hrun, hended, hW, hsame⟩ := X0.leave (v := some (.int ((v13_1 p0) &&& (32 : Int32)))) (fun h => nomatch (Bd.returns.symm.trans h)) hlk
    refine ⟨_, _, pre1 _ ?_, hrun, hended, _, _, rfl, ?_, ⟨_, rfl⟩, hW, hsame.mono (by decide) (by decide)⟩
    · show Steps p.tables e below (s₁.setTop (mkF m 9 #[.val (.int (v13_1 p0)), .unset] [(.int (v13_1 p0))])) _
      refine XS.ifNo X0.here hx rfl (hb hby d13_9) rfl ((if0 _ _).trans (flt hc9_2).2.2.1) ?_
      show Steps p.tables e below (s₁.setTop (mkF m 12 #[.val (.int (v13_1 p0)), .unset] [])) _
      refine XS.iloadN X0.here hx rfl (hb hby d13_12) rfl ?_
      show Steps p.tables e below (s₁.setTop (mkF m 13 #[.val (.int (v13_1 p0)), .unset] [(.int (v13_1 p0))])) _
      refine XS.bipush X0.here hx rfl (hb hby d13_13) ?_
      show Steps p.tables e below (s₁.setTop (mkF m 15 #[.val (.int (v13_1 p0)), .unset] [(.int (32 : Int32)), (.int (v13_1 p0))])) _
      refine XS.iand X0.here hx rfl (hb hby d13_15) rfl ?_
      show Steps p.tables e below (s₁.setTop (mkF m 16 #[.val (.int (v13_1 p0)), .unset] [(.int ((v13_1 p0) &&& (32 : Int32)))])) _
      exact retI X0 hx Bd.returns (hb hby d13_16) hr
    · exact ⟨by rw [hv], N0, e0⟩
theorem d12_0 : decode jdk_35_method_49_code 0 = .ok (.lload_n 0, 1) := by decide +kernel
theorem d12_1 : decode jdk_35_method_49_code 1 = .ok (.l2i, 1) := by decide +kernel
theorem d12_2 : decode jdk_35_method_49_code 2 = .ok (.istore_n 2, 1) := by decide +kernel
theorem d12_3 : decode jdk_35_method_49_code 3 = .ok (.iload_n 2, 1) := by decide +kernel
theorem d12_4 : decode jdk_35_method_49_code 4 = .ok (.ifCond .ne 17, 3) := by decide +kernel
theorem d12_7 : decode jdk_35_method_49_code 7 = .ok (.bipush 32, 2) := by decide +kernel
theorem d12_9 : decode jdk_35_method_49_code 9 = .ok (.lload_n 0, 1) := by decide +kernel
theorem d12_10 : decode jdk_35_method_49_code 10 = .ok (.bipush 32, 2) := by decide +kernel
theorem d12_12 : decode jdk_35_method_49_code 12 = .ok (.lushr, 1) := by decide +kernel
theorem d12_13 : decode jdk_35_method_49_code 13 = .ok (.l2i, 1) := by decide +kernel
theorem d12_14 : decode jdk_35_method_49_code 14 = .ok (.invokestatic 311, 3) := by decide +kernel
theorem d12_17 : decode jdk_35_method_49_code 17 = .ok (.iadd, 1) := by decide +kernel
theorem d12_18 : decode jdk_35_method_49_code 18 = .ok (.goto 7, 3) := by decide +kernel
theorem d12_21 : decode jdk_35_method_49_code 21 = .ok (.iload_n 2, 1) := by decide +kernel
theorem d12_22 : decode jdk_35_method_49_code 22 = .ok (.invokestatic 311, 3) := by decide +kernel
theorem d12_25 : decode jdk_35_method_49_code 25 = .ok (.ireturn, 1) := by decide +kernel
theorem pn_12 : plainName "java/lang/Long" = true := by first | (simp [plainName, overriddenIn]; done) | decide +kernel
theorem ef_12 (m : MethodId) (x0 : Int64) : entryFrame m #[(.long x0)] 3 = mkF m 0 #[.val (.long x0), .second, .unset] [] := by first | (simp [entryFrame, mkF, argsToLocals, Value.category]; done) | rfl
def v12_1 (q0 : Int64) : Int32 := (f13 (((q0.toUInt64 >>> ((32 : Int32) &&& 0x3f).toInt64.toUInt64).toInt64).toInt32))
def f12 (q0 : Int64) : Int32 := (if (q0.toInt32) = (0 : Int32) then ((32 : Int32) + (v12_1 q0)) else (f13 (q0.toInt32)))
def Q12 (Z : State) (q0 : Int64) (h0 : Heap) (n0 : Nat) (v : Option Value) (h : Heap) (L : List Loc) : Prop := v = some (.int (f12 q0)) ∧ Fr n0 L ∧ h = h0
set_option maxRecDepth 65536 in
set_option maxHeartbeats 40000000 in
theorem rm12 (l : Launch) (Z : State) (a0 : Array Value) (hw : ∀ d ∈ tables_1, d.before a0 Z = true) (ws : List Jvm.Cond) (q0 : Int64)  (h0 : Heap) (n0 : Nat) (Z0 : n0 ≤ h0.size)  :
    MetFree l (⟨"java/lang/Long", "numberOfTrailingZeros", "(J)I"⟩ : MethodName) (head1 (Jvm.Cond.code (⟨"java/lang/Long", "numberOfTrailingZeros", "(J)I"⟩ : MethodName) jdk_35_method_49_code 3 (some .int) :: ws) ({ frames := 1, cells := 0, slots := 0, locals := 14 } : Room)) (fun a U => a = #[(.long q0)] ∧ Z.Warmed39 U.vm ∧ U.heap = h0) (fun _ _ _ _ _ => True) (fun _ U o U' => ∃ v L, o = .returned v ∧ Q12 Z q0 h0 n0 v U'.heap L ∧ FrameEnd U o U' L ({ frames := 1, cells := 0, slots := 0, locals := 14 } : Room).cells ({ frames := 1, cells := 0, slots := 0, locals := 14 } : Room).slots) := by
  refine MetFree.of_bodySF (plainFor_of_name pn_12) hisR ?_
  intro p e s m args below meth c s₁ Bd hml0 hP hK
  obtain ⟨rfl, hZ, hh⟩ := hP
  have hx := Bd.exec
  have hby := Bd.bytes
  have hml : c.maxLocals = 3 := hml0
  have hown : s.vm.findClass "java/lang/Long" = some m.cls := findClass_of_methodNamed Bd.named
  have hnm := (name_of_methodNamed Bd.named Bd.method).1
  have X0 : Stand p l e ({ frames := 1, cells := 0, slots := 0, locals := 14 } : Room) s m #[(.long q0)] below meth c s₁ [] 0 0 := Stand.of_body Bd
  have e0 : s₁.heap = h0 := by rw [← hh, Bd.state]; rfl
  have N0 := Fr.nil n0
  have hlk : meth.locks = false := by first | exact BodyLoose.notSynchronized Bd | exact Body.notSynchronized Bd
  have pre0 : ∀ t, Steps p.tables e below (s₁.setTop (mkF m 0 #[.val (.long q0), .second, .unset] [])) t → Steps p.tables e below (s₁.setTop (entryFrame m #[(.long q0)] 3)) t := fun t k => castTop (ef_12 m q0) k
  have pre1 : ∀ t, Steps p.tables e below (s₁.setTop (mkF m 4 #[.val (.long q0), .second, .val (.int (q0.toInt32))] [(.int (q0.toInt32))])) t → Steps p.tables e below (s₁.setTop (entryFrame m #[(.long q0)] 3)) t := fun t k => pre0 t (by
    show Steps p.tables e below (s₁.setTop (mkF m 0 #[.val (.long q0), .second, .unset] [])) _
    refine XS.lloadN X0.here hx rfl (hb hby d12_0) rfl ?_
    show Steps p.tables e below (s₁.setTop (mkF m 1 #[.val (.long q0), .second, .unset] [(.long q0)])) _
    refine XS.l2i X0.here hx rfl (hb hby d12_1) rfl ?_
    show Steps p.tables e below (s₁.setTop (mkF m 2 #[.val (.long q0), .second, .unset] [(.int (q0.toInt32))])) _
    refine XS.istoreN X0.here hx rfl (hb hby d12_2) rfl (l' := #[.val (.long q0), .second, .val (.int (q0.toInt32))]) rfl ?_
    show Steps p.tables e below (s₁.setTop (mkF m 3 #[.val (.long q0), .second, .val (.int (q0.toInt32))] [])) _
    refine XS.iloadN X0.here hx rfl (hb hby d12_3) rfl ?_
    show Steps p.tables e below (s₁.setTop (mkF m 4 #[.val (.long q0), .second, .val (.int (q0.toInt32))] [(.int (q0.toInt32))])) _
    exact k)
  by_cases hc4_2 : (q0.toInt32) = (0 : Int32)
  · obtain ⟨_, _, ⟨T3, L3, k3, n3⟩, -, X3, ⟨Lc3, hQ3, l3, y3, z3⟩, st3⟩ := Jvm.LawKit.callS X0 hx (y := (⟨"java/lang/Integer", "numberOfTrailingZeros", "(I)I"⟩ : MethodName)) hown (mvT hZ (hw _ (List.mem_of_getElem? (i := 65) rfl))) (mvT hZ (hw _ (List.mem_of_getElem? (i := 66) rfl))) (mvT hZ (hw _ (List.mem_of_getElem? (i := 67) rfl))) (mvT hZ (hw _ (List.mem_of_getElem? (i := 68) rfl))) (by decide) (backOf (W := 1) (rm13 l Z a0 hw [] (((q0.toUInt64 >>> ((32 : Int32) &&& 0x3f).toInt64.toUInt64).toInt64).toInt32) h0 n0 Z0) hZ (hw _ (List.mem_of_getElem? (i := 68) rfl)) (hw _ (List.mem_of_getElem? (i := 67) rfl)) (by decide) (by decide)) (g := (mkF m 14 #[.val (.long q0), .second, .val (.int (q0.toInt32))] [(.int (((q0.toUInt64 >>> ((32 : Int32) &&& 0x3f).toInt64.toUInt64).toInt64).toInt32)), (.int (32 : Int32))])) rfl (by rw [hml]; rfl) (argsL := [(.int (((q0.toUInt64 >>> ((32 : Int32) &&& 0x3f).toInt64.toUInt64).toInt64).toInt32))]) (rest := [(.int (32 : Int32))]) (lenOf pd_0 rfl) rfl (by show 2 * 0 + _ ≤ _; exact Nat.le_of_eq rfl) (hb hby d12_14) (fun _ _ => ⟨rfl, e0, (by decide : 0 + 0 ≤ _), (by decide : 0 + 0 ≤ _)⟩)
    dsimp only [Pt.U, Pt.locs, Pt.cells, Pt.slots] at X3 l3 y3 z3 st3 hQ3
    rw [l3, y3, z3] at X3
    obtain ⟨rfl, N3q, e3⟩ := hQ3
    have N3 := Fr.app N0 N3q
    have hv : (f12 q0) = ((32 : Int32) + (v12_1 q0)) := by simp only [f12, if_pos hc4_2]
    obtain ⟨fs, hr, hrun, hended, hW, hsame⟩ := X3.leave (v := some (.int ((32 : Int32) + (v12_1 q0)))) (fun h => nomatch (Bd.returns.symm.trans h)) hlk
    refine ⟨_, _, pre1 _ ?_, hrun, hended, _, _, rfl, ?_, ⟨_, rfl⟩, hW, hsame.mono (by decide) (by decide)⟩
    · show Steps p.tables e below (s₁.setTop (mkF m 4 #[.val (.long q0), .second, .val (.int (q0.toInt32))] [(.int (q0.toInt32))])) _
      refine XS.ifNo X0.here hx rfl (hb hby d12_4) rfl ((if0 _ _).trans (teq hc4_2).2) ?_
      show Steps p.tables e below (s₁.setTop (mkF m 7 #[.val (.long q0), .second, .val (.int (q0.toInt32))] [])) _
      refine XS.bipush X0.here hx rfl (hb hby d12_7) ?_
      show Steps p.tables e below (s₁.setTop (mkF m 9 #[.val (.long q0), .second, .val (.int (q0.toInt32))] [(.int (32 : Int32))])) _
      refine XS.lloadN X0.here hx rfl (hb hby d12_9) rfl ?_
      show Steps p.tables e below (s₁.setTop (mkF m 10 #[.val (.long q0), .second, .val (.int (q0.toInt32))] [(.long q0), (.int (32 : Int32))])) _
      refine XS.bipush X0.here hx rfl (hb hby d12_10) ?_
      show Steps p.tables e below (s₁.setTop (mkF m 12 #[.val (.long q0), .second, .val (.int (q0.toInt32))] [(.int (32 : Int32)), (.long q0), (.int (32 : Int32))])) _
      refine XS.lushr X0.here hx rfl (hb hby d12_12) rfl ?_
      show Steps p.tables e below (s₁.setTop (mkF m 13 #[.val (.long q0), .second, .val (.int (q0.toInt32))] [(.long ((q0.toUInt64 >>> ((32 : Int32) &&& 0x3f).toInt64.toUInt64).toInt64)), (.int (32 : Int32))])) _
      refine XS.l2i X0.here hx rfl (hb hby d12_13) rfl ?_
      show Steps p.tables e below (s₁.setTop (mkF m 14 #[.val (.long q0), .second, .val (.int (q0.toInt32))] [(.int (((q0.toUInt64 >>> ((32 : Int32) &&& 0x3f).toInt64.toUInt64).toInt64).toInt32)), (.int (32 : Int32))])) _
      refine st3 _ ?_
      show Steps p.tables e below (T3.setTop (mkF m 17 #[.val (.long q0), .second, .val (.int (q0.toInt32))] [(.int (v12_1 q0)), (.int (32 : Int32))])) _
      refine XS.iadd X3.here hx rfl (hb hby d12_17) rfl ?_
      show Steps p.tables e below (T3.setTop (mkF m 18 #[.val (.long q0), .second, .val (.int (q0.toInt32))] [(.int ((32 : Int32) + (v12_1 q0)))])) _
      refine XS.goto X3.here hx rfl (pc0 := 18) (pc' := 25) rfl (hb hby d12_18) (by decide) (by decide) ?_
      show Steps p.tables e below (T3.setTop (mkF m 25 #[.val (.long q0), .second, .val (.int (q0.toInt32))] [(.int ((32 : Int32) + (v12_1 q0)))])) _
      exact retI X3 hx Bd.returns (hb hby d12_25) hr
    · exact ⟨by rw [hv], N3, e3⟩
  · obtain ⟨_, _, ⟨T4, L4, k4, n4⟩, -, X4, ⟨Lc4, hQ4, l4, y4, z4⟩, st4⟩ := Jvm.LawKit.callS X0 hx (y := (⟨"java/lang/Integer", "numberOfTrailingZeros", "(I)I"⟩ : MethodName)) hown (mvT hZ (hw _ (List.mem_of_getElem? (i := 65) rfl))) (mvT hZ (hw _ (List.mem_of_getElem? (i := 66) rfl))) (mvT hZ (hw _ (List.mem_of_getElem? (i := 67) rfl))) (mvT hZ (hw _ (List.mem_of_getElem? (i := 68) rfl))) (by decide) (backOf (W := 0) (rm13 l Z a0 hw [] (q0.toInt32) h0 n0 Z0) hZ (hw _ (List.mem_of_getElem? (i := 68) rfl)) (hw _ (List.mem_of_getElem? (i := 67) rfl)) (by decide) (by decide)) (g := (mkF m 22 #[.val (.long q0), .second, .val (.int (q0.toInt32))] [(.int (q0.toInt32))])) rfl (by rw [hml]; rfl) (argsL := [(.int (q0.toInt32))]) (rest := []) (lenOf pd_0 rfl) rfl (by show 2 * 0 + _ ≤ _; exact Nat.le_of_eq rfl) (hb hby d12_22) (fun _ _ => ⟨rfl, e0, (by decide : 0 + 0 ≤ _), (by decide : 0 + 0 ≤ _)⟩)
    dsimp only [Pt.U, Pt.locs, Pt.cells, Pt.slots] at X4 l4 y4 z4 st4 hQ4
    rw [l4, y4, z4] at X4
    obtain ⟨rfl, N4q, e4⟩ := hQ4
    have N4 := Fr.app N0 N4q
    have hv : (f12 q0) = (f13 (q0.toInt32)) := by simp only [f12, if_neg hc4_2]
    obtain ⟨fs, hr, hrun, hended, hW, hsame⟩ := X4.leave (v := some (.int (f13 (q0.toInt32)))) (fun h => nomatch (Bd.returns.symm.trans h)) hlk
    refine ⟨_, _, pre1 _ ?_, hrun, hended, _, _, rfl, ?_, ⟨_, rfl⟩, hW, hsame.mono (by decide) (by decide)⟩
    · show Steps p.tables e below (s₁.setTop (mkF m 4 #[.val (.long q0), .second, .val (.int (q0.toInt32))] [(.int (q0.toInt32))])) _
      refine XS.ifYes X0.here hx rfl (pc0 := 4) (pc' := 21) rfl (hb hby d12_4) rfl ((if0 _ _).trans (feq hc4_2).2) (by decide) (by decide) ?_
      show Steps p.tables e below (s₁.setTop (mkF m 21 #[.val (.long q0), .second, .val (.int (q0.toInt32))] [])) _
      refine XS.iloadN X0.here hx rfl (hb hby d12_21) rfl ?_
      show Steps p.tables e below (s₁.setTop (mkF m 22 #[.val (.long q0), .second, .val (.int (q0.toInt32))] [(.int (q0.toInt32))])) _
      refine st4 _ ?_
      show Steps p.tables e below (T4.setTop (mkF m 25 #[.val (.long q0), .second, .val (.int (q0.toInt32))] [(.int (f13 (q0.toInt32)))])) _
      exact retI X4 hx Bd.returns (hb hby d12_25) hr
    · exact ⟨by rw [hv], N4, e4⟩
def own_F (i : Int32) : Int32 :=
  let a2 := (if (65536 : Int32) < i then ((i.toUInt32 >>> ((16 : Int32) &&& 31).toUInt32).toInt32) else i)
  let a3 := (if (65536 : Int32) < i then (17 : Int32) else (1 : Int32))
  let a4 := (if (256 : Int32) < a2 then ((a2.toUInt32 >>> ((8 : Int32) &&& 31).toUInt32).toInt32) else a2)
  let a5 := (if (256 : Int32) < a2 then (a3 + (8 : Int32)) else a3)
  let a6 := (if (16 : Int32) < a4 then ((a4.toUInt32 >>> ((4 : Int32) &&& 31).toUInt32).toInt32) else a4)
  let a7 := (if (16 : Int32) < a4 then (a5 + (4 : Int32)) else a5)
  let a8 := (if (4 : Int32) < a6 then ((a6.toUInt32 >>> ((2 : Int32) &&& 31).toUInt32).toInt32) else a6)
  let a9 := (if (4 : Int32) < a6 then (a7 + (2 : Int32)) else a7)
  (if (0 : Int32) < i then (a9 + ((a8.toUInt32 >>> ((1 : Int32) &&& 31).toUInt32).toInt32)) else (i &&& (32 : Int32)))
theorem own_F_eq (x : Int32) : f13 x = own_F (v13_1 x) := rfl
theorem own_F_all : ∀ j : Fin 32, own_F (Int32.ofBitVec (BitVec.ofNat 32 (2 ^ j.val - 1))) = Int32.ofNat j.val := by decide +kernel
theorem own_n32 (x : Int32) (j : Nat) (h : Lo x.toBitVec j) : f13 x = Int32.ofNat j := by
  have e : (v13_1 x) = Int32.ofBitVec (BitVec.ofNat 32 (2 ^ j - 1)) := by
    apply Int32.toBitVec_inj.mp
    rw [Int32.toBitVec_ofBitVec, ← own_mask x.toBitVec j h]
    unfold v13_1
    rw [Int32.toBitVec_and, Int32.toBitVec_xor, Int32.toBitVec_sub]
    congr 1
    show x.toBitVec ^^^ BitVec.allOnes 32 = _
    rw [BitVec.xor_allOnes]
  rw [own_F_eq, e]
  exact own_F_all ⟨j, h.1⟩
theorem own_n64 (x : Int64) (j : Nat) (h : Lo x.toBitVec j) : f12 x = Int32.ofNat j := by
  obtain ⟨hj, h1, h2⟩ := h
  have elo : ∀ i, i < 32 → (x.toInt32).toBitVec.getLsbD i = x.toBitVec.getLsbD i := fun i hi => by
    show (x.toBitVec.signExtend 32).getLsbD i = _
    rw [BitVec.getLsbD_signExtend]; simp [hi, show i < 64 by omega]
  have ehi : ∀ i, i < 32 → ((((x.toUInt64 >>> ((32 : Int32) &&& 0x3f).toInt64.toUInt64).toInt64).toInt32)).toBitVec.getLsbD i = x.toBitVec.getLsbD (32 + i) := fun i hi => by
    show ((((x.toUInt64 >>> ((32 : Int32) &&& 0x3f).toInt64.toUInt64).toInt64)).toBitVec.signExtend 32).getLsbD i = _
    rw [BitVec.getLsbD_signExtend]
    have e : ((x.toUInt64 >>> ((32 : Int32) &&& 0x3f).toInt64.toUInt64).toInt64).toBitVec = x.toBitVec >>> 32 := rfl
    rw [e, BitVec.getLsbD_ushiftRight]; simp [hi, show i < 64 by omega]
  unfold f12
  by_cases c : j < 32
  · have hl : Lo (x.toInt32).toBitVec j := ⟨c, fun i hi => by rw [elo i (by omega)]; exact h1 i hi, by rw [elo j c]; exact h2⟩
    rw [if_neg, own_n32 _ _ hl]
    intro q
    have := own_lo_ext hl
    rw [q] at this; exact this rfl
  · have hl : Lo (((x.toUInt64 >>> ((32 : Int32) &&& 0x3f).toInt64.toUInt64).toInt64).toInt32).toBitVec (j - 32) := ⟨by omega, fun i hi => by rw [ehi i (by omega)]; exact h1 _ (by omega), by rw [ehi _ (by omega), show 32 + (j - 32) = j by omega]; exact h2⟩
    have hz : x.toInt32 = 0 := by
      apply Int32.toBitVec_inj.mp
      apply BitVec.eq_of_getLsbD_eq
      intro i hi
      rw [elo i hi, h1 i (by omega)]
      show _ = (0#32).getLsbD i
      simp
    rw [if_pos hz]
    unfold v12_1
    rw [own_n32 _ _ hl]
    have : ∀ k : Fin 32, (32 : Int32) + Int32.ofNat k.val = Int32.ofNat (k.val + 32) := by decide +kernel
    have r := this ⟨j - 32, by omega⟩
    rw [show (⟨j - 32, by omega⟩ : Fin 32).val + 32 = j by show j - 32 + 32 = j; omega] at r
    exact r

theorem d1_0 : decode method_2_code 0 = .ok (.iload_n 0, 1) := by decide +kernel
theorem d1_1 : decode method_2_code 1 = .ok (.ifCond .ne 5, 3) := by decide +kernel
theorem d1_4 : decode method_2_code 4 = .ok (.iload_n 1, 1) := by decide +kernel
theorem d1_5 : decode method_2_code 5 = .ok (.ireturn, 1) := by decide +kernel
theorem d1_6 : decode method_2_code 6 = .ok (.iload_n 0, 1) := by decide +kernel
theorem d1_7 : decode method_2_code 7 = .ok (.iconst 1, 1) := by decide +kernel
theorem d1_8 : decode method_2_code 8 = .ok (.if_icmp .ne 5, 3) := by decide +kernel
theorem d1_11 : decode method_2_code 11 = .ok (.iload_n 2, 1) := by decide +kernel
theorem d1_12 : decode method_2_code 12 = .ok (.ireturn, 1) := by decide +kernel
theorem d1_13 : decode method_2_code 13 = .ok (.iload_n 0, 1) := by decide +kernel
theorem d1_14 : decode method_2_code 14 = .ok (.iconst 2, 1) := by decide +kernel
theorem d1_15 : decode method_2_code 15 = .ok (.if_icmp .ne 5, 3) := by decide +kernel
theorem d1_18 : decode method_2_code 18 = .ok (.iload_n 3, 1) := by decide +kernel
theorem d1_19 : decode method_2_code 19 = .ok (.ireturn, 1) := by decide +kernel
theorem d1_20 : decode method_2_code 20 = .ok (.iload 4, 2) := by decide +kernel
theorem d1_22 : decode method_2_code 22 = .ok (.ireturn, 1) := by decide +kernel
theorem pn_1 : plainName "com/example/knotwork/knotwork/generate/FreeNumbersFreePinLaw" = true := by first | (simp [plainName, overriddenIn]; done) | decide +kernel
theorem ef_1 (m : MethodId) (x0 : Int32) (x1 : Int32) (x2 : Int32) (x3 : Int32) (x4 : Int32) : entryFrame m #[(.int x0), (.int x1), (.int x2), (.int x3), (.int x4)] 5 = mkF m 0 #[.val (.int x0), .val (.int x1), .val (.int x2), .val (.int x3), .val (.int x4)] [] := by first | (simp [entryFrame, mkF, argsToLocals, Value.category]; done) | rfl
def f1 (p0 : Int32) (p1 : Int32) (p2 : Int32) (p3 : Int32) (p4 : Int32) : Int32 := (if p0 = (0 : Int32) then p1 else (if p0 = (1 : Int32) then p2 else (if p0 = (2 : Int32) then p3 else p4)))
def Q1 (Z : State) (p0 : Int32) (p1 : Int32) (p2 : Int32) (p3 : Int32) (p4 : Int32) (h0 : Heap) (n0 : Nat) (v : Option Value) (h : Heap) (L : List Loc) : Prop := v = some (.int (f1 p0 p1 p2 p3 p4)) ∧ Fr n0 L ∧ h = h0
set_option maxRecDepth 65536 in
set_option maxHeartbeats 40000000 in
theorem rm1 (l : Launch) (Z : State) (a0 : Array Value) (hw : ∀ d ∈ tables_1, d.before a0 Z = true) (ws : List Jvm.Cond) (p0 : Int32) (p1 : Int32) (p2 : Int32) (p3 : Int32) (p4 : Int32)  (h0 : Heap) (n0 : Nat) (Z0 : n0 ≤ h0.size)  :
    MetFree l (⟨"com/example/knotwork/knotwork/generate/FreeNumbersFreePinLaw", "pick", "(IIIII)I"⟩ : MethodName) (head1 (Jvm.Cond.code (⟨"com/example/knotwork/knotwork/generate/FreeNumbersFreePinLaw", "pick", "(IIIII)I"⟩ : MethodName) method_2_code 5 (some .int) :: ws) ({ frames := 0, cells := 0, slots := 0, locals := 0 } : Room)) (fun a U => a = #[(.int p0), (.int p1), (.int p2), (.int p3), (.int p4)] ∧ Z.Warmed39 U.vm ∧ U.heap = h0) (fun _ _ _ _ _ => True) (fun _ U o U' => ∃ v L, o = .returned v ∧ Q1 Z p0 p1 p2 p3 p4 h0 n0 v U'.heap L ∧ FrameEnd U o U' L ({ frames := 0, cells := 0, slots := 0, locals := 0 } : Room).cells ({ frames := 0, cells := 0, slots := 0, locals := 0 } : Room).slots) := by
  refine MetFree.of_bodySF (plainFor_of_name pn_1) hisR ?_
  intro p e s m args below meth c s₁ Bd hml0 hP hK
  obtain ⟨rfl, hZ, hh⟩ := hP
  have hx := Bd.exec
  have hby := Bd.bytes
  have hml : c.maxLocals = 5 := hml0
  have hown : s.vm.findClass "com/example/knotwork/knotwork/generate/FreeNumbersFreePinLaw" = some m.cls := findClass_of_methodNamed Bd.named
  have hnm := (name_of_methodNamed Bd.named Bd.method).1
  have X0 : Stand p l e ({ frames := 0, cells := 0, slots := 0, locals := 0 } : Room) s m #[(.int p0), (.int p1), (.int p2), (.int p3), (.int p4)] below meth c s₁ [] 0 0 := Stand.of_body Bd
  have e0 : s₁.heap = h0 := by rw [← hh, Bd.state]; rfl
  have N0 := Fr.nil n0
  have hlk : meth.locks = false := by first | exact BodyLoose.notSynchronized Bd | exact Body.notSynchronized Bd
  have pre0 : ∀ t, Steps p.tables e below (s₁.setTop (mkF m 0 #[.val (.int p0), .val (.int p1), .val (.int p2), .val (.int p3), .val (.int p4)] [])) t → Steps p.tables e below (s₁.setTop (entryFrame m #[(.int p0), (.int p1), (.int p2), (.int p3), (.int p4)] 5)) t := fun t k => castTop (ef_1 m p0 p1 p2 p3 p4) k
  have pre1 : ∀ t, Steps p.tables e below (s₁.setTop (mkF m 1 #[.val (.int p0), .val (.int p1), .val (.int p2), .val (.int p3), .val (.int p4)] [(.int p0)])) t → Steps p.tables e below (s₁.setTop (entryFrame m #[(.int p0), (.int p1), (.int p2), (.int p3), (.int p4)] 5)) t := fun t k => pre0 t (by
    show Steps p.tables e below (s₁.setTop (mkF m 0 #[.val (.int p0), .val (.int p1), .val (.int p2), .val (.int p3), .val (.int p4)] [])) _
    refine XS.iloadN X0.here hx rfl (hb hby d1_0) rfl ?_
    show Steps p.tables e below (s₁.setTop (mkF m 1 #[.val (.int p0), .val (.int p1), .val (.int p2), .val (.int p3), .val (.int p4)] [(.int p0)])) _
    exact k)
  by_cases hc1_2 : p0 = (0 : Int32)
  · have hv : (f1 p0 p1 p2 p3 p4) = p1 := by simp only [f1, if_pos hc1_2]
    obtain ⟨fs, hr, hrun, hended, hW, hsame⟩ := X0.leave (v := some (.int p1)) (fun h => nomatch (Bd.returns.symm.trans h)) hlk
    refine ⟨_, _, pre1 _ ?_, hrun, hended, _, _, rfl, ?_, ⟨_, rfl⟩, hW, hsame.mono (by decide) (by decide)⟩
    · show Steps p.tables e below (s₁.setTop (mkF m 1 #[.val (.int p0), .val (.int p1), .val (.int p2), .val (.int p3), .val (.int p4)] [(.int p0)])) _
      refine XS.ifNo X0.here hx rfl (hb hby d1_1) rfl ((if0 _ _).trans (teq hc1_2).2) ?_
      show Steps p.tables e below (s₁.setTop (mkF m 4 #[.val (.int p0), .val (.int p1), .val (.int p2), .val (.int p3), .val (.int p4)] [])) _
      refine XS.iloadN X0.here hx rfl (hb hby d1_4) rfl ?_
      show Steps p.tables e below (s₁.setTop (mkF m 5 #[.val (.int p0), .val (.int p1), .val (.int p2), .val (.int p3), .val (.int p4)] [(.int p1)])) _
      exact retI X0 hx Bd.returns (hb hby d1_5) hr
    · exact ⟨by rw [hv], N0, e0⟩
  · have pre3 : ∀ t, Steps p.tables e below (s₁.setTop (mkF m 8 #[.val (.int p0), .val (.int p1), .val (.int p2), .val (.int p3), .val (.int p4)] [(.int (1 : Int32)), (.int p0)])) t → Steps p.tables e below (s₁.setTop (entryFrame m #[(.int p0), (.int p1), (.int p2), (.int p3), (.int p4)] 5)) t := fun t k => pre1 t (by
      show Steps p.tables e below (s₁.setTop (mkF m 1 #[.val (.int p0), .val (.int p1), .val (.int p2), .val (.int p3), .val (.int p4)] [(.int p0)])) _
      refine XS.ifYes X0.here hx rfl (pc0 := 1) (pc' := 6) rfl (hb hby d1_1) rfl ((if0 _ _).trans (feq hc1_2).2) (by decide) (by decide) ?_
      show Steps p.tables e below (s₁.setTop (mkF m 6 #[.val (.int p0), .val (.int p1), .val (.int p2), .val (.int p3), .val (.int p4)] [])) _
      refine XS.iloadN X0.here hx rfl (hb hby d1_6) rfl ?_
      show Steps p.tables e below (s₁.setTop (mkF m 7 #[.val (.int p0), .val (.int p1), .val (.int p2), .val (.int p3), .val (.int p4)] [(.int p0)])) _
      refine XS.iconst X0.here hx rfl (hb hby d1_7) ?_
      show Steps p.tables e below (s₁.setTop (mkF m 8 #[.val (.int p0), .val (.int p1), .val (.int p2), .val (.int p3), .val (.int p4)] [(.int (1 : Int32)), (.int p0)])) _
      exact k)
    by_cases hc8_4 : p0 = (1 : Int32)
    · have hv : (f1 p0 p1 p2 p3 p4) = p2 := by simp only [f1, if_neg hc1_2, if_pos hc8_4]
      obtain ⟨fs, hr, hrun, hended, hW, hsame⟩ := X0.leave (v := some (.int p2)) (fun h => nomatch (Bd.returns.symm.trans h)) hlk
      refine ⟨_, _, pre3 _ ?_, hrun, hended, _, _, rfl, ?_, ⟨_, rfl⟩, hW, hsame.mono (by decide) (by decide)⟩
      · show Steps p.tables e below (s₁.setTop (mkF m 8 #[.val (.int p0), .val (.int p1), .val (.int p2), .val (.int p3), .val (.int p4)] [(.int (1 : Int32)), (.int p0)])) _
        refine XS.icmpNo X0.here hx rfl (hb hby d1_8) rfl (teq hc8_4).2 ?_
        show Steps p.tables e below (s₁.setTop (mkF m 11 #[.val (.int p0), .val (.int p1), .val (.int p2), .val (.int p3), .val (.int p4)] [])) _
        refine XS.iloadN X0.here hx rfl (hb hby d1_11) rfl ?_
        show Steps p.tables e below (s₁.setTop (mkF m 12 #[.val (.int p0), .val (.int p1), .val (.int p2), .val (.int p3), .val (.int p4)] [(.int p2)])) _
        exact retI X0 hx Bd.returns (hb hby d1_12) hr
      · exact ⟨by rw [hv], N0, e0⟩
    · have pre5 : ∀ t, Steps p.tables e below (s₁.setTop (mkF m 15 #[.val (.int p0), .val (.int p1), .val (.int p2), .val (.int p3), .val (.int p4)] [(.int (2 : Int32)), (.int p0)])) t → Steps p.tables e below (s₁.setTop (entryFrame m #[(.int p0), (.int p1), (.int p2), (.int p3), (.int p4)] 5)) t := fun t k => pre3 t (by
        show Steps p.tables e below (s₁.setTop (mkF m 8 #[.val (.int p0), .val (.int p1), .val (.int p2), .val (.int p3), .val (.int p4)] [(.int (1 : Int32)), (.int p0)])) _
        refine XS.icmpYes X0.here hx rfl (pc0 := 8) (pc' := 13) rfl (hb hby d1_8) rfl (feq hc8_4).2 (by decide) (by decide) ?_
        show Steps p.tables e below (s₁.setTop (mkF m 13 #[.val (.int p0), .val (.int p1), .val (.int p2), .val (.int p3), .val (.int p4)] [])) _
        refine XS.iloadN X0.here hx rfl (hb hby d1_13) rfl ?_
        show Steps p.tables e below (s₁.setTop (mkF m 14 #[.val (.int p0), .val (.int p1), .val (.int p2), .val (.int p3), .val (.int p4)] [(.int p0)])) _
        refine XS.iconst X0.here hx rfl (hb hby d1_14) ?_
        show Steps p.tables e below (s₁.setTop (mkF m 15 #[.val (.int p0), .val (.int p1), .val (.int p2), .val (.int p3), .val (.int p4)] [(.int (2 : Int32)), (.int p0)])) _
        exact k)
      by_cases hc15_6 : p0 = (2 : Int32)
      · have hv : (f1 p0 p1 p2 p3 p4) = p3 := by simp only [f1, if_neg hc1_2, if_neg hc8_4, if_pos hc15_6]
        obtain ⟨fs, hr, hrun, hended, hW, hsame⟩ := X0.leave (v := some (.int p3)) (fun h => nomatch (Bd.returns.symm.trans h)) hlk
        refine ⟨_, _, pre5 _ ?_, hrun, hended, _, _, rfl, ?_, ⟨_, rfl⟩, hW, hsame.mono (by decide) (by decide)⟩
        · show Steps p.tables e below (s₁.setTop (mkF m 15 #[.val (.int p0), .val (.int p1), .val (.int p2), .val (.int p3), .val (.int p4)] [(.int (2 : Int32)), (.int p0)])) _
          refine XS.icmpNo X0.here hx rfl (hb hby d1_15) rfl (teq hc15_6).2 ?_
          show Steps p.tables e below (s₁.setTop (mkF m 18 #[.val (.int p0), .val (.int p1), .val (.int p2), .val (.int p3), .val (.int p4)] [])) _
          refine XS.iloadN X0.here hx rfl (hb hby d1_18) rfl ?_
          show Steps p.tables e below (s₁.setTop (mkF m 19 #[.val (.int p0), .val (.int p1), .val (.int p2), .val (.int p3), .val (.int p4)] [(.int p3)])) _
          exact retI X0 hx Bd.returns (hb hby d1_19) hr
        · exact ⟨by rw [hv], N0, e0⟩
      · have hv : (f1 p0 p1 p2 p3 p4) = p4 := by simp only [f1, if_neg hc1_2, if_neg hc8_4, if_neg hc15_6]
        obtain ⟨fs, hr, hrun, hended, hW, hsame⟩ := X0.leave (v := some (.int p4)) (fun h => nomatch (Bd.returns.symm.trans h)) hlk
        refine ⟨_, _, pre5 _ ?_, hrun, hended, _, _, rfl, ?_, ⟨_, rfl⟩, hW, hsame.mono (by decide) (by decide)⟩
        · show Steps p.tables e below (s₁.setTop (mkF m 15 #[.val (.int p0), .val (.int p1), .val (.int p2), .val (.int p3), .val (.int p4)] [(.int (2 : Int32)), (.int p0)])) _
          refine XS.icmpYes X0.here hx rfl (pc0 := 15) (pc' := 20) rfl (hb hby d1_15) rfl (feq hc15_6).2 (by decide) (by decide) ?_
          show Steps p.tables e below (s₁.setTop (mkF m 20 #[.val (.int p0), .val (.int p1), .val (.int p2), .val (.int p3), .val (.int p4)] [])) _
          refine XS.iload X0.here hx rfl (hb hby d1_20) rfl ?_
          show Steps p.tables e below (s₁.setTop (mkF m 22 #[.val (.int p0), .val (.int p1), .val (.int p2), .val (.int p3), .val (.int p4)] [(.int p4)])) _
          exact retI X0 hx Bd.returns (hb hby d1_22) hr
        · exact ⟨by rw [hv], N0, e0⟩

theorem own_sel {s : State} {args : Array Value} {y : MethodName} {n : Nat} (wi : (Jvm.Cond.instantiable y.cls n).before args s = true) (hp : s.PrivateAt y) (hi : (Jvm.Cond.instanceMethod y).before args s = true) (hy : y.cls ≠ "java/lang/invoke/MethodHandle" ∧ y.cls ≠ "java/lang/invoke/VarHandle") : (Jvm.Cond.selects y.cls y y).before args s = true := by
  obtain ⟨c, k, h1, h2, h3, h4, -⟩ := Cond.instantiable_spec wi
  exact Jvm.Stand.selects_self_of_private h1 h2 (Bool.or_eq_false_iff.mp h4).1 hp hi hy

theorem d6_0 : decode prog_27_method_5_code 0 = .ok (.aload_n 0, 1) := by decide +kernel
theorem d6_1 : decode prog_27_method_5_code 1 = .ok (.getfield 17, 3) := by decide +kernel
theorem d6_4 : decode prog_27_method_5_code 4 = .ok (.iload_n 1, 1) := by decide +kernel
theorem d6_5 : decode prog_27_method_5_code 5 = .ok (.bipush 6, 2) := by decide +kernel
theorem d6_7 : decode prog_27_method_5_code 7 = .ok (.iushr, 1) := by decide +kernel
theorem d6_8 : decode prog_27_method_5_code 8 = .ok (.laload, 1) := by decide +kernel
theorem d6_9 : decode prog_27_method_5_code 9 = .ok (.lconst 1, 1) := by decide +kernel
theorem d6_10 : decode prog_27_method_5_code 10 = .ok (.iload_n 1, 1) := by decide +kernel
theorem d6_11 : decode prog_27_method_5_code 11 = .ok (.lshl, 1) := by decide +kernel
theorem d6_12 : decode prog_27_method_5_code 12 = .ok (.land, 1) := by decide +kernel
theorem d6_13 : decode prog_27_method_5_code 13 = .ok (.lconst 0, 1) := by decide +kernel
theorem d6_14 : decode prog_27_method_5_code 14 = .ok (.lcmp, 1) := by decide +kernel
theorem d6_15 : decode prog_27_method_5_code 15 = .ok (.ifCond .eq 7, 3) := by decide +kernel
theorem d6_18 : decode prog_27_method_5_code 18 = .ok (.iconst 1, 1) := by decide +kernel
theorem d6_19 : decode prog_27_method_5_code 19 = .ok (.goto 4, 3) := by decide +kernel
theorem d6_22 : decode prog_27_method_5_code 22 = .ok (.iconst 0, 1) := by decide +kernel
theorem d6_23 : decode prog_27_method_5_code 23 = .ok (.ireturn, 1) := by decide +kernel
theorem pn_6 : plainName "com/example/knotwork/knotwork/generate/FreeNumbers" = true := by first | (simp [plainName, overriddenIn]; done) | decide +kernel
theorem ef_6 (m : MethodId) (x0 : Addr) (x1 : Int32) : entryFrame m #[(.ref x0), (.int x1)] 2 = mkF m 0 #[.val (.ref x0), .val (.int x1)] [] := by first | (simp [entryFrame, mkF, argsToLocals, Value.category]; done) | rfl
def v6_1 (ts : List Int64) (p0 : Int32) : Int64 := (getJ ts ((p0.toUInt32 >>> ((6 : Int32) &&& 31).toUInt32).toInt32))
def f6 (p0 : Int32) (ts : List Int64) : Int32 := (if (lcmpW ((v6_1 ts p0) &&& ((1 : Int64) <<< (p0 &&& 0x3f).toInt64)) (0 : Int64)) = (0 : Int32) then (0 : Int32) else (1 : Int32))
def Q6 (Z : State) (o0 : Addr) (p0 : Int32) (nl : Int32) (ta : Addr) (ka : ClassId) (ts : List Int64) (h0 : Heap) (n0 : Nat) (v : Option Value) (h : Heap) (L : List Loc) : Prop := v = some (.int (f6 p0 ts)) ∧ Fr n0 L ∧ h = h0
set_option maxRecDepth 65536 in
set_option maxHeartbeats 40000000 in
theorem rm6 (l : Launch) (Z : State) (a0 : Array Value) (hw : ∀ d ∈ tables_1, d.before a0 Z = true) (ws : List Jvm.Cond) (o0 : Addr) (p0 : Int32) (nl : Int32) (ta : Addr) (ka : ClassId) (ts : List Int64) (h0 : Heap) (n0 : Nat) (Z0 : n0 ≤ h0.size) (E_o0 : Exa Z h0 o0 "com/example/knotwork/knotwork/generate/FreeNumbers") (F_taken_o0 : Fld Z h0 o0 "com/example/knotwork/knotwork/generate/FreeNumbers" "taken" "[J" (.ref ta)) (V_ta : La Z h0 ta ka nl ts) (hix : ¬ ((p0.toUInt32 >>> ((6 : Int32) &&& 31).toUInt32).toInt32) < (0 : Int32) ∧ ((p0.toUInt32 >>> ((6 : Int32) &&& 31).toUInt32).toInt32) < nl) :
    MetFree l (⟨"com/example/knotwork/knotwork/generate/FreeNumbers", "isTaken", "(I)Z"⟩ : MethodName) (head1 (Jvm.Cond.code (⟨"com/example/knotwork/knotwork/generate/FreeNumbers", "isTaken", "(I)Z"⟩ : MethodName) prog_27_method_5_code 2 (some .boolean) :: ws) ({ frames := 0, cells := 0, slots := 0, locals := 0 } : Room)) (fun a U => a = #[(.ref o0), (.int p0)] ∧ Z.Warmed39 U.vm ∧ U.heap = h0) (fun _ _ _ _ _ => True) (fun _ U o U' => ∃ v L, o = .returned v ∧ Q6 Z o0 p0 nl ta ka ts h0 n0 v U'.heap L ∧ FrameEnd U o U' L ({ frames := 0, cells := 0, slots := 0, locals := 0 } : Room).cells ({ frames := 0, cells := 0, slots := 0, locals := 0 } : Room).slots) := by
  refine MetFree.of_bodySF (plainFor_of_name pn_6) hisR ?_
  intro p e s m args below meth c s₁ Bd hml0 hP hK
  obtain ⟨rfl, hZ, hh⟩ := hP
  have hx := Bd.exec
  have hby := Bd.bytes
  have hml : c.maxLocals = 2 := hml0
  have hown : s.vm.findClass "com/example/knotwork/knotwork/generate/FreeNumbers" = some m.cls := findClass_of_methodNamed Bd.named
  have hnm := (name_of_methodNamed Bd.named Bd.method).1
  have X0 : Stand p l e ({ frames := 0, cells := 0, slots := 0, locals := 0 } : Room) s m #[(.ref o0), (.int p0)] below meth c s₁ [] 0 0 := Stand.of_body Bd
  have e0 : s₁.heap = h0 := by rw [← hh, Bd.state]; rfl
  have N0 := Fr.nil n0
  have hlk : meth.locks = false := by first | exact BodyLoose.notSynchronized Bd | exact Body.notSynchronized Bd
  have pre0 : ∀ t, Steps p.tables e below (s₁.setTop (mkF m 0 #[.val (.ref o0), .val (.int p0)] [])) t → Steps p.tables e below (s₁.setTop (entryFrame m #[(.ref o0), (.int p0)] 2)) t := fun t k => castTop (ef_6 m o0 p0) k
  obtain ⟨T1, X1, e1, st1⟩ := getF X0 hx hZ hown (host := "") (Or.inl (hw _ (List.mem_of_getElem? (i := 28) rfl))) Via.refl e0 (F_taken_o0) (g := (mkF m 1 #[.val (.ref o0), .val (.int p0)] [(.ref o0)])) rfl rfl (hb hby d6_1)
  obtain ⟨cl2, Ar2, hin2, hat2⟩ := La.get (V_ta) (j := ((p0.toUInt32 >>> ((6 : Int32) &&& 31).toUInt32).toInt32)) hix
  have pre3 : ∀ t, Steps p.tables e below (T1.setTop (mkF m 15 #[.val (.ref o0), .val (.int p0)] [(.int (lcmpW ((v6_1 ts p0) &&& ((1 : Int64) <<< (p0 &&& 0x3f).toInt64)) (0 : Int64)))])) t → Steps p.tables e below (s₁.setTop (entryFrame m #[(.ref o0), (.int p0)] 2)) t := fun t k => pre0 t (by
    show Steps p.tables e below (s₁.setTop (mkF m 0 #[.val (.ref o0), .val (.int p0)] [])) _
    refine XS.aloadN X0.here hx rfl (hb hby d6_0) rfl rfl ?_
    show Steps p.tables e below (s₁.setTop (mkF m 1 #[.val (.ref o0), .val (.int p0)] [(.ref o0)])) _
    refine st1 _ ?_
    show Steps p.tables e below (T1.setTop (mkF m 4 #[.val (.ref o0), .val (.int p0)] [(.ref ta)])) _
    refine XS.iloadN X1.here hx rfl (hb hby d6_4) rfl ?_
    show Steps p.tables e below (T1.setTop (mkF m 5 #[.val (.ref o0), .val (.int p0)] [(.int p0), (.ref ta)])) _
    refine XS.bipush X1.here hx rfl (hb hby d6_5) ?_
    show Steps p.tables e below (T1.setTop (mkF m 7 #[.val (.ref o0), .val (.int p0)] [(.int (6 : Int32)), (.int p0), (.ref ta)])) _
    refine XS.iushr X1.here hx rfl (hb hby d6_7) rfl ?_
    show Steps p.tables e below (T1.setTop (mkF m 8 #[.val (.ref o0), .val (.int p0)] [(.int ((p0.toUInt32 >>> ((6 : Int32) &&& 31).toUInt32).toInt32)), (.ref ta)])) _
    refine X1.laload hx (j := ((p0.toUInt32 >>> ((6 : Int32) &&& 31).toUInt32).toInt32)) (v := (.long (getJ ts ((p0.toUInt32 >>> ((6 : Int32) &&& 31).toUInt32).toInt32)))) (by rw [e1]; exact Ar2.1) (State.isArrayOf_alike hZ.alike Ar2.2.1) Ar2.2.2 hin2 hat2 (g := (mkF m 8 #[.val (.ref o0), .val (.int p0)] [(.int ((p0.toUInt32 >>> ((6 : Int32) &&& 31).toUInt32).toInt32)), (.ref ta)])) rfl rfl (hb hby d6_8) _ ?_
    show Steps p.tables e below (T1.setTop (mkF m 9 #[.val (.ref o0), .val (.int p0)] [(.long (v6_1 ts p0))])) _
    refine XS.lconst X1.here hx rfl (hb hby d6_9) ?_
    show Steps p.tables e below (T1.setTop (mkF m 10 #[.val (.ref o0), .val (.int p0)] [(.long (1 : Int64)), (.long (v6_1 ts p0))])) _
    refine XS.iloadN X1.here hx rfl (hb hby d6_10) rfl ?_
    show Steps p.tables e below (T1.setTop (mkF m 11 #[.val (.ref o0), .val (.int p0)] [(.int p0), (.long (1 : Int64)), (.long (v6_1 ts p0))])) _
    refine XS.lshl X1.here hx rfl (hb hby d6_11) rfl ?_
    show Steps p.tables e below (T1.setTop (mkF m 12 #[.val (.ref o0), .val (.int p0)] [(.long ((1 : Int64) <<< (p0 &&& 0x3f).toInt64)), (.long (v6_1 ts p0))])) _
    refine XS.land X1.here hx rfl (hb hby d6_12) rfl ?_
    show Steps p.tables e below (T1.setTop (mkF m 13 #[.val (.ref o0), .val (.int p0)] [(.long ((v6_1 ts p0) &&& ((1 : Int64) <<< (p0 &&& 0x3f).toInt64)))])) _
    refine XS.lconst X1.here hx rfl (hb hby d6_13) ?_
    show Steps p.tables e below (T1.setTop (mkF m 14 #[.val (.ref o0), .val (.int p0)] [(.long (0 : Int64)), (.long ((v6_1 ts p0) &&& ((1 : Int64) <<< (p0 &&& 0x3f).toInt64)))])) _
    refine XS.lcmp X1.here hx rfl (hb hby d6_14) rfl ?_
    show Steps p.tables e below (T1.setTop (mkF m 15 #[.val (.ref o0), .val (.int p0)] [(.int (lcmpW ((v6_1 ts p0) &&& ((1 : Int64) <<< (p0 &&& 0x3f).toInt64)) (0 : Int64)))])) _
    exact k)
  by_cases hc15_4 : (lcmpW ((v6_1 ts p0) &&& ((1 : Int64) <<< (p0 &&& 0x3f).toInt64)) (0 : Int64)) = (0 : Int32)
  · have hv : (f6 p0 ts) = (0 : Int32) := by simp only [f6, if_pos hc15_4]
    obtain ⟨fs, hr, hrun, hended, hW, hsame⟩ := X1.leave (v := some (.int (0 : Int32))) (fun h => nomatch (Bd.returns.symm.trans h)) hlk
    refine ⟨_, _, pre3 _ ?_, hrun, hended, _, _, rfl, ?_, ⟨_, rfl⟩, hW, hsame.mono (by decide) (by decide)⟩
    · show Steps p.tables e below (T1.setTop (mkF m 15 #[.val (.ref o0), .val (.int p0)] [(.int (lcmpW ((v6_1 ts p0) &&& ((1 : Int64) <<< (p0 &&& 0x3f).toInt64)) (0 : Int64)))])) _
      refine XS.ifYes X1.here hx rfl (pc0 := 15) (pc' := 22) rfl (hb hby d6_15) rfl ((if0 _ _).trans (teq hc15_4).1) (by decide) (by decide) ?_
      show Steps p.tables e below (T1.setTop (mkF m 22 #[.val (.ref o0), .val (.int p0)] [])) _
      refine XS.iconst X1.here hx rfl (hb hby d6_22) ?_
      show Steps p.tables e below (T1.setTop (mkF m 23 #[.val (.ref o0), .val (.int p0)] [(.int (0 : Int32))])) _
      exact retN X1 hx (t := .boolean) Bd.returns (by simp) (hb hby d6_23) hr
    · show Q6 Z o0 p0 nl ta ka ts h0 n0 _ T1.heap _
      rw [e1]
      exact ⟨by rw [hv], N0, rfl⟩
  · have hv : (f6 p0 ts) = (1 : Int32) := by simp only [f6, if_neg hc15_4]
    obtain ⟨fs, hr, hrun, hended, hW, hsame⟩ := X1.leave (v := some (.int (1 : Int32))) (fun h => nomatch (Bd.returns.symm.trans h)) hlk
    refine ⟨_, _, pre3 _ ?_, hrun, hended, _, _, rfl, ?_, ⟨_, rfl⟩, hW, hsame.mono (by decide) (by decide)⟩
    · show Steps p.tables e below (T1.setTop (mkF m 15 #[.val (.ref o0), .val (.int p0)] [(.int (lcmpW ((v6_1 ts p0) &&& ((1 : Int64) <<< (p0 &&& 0x3f).toInt64)) (0 : Int64)))])) _
      refine XS.ifNo X1.here hx rfl (hb hby d6_15) rfl ((if0 _ _).trans (feq hc15_4).1) ?_
      show Steps p.tables e below (T1.setTop (mkF m 18 #[.val (.ref o0), .val (.int p0)] [])) _
      refine XS.iconst X1.here hx rfl (hb hby d6_18) ?_
      show Steps p.tables e below (T1.setTop (mkF m 19 #[.val (.ref o0), .val (.int p0)] [(.int (1 : Int32))])) _
      refine XS.goto X1.here hx rfl (pc0 := 19) (pc' := 23) rfl (hb hby d6_19) (by decide) (by decide) ?_
      show Steps p.tables e below (T1.setTop (mkF m 23 #[.val (.ref o0), .val (.int p0)] [(.int (1 : Int32))])) _
      exact retN X1 hx (t := .boolean) Bd.returns (by simp) (hb hby d6_23) hr
    · show Q6 Z o0 p0 nl ta ka ts h0 n0 _ T1.heap _
      rw [e1]
      exact ⟨by rw [hv], N0, rfl⟩
theorem d5_0 : decode prog_27_method_2_code 0 = .ok (.aload_n 0, 1) := by decide +kernel
theorem d5_1 : decode prog_27_method_2_code 1 = .ok (.iload_n 1, 1) := by decide +kernel
theorem d5_2 : decode prog_27_method_2_code 2 = .ok (.invokevirtual 21, 3) := by decide +kernel
theorem d5_5 : decode prog_27_method_2_code 5 = .ok (.ifCond .ne 28, 3) := by decide +kernel
theorem d5_8 : decode prog_27_method_2_code 8 = .ok (.aload_n 0, 1) := by decide +kernel
theorem d5_9 : decode prog_27_method_2_code 9 = .ok (.getfield 17, 3) := by decide +kernel
theorem d5_12 : decode prog_27_method_2_code 12 = .ok (.iload_n 1, 1) := by decide +kernel
theorem d5_13 : decode prog_27_method_2_code 13 = .ok (.bipush 6, 2) := by decide +kernel
theorem d5_15 : decode prog_27_method_2_code 15 = .ok (.iushr, 1) := by decide +kernel
theorem d5_16 : decode prog_27_method_2_code 16 = .ok (.dup2, 1) := by decide +kernel
theorem d5_17 : decode prog_27_method_2_code 17 = .ok (.laload, 1) := by decide +kernel
theorem d5_18 : decode prog_27_method_2_code 18 = .ok (.lconst 1, 1) := by decide +kernel
theorem d5_19 : decode prog_27_method_2_code 19 = .ok (.iload_n 1, 1) := by decide +kernel
theorem d5_20 : decode prog_27_method_2_code 20 = .ok (.lshl, 1) := by decide +kernel
theorem d5_21 : decode prog_27_method_2_code 21 = .ok (.lor, 1) := by decide +kernel
theorem d5_22 : decode prog_27_method_2_code 22 = .ok (.lastore, 1) := by decide +kernel
theorem d5_23 : decode prog_27_method_2_code 23 = .ok (.aload_n 0, 1) := by decide +kernel
theorem d5_24 : decode prog_27_method_2_code 24 = .ok (.dup, 1) := by decide +kernel
theorem d5_25 : decode prog_27_method_2_code 25 = .ok (.getfield 25, 3) := by decide +kernel
theorem d5_28 : decode prog_27_method_2_code 28 = .ok (.iconst 1, 1) := by decide +kernel
theorem d5_29 : decode prog_27_method_2_code 29 = .ok (.iadd, 1) := by decide +kernel
theorem d5_30 : decode prog_27_method_2_code 30 = .ok (.putfield 25, 3) := by decide +kernel
theorem d5_33 : decode prog_27_method_2_code 33 = .ok (.return_, 1) := by decide +kernel
theorem pn_5 : plainName "com/example/knotwork/knotwork/generate/FreeNumbers" = true := by first | (simp [plainName, overriddenIn]; done) | decide +kernel
theorem ef_5 (m : MethodId) (x0 : Addr) (x1 : Int32) : entryFrame m #[(.ref x0), (.int x1)] 2 = mkF m 0 #[.val (.ref x0), .val (.int x1)] [] := by first | (simp [entryFrame, mkF, argsToLocals, Value.category]; done) | rfl
def v5_1 (ts : List Int64) (p0 : Int32) : Int64 := (getJ ts ((p0.toUInt32 >>> ((6 : Int32) &&& 31).toUInt32).toInt32))
def g5_takenCount (p0 : Int32) (tc : Int32) (ts : List Int64) : Int32 := (if (f6 p0 ts) = (0 : Int32) then (tc + (1 : Int32)) else tc)
def g5_ta (p0 : Int32) (ts : List Int64) : List Int64 := (if (f6 p0 ts) = (0 : Int32) then (setJ ts ((p0.toUInt32 >>> ((6 : Int32) &&& 31).toUInt32).toInt32) ((v5_1 ts p0) ||| ((1 : Int64) <<< (p0 &&& 0x3f).toInt64))) else ts)
def Q5 (Z : State) (o0 : Addr) (p0 : Int32) (nl : Int32) (ta : Addr) (tc : Int32) (bd : Int32) (ka : ClassId) (ts : List Int64) (h0 : Heap) (n0 : Nat) (v : Option Value) (h : Heap) (L : List Loc) : Prop := v = none ∧ Fr n0 L ∧ Keep h0 h [o0, ta] ∧ Fld Z h o0 "com/example/knotwork/knotwork/generate/FreeNumbers" "taken" "[J" (.ref ta) ∧ Fld Z h o0 "com/example/knotwork/knotwork/generate/FreeNumbers" "takenCount" "I" (.int (g5_takenCount p0 tc ts)) ∧ Fld Z h o0 "com/example/knotwork/knotwork/generate/FreeNumbers" "bound" "I" (.int bd) ∧ La Z h ta ka nl (g5_ta p0 ts)
set_option maxRecDepth 65536 in
set_option maxHeartbeats 40000000 in
theorem rm5 (l : Launch) (Z : State) (a0 : Array Value) (hw : ∀ d ∈ tables_1, d.before a0 Z = true) (ws : List Jvm.Cond) (o0 : Addr) (p0 : Int32) (nl : Int32) (ta : Addr) (tc : Int32) (bd : Int32) (ka : ClassId) (ts : List Int64) (h0 : Heap) (n0 : Nat) (Z0 : n0 ≤ h0.size) (E_o0 : Exa Z h0 o0 "com/example/knotwork/knotwork/generate/FreeNumbers") (g_o0 : n0 ≤ o0) (F_taken_o0 : Fld Z h0 o0 "com/example/knotwork/knotwork/generate/FreeNumbers" "taken" "[J" (.ref ta)) (F_takenCount_o0 : Fld Z h0 o0 "com/example/knotwork/knotwork/generate/FreeNumbers" "takenCount" "I" (.int tc)) (F_bound_o0 : Fld Z h0 o0 "com/example/knotwork/knotwork/generate/FreeNumbers" "bound" "I" (.int bd)) (V_ta : La Z h0 ta ka nl ts) (g_ta : n0 ≤ ta) (ne_o0_ta : o0 ≠ ta) (hix : ¬ ((p0.toUInt32 >>> ((6 : Int32) &&& 31).toUInt32).toInt32) < (0 : Int32) ∧ ((p0.toUInt32 >>> ((6 : Int32) &&& 31).toUInt32).toInt32) < nl) :
    MetFree l (⟨"com/example/knotwork/knotwork/generate/FreeNumbers", "take", "(I)V"⟩ : MethodName) (head1 (Jvm.Cond.code (⟨"com/example/knotwork/knotwork/generate/FreeNumbers", "take", "(I)V"⟩ : MethodName) prog_27_method_2_code 2 none :: ws) ({ frames := 1, cells := 0, slots := 0, locals := 13 } : Room)) (fun a U => a = #[(.ref o0), (.int p0)] ∧ Z.Warmed39 U.vm ∧ U.heap = h0) (fun _ _ _ _ _ => True) (fun _ U o U' => ∃ v L, o = .returned v ∧ Q5 Z o0 p0 nl ta tc bd ka ts h0 n0 v U'.heap L ∧ FrameEnd U o U' L ({ frames := 1, cells := 0, slots := 0, locals := 13 } : Room).cells ({ frames := 1, cells := 0, slots := 0, locals := 13 } : Room).slots) := by
  refine MetFree.of_bodySF (plainFor_of_name pn_5) hisR ?_
  intro p e s m args below meth c s₁ Bd hml0 hP hK
  obtain ⟨rfl, hZ, hh⟩ := hP
  have hx := Bd.exec
  have hby := Bd.bytes
  have hml : c.maxLocals = 2 := hml0
  have hown : s.vm.findClass "com/example/knotwork/knotwork/generate/FreeNumbers" = some m.cls := findClass_of_methodNamed Bd.named
  have hnm := (name_of_methodNamed Bd.named Bd.method).1
  have X0 : Stand p l e ({ frames := 1, cells := 0, slots := 0, locals := 13 } : Room) s m #[(.ref o0), (.int p0)] below meth c s₁ [] 0 0 := Stand.of_body Bd
  have e0 : s₁.heap = h0 := by rw [← hh, Bd.state]; rfl
  have N0 := Fr.nil n0
  have hlk : meth.locks = false := by first | exact BodyLoose.notSynchronized Bd | exact Body.notSynchronized Bd
  have pre0 : ∀ t, Steps p.tables e below (s₁.setTop (mkF m 0 #[.val (.ref o0), .val (.int p0)] [])) t → Steps p.tables e below (s₁.setTop (entryFrame m #[(.ref o0), (.int p0)] 2)) t := fun t k => castTop (ef_5 m o0 p0) k
  obtain ⟨cq1, q1, q1'⟩ := (E_o0).cell
  obtain ⟨_, _, ⟨T1, L1, k1, n1⟩, -, X1, ⟨Lc1, hQ1, l1, y1, z1⟩, st1⟩ := X0.privateBack hx (y := (⟨"com/example/knotwork/knotwork/generate/FreeNumbers", "isTaken", "(I)Z"⟩ : MethodName)) hown (mvT hZ (hw _ (List.mem_of_getElem? (i := 35) rfl))) (mvT hZ (hw _ (List.mem_of_getElem? (i := 36) rfl))) (own_sel (mvT hZ (hw _ (List.mem_of_getElem? (i := 17) rfl))) (Cond.privateMethod_at (mvP hZ (hw _ (List.mem_of_getElem? (i := 37) rfl)) (args := #[]))) (mvT hZ (hw _ (List.mem_of_getElem? (i := 36) rfl))) (by decide)) (Cond.privateMethod_at (mvP hZ (hw _ (List.mem_of_getElem? (i := 37) rfl)) (args := #[]))) (mvT hZ (hw _ (List.mem_of_getElem? (i := 38) rfl))) (by decide) (backOf (W := 0) (rm6 l Z a0 hw [] o0 p0 nl ta ka ts h0 n0 Z0 (E_o0) (F_taken_o0) (V_ta) hix) hZ (hw _ (List.mem_of_getElem? (i := 38) rfl)) (hw _ (List.mem_of_getElem? (i := 18) rfl)) (by decide) (by decide)) (g := (mkF m 2 #[.val (.ref o0), .val (.int p0)] [(.int p0), (.ref o0)])) rfl (by rw [hml]; rfl) (Steps.refl _) (a := o0) (by first | exact q1 | (rw [e0]; exact q1)) q1' (argsL := [(.int p0)]) (rest := []) (lenOf pd_1 rfl) rfl (by show 2 * 0 + _ ≤ _; exact Nat.le_of_eq rfl) (hb hby d5_2) (fun _ _ => ⟨rfl, e0, (by decide : 0 + 0 ≤ _), (by decide : 0 + 0 ≤ _)⟩)
  dsimp only [Pt.U, Pt.locs, Pt.cells, Pt.slots] at X1 l1 y1 z1 st1 hQ1
  rw [l1, y1, z1] at X1
  obtain ⟨rfl, N1q, e1⟩ := hQ1
  have N1 := Fr.app N0 N1q
  have pre2 : ∀ t, Steps p.tables e below (T1.setTop (mkF m 5 #[.val (.ref o0), .val (.int p0)] [(.int (f6 p0 ts))])) t → Steps p.tables e below (s₁.setTop (entryFrame m #[(.ref o0), (.int p0)] 2)) t := fun t k => pre0 t (by
    show Steps p.tables e below (s₁.setTop (mkF m 0 #[.val (.ref o0), .val (.int p0)] [])) _
    refine XS.aloadN X0.here hx rfl (hb hby d5_0) rfl rfl ?_
    show Steps p.tables e below (s₁.setTop (mkF m 1 #[.val (.ref o0), .val (.int p0)] [(.ref o0)])) _
    refine XS.iloadN X0.here hx rfl (hb hby d5_1) rfl ?_
    show Steps p.tables e below (s₁.setTop (mkF m 2 #[.val (.ref o0), .val (.int p0)] [(.int p0), (.ref o0)])) _
    refine st1.trans ?_
    show Steps p.tables e below (T1.setTop (mkF m 5 #[.val (.ref o0), .val (.int p0)] [(.int (f6 p0 ts))])) _
    exact k)
  by_cases hc5_3 : (f6 p0 ts) = (0 : Int32)
  · obtain ⟨T4, X4, e4, st4⟩ := getF X1 hx hZ hown (host := "") (Or.inl (hw _ (List.mem_of_getElem? (i := 28) rfl))) Via.refl e1 (F_taken_o0) (g := (mkF m 9 #[.val (.ref o0), .val (.int p0)] [(.ref o0)])) rfl rfl (hb hby d5_9)
    obtain ⟨cl5, Ar5, hin5, hat5⟩ := La.get (V_ta) (j := ((p0.toUInt32 >>> ((6 : Int32) &&& 31).toUInt32).toInt32)) hix
    obtain ⟨cl6, Ar6, hin6, hat6⟩ := La.get (V_ta) (j := ((p0.toUInt32 >>> ((6 : Int32) &&& 31).toUInt32).toInt32)) hix
    obtain ⟨T7, h7, X7, e7, W7, st7⟩ := stJ X4 hx hZ e4 Ar6 (j := ((p0.toUInt32 >>> ((6 : Int32) &&& 31).toUInt32).toInt32)) hin6 (g := (mkF m 22 #[.val (.ref o0), .val (.int p0)] [(.long ((v5_1 ts p0) ||| ((1 : Int64) <<< (p0 &&& 0x3f).toInt64))), (.int ((p0.toUInt32 >>> ((6 : Int32) &&& 31).toUInt32).toInt32)), (.ref ta)])) rfl rfl (hb hby d5_22)
    have Vw7 := La.set (V_ta) (j := ((p0.toUInt32 >>> ((6 : Int32) &&& 31).toUInt32).toInt32)) (x := ((v5_1 ts p0) ||| ((1 : Int64) <<< (p0 &&& 0x3f).toInt64))) hix  W7
    have N7 := Fr.snoc X7 N1 g_ta
    have Z7 : n0 ≤ h7.size := Nat.le_trans Z0 (Keep.of_wr W7).1
    have K7 : Keep h0 h7 [o0, ta] := ((Keep.refl h0 [o0, ta])).wr W7 (Or.inl (List.mem_of_getElem? (i := 1) rfl))
    obtain ⟨T8, X8, e8, st8⟩ := getF X7 hx hZ hown (host := "") (Or.inl (hw _ (List.mem_of_getElem? (i := 39) rfl))) Via.refl e7 ((F_takenCount_o0.other W7 (Or.inl ne_o0_ta))) (g := (mkF m 25 #[.val (.ref o0), .val (.int p0)] [(.ref o0), (.ref o0)])) rfl rfl (hb hby d5_25)
    obtain ⟨T9, h9, X9, e9, W9, st9⟩ := putF X8 hx hZ hown (host := "") (Or.inl (hw _ (List.mem_of_getElem? (i := 39) rfl))) Via.refl e8 ((F_takenCount_o0.other W7 (Or.inl ne_o0_ta))) ((E_o0.wr W7)) (Or.inl (hw _ (List.mem_of_getElem? (i := 40) rfl))) (hw _ (List.mem_of_getElem? (i := 17) rfl)) (ty := .int) (by decide) rfl rfl (g := (mkF m 30 #[.val (.ref o0), .val (.int p0)] [(.int (tc + (1 : Int32))), (.ref o0)])) rfl rfl (hb hby d5_30)
    have Fw9 := ((F_takenCount_o0.other W7 (Or.inl ne_o0_ta))).same W9
    have N9 := Fr.snoc X9 N7 g_o0
    have Z9 : n0 ≤ h9.size := Nat.le_trans Z7 (Keep.of_wr W9).1
    have K9 : Keep h0 h9 [o0, ta] := (K7).wr W9 (Or.inl (List.mem_of_getElem? (i := 0) rfl))
    obtain ⟨fs, hr, hrun, hended, hW, hsame⟩ := X9.leave (v := none) (fun _ => rfl) hlk
    refine ⟨_, _, pre2 _ ?_, hrun, hended, _, _, rfl, ?_, ⟨_, rfl⟩, hW, hsame.mono (by decide) (by decide)⟩
    · show Steps p.tables e below (T1.setTop (mkF m 5 #[.val (.ref o0), .val (.int p0)] [(.int (f6 p0 ts))])) _
      refine XS.ifNo X1.here hx rfl (hb hby d5_5) rfl ((if0 _ _).trans (teq hc5_3).2) ?_
      show Steps p.tables e below (T1.setTop (mkF m 8 #[.val (.ref o0), .val (.int p0)] [])) _
      refine XS.aloadN X1.here hx rfl (hb hby d5_8) rfl rfl ?_
      show Steps p.tables e below (T1.setTop (mkF m 9 #[.val (.ref o0), .val (.int p0)] [(.ref o0)])) _
      refine st4 _ ?_
      show Steps p.tables e below (T4.setTop (mkF m 12 #[.val (.ref o0), .val (.int p0)] [(.ref ta)])) _
      refine XS.iloadN X4.here hx rfl (hb hby d5_12) rfl ?_
      show Steps p.tables e below (T4.setTop (mkF m 13 #[.val (.ref o0), .val (.int p0)] [(.int p0), (.ref ta)])) _
      refine XS.bipush X4.here hx rfl (hb hby d5_13) ?_
      show Steps p.tables e below (T4.setTop (mkF m 15 #[.val (.ref o0), .val (.int p0)] [(.int (6 : Int32)), (.int p0), (.ref ta)])) _
      refine XS.iushr X4.here hx rfl (hb hby d5_15) rfl ?_
      show Steps p.tables e below (T4.setTop (mkF m 16 #[.val (.ref o0), .val (.int p0)] [(.int ((p0.toUInt32 >>> ((6 : Int32) &&& 31).toUInt32).toInt32)), (.ref ta)])) _
      refine XT.dup2 X4.here hx rfl (hb hby d5_16) rfl rfl rfl ?_
      show Steps p.tables e below (T4.setTop (mkF m 17 #[.val (.ref o0), .val (.int p0)] [(.int ((p0.toUInt32 >>> ((6 : Int32) &&& 31).toUInt32).toInt32)), (.ref ta), (.int ((p0.toUInt32 >>> ((6 : Int32) &&& 31).toUInt32).toInt32)), (.ref ta)])) _
      refine X4.laload hx (j := ((p0.toUInt32 >>> ((6 : Int32) &&& 31).toUInt32).toInt32)) (v := (.long (getJ ts ((p0.toUInt32 >>> ((6 : Int32) &&& 31).toUInt32).toInt32)))) (by rw [e4]; exact Ar5.1) (State.isArrayOf_alike hZ.alike Ar5.2.1) Ar5.2.2 hin5 hat5 (g := (mkF m 17 #[.val (.ref o0), .val (.int p0)] [(.int ((p0.toUInt32 >>> ((6 : Int32) &&& 31).toUInt32).toInt32)), (.ref ta), (.int ((p0.toUInt32 >>> ((6 : Int32) &&& 31).toUInt32).toInt32)), (.ref ta)])) rfl rfl (hb hby d5_17) _ ?_
      show Steps p.tables e below (T4.setTop (mkF m 18 #[.val (.ref o0), .val (.int p0)] [(.long (v5_1 ts p0)), (.int ((p0.toUInt32 >>> ((6 : Int32) &&& 31).toUInt32).toInt32)), (.ref ta)])) _
      refine XS.lconst X4.here hx rfl (hb hby d5_18) ?_
      show Steps p.tables e below (T4.setTop (mkF m 19 #[.val (.ref o0), .val (.int p0)] [(.long (1 : Int64)), (.long (v5_1 ts p0)), (.int ((p0.toUInt32 >>> ((6 : Int32) &&& 31).toUInt32).toInt32)), (.ref ta)])) _
      refine XS.iloadN X4.here hx rfl (hb hby d5_19) rfl ?_
      show Steps p.tables e below (T4.setTop (mkF m 20 #[.val (.ref o0), .val (.int p0)] [(.int p0), (.long (1 : Int64)), (.long (v5_1 ts p0)), (.int ((p0.toUInt32 >>> ((6 : Int32) &&& 31).toUInt32).toInt32)), (.ref ta)])) _
      refine XS.lshl X4.here hx rfl (hb hby d5_20) rfl ?_
      show Steps p.tables e below (T4.setTop (mkF m 21 #[.val (.ref o0), .val (.int p0)] [(.long ((1 : Int64) <<< (p0 &&& 0x3f).toInt64)), (.long (v5_1 ts p0)), (.int ((p0.toUInt32 >>> ((6 : Int32) &&& 31).toUInt32).toInt32)), (.ref ta)])) _
      refine XS.lor X4.here hx rfl (hb hby d5_21) rfl ?_
      show Steps p.tables e below (T4.setTop (mkF m 22 #[.val (.ref o0), .val (.int p0)] [(.long ((v5_1 ts p0) ||| ((1 : Int64) <<< (p0 &&& 0x3f).toInt64))), (.int ((p0.toUInt32 >>> ((6 : Int32) &&& 31).toUInt32).toInt32)), (.ref ta)])) _
      refine st7 _ ?_
      show Steps p.tables e below (T7.setTop (mkF m 23 #[.val (.ref o0), .val (.int p0)] [])) _
      refine XS.aloadN X7.here hx rfl (hb hby d5_23) rfl rfl ?_
      show Steps p.tables e below (T7.setTop (mkF m 24 #[.val (.ref o0), .val (.int p0)] [(.ref o0)])) _
      refine XS.dup X7.here hx rfl (hb hby d5_24) rfl rfl ?_
      show Steps p.tables e below (T7.setTop (mkF m 25 #[.val (.ref o0), .val (.int p0)] [(.ref o0), (.ref o0)])) _
      refine st8 _ ?_
      show Steps p.tables e below (T8.setTop (mkF m 28 #[.val (.ref o0), .val (.int p0)] [(.int tc), (.ref o0)])) _
      refine XS.iconst X8.here hx rfl (hb hby d5_28) ?_
      show Steps p.tables e below (T8.setTop (mkF m 29 #[.val (.ref o0), .val (.int p0)] [(.int (1 : Int32)), (.int tc), (.ref o0)])) _
      refine XS.iadd X8.here hx rfl (hb hby d5_29) rfl ?_
      show Steps p.tables e below (T8.setTop (mkF m 30 #[.val (.ref o0), .val (.int p0)] [(.int (tc + (1 : Int32))), (.ref o0)])) _
      refine st9 _ ?_
      show Steps p.tables e below (T9.setTop (mkF m 33 #[.val (.ref o0), .val (.int p0)] [])) _
      exact X9.returnOut hx Bd.returns (hb hby d5_33) hr
    · show Q5 Z o0 p0 nl ta tc bd ka ts h0 n0 _ T9.heap _
      rw [e9]
      have hg10 : (g5_takenCount p0 tc ts) = (tc + (1 : Int32)) := by simp only [g5_takenCount, if_pos hc5_3]
      have hg11 : (g5_ta p0 ts) = (setJ ts ((p0.toUInt32 >>> ((6 : Int32) &&& 31).toUInt32).toInt32) ((v5_1 ts p0) ||| ((1 : Int64) <<< (p0 &&& 0x3f).toInt64))) := by simp only [g5_ta, if_pos hc5_3]
      exact ⟨rfl, N9, K9, ((F_taken_o0.other W7 (Or.inl ne_o0_ta)).other W9 (Or.inr (slot_ne (Or.inr (hw _ (List.mem_of_getElem? (i := 29) rfl))) (Or.inl (hw _ (List.mem_of_getElem? (i := 40) rfl))) (by decide) (t := (.array .long)) (t' := .int) (by decide) (by decide)))), (by rw [hg10]; exact Fw9), ((F_bound_o0.other W7 (Or.inl ne_o0_ta)).other W9 (Or.inr (slot_ne (Or.inr (hw _ (List.mem_of_getElem? (i := 24) rfl))) (Or.inl (hw _ (List.mem_of_getElem? (i := 40) rfl))) (by decide) (t := .int) (t' := .int) (by decide) (by decide)))), (by rw [hg11]; exact (Vw7.other W9 (Ne.symm ne_o0_ta)))⟩
  · obtain ⟨fs, hr, hrun, hended, hW, hsame⟩ := X1.leave (v := none) (fun _ => rfl) hlk
    refine ⟨_, _, pre2 _ ?_, hrun, hended, _, _, rfl, ?_, ⟨_, rfl⟩, hW, hsame.mono (by decide) (by decide)⟩
    · show Steps p.tables e below (T1.setTop (mkF m 5 #[.val (.ref o0), .val (.int p0)] [(.int (f6 p0 ts))])) _
      refine XS.ifYes X1.here hx rfl (pc0 := 5) (pc' := 33) rfl (hb hby d5_5) rfl ((if0 _ _).trans (feq hc5_3).2) (by decide) (by decide) ?_
      show Steps p.tables e below (T1.setTop (mkF m 33 #[.val (.ref o0), .val (.int p0)] [])) _
      exact X1.returnOut hx Bd.returns (hb hby d5_33) hr
    · show Q5 Z o0 p0 nl ta tc bd ka ts h0 n0 _ T1.heap _
      rw [e1]
      have hg12 : (g5_takenCount p0 tc ts) = tc := by simp only [g5_takenCount, if_neg hc5_3]
      have hg13 : (g5_ta p0 ts) = ts := by simp only [g5_ta, if_neg hc5_3]
      exact ⟨rfl, N1, (Keep.refl h0 [o0, ta]), F_taken_o0, (by rw [hg12]; exact F_takenCount_o0), F_bound_o0, (by rw [hg13]; exact V_ta)⟩
def bit (ts : List Int64) (n : Nat) : Bool := (ts.getD (n / 64) 0).toBitVec.getLsbD (n % 64)
theorem own_idx : ∀ n : Fin 128, (((Int32.ofNat n.val).toUInt32 >>> ((6 : Int32) &&& 31).toUInt32).toInt32) = Int32.ofNat (n.val / 64) ∧ (((Int32.ofNat n.val).toUInt32 >>> ((6 : Int32) &&& 31).toUInt32).toInt32).toNatClampNeg = n.val / 64 ∧ ((1 : Int64) <<< ((Int32.ofNat n.val) &&& 0x3f).toInt64).toBitVec = BitVec.twoPow 64 (n.val % 64) := by decide +kernel
theorem own_isT (n : Nat) (h : n < 128) (ts : List Int64) : f6 (Int32.ofNat n) ts = (if bit ts n then 1 else 0) := by
  obtain ⟨e1, e2, e3⟩ := own_idx ⟨n, h⟩
  have e2' : (((Int32.ofNat n).toUInt32 >>> ((6 : Int32) &&& 31).toUInt32).toInt32).toNatClampNeg = n / 64 := e2
  have e3' : ((1 : Int64) <<< ((Int32.ofNat n) &&& 0x3f).toInt64).toBitVec = BitVec.twoPow 64 (n % 64) := e3
  unfold f6 v6_1 getJ bit
  rw [e2']
  generalize ts.getD (n / 64) 0 = g
  have k : (lcmpW (g &&& ((1 : Int64) <<< ((Int32.ofNat n) &&& 0x3f).toInt64)) (0 : Int64) = (0 : Int32)) ↔ g.toBitVec.getLsbD (n % 64) = false := by
    rw [lcW, lc_eq, ← Int64.toBitVec_inj, Int64.toBitVec_and, e3', BitVec.and_twoPow]
    by_cases q : g.toBitVec.getLsbD (n % 64) = true
    · rw [if_pos q, q]
      constructor
      · intro z
        have z' : (BitVec.twoPow 64 (n % 64)).getLsbD (n % 64) = (0#64).getLsbD (n % 64) := by
          have z2 : BitVec.twoPow 64 (n % 64) = 0#64 := z
          rw [z2]
        rw [BitVec.getLsbD_twoPow] at z'
        simp [show n % 64 < 64 by omega] at z'
      · intro z; cases z
    · rw [if_neg q]
      exact ⟨fun _ => by simpa using q, fun _ => rfl⟩
  by_cases q : g.toBitVec.getLsbD (n % 64) = true
  · rw [if_neg (fun z => by rw [k.mp z] at q; cases q), if_pos q]
  · rw [if_pos (k.mpr (by simpa using q)), if_neg q]
theorem own_setbit (ts : List Int64) (n : Nat) (hl : n / 64 < ts.length) (g : Int64) (m : Nat) : bit (ts.set (n / 64) g) m = (if m / 64 = n / 64 then g.toBitVec.getLsbD (m % 64) else bit ts m) := by
  unfold bit
  simp only [List.getD_eq_getElem?_getD]
  by_cases q : m / 64 = n / 64
  · rw [if_pos q, q, List.getElem?_set_self hl]; rfl
  · rw [if_neg q, List.getElem?_set_ne (fun z => q z.symm)]
theorem own_takebit (n : Nat) (h : n < 128) (ts : List Int64) (hl : n / 64 < ts.length) (m : Nat) : bit (g5_ta (Int32.ofNat n) ts) m = (bit ts m || m == n) := by
  obtain ⟨e1, e2, e3⟩ := own_idx ⟨n, h⟩
  have e2' : (((Int32.ofNat n).toUInt32 >>> ((6 : Int32) &&& 31).toUInt32).toInt32).toNatClampNeg = n / 64 := e2
  have e3' : ((1 : Int64) <<< ((Int32.ofNat n) &&& 0x3f).toInt64).toBitVec = BitVec.twoPow 64 (n % 64) := e3
  unfold g5_ta
  rw [own_isT n h]
  by_cases q : bit ts n = true
  · rw [if_pos q, if_neg (by decide)]
    by_cases z : m = n
    · subst z; simp [q]
    · simp [z]
  · rw [if_neg q, if_pos rfl]
    unfold setJ
    rw [e2', own_setbit ts n hl]
    by_cases z : m / 64 = n / 64
    · rw [if_pos z, Int64.toBitVec_or, e3', BitVec.getLsbD_or, BitVec.getLsbD_twoPow]
      have : (v5_1 ts (Int32.ofNat n)).toBitVec.getLsbD (m % 64) = bit ts m := by
        unfold v5_1 getJ bit; rw [e2', z]
      rw [this]
      congr 1
      by_cases c : m = n
      · subst c; simp; omega
      · have c' : ¬ n % 64 = m % 64 := by omega
        simp [c, c']
    · rw [if_neg z]
      have : ¬ m = n := fun c => z (by rw [c])
      simp [this]
theorem own_takelen (x : Int32) (ts : List Int64) : (g5_ta x ts).length = ts.length := by
  unfold g5_ta setJ; split <;> simp
theorem own_taketc (n : Nat) (h : n < 128) (ts : List Int64) (tc : Int32) : g5_takenCount (Int32.ofNat n) tc ts = (if bit ts n then tc else tc + 1) := by
  unfold g5_takenCount
  rw [own_isT n h]
  by_cases q : bit ts n = true
  · rw [if_pos q, if_pos q, if_neg (by decide)]
  · rw [if_neg q, if_neg q, if_pos rfl]

theorem d9_0 : decode method_3_code 0 = .ok (.iload_n 0, 1) := by decide +kernel
theorem d9_1 : decode method_3_code 1 = .ok (.aload_n 1, 1) := by decide +kernel
theorem d9_2 : decode method_3_code 2 = .ok (.iconst 0, 1) := by decide +kernel
theorem d9_3 : decode method_3_code 3 = .ok (.iaload, 1) := by decide +kernel
theorem d9_4 : decode method_3_code 4 = .ok (.if_icmp .eq 17, 3) := by decide +kernel
theorem d9_7 : decode method_3_code 7 = .ok (.iload_n 0, 1) := by decide +kernel
theorem d9_8 : decode method_3_code 8 = .ok (.aload_n 1, 1) := by decide +kernel
theorem d9_9 : decode method_3_code 9 = .ok (.iconst 1, 1) := by decide +kernel
theorem d9_10 : decode method_3_code 10 = .ok (.iaload, 1) := by decide +kernel
theorem d9_11 : decode method_3_code 11 = .ok (.if_icmp .eq 10, 3) := by decide +kernel
theorem d9_14 : decode method_3_code 14 = .ok (.iload_n 0, 1) := by decide +kernel
theorem d9_15 : decode method_3_code 15 = .ok (.aload_n 1, 1) := by decide +kernel
theorem d9_16 : decode method_3_code 16 = .ok (.iconst 2, 1) := by decide +kernel
theorem d9_17 : decode method_3_code 17 = .ok (.iaload, 1) := by decide +kernel
theorem d9_18 : decode method_3_code 18 = .ok (.if_icmp .ne 7, 3) := by decide +kernel
theorem d9_21 : decode method_3_code 21 = .ok (.iconst 1, 1) := by decide +kernel
theorem d9_22 : decode method_3_code 22 = .ok (.goto 4, 3) := by decide +kernel
theorem d9_25 : decode method_3_code 25 = .ok (.iconst 0, 1) := by decide +kernel
theorem d9_26 : decode method_3_code 26 = .ok (.istore 4, 2) := by decide +kernel
theorem d9_28 : decode method_3_code 28 = .ok (.iload_n 3, 1) := by decide +kernel
theorem d9_29 : decode method_3_code 29 = .ok (.ifCond .le 10, 3) := by decide +kernel
theorem d9_32 : decode method_3_code 32 = .ok (.iload_n 0, 1) := by decide +kernel
theorem d9_33 : decode method_3_code 33 = .ok (.aload_n 2, 1) := by decide +kernel
theorem d9_34 : decode method_3_code 34 = .ok (.iconst 0, 1) := by decide +kernel
theorem d9_35 : decode method_3_code 35 = .ok (.iaload, 1) := by decide +kernel
theorem d9_36 : decode method_3_code 36 = .ok (.if_icmp .eq 39, 3) := by decide +kernel
theorem d9_39 : decode method_3_code 39 = .ok (.iload_n 3, 1) := by decide +kernel
theorem d9_40 : decode method_3_code 40 = .ok (.iconst 1, 1) := by decide +kernel
theorem d9_41 : decode method_3_code 41 = .ok (.if_icmp .le 10, 3) := by decide +kernel
theorem d9_44 : decode method_3_code 44 = .ok (.iload_n 0, 1) := by decide +kernel
theorem d9_45 : decode method_3_code 45 = .ok (.aload_n 2, 1) := by decide +kernel
theorem d9_46 : decode method_3_code 46 = .ok (.iconst 1, 1) := by decide +kernel
theorem d9_47 : decode method_3_code 47 = .ok (.iaload, 1) := by decide +kernel
theorem d9_48 : decode method_3_code 48 = .ok (.if_icmp .eq 27, 3) := by decide +kernel
theorem d9_51 : decode method_3_code 51 = .ok (.iload_n 3, 1) := by decide +kernel
theorem d9_52 : decode method_3_code 52 = .ok (.iconst 2, 1) := by decide +kernel
theorem d9_53 : decode method_3_code 53 = .ok (.if_icmp .le 10, 3) := by decide +kernel
theorem d9_56 : decode method_3_code 56 = .ok (.iload_n 0, 1) := by decide +kernel
theorem d9_57 : decode method_3_code 57 = .ok (.aload_n 2, 1) := by decide +kernel
theorem d9_58 : decode method_3_code 58 = .ok (.iconst 2, 1) := by decide +kernel
theorem d9_59 : decode method_3_code 59 = .ok (.iaload, 1) := by decide +kernel
theorem d9_60 : decode method_3_code 60 = .ok (.if_icmp .eq 15, 3) := by decide +kernel
theorem d9_63 : decode method_3_code 63 = .ok (.iload_n 3, 1) := by decide +kernel
theorem d9_64 : decode method_3_code 64 = .ok (.iconst 3, 1) := by decide +kernel
theorem d9_65 : decode method_3_code 65 = .ok (.if_icmp .le 14, 3) := by decide +kernel
theorem d9_68 : decode method_3_code 68 = .ok (.iload_n 0, 1) := by decide +kernel
theorem d9_69 : decode method_3_code 69 = .ok (.aload_n 2, 1) := by decide +kernel
theorem d9_70 : decode method_3_code 70 = .ok (.iconst 3, 1) := by decide +kernel
theorem d9_71 : decode method_3_code 71 = .ok (.iaload, 1) := by decide +kernel
theorem d9_72 : decode method_3_code 72 = .ok (.if_icmp .ne 7, 3) := by decide +kernel
theorem d9_75 : decode method_3_code 75 = .ok (.iconst 1, 1) := by decide +kernel
theorem d9_76 : decode method_3_code 76 = .ok (.goto 4, 3) := by decide +kernel
theorem d9_79 : decode method_3_code 79 = .ok (.iconst 0, 1) := by decide +kernel
theorem d9_80 : decode method_3_code 80 = .ok (.istore 5, 2) := by decide +kernel
theorem d9_82 : decode method_3_code 82 = .ok (.iload 4, 2) := by decide +kernel
theorem d9_84 : decode method_3_code 84 = .ok (.ifCond .eq 12, 3) := by decide +kernel
theorem d9_87 : decode method_3_code 87 = .ok (.iload 5, 2) := by decide +kernel
theorem d9_89 : decode method_3_code 89 = .ok (.ifCond .ne 7, 3) := by decide +kernel
theorem d9_92 : decode method_3_code 92 = .ok (.iconst 1, 1) := by decide +kernel
theorem d9_93 : decode method_3_code 93 = .ok (.goto 4, 3) := by decide +kernel
theorem d9_96 : decode method_3_code 96 = .ok (.iconst 0, 1) := by decide +kernel
theorem d9_97 : decode method_3_code 97 = .ok (.ireturn, 1) := by decide +kernel
theorem pn_9 : plainName "com/example/knotwork/knotwork/generate/FreeNumbersFreePinLaw" = true := by first | (simp [plainName, overriddenIn]; done) | decide +kernel
theorem ef_9 (m : MethodId) (x0 : Int32) (x1 : Addr) (x2 : Addr) (x3 : Int32) : entryFrame m #[(.int x0), (.ref x1), (.ref x2), (.int x3)] 6 = mkF m 0 #[.val (.int x0), .val (.ref x1), .val (.ref x2), .val (.int x3), .unset, .unset] [] := by first | (simp [entryFrame, mkF, argsToLocals, Value.category]; done) | rfl
def v9_1 (p0 : Int32) (tt : List Int32) : Int32 := (if p0 = (getI tt (0 : Int32)) then (1 : Int32) else (if p0 = (getI tt (1 : Int32)) then (1 : Int32) else (if p0 = (getI tt (2 : Int32)) then (1 : Int32) else (0 : Int32))))
def v9_2 (p1 : Int32) (p0 : Int32) (ff : List Int32) : Int32 := (if (0 : Int32) < p1 then (if p0 = (getI ff (0 : Int32)) then (1 : Int32) else (if (1 : Int32) < p1 then (if p0 = (getI ff (1 : Int32)) then (1 : Int32) else (if (2 : Int32) < p1 then (if p0 = (getI ff (2 : Int32)) then (1 : Int32) else (if (3 : Int32) < p1 then (if p0 = (getI ff (3 : Int32)) then (1 : Int32) else (0 : Int32)) else (0 : Int32))) else (if (3 : Int32) < p1 then (if p0 = (getI ff (3 : Int32)) then (1 : Int32) else (0 : Int32)) else (0 : Int32)))) else (if (2 : Int32) < p1 then (if p0 = (getI ff (2 : Int32)) then (1 : Int32) else (if (3 : Int32) < p1 then (if p0 = (getI ff (3 : Int32)) then (1 : Int32) else (0 : Int32)) else (0 : Int32))) else (if (3 : Int32) < p1 then (if p0 = (getI ff (3 : Int32)) then (1 : Int32) else (0 : Int32)) else (0 : Int32))))) else (if (1 : Int32) < p1 then (if p0 = (getI ff (1 : Int32)) then (1 : Int32) else (if (2 : Int32) < p1 then (if p0 = (getI ff (2 : Int32)) then (1 : Int32) else (if (3 : Int32) < p1 then (if p0 = (getI ff (3 : Int32)) then (1 : Int32) else (0 : Int32)) else (0 : Int32))) else (if (3 : Int32) < p1 then (if p0 = (getI ff (3 : Int32)) then (1 : Int32) else (0 : Int32)) else (0 : Int32)))) else (if (2 : Int32) < p1 then (if p0 = (getI ff (2 : Int32)) then (1 : Int32) else (if (3 : Int32) < p1 then (if p0 = (getI ff (3 : Int32)) then (1 : Int32) else (0 : Int32)) else (0 : Int32))) else (if (3 : Int32) < p1 then (if p0 = (getI ff (3 : Int32)) then (1 : Int32) else (0 : Int32)) else (0 : Int32)))))
def f9 (p0 : Int32) (p1 : Int32) (tt : List Int32) (ff : List Int32) : Int32 := (if (v9_1 p0 tt) = (0 : Int32) then (0 : Int32) else (if (v9_2 p1 p0 ff) = (0 : Int32) then (1 : Int32) else (0 : Int32)))
def Q9 (Z : State) (p0 : Int32) (o0 : Addr) (o1 : Addr) (p1 : Int32) (ka : ClassId) (tt : List Int32) (kb : ClassId) (ff : List Int32) (h0 : Heap) (n0 : Nat) (v : Option Value) (h : Heap) (L : List Loc) : Prop := v = some (.int (f9 p0 p1 tt ff)) ∧ Fr n0 L ∧ h = h0
set_option maxRecDepth 65536 in
set_option maxHeartbeats 40000000 in
theorem rm9 (l : Launch) (Z : State) (a0 : Array Value) (hw : ∀ d ∈ tables_1, d.before a0 Z = true) (ws : List Jvm.Cond) (p0 : Int32) (o0 : Addr) (o1 : Addr) (p1 : Int32) (ka : ClassId) (tt : List Int32) (kb : ClassId) (ff : List Int32) (h0 : Heap) (n0 : Nat) (Z0 : n0 ≤ h0.size) (V_o0 : Ia Z h0 o0 ka .int (3 : Int32) tt) (V_o1 : Ia Z h0 o1 kb .int (4 : Int32) ff)  :
    MetFree l (⟨"com/example/knotwork/knotwork/generate/FreeNumbersFreePinLaw", "inT", "(I[I[II)Z"⟩ : MethodName) (head1 (Jvm.Cond.code (⟨"com/example/knotwork/knotwork/generate/FreeNumbersFreePinLaw", "inT", "(I[I[II)Z"⟩ : MethodName) method_3_code 6 (some .boolean) :: ws) ({ frames := 0, cells := 0, slots := 0, locals := 0 } : Room)) (fun a U => a = #[(.int p0), (.ref o0), (.ref o1), (.int p1)] ∧ Z.Warmed39 U.vm ∧ U.heap = h0) (fun _ _ _ _ _ => True) (fun _ U o U' => ∃ v L, o = .returned v ∧ Q9 Z p0 o0 o1 p1 ka tt kb ff h0 n0 v U'.heap L ∧ FrameEnd U o U' L ({ frames := 0, cells := 0, slots := 0, locals := 0 } : Room).cells ({ frames := 0, cells := 0, slots := 0, locals := 0 } : Room).slots) := by
  refine MetFree.of_bodySF (plainFor_of_name pn_9) hisR ?_
  intro p e s m args below meth c s₁ Bd hml0 hP hK
  obtain ⟨rfl, hZ, hh⟩ := hP
  have hx := Bd.exec
  have hby := Bd.bytes
  have hml : c.maxLocals = 6 := hml0
  have hown : s.vm.findClass "com/example/knotwork/knotwork/generate/FreeNumbersFreePinLaw" = some m.cls := findClass_of_methodNamed Bd.named
  have hnm := (name_of_methodNamed Bd.named Bd.method).1
  have X0 : Stand p l e ({ frames := 0, cells := 0, slots := 0, locals := 0 } : Room) s m #[(.int p0), (.ref o0), (.ref o1), (.int p1)] below meth c s₁ [] 0 0 := Stand.of_body Bd
  have e0 : s₁.heap = h0 := by rw [← hh, Bd.state]; rfl
  have N0 := Fr.nil n0
  have hlk : meth.locks = false := by first | exact BodyLoose.notSynchronized Bd | exact Body.notSynchronized Bd
  have pre0 : ∀ t, Steps p.tables e below (s₁.setTop (mkF m 0 #[.val (.int p0), .val (.ref o0), .val (.ref o1), .val (.int p1), .unset, .unset] [])) t → Steps p.tables e below (s₁.setTop (entryFrame m #[(.int p0), (.ref o0), (.ref o1), (.int p1)] 6)) t := fun t k => castTop (ef_9 m p0 o0 o1 p1) k
  obtain ⟨cl1, Ar1, hin1, hat1⟩ := Ia.get (V_o0) (j := (0 : Int32)) ⟨by decide, by decide⟩
  have pre2 : ∀ t, Steps p.tables e below (s₁.setTop (mkF m 4 #[.val (.int p0), .val (.ref o0), .val (.ref o1), .val (.int p1), .unset, .unset] [(.int (getI tt (0 : Int32))), (.int p0)])) t → Steps p.tables e below (s₁.setTop (entryFrame m #[(.int p0), (.ref o0), (.ref o1), (.int p1)] 6)) t := fun t k => pre0 t (by
    show Steps p.tables e below (s₁.setTop (mkF m 0 #[.val (.int p0), .val (.ref o0), .val (.ref o1), .val (.int p1), .unset, .unset] [])) _
    refine XS.iloadN X0.here hx rfl (hb hby d9_0) rfl ?_
    show Steps p.tables e below (s₁.setTop (mkF m 1 #[.val (.int p0), .val (.ref o0), .val (.ref o1), .val (.int p1), .unset, .unset] [(.int p0)])) _
    refine XS.aloadN X0.here hx rfl (hb hby d9_1) rfl rfl ?_
    show Steps p.tables e below (s₁.setTop (mkF m 2 #[.val (.int p0), .val (.ref o0), .val (.ref o1), .val (.int p1), .unset, .unset] [(.ref o0), (.int p0)])) _
    refine XS.iconst X0.here hx rfl (hb hby d9_2) ?_
    show Steps p.tables e below (s₁.setTop (mkF m 3 #[.val (.int p0), .val (.ref o0), .val (.ref o1), .val (.int p1), .unset, .unset] [(.int (0 : Int32)), (.ref o0), (.int p0)])) _
    refine X0.iaload hx (j := (0 : Int32)) (v := (.int (getI tt (0 : Int32)))) (by rw [e0]; exact Ar1.1) (State.isArrayOf_alike hZ.alike Ar1.2.1) Ar1.2.2 hin1 hat1 (g := (mkF m 3 #[.val (.int p0), .val (.ref o0), .val (.ref o1), .val (.int p1), .unset, .unset] [(.int (0 : Int32)), (.ref o0), (.int p0)])) rfl rfl (hb hby d9_3) _ ?_
    show Steps p.tables e below (s₁.setTop (mkF m 4 #[.val (.int p0), .val (.ref o0), .val (.ref o1), .val (.int p1), .unset, .unset] [(.int (getI tt (0 : Int32))), (.int p0)])) _
    exact k)
  obtain ⟨cl4, Ar4, hin4, hat4⟩ := Ia.get (V_o0) (j := (1 : Int32)) ⟨by decide, by decide⟩
  obtain ⟨cl6, Ar6, hin6, hat6⟩ := Ia.get (V_o0) (j := (2 : Int32)) ⟨by decide, by decide⟩
  have pre8 : ∀ t, Steps p.tables e below (s₁.setTop (mkF m 26 #[.val (.int p0), .val (.ref o0), .val (.ref o1), .val (.int p1), .unset, .unset] [(.int (if p0 = (getI tt (0 : Int32)) then (1 : Int32) else (if p0 = (getI tt (1 : Int32)) then (1 : Int32) else (if p0 = (getI tt (2 : Int32)) then (1 : Int32) else (0 : Int32)))))])) t → Steps p.tables e below (s₁.setTop (entryFrame m #[(.int p0), (.ref o0), (.ref o1), (.int p1)] 6)) t := fun t k => pre2 t (by
    show Steps p.tables e below (s₁.setTop (mkF m 4 #[.val (.int p0), .val (.ref o0), .val (.ref o1), .val (.int p1), .unset, .unset] [(.int (getI tt (0 : Int32))), (.int p0)])) _
    by_cases hd4_3 : p0 = (getI tt (0 : Int32))
    · try simp only [if_pos hd4_3] at k
      show Steps p.tables e below (s₁.setTop (mkF m 4 #[.val (.int p0), .val (.ref o0), .val (.ref o1), .val (.int p1), .unset, .unset] [(.int (getI tt (0 : Int32))), (.int p0)])) _
      refine XS.icmpYes X0.here hx rfl (pc0 := 4) (pc' := 21) rfl (hb hby d9_4) rfl (teq hd4_3).1 (by decide) (by decide) ?_
      show Steps p.tables e below (s₁.setTop (mkF m 21 #[.val (.int p0), .val (.ref o0), .val (.ref o1), .val (.int p1), .unset, .unset] [])) _
      refine XS.iconst X0.here hx rfl (hb hby d9_21) ?_
      show Steps p.tables e below (s₁.setTop (mkF m 22 #[.val (.int p0), .val (.ref o0), .val (.ref o1), .val (.int p1), .unset, .unset] [(.int (1 : Int32))])) _
      refine XS.goto X0.here hx rfl (pc0 := 22) (pc' := 26) rfl (hb hby d9_22) (by decide) (by decide) ?_
      exact k
    · try simp only [if_neg hd4_3] at k
      show Steps p.tables e below (s₁.setTop (mkF m 4 #[.val (.int p0), .val (.ref o0), .val (.ref o1), .val (.int p1), .unset, .unset] [(.int (getI tt (0 : Int32))), (.int p0)])) _
      refine XS.icmpNo X0.here hx rfl (hb hby d9_4) rfl (feq hd4_3).1 ?_
      show Steps p.tables e below (s₁.setTop (mkF m 7 #[.val (.int p0), .val (.ref o0), .val (.ref o1), .val (.int p1), .unset, .unset] [])) _
      refine XS.iloadN X0.here hx rfl (hb hby d9_7) rfl ?_
      show Steps p.tables e below (s₁.setTop (mkF m 8 #[.val (.int p0), .val (.ref o0), .val (.ref o1), .val (.int p1), .unset, .unset] [(.int p0)])) _
      refine XS.aloadN X0.here hx rfl (hb hby d9_8) rfl rfl ?_
      show Steps p.tables e below (s₁.setTop (mkF m 9 #[.val (.int p0), .val (.ref o0), .val (.ref o1), .val (.int p1), .unset, .unset] [(.ref o0), (.int p0)])) _
      refine XS.iconst X0.here hx rfl (hb hby d9_9) ?_
      show Steps p.tables e below (s₁.setTop (mkF m 10 #[.val (.int p0), .val (.ref o0), .val (.ref o1), .val (.int p1), .unset, .unset] [(.int (1 : Int32)), (.ref o0), (.int p0)])) _
      refine X0.iaload hx (j := (1 : Int32)) (v := (.int (getI tt (1 : Int32)))) (by rw [e0]; exact Ar4.1) (State.isArrayOf_alike hZ.alike Ar4.2.1) Ar4.2.2 hin4 hat4 (g := (mkF m 10 #[.val (.int p0), .val (.ref o0), .val (.ref o1), .val (.int p1), .unset, .unset] [(.int (1 : Int32)), (.ref o0), (.int p0)])) rfl rfl (hb hby d9_10) _ ?_
      show Steps p.tables e below (s₁.setTop (mkF m 11 #[.val (.int p0), .val (.ref o0), .val (.ref o1), .val (.int p1), .unset, .unset] [(.int (getI tt (1 : Int32))), (.int p0)])) _
      by_cases hd11_5 : p0 = (getI tt (1 : Int32))
      · try simp only [if_pos hd11_5] at k
        show Steps p.tables e below (s₁.setTop (mkF m 11 #[.val (.int p0), .val (.ref o0), .val (.ref o1), .val (.int p1), .unset, .unset] [(.int (getI tt (1 : Int32))), (.int p0)])) _
        refine XS.icmpYes X0.here hx rfl (pc0 := 11) (pc' := 21) rfl (hb hby d9_11) rfl (teq hd11_5).1 (by decide) (by decide) ?_
        show Steps p.tables e below (s₁.setTop (mkF m 21 #[.val (.int p0), .val (.ref o0), .val (.ref o1), .val (.int p1), .unset, .unset] [])) _
        refine XS.iconst X0.here hx rfl (hb hby d9_21) ?_
        show Steps p.tables e below (s₁.setTop (mkF m 22 #[.val (.int p0), .val (.ref o0), .val (.ref o1), .val (.int p1), .unset, .unset] [(.int (1 : Int32))])) _
        refine XS.goto X0.here hx rfl (pc0 := 22) (pc' := 26) rfl (hb hby d9_22) (by decide) (by decide) ?_
        exact k
      · try simp only [if_neg hd11_5] at k
        show Steps p.tables e below (s₁.setTop (mkF m 11 #[.val (.int p0), .val (.ref o0), .val (.ref o1), .val (.int p1), .unset, .unset] [(.int (getI tt (1 : Int32))), (.int p0)])) _
        refine XS.icmpNo X0.here hx rfl (hb hby d9_11) rfl (feq hd11_5).1 ?_
        show Steps p.tables e below (s₁.setTop (mkF m 14 #[.val (.int p0), .val (.ref o0), .val (.ref o1), .val (.int p1), .unset, .unset] [])) _
        refine XS.iloadN X0.here hx rfl (hb hby d9_14) rfl ?_
        show Steps p.tables e below (s₁.setTop (mkF m 15 #[.val (.int p0), .val (.ref o0), .val (.ref o1), .val (.int p1), .unset, .unset] [(.int p0)])) _
        refine XS.aloadN X0.here hx rfl (hb hby d9_15) rfl rfl ?_
        show Steps p.tables e below (s₁.setTop (mkF m 16 #[.val (.int p0), .val (.ref o0), .val (.ref o1), .val (.int p1), .unset, .unset] [(.ref o0), (.int p0)])) _
        refine XS.iconst X0.here hx rfl (hb hby d9_16) ?_
        show Steps p.tables e below (s₁.setTop (mkF m 17 #[.val (.int p0), .val (.ref o0), .val (.ref o1), .val (.int p1), .unset, .unset] [(.int (2 : Int32)), (.ref o0), (.int p0)])) _
        refine X0.iaload hx (j := (2 : Int32)) (v := (.int (getI tt (2 : Int32)))) (by rw [e0]; exact Ar6.1) (State.isArrayOf_alike hZ.alike Ar6.2.1) Ar6.2.2 hin6 hat6 (g := (mkF m 17 #[.val (.int p0), .val (.ref o0), .val (.ref o1), .val (.int p1), .unset, .unset] [(.int (2 : Int32)), (.ref o0), (.int p0)])) rfl rfl (hb hby d9_17) _ ?_
        show Steps p.tables e below (s₁.setTop (mkF m 18 #[.val (.int p0), .val (.ref o0), .val (.ref o1), .val (.int p1), .unset, .unset] [(.int (getI tt (2 : Int32))), (.int p0)])) _
        by_cases hd18_7 : p0 = (getI tt (2 : Int32))
        · try simp only [if_pos hd18_7] at k
          show Steps p.tables e below (s₁.setTop (mkF m 18 #[.val (.int p0), .val (.ref o0), .val (.ref o1), .val (.int p1), .unset, .unset] [(.int (getI tt (2 : Int32))), (.int p0)])) _
          refine XS.icmpNo X0.here hx rfl (hb hby d9_18) rfl (teq hd18_7).2 ?_
          show Steps p.tables e below (s₁.setTop (mkF m 21 #[.val (.int p0), .val (.ref o0), .val (.ref o1), .val (.int p1), .unset, .unset] [])) _
          refine XS.iconst X0.here hx rfl (hb hby d9_21) ?_
          show Steps p.tables e below (s₁.setTop (mkF m 22 #[.val (.int p0), .val (.ref o0), .val (.ref o1), .val (.int p1), .unset, .unset] [(.int (1 : Int32))])) _
          refine XS.goto X0.here hx rfl (pc0 := 22) (pc' := 26) rfl (hb hby d9_22) (by decide) (by decide) ?_
          exact k
        · try simp only [if_neg hd18_7] at k
          show Steps p.tables e below (s₁.setTop (mkF m 18 #[.val (.int p0), .val (.ref o0), .val (.ref o1), .val (.int p1), .unset, .unset] [(.int (getI tt (2 : Int32))), (.int p0)])) _
          refine XS.icmpYes X0.here hx rfl (pc0 := 18) (pc' := 25) rfl (hb hby d9_18) rfl (feq hd18_7).2 (by decide) (by decide) ?_
          show Steps p.tables e below (s₁.setTop (mkF m 25 #[.val (.int p0), .val (.ref o0), .val (.ref o1), .val (.int p1), .unset, .unset] [])) _
          refine XS.iconst X0.here hx rfl (hb hby d9_25) ?_
          exact k
    )
  have pre9 : ∀ t, Steps p.tables e below (s₁.setTop (mkF m 29 #[.val (.int p0), .val (.ref o0), .val (.ref o1), .val (.int p1), .val (.int (v9_1 p0 tt)), .unset] [(.int p1)])) t → Steps p.tables e below (s₁.setTop (entryFrame m #[(.int p0), (.ref o0), (.ref o1), (.int p1)] 6)) t := fun t k => pre8 t (by
    show Steps p.tables e below (s₁.setTop (mkF m 26 #[.val (.int p0), .val (.ref o0), .val (.ref o1), .val (.int p1), .unset, .unset] [(.int (v9_1 p0 tt))])) _
    refine XS.istore X0.here hx rfl (hb hby d9_26) rfl (l' := #[.val (.int p0), .val (.ref o0), .val (.ref o1), .val (.int p1), .val (.int (v9_1 p0 tt)), .unset]) rfl ?_
    show Steps p.tables e below (s₁.setTop (mkF m 28 #[.val (.int p0), .val (.ref o0), .val (.ref o1), .val (.int p1), .val (.int (v9_1 p0 tt)), .unset] [])) _
    refine XS.iloadN X0.here hx rfl (hb hby d9_28) rfl ?_
    show Steps p.tables e below (s₁.setTop (mkF m 29 #[.val (.int p0), .val (.ref o0), .val (.ref o1), .val (.int p1), .val (.int (v9_1 p0 tt)), .unset] [(.int p1)])) _
    exact k)
  obtain ⟨cl11, Ar11, hin11, hat11⟩ := Ia.get (V_o1) (j := (0 : Int32)) ⟨by decide, by decide⟩
  obtain ⟨cl14, Ar14, hin14, hat14⟩ := Ia.get (V_o1) (j := (1 : Int32)) ⟨by decide, by decide⟩
  obtain ⟨cl17, Ar17, hin17, hat17⟩ := Ia.get (V_o1) (j := (2 : Int32)) ⟨by decide, by decide⟩
  obtain ⟨cl20, Ar20, hin20, hat20⟩ := Ia.get (V_o1) (j := (3 : Int32)) ⟨by decide, by decide⟩
  obtain ⟨cl23, Ar23, hin23, hat23⟩ := Ia.get (V_o1) (j := (3 : Int32)) ⟨by decide, by decide⟩
  obtain ⟨cl26, Ar26, hin26, hat26⟩ := Ia.get (V_o1) (j := (2 : Int32)) ⟨by decide, by decide⟩
  obtain ⟨cl29, Ar29, hin29, hat29⟩ := Ia.get (V_o1) (j := (3 : Int32)) ⟨by decide, by decide⟩
  obtain ⟨cl32, Ar32, hin32, hat32⟩ := Ia.get (V_o1) (j := (3 : Int32)) ⟨by decide, by decide⟩
  obtain ⟨cl35, Ar35, hin35, hat35⟩ := Ia.get (V_o1) (j := (1 : Int32)) ⟨by decide, by decide⟩
  obtain ⟨cl38, Ar38, hin38, hat38⟩ := Ia.get (V_o1) (j := (2 : Int32)) ⟨by decide, by decide⟩
  obtain ⟨cl41, Ar41, hin41, hat41⟩ := Ia.get (V_o1) (j := (3 : Int32)) ⟨by decide, by decide⟩
  obtain ⟨cl44, Ar44, hin44, hat44⟩ := Ia.get (V_o1) (j := (3 : Int32)) ⟨by decide, by decide⟩
  obtain ⟨cl47, Ar47, hin47, hat47⟩ := Ia.get (V_o1) (j := (2 : Int32)) ⟨by decide, by decide⟩
  obtain ⟨cl50, Ar50, hin50, hat50⟩ := Ia.get (V_o1) (j := (3 : Int32)) ⟨by decide, by decide⟩
  obtain ⟨cl53, Ar53, hin53, hat53⟩ := Ia.get (V_o1) (j := (3 : Int32)) ⟨by decide, by decide⟩
  have pre55 : ∀ t, Steps p.tables e below (s₁.setTop (mkF m 80 #[.val (.int p0), .val (.ref o0), .val (.ref o1), .val (.int p1), .val (.int (v9_1 p0 tt)), .unset] [(.int (if (0 : Int32) < p1 then (if p0 = (getI ff (0 : Int32)) then (1 : Int32) else (if (1 : Int32) < p1 then (if p0 = (getI ff (1 : Int32)) then (1 : Int32) else (if (2 : Int32) < p1 then (if p0 = (getI ff (2 : Int32)) then (1 : Int32) else (if (3 : Int32) < p1 then (if p0 = (getI ff (3 : Int32)) then (1 : Int32) else (0 : Int32)) else (0 : Int32))) else (if (3 : Int32) < p1 then (if p0 = (getI ff (3 : Int32)) then (1 : Int32) else (0 : Int32)) else (0 : Int32)))) else (if (2 : Int32) < p1 then (if p0 = (getI ff (2 : Int32)) then (1 : Int32) else (if (3 : Int32) < p1 then (if p0 = (getI ff (3 : Int32)) then (1 : Int32) else (0 : Int32)) else (0 : Int32))) else (if (3 : Int32) < p1 then (if p0 = (getI ff (3 : Int32)) then (1 : Int32) else (0 : Int32)) else (0 : Int32))))) else (if (1 : Int32) < p1 then (if p0 = (getI ff (1 : Int32)) then (1 : Int32) else (if (2 : Int32) < p1 then (if p0 = (getI ff (2 : Int32)) then (1 : Int32) else (if (3 : Int32) < p1 then (if p0 = (getI ff (3 : Int32)) then (1 : Int32) else (0 : Int32)) else (0 : Int32))) else (if (3 : Int32) < p1 then (if p0 = (getI ff (3 : Int32)) then (1 : Int32) else (0 : Int32)) else (0 : Int32)))) else (if (2 : Int32) < p1 then (if p0 = (getI ff (2 : Int32)) then (1 : Int32) else (if (3 : Int32) < p1 then (if p0 = (getI ff (3 : Int32)) then (1 : Int32) else (0 : Int32)) else (0 : Int32))) else (if (3 : Int32) < p1 then (if p0 = (getI ff (3 : Int32)) then (1 : Int32) else (0 : Int32)) else (0 : Int32))))))])) t → Steps p.tables e below (s₁.setTop (entryFrame m #[(.int p0), (.ref o0), (.ref o1), (.int p1)] 6)) t := fun t k => pre9 t (by
    show Steps p.tables e below (s₁.setTop (mkF m 29 #[.val (.int p0), .val (.ref o0), .val (.ref o1), .val (.int p1), .val (.int (v9_1 p0 tt)), .unset] [(.int p1)])) _
    by_cases hd29_10 : (0 : Int32) < p1
    · try simp only [if_pos hd29_10] at k
      show Steps p.tables e below (s₁.setTop (mkF m 29 #[.val (.int p0), .val (.ref o0), .val (.ref o1), .val (.int p1), .val (.int (v9_1 p0 tt)), .unset] [(.int p1)])) _
      refine XS.ifNo X0.here hx rfl (hb hby d9_29) rfl ((if0 _ _).trans (tlt hd29_10).2.2.2) ?_
      show Steps p.tables e below (s₁.setTop (mkF m 32 #[.val (.int p0), .val (.ref o0), .val (.ref o1), .val (.int p1), .val (.int (v9_1 p0 tt)), .unset] [])) _
      refine XS.iloadN X0.here hx rfl (hb hby d9_32) rfl ?_
      show Steps p.tables e below (s₁.setTop (mkF m 33 #[.val (.int p0), .val (.ref o0), .val (.ref o1), .val (.int p1), .val (.int (v9_1 p0 tt)), .unset] [(.int p0)])) _
      refine XS.aloadN X0.here hx rfl (hb hby d9_33) rfl rfl ?_
      show Steps p.tables e below (s₁.setTop (mkF m 34 #[.val (.int p0), .val (.ref o0), .val (.ref o1), .val (.int p1), .val (.int (v9_1 p0 tt)), .unset] [(.ref o1), (.int p0)])) _
      refine XS.iconst X0.here hx rfl (hb hby d9_34) ?_
      show Steps p.tables e below (s₁.setTop (mkF m 35 #[.val (.int p0), .val (.ref o0), .val (.ref o1), .val (.int p1), .val (.int (v9_1 p0 tt)), .unset] [(.int (0 : Int32)), (.ref o1), (.int p0)])) _
      refine X0.iaload hx (j := (0 : Int32)) (v := (.int (getI ff (0 : Int32)))) (by rw [e0]; exact Ar11.1) (State.isArrayOf_alike hZ.alike Ar11.2.1) Ar11.2.2 hin11 hat11 (g := (mkF m 35 #[.val (.int p0), .val (.ref o0), .val (.ref o1), .val (.int p1), .val (.int (v9_1 p0 tt)), .unset] [(.int (0 : Int32)), (.ref o1), (.int p0)])) rfl rfl (hb hby d9_35) _ ?_
      show Steps p.tables e below (s₁.setTop (mkF m 36 #[.val (.int p0), .val (.ref o0), .val (.ref o1), .val (.int p1), .val (.int (v9_1 p0 tt)), .unset] [(.int (getI ff (0 : Int32))), (.int p0)])) _
      by_cases hd36_12 : p0 = (getI ff (0 : Int32))
      · try simp only [if_pos hd36_12] at k
        show Steps p.tables e below (s₁.setTop (mkF m 36 #[.val (.int p0), .val (.ref o0), .val (.ref o1), .val (.int p1), .val (.int (v9_1 p0 tt)), .unset] [(.int (getI ff (0 : Int32))), (.int p0)])) _
        refine XS.icmpYes X0.here hx rfl (pc0 := 36) (pc' := 75) rfl (hb hby d9_36) rfl (teq hd36_12).1 (by decide) (by decide) ?_
        show Steps p.tables e below (s₁.setTop (mkF m 75 #[.val (.int p0), .val (.ref o0), .val (.ref o1), .val (.int p1), .val (.int (v9_1 p0 tt)), .unset] [])) _
        refine XS.iconst X0.here hx rfl (hb hby d9_75) ?_
        show Steps p.tables e below (s₁.setTop (mkF m 76 #[.val (.int p0), .val (.ref o0), .val (.ref o1), .val (.int p1), .val (.int (v9_1 p0 tt)), .unset] [(.int (1 : Int32))])) _
        refine XS.goto X0.here hx rfl (pc0 := 76) (pc' := 80) rfl (hb hby d9_76) (by decide) (by decide) ?_
        exact k
      · try simp only [if_neg hd36_12] at k
        show Steps p.tables e below (s₁.setTop (mkF m 36 #[.val (.int p0), .val (.ref o0), .val (.ref o1), .val (.int p1), .val (.int (v9_1 p0 tt)), .unset] [(.int (getI ff (0 : Int32))), (.int p0)])) _
        refine XS.icmpNo X0.here hx rfl (hb hby d9_36) rfl (feq hd36_12).1 ?_
        show Steps p.tables e below (s₁.setTop (mkF m 39 #[.val (.int p0), .val (.ref o0), .val (.ref o1), .val (.int p1), .val (.int (v9_1 p0 tt)), .unset] [])) _
        refine XS.iloadN X0.here hx rfl (hb hby d9_39) rfl ?_
        show Steps p.tables e below (s₁.setTop (mkF m 40 #[.val (.int p0), .val (.ref o0), .val (.ref o1), .val (.int p1), .val (.int (v9_1 p0 tt)), .unset] [(.int p1)])) _
        refine XS.iconst X0.here hx rfl (hb hby d9_40) ?_
        show Steps p.tables e below (s₁.setTop (mkF m 41 #[.val (.int p0), .val (.ref o0), .val (.ref o1), .val (.int p1), .val (.int (v9_1 p0 tt)), .unset] [(.int (1 : Int32)), (.int p1)])) _
        by_cases hd41_13 : (1 : Int32) < p1
        · try simp only [if_pos hd41_13] at k
          show Steps p.tables e below (s₁.setTop (mkF m 41 #[.val (.int p0), .val (.ref o0), .val (.ref o1), .val (.int p1), .val (.int (v9_1 p0 tt)), .unset] [(.int (1 : Int32)), (.int p1)])) _
          refine XS.icmpNo X0.here hx rfl (hb hby d9_41) rfl (tlt hd41_13).2.2.2 ?_
          show Steps p.tables e below (s₁.setTop (mkF m 44 #[.val (.int p0), .val (.ref o0), .val (.ref o1), .val (.int p1), .val (.int (v9_1 p0 tt)), .unset] [])) _
          refine XS.iloadN X0.here hx rfl (hb hby d9_44) rfl ?_
          show Steps p.tables e below (s₁.setTop (mkF m 45 #[.val (.int p0), .val (.ref o0), .val (.ref o1), .val (.int p1), .val (.int (v9_1 p0 tt)), .unset] [(.int p0)])) _
          refine XS.aloadN X0.here hx rfl (hb hby d9_45) rfl rfl ?_
          show Steps p.tables e below (s₁.setTop (mkF m 46 #[.val (.int p0), .val (.ref o0), .val (.ref o1), .val (.int p1), .val (.int (v9_1 p0 tt)), .unset] [(.ref o1), (.int p0)])) _
          refine XS.iconst X0.here hx rfl (hb hby d9_46) ?_
          show Steps p.tables e below (s₁.setTop (mkF m 47 #[.val (.int p0), .val (.ref o0), .val (.ref o1), .val (.int p1), .val (.int (v9_1 p0 tt)), .unset] [(.int (1 : Int32)), (.ref o1), (.int p0)])) _
          refine X0.iaload hx (j := (1 : Int32)) (v := (.int (getI ff (1 : Int32)))) (by rw [e0]; exact Ar14.1) (State.isArrayOf_alike hZ.alike Ar14.2.1) Ar14.2.2 hin14 hat14 (g := (mkF m 47 #[.val (.int p0), .val (.ref o0), .val (.ref o1), .val (.int p1), .val (.int (v9_1 p0 tt)), .unset] [(.int (1 : Int32)), (.ref o1), (.int p0)])) rfl rfl (hb hby d9_47) _ ?_
          show Steps p.tables e below (s₁.setTop (mkF m 48 #[.val (.int p0), .val (.ref o0), .val (.ref o1), .val (.int p1), .val (.int (v9_1 p0 tt)), .unset] [(.int (getI ff (1 : Int32))), (.int p0)])) _
          by_cases hd48_15 : p0 = (getI ff (1 : Int32))
          · try simp only [if_pos hd48_15] at k
            show Steps p.tables e below (s₁.setTop (mkF m 48 #[.val (.int p0), .val (.ref o0), .val (.ref o1), .val (.int p1), .val (.int (v9_1 p0 tt)), .unset] [(.int (getI ff (1 : Int32))), (.int p0)])) _
            refine XS.icmpYes X0.here hx rfl (pc0 := 48) (pc' := 75) rfl (hb hby d9_48) rfl (teq hd48_15).1 (by decide) (by decide) ?_
            show Steps p.tables e below (s₁.setTop (mkF m 75 #[.val (.int p0), .val (.ref o0), .val (.ref o1), .val (.int p1), .val (.int (v9_1 p0 tt)), .unset] [])) _
            refine XS.iconst X0.here hx rfl (hb hby d9_75) ?_
            show Steps p.tables e below (s₁.setTop (mkF m 76 #[.val (.int p0), .val (.ref o0), .val (.ref o1), .val (.int p1), .val (.int (v9_1 p0 tt)), .unset] [(.int (1 : Int32))])) _
            refine XS.goto X0.here hx rfl (pc0 := 76) (pc' := 80) rfl (hb hby d9_76) (by decide) (by decide) ?_
            exact k
          · try simp only [if_neg hd48_15] at k
            show Steps p.tables e below (s₁.setTop (mkF m 48 #[.val (.int p0), .val (.ref o0), .val (.ref o1), .val (.int p1), .val (.int (v9_1 p0 tt)), .unset] [(.int (getI ff (1 : Int32))), (.int p0)])) _
            refine XS.icmpNo X0.here hx rfl (hb hby d9_48) rfl (feq hd48_15).1 ?_
            show Steps p.tables e below (s₁.setTop (mkF m 51 #[.val (.int p0), .val (.ref o0), .val (.ref o1), .val (.int p1), .val (.int (v9_1 p0 tt)), .unset] [])) _
            refine XS.iloadN X0.here hx rfl (hb hby d9_51) rfl ?_
            show Steps p.tables e below (s₁.setTop (mkF m 52 #[.val (.int p0), .val (.ref o0), .val (.ref o1), .val (.int p1), .val (.int (v9_1 p0 tt)), .unset] [(.int p1)])) _
            refine XS.iconst X0.here hx rfl (hb hby d9_52) ?_
            show Steps p.tables e below (s₁.setTop (mkF m 53 #[.val (.int p0), .val (.ref o0), .val (.ref o1), .val (.int p1), .val (.int (v9_1 p0 tt)), .unset] [(.int (2 : Int32)), (.int p1)])) _
            by_cases hd53_16 : (2 : Int32) < p1
            · try simp only [if_pos hd53_16] at k
              show Steps p.tables e below (s₁.setTop (mkF m 53 #[.val (.int p0), .val (.ref o0), .val (.ref o1), .val (.int p1), .val (.int (v9_1 p0 tt)), .unset] [(.int (2 : Int32)), (.int p1)])) _
              refine XS.icmpNo X0.here hx rfl (hb hby d9_53) rfl (tlt hd53_16).2.2.2 ?_
              show Steps p.tables e below (s₁.setTop (mkF m 56 #[.val (.int p0), .val (.ref o0), .val (.ref o1), .val (.int p1), .val (.int (v9_1 p0 tt)), .unset] [])) _
              refine XS.iloadN X0.here hx rfl (hb hby d9_56) rfl ?_
              show Steps p.tables e below (s₁.setTop (mkF m 57 #[.val (.int p0), .val (.ref o0), .val (.ref o1), .val (.int p1), .val (.int (v9_1 p0 tt)), .unset] [(.int p0)])) _
              refine XS.aloadN X0.here hx rfl (hb hby d9_57) rfl rfl ?_
              show Steps p.tables e below (s₁.setTop (mkF m 58 #[.val (.int p0), .val (.ref o0), .val (.ref o1), .val (.int p1), .val (.int (v9_1 p0 tt)), .unset] [(.ref o1), (.int p0)])) _
              refine XS.iconst X0.here hx rfl (hb hby d9_58) ?_
              show Steps p.tables e below (s₁.setTop (mkF m 59 #[.val (.int p0), .val (.ref o0), .val (.ref o1), .val (.int p1), .val (.int (v9_1 p0 tt)), .unset] [(.int (2 : Int32)), (.ref o1), (.int p0)])) _
              refine X0.iaload hx (j := (2 : Int32)) (v := (.int (getI ff (2 : Int32)))) (by rw [e0]; exact Ar17.1) (State.isArrayOf_alike hZ.alike Ar17.2.1) Ar17.2.2 hin17 hat17 (g := (mkF m 59 #[.val (.int p0), .val (.ref o0), .val (.ref o1), .val (.int p1), .val (.int (v9_1 p0 tt)), .unset] [(.int (2 : Int32)), (.ref o1), (.int p0)])) rfl rfl (hb hby d9_59) _ ?_
              show Steps p.tables e below (s₁.setTop (mkF m 60 #[.val (.int p0), .val (.ref o0), .val (.ref o1), .val (.int p1), .val (.int (v9_1 p0 tt)), .unset] [(.int (getI ff (2 : Int32))), (.int p0)])) _
              by_cases hd60_18 : p0 = (getI ff (2 : Int32))
              · try simp only [if_pos hd60_18] at k
                show Steps p.tables e below (s₁.setTop (mkF m 60 #[.val (.int p0), .val (.ref o0), .val (.ref o1), .val (.int p1), .val (.int (v9_1 p0 tt)), .unset] [(.int (getI ff (2 : Int32))), (.int p0)])) _
                refine XS.icmpYes X0.here hx rfl (pc0 := 60) (pc' := 75) rfl (hb hby d9_60) rfl (teq hd60_18).1 (by decide) (by decide) ?_
                show Steps p.tables e below (s₁.setTop (mkF m 75 #[.val (.int p0), .val (.ref o0), .val (.ref o1), .val (.int p1), .val (.int (v9_1 p0 tt)), .unset] [])) _
                refine XS.iconst X0.here hx rfl (hb hby d9_75) ?_
                show Steps p.tables e below (s₁.setTop (mkF m 76 #[.val (.int p0), .val (.ref o0), .val (.ref o1), .val (.int p1), .val (.int (v9_1 p0 tt)), .unset] [(.int (1 : Int32))])) _
                refine XS.goto X0.here hx rfl (pc0 := 76) (pc' := 80) rfl (hb hby d9_76) (by decide) (by decide) ?_
                exact k
              · try simp only [if_neg hd60_18] at k
                show Steps p.tables e below (s₁.setTop (mkF m 60 #[.val (.int p0), .val (.ref o0), .val (.ref o1), .val (.int p1), .val (.int (v9_1 p0 tt)), .unset] [(.int (getI ff (2 : Int32))), (.int p0)])) _
                refine XS.icmpNo X0.here hx rfl (hb hby d9_60) rfl (feq hd60_18).1 ?_
                show Steps p.tables e below (s₁.setTop (mkF m 63 #[.val (.int p0), .val (.ref o0), .val (.ref o1), .val (.int p1), .val (.int (v9_1 p0 tt)), .unset] [])) _
                refine XS.iloadN X0.here hx rfl (hb hby d9_63) rfl ?_
                show Steps p.tables e below (s₁.setTop (mkF m 64 #[.val (.int p0), .val (.ref o0), .val (.ref o1), .val (.int p1), .val (.int (v9_1 p0 tt)), .unset] [(.int p1)])) _
                refine XS.iconst X0.here hx rfl (hb hby d9_64) ?_
                show Steps p.tables e below (s₁.setTop (mkF m 65 #[.val (.int p0), .val (.ref o0), .val (.ref o1), .val (.int p1), .val (.int (v9_1 p0 tt)), .unset] [(.int (3 : Int32)), (.int p1)])) _
                by_cases hd65_19 : (3 : Int32) < p1
                · try simp only [if_pos hd65_19] at k
                  show Steps p.tables e below (s₁.setTop (mkF m 65 #[.val (.int p0), .val (.ref o0), .val (.ref o1), .val (.int p1), .val (.int (v9_1 p0 tt)), .unset] [(.int (3 : Int32)), (.int p1)])) _
                  refine XS.icmpNo X0.here hx rfl (hb hby d9_65) rfl (tlt hd65_19).2.2.2 ?_
                  show Steps p.tables e below (s₁.setTop (mkF m 68 #[.val (.int p0), .val (.ref o0), .val (.ref o1), .val (.int p1), .val (.int (v9_1 p0 tt)), .unset] [])) _
                  refine XS.iloadN X0.here hx rfl (hb hby d9_68) rfl ?_
                  show Steps p.tables e below (s₁.setTop (mkF m 69 #[.val (.int p0), .val (.ref o0), .val (.ref o1), .val (.int p1), .val (.int (v9_1 p0 tt)), .unset] [(.int p0)])) _
                  refine XS.aloadN X0.here hx rfl (hb hby d9_69) rfl rfl ?_
                  show Steps p.tables e below (s₁.setTop (mkF m 70 #[.val (.int p0), .val (.ref o0), .val (.ref o1), .val (.int p1), .val (.int (v9_1 p0 tt)), .unset] [(.ref o1), (.int p0)])) _
                  refine XS.iconst X0.here hx rfl (hb hby d9_70) ?_
                  show Steps p.tables e below (s₁.setTop (mkF m 71 #[.val (.int p0), .val (.ref o0), .val (.ref o1), .val (.int p1), .val (.int (v9_1 p0 tt)), .unset] [(.int (3 : Int32)), (.ref o1), (.int p0)])) _
                  refine X0.iaload hx (j := (3 : Int32)) (v := (.int (getI ff (3 : Int32)))) (by rw [e0]; exact Ar20.1) (State.isArrayOf_alike hZ.alike Ar20.2.1) Ar20.2.2 hin20 hat20 (g := (mkF m 71 #[.val (.int p0), .val (.ref o0), .val (.ref o1), .val (.int p1), .val (.int (v9_1 p0 tt)), .unset] [(.int (3 : Int32)), (.ref o1), (.int p0)])) rfl rfl (hb hby d9_71) _ ?_
                  show Steps p.tables e below (s₁.setTop (mkF m 72 #[.val (.int p0), .val (.ref o0), .val (.ref o1), .val (.int p1), .val (.int (v9_1 p0 tt)), .unset] [(.int (getI ff (3 : Int32))), (.int p0)])) _
                  by_cases hd72_21 : p0 = (getI ff (3 : Int32))
                  · try simp only [if_pos hd72_21] at k
                    show Steps p.tables e below (s₁.setTop (mkF m 72 #[.val (.int p0), .val (.ref o0), .val (.ref o1), .val (.int p1), .val (.int (v9_1 p0 tt)), .unset] [(.int (getI ff (3 : Int32))), (.int p0)])) _
                    refine XS.icmpNo X0.here hx rfl (hb hby d9_72) rfl (teq hd72_21).2 ?_
                    show Steps p.tables e below (s₁.setTop (mkF m 75 #[.val (.int p0), .val (.ref o0), .val (.ref o1), .val (.int p1), .val (.int (v9_1 p0 tt)), .unset] [])) _
                    refine XS.iconst X0.here hx rfl (hb hby d9_75) ?_
                    show Steps p.tables e below (s₁.setTop (mkF m 76 #[.val (.int p0), .val (.ref o0), .val (.ref o1), .val (.int p1), .val (.int (v9_1 p0 tt)), .unset] [(.int (1 : Int32))])) _
                    refine XS.goto X0.here hx rfl (pc0 := 76) (pc' := 80) rfl (hb hby d9_76) (by decide) (by decide) ?_
                    exact k
                  · try simp only [if_neg hd72_21] at k
                    show Steps p.tables e below (s₁.setTop (mkF m 72 #[.val (.int p0), .val (.ref o0), .val (.ref o1), .val (.int p1), .val (.int (v9_1 p0 tt)), .unset] [(.int (getI ff (3 : Int32))), (.int p0)])) _
                    refine XS.icmpYes X0.here hx rfl (pc0 := 72) (pc' := 79) rfl (hb hby d9_72) rfl (feq hd72_21).2 (by decide) (by decide) ?_
                    show Steps p.tables e below (s₁.setTop (mkF m 79 #[.val (.int p0), .val (.ref o0), .val (.ref o1), .val (.int p1), .val (.int (v9_1 p0 tt)), .unset] [])) _
                    refine XS.iconst X0.here hx rfl (hb hby d9_79) ?_
                    exact k
                · try simp only [if_neg hd65_19] at k
                  show Steps p.tables e below (s₁.setTop (mkF m 65 #[.val (.int p0), .val (.ref o0), .val (.ref o1), .val (.int p1), .val (.int (v9_1 p0 tt)), .unset] [(.int (3 : Int32)), (.int p1)])) _
                  refine XS.icmpYes X0.here hx rfl (pc0 := 65) (pc' := 79) rfl (hb hby d9_65) rfl (flt hd65_19).2.2.2 (by decide) (by decide) ?_
                  show Steps p.tables e below (s₁.setTop (mkF m 79 #[.val (.int p0), .val (.ref o0), .val (.ref o1), .val (.int p1), .val (.int (v9_1 p0 tt)), .unset] [])) _
                  refine XS.iconst X0.here hx rfl (hb hby d9_79) ?_
                  exact k
            · try simp only [if_neg hd53_16] at k
              show Steps p.tables e below (s₁.setTop (mkF m 53 #[.val (.int p0), .val (.ref o0), .val (.ref o1), .val (.int p1), .val (.int (v9_1 p0 tt)), .unset] [(.int (2 : Int32)), (.int p1)])) _
              refine XS.icmpYes X0.here hx rfl (pc0 := 53) (pc' := 63) rfl (hb hby d9_53) rfl (flt hd53_16).2.2.2 (by decide) (by decide) ?_
              show Steps p.tables e below (s₁.setTop (mkF m 63 #[.val (.int p0), .val (.ref o0), .val (.ref o1), .val (.int p1), .val (.int (v9_1 p0 tt)), .unset] [])) _
              refine XS.iloadN X0.here hx rfl (hb hby d9_63) rfl ?_
              show Steps p.tables e below (s₁.setTop (mkF m 64 #[.val (.int p0), .val (.ref o0), .val (.ref o1), .val (.int p1), .val (.int (v9_1 p0 tt)), .unset] [(.int p1)])) _
              refine XS.iconst X0.here hx rfl (hb hby d9_64) ?_
              show Steps p.tables e below (s₁.setTop (mkF m 65 #[.val (.int p0), .val (.ref o0), .val (.ref o1), .val (.int p1), .val (.int (v9_1 p0 tt)), .unset] [(.int (3 : Int32)), (.int p1)])) _
              by_cases hd65_22 : (3 : Int32) < p1
              · try simp only [if_pos hd65_22] at k
                show Steps p.tables e below (s₁.setTop (mkF m 65 #[.val (.int p0), .val (.ref o0), .val (.ref o1), .val (.int p1), .val (.int (v9_1 p0 tt)), .unset] [(.int (3 : Int32)), (.int p1)])) _
                refine XS.icmpNo X0.here hx rfl (hb hby d9_65) rfl (tlt hd65_22).2.2.2 ?_
                show Steps p.tables e below (s₁.setTop (mkF m 68 #[.val (.int p0), .val (.ref o0), .val (.ref o1), .val (.int p1), .val (.int (v9_1 p0 tt)), .unset] [])) _
                refine XS.iloadN X0.here hx rfl (hb hby d9_68) rfl ?_
                show Steps p.tables e below (s₁.setTop (mkF m 69 #[.val (.int p0), .val (.ref o0), .val (.ref o1), .val (.int p1), .val (.int (v9_1 p0 tt)), .unset] [(.int p0)])) _
                refine XS.aloadN X0.here hx rfl (hb hby d9_69) rfl rfl ?_
                show Steps p.tables e below (s₁.setTop (mkF m 70 #[.val (.int p0), .val (.ref o0), .val (.ref o1), .val (.int p1), .val (.int (v9_1 p0 tt)), .unset] [(.ref o1), (.int p0)])) _
                refine XS.iconst X0.here hx rfl (hb hby d9_70) ?_
                show Steps p.tables e below (s₁.setTop (mkF m 71 #[.val (.int p0), .val (.ref o0), .val (.ref o1), .val (.int p1), .val (.int (v9_1 p0 tt)), .unset] [(.int (3 : Int32)), (.ref o1), (.int p0)])) _
                refine X0.iaload hx (j := (3 : Int32)) (v := (.int (getI ff (3 : Int32)))) (by rw [e0]; exact Ar23.1) (State.isArrayOf_alike hZ.alike Ar23.2.1) Ar23.2.2 hin23 hat23 (g := (mkF m 71 #[.val (.int p0), .val (.ref o0), .val (.ref o1), .val (.int p1), .val (.int (v9_1 p0 tt)), .unset] [(.int (3 : Int32)), (.ref o1), (.int p0)])) rfl rfl (hb hby d9_71) _ ?_
                show Steps p.tables e below (s₁.setTop (mkF m 72 #[.val (.int p0), .val (.ref o0), .val (.ref o1), .val (.int p1), .val (.int (v9_1 p0 tt)), .unset] [(.int (getI ff (3 : Int32))), (.int p0)])) _
                by_cases hd72_24 : p0 = (getI ff (3 : Int32))
                · try simp only [if_pos hd72_24] at k
                  show Steps p.tables e below (s₁.setTop (mkF m 72 #[.val (.int p0), .val (.ref o0), .val (.ref o1), .val (.int p1), .val (.int (v9_1 p0 tt)), .unset] [(.int (getI ff (3 : Int32))), (.int p0)])) _
                  refine XS.icmpNo X0.here hx rfl (hb hby d9_72) rfl (teq hd72_24).2 ?_
                  show Steps p.tables e below (s₁.setTop (mkF m 75 #[.val (.int p0), .val (.ref o0), .val (.ref o1), .val (.int p1), .val (.int (v9_1 p0 tt)), .unset] [])) _
                  refine XS.iconst X0.here hx rfl (hb hby d9_75) ?_
                  show Steps p.tables e below (s₁.setTop (mkF m 76 #[.val (.int p0), .val (.ref o0), .val (.ref o1), .val (.int p1), .val (.int (v9_1 p0 tt)), .unset] [(.int (1 : Int32))])) _
                  refine XS.goto X0.here hx rfl (pc0 := 76) (pc' := 80) rfl (hb hby d9_76) (by decide) (by decide) ?_
                  exact k
                · try simp only [if_neg hd72_24] at k
                  show Steps p.tables e below (s₁.setTop (mkF m 72 #[.val (.int p0), .val (.ref o0), .val (.ref o1), .val (.int p1), .val (.int (v9_1 p0 tt)), .unset] [(.int (getI ff (3 : Int32))), (.int p0)])) _
                  refine XS.icmpYes X0.here hx rfl (pc0 := 72) (pc' := 79) rfl (hb hby d9_72) rfl (feq hd72_24).2 (by decide) (by decide) ?_
                  show Steps p.tables e below (s₁.setTop (mkF m 79 #[.val (.int p0), .val (.ref o0), .val (.ref o1), .val (.int p1), .val (.int (v9_1 p0 tt)), .unset] [])) _
                  refine XS.iconst X0.here hx rfl (hb hby d9_79) ?_
                  exact k
              · try simp only [if_neg hd65_22] at k
                show Steps p.tables e below (s₁.setTop (mkF m 65 #[.val (.int p0), .val (.ref o0), .val (.ref o1), .val (.int p1), .val (.int (v9_1 p0 tt)), .unset] [(.int (3 : Int32)), (.int p1)])) _
                refine XS.icmpYes X0.here hx rfl (pc0 := 65) (pc' := 79) rfl (hb hby d9_65) rfl (flt hd65_22).2.2.2 (by decide) (by decide) ?_
                show Steps p.tables e below (s₁.setTop (mkF m 79 #[.val (.int p0), .val (.ref o0), .val (.ref o1), .val (.int p1), .val (.int (v9_1 p0 tt)), .unset] [])) _
                refine XS.iconst X0.here hx rfl (hb hby d9_79) ?_
                exact k
        · try simp only [if_neg hd41_13] at k
          show Steps p.tables e below (s₁.setTop (mkF m 41 #[.val (.int p0), .val (.ref o0), .val (.ref o1), .val (.int p1), .val (.int (v9_1 p0 tt)), .unset] [(.int (1 : Int32)), (.int p1)])) _
          refine XS.icmpYes X0.here hx rfl (pc0 := 41) (pc' := 51) rfl (hb hby d9_41) rfl (flt hd41_13).2.2.2 (by decide) (by decide) ?_
          show Steps p.tables e below (s₁.setTop (mkF m 51 #[.val (.int p0), .val (.ref o0), .val (.ref o1), .val (.int p1), .val (.int (v9_1 p0 tt)), .unset] [])) _
          refine XS.iloadN X0.here hx rfl (hb hby d9_51) rfl ?_
          show Steps p.tables e below (s₁.setTop (mkF m 52 #[.val (.int p0), .val (.ref o0), .val (.ref o1), .val (.int p1), .val (.int (v9_1 p0 tt)), .unset] [(.int p1)])) _
          refine XS.iconst X0.here hx rfl (hb hby d9_52) ?_
          show Steps p.tables e below (s₁.setTop (mkF m 53 #[.val (.int p0), .val (.ref o0), .val (.ref o1), .val (.int p1), .val (.int (v9_1 p0 tt)), .unset] [(.int (2 : Int32)), (.int p1)])) _
          by_cases hd53_25 : (2 : Int32) < p1
          · try simp only [if_pos hd53_25] at k
            show Steps p.tables e below (s₁.setTop (mkF m 53 #[.val (.int p0), .val (.ref o0), .val (.ref o1), .val (.int p1), .val (.int (v9_1 p0 tt)), .unset] [(.int (2 : Int32)), (.int p1)])) _
            refine XS.icmpNo X0.here hx rfl (hb hby d9_53) rfl (tlt hd53_25).2.2.2 ?_
            show Steps p.tables e below (s₁.setTop (mkF m 56 #[.val (.int p0), .val (.ref o0), .val (.ref o1), .val (.int p1), .val (.int (v9_1 p0 tt)), .unset] [])) _
            refine XS.iloadN X0.here hx rfl (hb hby d9_56) rfl ?_
            show Steps p.tables e below (s₁.setTop (mkF m 57 #[.val (.int p0), .val (.ref o0), .val (.ref o1), .val (.int p1), .val (.int (v9_1 p0 tt)), .unset] [(.int p0)])) _
            refine XS.aloadN X0.here hx rfl (hb hby d9_57) rfl rfl ?_
            show Steps p.tables e below (s₁.setTop (mkF m 58 #[.val (.int p0), .val (.ref o0), .val (.ref o1), .val (.int p1), .val (.int (v9_1 p0 tt)), .unset] [(.ref o1), (.int p0)])) _
            refine XS.iconst X0.here hx rfl (hb hby d9_58) ?_
            show Steps p.tables e below (s₁.setTop (mkF m 59 #[.val (.int p0), .val (.ref o0), .val (.ref o1), .val (.int p1), .val (.int (v9_1 p0 tt)), .unset] [(.int (2 : Int32)), (.ref o1), (.int p0)])) _
            refine X0.iaload hx (j := (2 : Int32)) (v := (.int (getI ff (2 : Int32)))) (by rw [e0]; exact Ar26.1) (State.isArrayOf_alike hZ.alike Ar26.2.1) Ar26.2.2 hin26 hat26 (g := (mkF m 59 #[.val (.int p0), .val (.ref o0), .val (.ref o1), .val (.int p1), .val (.int (v9_1 p0 tt)), .unset] [(.int (2 : Int32)), (.ref o1), (.int p0)])) rfl rfl (hb hby d9_59) _ ?_
            show Steps p.tables e below (s₁.setTop (mkF m 60 #[.val (.int p0), .val (.ref o0), .val (.ref o1), .val (.int p1), .val (.int (v9_1 p0 tt)), .unset] [(.int (getI ff (2 : Int32))), (.int p0)])) _
            by_cases hd60_27 : p0 = (getI ff (2 : Int32))
            · try simp only [if_pos hd60_27] at k
              show Steps p.tables e below (s₁.setTop (mkF m 60 #[.val (.int p0), .val (.ref o0), .val (.ref o1), .val (.int p1), .val (.int (v9_1 p0 tt)), .unset] [(.int (getI ff (2 : Int32))), (.int p0)])) _
              refine XS.icmpYes X0.here hx rfl (pc0 := 60) (pc' := 75) rfl (hb hby d9_60) rfl (teq hd60_27).1 (by decide) (by decide) ?_
              show Steps p.tables e below (s₁.setTop (mkF m 75 #[.val (.int p0), .val (.ref o0), .val (.ref o1), .val (.int p1), .val (.int (v9_1 p0 tt)), .unset] [])) _
              refine XS.iconst X0.here hx rfl (hb hby d9_75) ?_
              show Steps p.tables e below (s₁.setTop (mkF m 76 #[.val (.int p0), .val (.ref o0), .val (.ref o1), .val (.int p1), .val (.int (v9_1 p0 tt)), .unset] [(.int (1 : Int32))])) _
              refine XS.goto X0.here hx rfl (pc0 := 76) (pc' := 80) rfl (hb hby d9_76) (by decide) (by decide) ?_
              exact k
            · try simp only [if_neg hd60_27] at k
              show Steps p.tables e below (s₁.setTop (mkF m 60 #[.val (.int p0), .val (.ref o0), .val (.ref o1), .val (.int p1), .val (.int (v9_1 p0 tt)), .unset] [(.int (getI ff (2 : Int32))), (.int p0)])) _
              refine XS.icmpNo X0.here hx rfl (hb hby d9_60) rfl (feq hd60_27).1 ?_
              show Steps p.tables e below (s₁.setTop (mkF m 63 #[.val (.int p0), .val (.ref o0), .val (.ref o1), .val (.int p1), .val (.int (v9_1 p0 tt)), .unset] [])) _
              refine XS.iloadN X0.here hx rfl (hb hby d9_63) rfl ?_
              show Steps p.tables e below (s₁.setTop (mkF m 64 #[.val (.int p0), .val (.ref o0), .val (.ref o1), .val (.int p1), .val (.int (v9_1 p0 tt)), .unset] [(.int p1)])) _
              refine XS.iconst X0.here hx rfl (hb hby d9_64) ?_
              show Steps p.tables e below (s₁.setTop (mkF m 65 #[.val (.int p0), .val (.ref o0), .val (.ref o1), .val (.int p1), .val (.int (v9_1 p0 tt)), .unset] [(.int (3 : Int32)), (.int p1)])) _
              by_cases hd65_28 : (3 : Int32) < p1
              · try simp only [if_pos hd65_28] at k
                show Steps p.tables e below (s₁.setTop (mkF m 65 #[.val (.int p0), .val (.ref o0), .val (.ref o1), .val (.int p1), .val (.int (v9_1 p0 tt)), .unset] [(.int (3 : Int32)), (.int p1)])) _
                refine XS.icmpNo X0.here hx rfl (hb hby d9_65) rfl (tlt hd65_28).2.2.2 ?_
                show Steps p.tables e below (s₁.setTop (mkF m 68 #[.val (.int p0), .val (.ref o0), .val (.ref o1), .val (.int p1), .val (.int (v9_1 p0 tt)), .unset] [])) _
                refine XS.iloadN X0.here hx rfl (hb hby d9_68) rfl ?_
                show Steps p.tables e below (s₁.setTop (mkF m 69 #[.val (.int p0), .val (.ref o0), .val (.ref o1), .val (.int p1), .val (.int (v9_1 p0 tt)), .unset] [(.int p0)])) _
                refine XS.aloadN X0.here hx rfl (hb hby d9_69) rfl rfl ?_
                show Steps p.tables e below (s₁.setTop (mkF m 70 #[.val (.int p0), .val (.ref o0), .val (.ref o1), .val (.int p1), .val (.int (v9_1 p0 tt)), .unset] [(.ref o1), (.int p0)])) _
                refine XS.iconst X0.here hx rfl (hb hby d9_70) ?_
                show Steps p.tables e below (s₁.setTop (mkF m 71 #[.val (.int p0), .val (.ref o0), .val (.ref o1), .val (.int p1), .val (.int (v9_1 p0 tt)), .unset] [(.int (3 : Int32)), (.ref o1), (.int p0)])) _
                refine X0.iaload hx (j := (3 : Int32)) (v := (.int (getI ff (3 : Int32)))) (by rw [e0]; exact Ar29.1) (State.isArrayOf_alike hZ.alike Ar29.2.1) Ar29.2.2 hin29 hat29 (g := (mkF m 71 #[.val (.int p0), .val (.ref o0), .val (.ref o1), .val (.int p1), .val (.int (v9_1 p0 tt)), .unset] [(.int (3 : Int32)), (.ref o1), (.int p0)])) rfl rfl (hb hby d9_71) _ ?_
                show Steps p.tables e below (s₁.setTop (mkF m 72 #[.val (.int p0), .val (.ref o0), .val (.ref o1), .val (.int p1), .val (.int (v9_1 p0 tt)), .unset] [(.int (getI ff (3 : Int32))), (.int p0)])) _
                by_cases hd72_30 : p0 = (getI ff (3 : Int32))
                · try simp only [if_pos hd72_30] at k
                  show Steps p.tables e below (s₁.setTop (mkF m 72 #[.val (.int p0), .val (.ref o0), .val (.ref o1), .val (.int p1), .val (.int (v9_1 p0 tt)), .unset] [(.int (getI ff (3 : Int32))), (.int p0)])) _
                  refine XS.icmpNo X0.here hx rfl (hb hby d9_72) rfl (teq hd72_30).2 ?_
                  show Steps p.tables e below (s₁.setTop (mkF m 75 #[.val (.int p0), .val (.ref o0), .val (.ref o1), .val (.int p1), .val (.int (v9_1 p0 tt)), .unset] [])) _
                  refine XS.iconst X0.here hx rfl (hb hby d9_75) ?_
                  show Steps p.tables e below (s₁.setTop (mkF m 76 #[.val (.int p0), .val (.ref o0), .val (.ref o1), .val (.int p1), .val (.int (v9_1 p0 tt)), .unset] [(.int (1 : Int32))])) _
                  refine XS.goto X0.here hx rfl (pc0 := 76) (pc' := 80) rfl (hb hby d9_76) (by decide) (by decide) ?_
                  exact k
                · try simp only [if_neg hd72_30] at k
                  show Steps p.tables e below (s₁.setTop (mkF m 72 #[.val (.int p0), .val (.ref o0), .val (.ref o1), .val (.int p1), .val (.int (v9_1 p0 tt)), .unset] [(.int (getI ff (3 : Int32))), (.int p0)])) _
                  refine XS.icmpYes X0.here hx rfl (pc0 := 72) (pc' := 79) rfl (hb hby d9_72) rfl (feq hd72_30).2 (by decide) (by decide) ?_
                  show Steps p.tables e below (s₁.setTop (mkF m 79 #[.val (.int p0), .val (.ref o0), .val (.ref o1), .val (.int p1), .val (.int (v9_1 p0 tt)), .unset] [])) _
                  refine XS.iconst X0.here hx rfl (hb hby d9_79) ?_
                  exact k
              · try simp only [if_neg hd65_28] at k
                show Steps p.tables e below (s₁.setTop (mkF m 65 #[.val (.int p0), .val (.ref o0), .val (.ref o1), .val (.int p1), .val (.int (v9_1 p0 tt)), .unset] [(.int (3 : Int32)), (.int p1)])) _
                refine XS.icmpYes X0.here hx rfl (pc0 := 65) (pc' := 79) rfl (hb hby d9_65) rfl (flt hd65_28).2.2.2 (by decide) (by decide) ?_
                show Steps p.tables e below (s₁.setTop (mkF m 79 #[.val (.int p0), .val (.ref o0), .val (.ref o1), .val (.int p1), .val (.int (v9_1 p0 tt)), .unset] [])) _
                refine XS.iconst X0.here hx rfl (hb hby d9_79) ?_
                exact k
          · try simp only [if_neg hd53_25] at k
            show Steps p.tables e below (s₁.setTop (mkF m 53 #[.val (.int p0), .val (.ref o0), .val (.ref o1), .val (.int p1), .val (.int (v9_1 p0 tt)), .unset] [(.int (2 : Int32)), (.int p1)])) _
            refine XS.icmpYes X0.here hx rfl (pc0 := 53) (pc' := 63) rfl (hb hby d9_53) rfl (flt hd53_25).2.2.2 (by decide) (by decide) ?_
            show Steps p.tables e below (s₁.setTop (mkF m 63 #[.val (.int p0), .val (.ref o0), .val (.ref o1), .val (.int p1), .val (.int (v9_1 p0 tt)), .unset] [])) _
            refine XS.iloadN X0.here hx rfl (hb hby d9_63) rfl ?_
            show Steps p.tables e below (s₁.setTop (mkF m 64 #[.val (.int p0), .val (.ref o0), .val (.ref o1), .val (.int p1), .val (.int (v9_1 p0 tt)), .unset] [(.int p1)])) _
            refine XS.iconst X0.here hx rfl (hb hby d9_64) ?_
            show Steps p.tables e below (s₁.setTop (mkF m 65 #[.val (.int p0), .val (.ref o0), .val (.ref o1), .val (.int p1), .val (.int (v9_1 p0 tt)), .unset] [(.int (3 : Int32)), (.int p1)])) _
            by_cases hd65_31 : (3 : Int32) < p1
            · try simp only [if_pos hd65_31] at k
              show Steps p.tables e below (s₁.setTop (mkF m 65 #[.val (.int p0), .val (.ref o0), .val (.ref o1), .val (.int p1), .val (.int (v9_1 p0 tt)), .unset] [(.int (3 : Int32)), (.int p1)])) _
              refine XS.icmpNo X0.here hx rfl (hb hby d9_65) rfl (tlt hd65_31).2.2.2 ?_
              show Steps p.tables e below (s₁.setTop (mkF m 68 #[.val (.int p0), .val (.ref o0), .val (.ref o1), .val (.int p1), .val (.int (v9_1 p0 tt)), .unset] [])) _
              refine XS.iloadN X0.here hx rfl (hb hby d9_68) rfl ?_
              show Steps p.tables e below (s₁.setTop (mkF m 69 #[.val (.int p0), .val (.ref o0), .val (.ref o1), .val (.int p1), .val (.int (v9_1 p0 tt)), .unset] [(.int p0)])) _
              refine XS.aloadN X0.here hx rfl (hb hby d9_69) rfl rfl ?_
              show Steps p.tables e below (s₁.setTop (mkF m 70 #[.val (.int p0), .val (.ref o0), .val (.ref o1), .val (.int p1), .val (.int (v9_1 p0 tt)), .unset] [(.ref o1), (.int p0)])) _
              refine XS.iconst X0.here hx rfl (hb hby d9_70) ?_
              show Steps p.tables e below (s₁.setTop (mkF m 71 #[.val (.int p0), .val (.ref o0), .val (.ref o1), .val (.int p1), .val (.int (v9_1 p0 tt)), .unset] [(.int (3 : Int32)), (.ref o1), (.int p0)])) _
              refine X0.iaload hx (j := (3 : Int32)) (v := (.int (getI ff (3 : Int32)))) (by rw [e0]; exact Ar32.1) (State.isArrayOf_alike hZ.alike Ar32.2.1) Ar32.2.2 hin32 hat32 (g := (mkF m 71 #[.val (.int p0), .val (.ref o0), .val (.ref o1), .val (.int p1), .val (.int (v9_1 p0 tt)), .unset] [(.int (3 : Int32)), (.ref o1), (.int p0)])) rfl rfl (hb hby d9_71) _ ?_
              show Steps p.tables e below (s₁.setTop (mkF m 72 #[.val (.int p0), .val (.ref o0), .val (.ref o1), .val (.int p1), .val (.int (v9_1 p0 tt)), .unset] [(.int (getI ff (3 : Int32))), (.int p0)])) _
              by_cases hd72_33 : p0 = (getI ff (3 : Int32))
              · try simp only [if_pos hd72_33] at k
                show Steps p.tables e below (s₁.setTop (mkF m 72 #[.val (.int p0), .val (.ref o0), .val (.ref o1), .val (.int p1), .val (.int (v9_1 p0 tt)), .unset] [(.int (getI ff (3 : Int32))), (.int p0)])) _
                refine XS.icmpNo X0.here hx rfl (hb hby d9_72) rfl (teq hd72_33).2 ?_
                show Steps p.tables e below (s₁.setTop (mkF m 75 #[.val (.int p0), .val (.ref o0), .val (.ref o1), .val (.int p1), .val (.int (v9_1 p0 tt)), .unset] [])) _
                refine XS.iconst X0.here hx rfl (hb hby d9_75) ?_
                show Steps p.tables e below (s₁.setTop (mkF m 76 #[.val (.int p0), .val (.ref o0), .val (.ref o1), .val (.int p1), .val (.int (v9_1 p0 tt)), .unset] [(.int (1 : Int32))])) _
                refine XS.goto X0.here hx rfl (pc0 := 76) (pc' := 80) rfl (hb hby d9_76) (by decide) (by decide) ?_
                exact k
              · try simp only [if_neg hd72_33] at k
                show Steps p.tables e below (s₁.setTop (mkF m 72 #[.val (.int p0), .val (.ref o0), .val (.ref o1), .val (.int p1), .val (.int (v9_1 p0 tt)), .unset] [(.int (getI ff (3 : Int32))), (.int p0)])) _
                refine XS.icmpYes X0.here hx rfl (pc0 := 72) (pc' := 79) rfl (hb hby d9_72) rfl (feq hd72_33).2 (by decide) (by decide) ?_
                show Steps p.tables e below (s₁.setTop (mkF m 79 #[.val (.int p0), .val (.ref o0), .val (.ref o1), .val (.int p1), .val (.int (v9_1 p0 tt)), .unset] [])) _
                refine XS.iconst X0.here hx rfl (hb hby d9_79) ?_
                exact k
            · try simp only [if_neg hd65_31] at k
              show Steps p.tables e below (s₁.setTop (mkF m 65 #[.val (.int p0), .val (.ref o0), .val (.ref o1), .val (.int p1), .val (.int (v9_1 p0 tt)), .unset] [(.int (3 : Int32)), (.int p1)])) _
              refine XS.icmpYes X0.here hx rfl (pc0 := 65) (pc' := 79) rfl (hb hby d9_65) rfl (flt hd65_31).2.2.2 (by decide) (by decide) ?_
              show Steps p.tables e below (s₁.setTop (mkF m 79 #[.val (.int p0), .val (.ref o0), .val (.ref o1), .val (.int p1), .val (.int (v9_1 p0 tt)), .unset] [])) _
              refine XS.iconst X0.here hx rfl (hb hby d9_79) ?_
              exact k
    · try simp only [if_neg hd29_10] at k
      show Steps p.tables e below (s₁.setTop (mkF m 29 #[.val (.int p0), .val (.ref o0), .val (.ref o1), .val (.int p1), .val (.int (v9_1 p0 tt)), .unset] [(.int p1)])) _
      refine XS.ifYes X0.here hx rfl (pc0 := 29) (pc' := 39) rfl (hb hby d9_29) rfl ((if0 _ _).trans (flt hd29_10).2.2.2) (by decide) (by decide) ?_
      show Steps p.tables e below (s₁.setTop (mkF m 39 #[.val (.int p0), .val (.ref o0), .val (.ref o1), .val (.int p1), .val (.int (v9_1 p0 tt)), .unset] [])) _
      refine XS.iloadN X0.here hx rfl (hb hby d9_39) rfl ?_
      show Steps p.tables e below (s₁.setTop (mkF m 40 #[.val (.int p0), .val (.ref o0), .val (.ref o1), .val (.int p1), .val (.int (v9_1 p0 tt)), .unset] [(.int p1)])) _
      refine XS.iconst X0.here hx rfl (hb hby d9_40) ?_
      show Steps p.tables e below (s₁.setTop (mkF m 41 #[.val (.int p0), .val (.ref o0), .val (.ref o1), .val (.int p1), .val (.int (v9_1 p0 tt)), .unset] [(.int (1 : Int32)), (.int p1)])) _
      by_cases hd41_34 : (1 : Int32) < p1
      · try simp only [if_pos hd41_34] at k
        show Steps p.tables e below (s₁.setTop (mkF m 41 #[.val (.int p0), .val (.ref o0), .val (.ref o1), .val (.int p1), .val (.int (v9_1 p0 tt)), .unset] [(.int (1 : Int32)), (.int p1)])) _
        refine XS.icmpNo X0.here hx rfl (hb hby d9_41) rfl (tlt hd41_34).2.2.2 ?_
        show Steps p.tables e below (s₁.setTop (mkF m 44 #[.val (.int p0), .val (.ref o0), .val (.ref o1), .val (.int p1), .val (.int (v9_1 p0 tt)), .unset] [])) _
        refine XS.iloadN X0.here hx rfl (hb hby d9_44) rfl ?_
        show Steps p.tables e below (s₁.setTop (mkF m 45 #[.val (.int p0), .val (.ref o0), .val (.ref o1), .val (.int p1), .val (.int (v9_1 p0 tt)), .unset] [(.int p0)])) _
        refine XS.aloadN X0.here hx rfl (hb hby d9_45) rfl rfl ?_
        show Steps p.tables e below (s₁.setTop (mkF m 46 #[.val (.int p0), .val (.ref o0), .val (.ref o1), .val (.int p1), .val (.int (v9_1 p0 tt)), .unset] [(.ref o1), (.int p0)])) _
        refine XS.iconst X0.here hx rfl (hb hby d9_46) ?_
        show Steps p.tables e below (s₁.setTop (mkF m 47 #[.val (.int p0), .val (.ref o0), .val (.ref o1), .val (.int p1), .val (.int (v9_1 p0 tt)), .unset] [(.int (1 : Int32)), (.ref o1), (.int p0)])) _
        refine X0.iaload hx (j := (1 : Int32)) (v := (.int (getI ff (1 : Int32)))) (by rw [e0]; exact Ar35.1) (State.isArrayOf_alike hZ.alike Ar35.2.1) Ar35.2.2 hin35 hat35 (g := (mkF m 47 #[.val (.int p0), .val (.ref o0), .val (.ref o1), .val (.int p1), .val (.int (v9_1 p0 tt)), .unset] [(.int (1 : Int32)), (.ref o1), (.int p0)])) rfl rfl (hb hby d9_47) _ ?_
        show Steps p.tables e below (s₁.setTop (mkF m 48 #[.val (.int p0), .val (.ref o0), .val (.ref o1), .val (.int p1), .val (.int (v9_1 p0 tt)), .unset] [(.int (getI ff (1 : Int32))), (.int p0)])) _
        by_cases hd48_36 : p0 = (getI ff (1 : Int32))
        · try simp only [if_pos hd48_36] at k
          show Steps p.tables e below (s₁.setTop (mkF m 48 #[.val (.int p0), .val (.ref o0), .val (.ref o1), .val (.int p1), .val (.int (v9_1 p0 tt)), .unset] [(.int (getI ff (1 : Int32))), (.int p0)])) _
          refine XS.icmpYes X0.here hx rfl (pc0 := 48) (pc' := 75) rfl (hb hby d9_48) rfl (teq hd48_36).1 (by decide) (by decide) ?_
          show Steps p.tables e below (s₁.setTop (mkF m 75 #[.val (.int p0), .val (.ref o0), .val (.ref o1), .val (.int p1), .val (.int (v9_1 p0 tt)), .unset] [])) _
          refine XS.iconst X0.here hx rfl (hb hby d9_75) ?_
          show Steps p.tables e below (s₁.setTop (mkF m 76 #[.val (.int p0), .val (.ref o0), .val (.ref o1), .val (.int p1), .val (.int (v9_1 p0 tt)), .unset] [(.int (1 : Int32))])) _
          refine XS.goto X0.here hx rfl (pc0 := 76) (pc' := 80) rfl (hb hby d9_76) (by decide) (by decide) ?_
          exact k
        · try simp only [if_neg hd48_36] at k
          show Steps p.tables e below (s₁.setTop (mkF m 48 #[.val (.int p0), .val (.ref o0), .val (.ref o1), .val (.int p1), .val (.int (v9_1 p0 tt)), .unset] [(.int (getI ff (1 : Int32))), (.int p0)])) _
          refine XS.icmpNo X0.here hx rfl (hb hby d9_48) rfl (feq hd48_36).1 ?_
          show Steps p.tables e below (s₁.setTop (mkF m 51 #[.val (.int p0), .val (.ref o0), .val (.ref o1), .val (.int p1), .val (.int (v9_1 p0 tt)), .unset] [])) _
          refine XS.iloadN X0.here hx rfl (hb hby d9_51) rfl ?_
          show Steps p.tables e below (s₁.setTop (mkF m 52 #[.val (.int p0), .val (.ref o0), .val (.ref o1), .val (.int p1), .val (.int (v9_1 p0 tt)), .unset] [(.int p1)])) _
          refine XS.iconst X0.here hx rfl (hb hby d9_52) ?_
          show Steps p.tables e below (s₁.setTop (mkF m 53 #[.val (.int p0), .val (.ref o0), .val (.ref o1), .val (.int p1), .val (.int (v9_1 p0 tt)), .unset] [(.int (2 : Int32)), (.int p1)])) _
          by_cases hd53_37 : (2 : Int32) < p1
          · try simp only [if_pos hd53_37] at k
            show Steps p.tables e below (s₁.setTop (mkF m 53 #[.val (.int p0), .val (.ref o0), .val (.ref o1), .val (.int p1), .val (.int (v9_1 p0 tt)), .unset] [(.int (2 : Int32)), (.int p1)])) _
            refine XS.icmpNo X0.here hx rfl (hb hby d9_53) rfl (tlt hd53_37).2.2.2 ?_
            show Steps p.tables e below (s₁.setTop (mkF m 56 #[.val (.int p0), .val (.ref o0), .val (.ref o1), .val (.int p1), .val (.int (v9_1 p0 tt)), .unset] [])) _
            refine XS.iloadN X0.here hx rfl (hb hby d9_56) rfl ?_
            show Steps p.tables e below (s₁.setTop (mkF m 57 #[.val (.int p0), .val (.ref o0), .val (.ref o1), .val (.int p1), .val (.int (v9_1 p0 tt)), .unset] [(.int p0)])) _
            refine XS.aloadN X0.here hx rfl (hb hby d9_57) rfl rfl ?_
            show Steps p.tables e below (s₁.setTop (mkF m 58 #[.val (.int p0), .val (.ref o0), .val (.ref o1), .val (.int p1), .val (.int (v9_1 p0 tt)), .unset] [(.ref o1), (.int p0)])) _
            refine XS.iconst X0.here hx rfl (hb hby d9_58) ?_
            show Steps p.tables e below (s₁.setTop (mkF m 59 #[.val (.int p0), .val (.ref o0), .val (.ref o1), .val (.int p1), .val (.int (v9_1 p0 tt)), .unset] [(.int (2 : Int32)), (.ref o1), (.int p0)])) _
            refine X0.iaload hx (j := (2 : Int32)) (v := (.int (getI ff (2 : Int32)))) (by rw [e0]; exact Ar38.1) (State.isArrayOf_alike hZ.alike Ar38.2.1) Ar38.2.2 hin38 hat38 (g := (mkF m 59 #[.val (.int p0), .val (.ref o0), .val (.ref o1), .val (.int p1), .val (.int (v9_1 p0 tt)), .unset] [(.int (2 : Int32)), (.ref o1), (.int p0)])) rfl rfl (hb hby d9_59) _ ?_
            show Steps p.tables e below (s₁.setTop (mkF m 60 #[.val (.int p0), .val (.ref o0), .val (.ref o1), .val (.int p1), .val (.int (v9_1 p0 tt)), .unset] [(.int (getI ff (2 : Int32))), (.int p0)])) _
            by_cases hd60_39 : p0 = (getI ff (2 : Int32))
            · try simp only [if_pos hd60_39] at k
              show Steps p.tables e below (s₁.setTop (mkF m 60 #[.val (.int p0), .val (.ref o0), .val (.ref o1), .val (.int p1), .val (.int (v9_1 p0 tt)), .unset] [(.int (getI ff (2 : Int32))), (.int p0)])) _
              refine XS.icmpYes X0.here hx rfl (pc0 := 60) (pc' := 75) rfl (hb hby d9_60) rfl (teq hd60_39).1 (by decide) (by decide) ?_
              show Steps p.tables e below (s₁.setTop (mkF m 75 #[.val (.int p0), .val (.ref o0), .val (.ref o1), .val (.int p1), .val (.int (v9_1 p0 tt)), .unset] [])) _
              refine XS.iconst X0.here hx rfl (hb hby d9_75) ?_
              show Steps p.tables e below (s₁.setTop (mkF m 76 #[.val (.int p0), .val (.ref o0), .val (.ref o1), .val (.int p1), .val (.int (v9_1 p0 tt)), .unset] [(.int (1 : Int32))])) _
              refine XS.goto X0.here hx rfl (pc0 := 76) (pc' := 80) rfl (hb hby d9_76) (by decide) (by decide) ?_
              exact k
            · try simp only [if_neg hd60_39] at k
              show Steps p.tables e below (s₁.setTop (mkF m 60 #[.val (.int p0), .val (.ref o0), .val (.ref o1), .val (.int p1), .val (.int (v9_1 p0 tt)), .unset] [(.int (getI ff (2 : Int32))), (.int p0)])) _
              refine XS.icmpNo X0.here hx rfl (hb hby d9_60) rfl (feq hd60_39).1 ?_
              show Steps p.tables e below (s₁.setTop (mkF m 63 #[.val (.int p0), .val (.ref o0), .val (.ref o1), .val (.int p1), .val (.int (v9_1 p0 tt)), .unset] [])) _
              refine XS.iloadN X0.here hx rfl (hb hby d9_63) rfl ?_
              show Steps p.tables e below (s₁.setTop (mkF m 64 #[.val (.int p0), .val (.ref o0), .val (.ref o1), .val (.int p1), .val (.int (v9_1 p0 tt)), .unset] [(.int p1)])) _
              refine XS.iconst X0.here hx rfl (hb hby d9_64) ?_
              show Steps p.tables e below (s₁.setTop (mkF m 65 #[.val (.int p0), .val (.ref o0), .val (.ref o1), .val (.int p1), .val (.int (v9_1 p0 tt)), .unset] [(.int (3 : Int32)), (.int p1)])) _
              by_cases hd65_40 : (3 : Int32) < p1
              · try simp only [if_pos hd65_40] at k
                show Steps p.tables e below (s₁.setTop (mkF m 65 #[.val (.int p0), .val (.ref o0), .val (.ref o1), .val (.int p1), .val (.int (v9_1 p0 tt)), .unset] [(.int (3 : Int32)), (.int p1)])) _
                refine XS.icmpNo X0.here hx rfl (hb hby d9_65) rfl (tlt hd65_40).2.2.2 ?_
                show Steps p.tables e below (s₁.setTop (mkF m 68 #[.val (.int p0), .val (.ref o0), .val (.ref o1), .val (.int p1), .val (.int (v9_1 p0 tt)), .unset] [])) _
                refine XS.iloadN X0.here hx rfl (hb hby d9_68) rfl ?_
                show Steps p.tables e below (s₁.setTop (mkF m 69 #[.val (.int p0), .val (.ref o0), .val (.ref o1), .val (.int p1), .val (.int (v9_1 p0 tt)), .unset] [(.int p0)])) _
                refine XS.aloadN X0.here hx rfl (hb hby d9_69) rfl rfl ?_
                show Steps p.tables e below (s₁.setTop (mkF m 70 #[.val (.int p0), .val (.ref o0), .val (.ref o1), .val (.int p1), .val (.int (v9_1 p0 tt)), .unset] [(.ref o1), (.int p0)])) _
                refine XS.iconst X0.here hx rfl (hb hby d9_70) ?_
                show Steps p.tables e below (s₁.setTop (mkF m 71 #[.val (.int p0), .val (.ref o0), .val (.ref o1), .val (.int p1), .val (.int (v9_1 p0 tt)), .unset] [(.int (3 : Int32)), (.ref o1), (.int p0)])) _
                refine X0.iaload hx (j := (3 : Int32)) (v := (.int (getI ff (3 : Int32)))) (by rw [e0]; exact Ar41.1) (State.isArrayOf_alike hZ.alike Ar41.2.1) Ar41.2.2 hin41 hat41 (g := (mkF m 71 #[.val (.int p0), .val (.ref o0), .val (.ref o1), .val (.int p1), .val (.int (v9_1 p0 tt)), .unset] [(.int (3 : Int32)), (.ref o1), (.int p0)])) rfl rfl (hb hby d9_71) _ ?_
                show Steps p.tables e below (s₁.setTop (mkF m 72 #[.val (.int p0), .val (.ref o0), .val (.ref o1), .val (.int p1), .val (.int (v9_1 p0 tt)), .unset] [(.int (getI ff (3 : Int32))), (.int p0)])) _
                by_cases hd72_42 : p0 = (getI ff (3 : Int32))
                · try simp only [if_pos hd72_42] at k
                  show Steps p.tables e below (s₁.setTop (mkF m 72 #[.val (.int p0), .val (.ref o0), .val (.ref o1), .val (.int p1), .val (.int (v9_1 p0 tt)), .unset] [(.int (getI ff (3 : Int32))), (.int p0)])) _
                  refine XS.icmpNo X0.here hx rfl (hb hby d9_72) rfl (teq hd72_42).2 ?_
                  show Steps p.tables e below (s₁.setTop (mkF m 75 #[.val (.int p0), .val (.ref o0), .val (.ref o1), .val (.int p1), .val (.int (v9_1 p0 tt)), .unset] [])) _
                  refine XS.iconst X0.here hx rfl (hb hby d9_75) ?_
                  show Steps p.tables e below (s₁.setTop (mkF m 76 #[.val (.int p0), .val (.ref o0), .val (.ref o1), .val (.int p1), .val (.int (v9_1 p0 tt)), .unset] [(.int (1 : Int32))])) _
                  refine XS.goto X0.here hx rfl (pc0 := 76) (pc' := 80) rfl (hb hby d9_76) (by decide) (by decide) ?_
                  exact k
                · try simp only [if_neg hd72_42] at k
                  show Steps p.tables e below (s₁.setTop (mkF m 72 #[.val (.int p0), .val (.ref o0), .val (.ref o1), .val (.int p1), .val (.int (v9_1 p0 tt)), .unset] [(.int (getI ff (3 : Int32))), (.int p0)])) _
                  refine XS.icmpYes X0.here hx rfl (pc0 := 72) (pc' := 79) rfl (hb hby d9_72) rfl (feq hd72_42).2 (by decide) (by decide) ?_
                  show Steps p.tables e below (s₁.setTop (mkF m 79 #[.val (.int p0), .val (.ref o0), .val (.ref o1), .val (.int p1), .val (.int (v9_1 p0 tt)), .unset] [])) _
                  refine XS.iconst X0.here hx rfl (hb hby d9_79) ?_
                  exact k
              · try simp only [if_neg hd65_40] at k
                show Steps p.tables e below (s₁.setTop (mkF m 65 #[.val (.int p0), .val (.ref o0), .val (.ref o1), .val (.int p1), .val (.int (v9_1 p0 tt)), .unset] [(.int (3 : Int32)), (.int p1)])) _
                refine XS.icmpYes X0.here hx rfl (pc0 := 65) (pc' := 79) rfl (hb hby d9_65) rfl (flt hd65_40).2.2.2 (by decide) (by decide) ?_
                show Steps p.tables e below (s₁.setTop (mkF m 79 #[.val (.int p0), .val (.ref o0), .val (.ref o1), .val (.int p1), .val (.int (v9_1 p0 tt)), .unset] [])) _
                refine XS.iconst X0.here hx rfl (hb hby d9_79) ?_
                exact k
          · try simp only [if_neg hd53_37] at k
            show Steps p.tables e below (s₁.setTop (mkF m 53 #[.val (.int p0), .val (.ref o0), .val (.ref o1), .val (.int p1), .val (.int (v9_1 p0 tt)), .unset] [(.int (2 : Int32)), (.int p1)])) _
            refine XS.icmpYes X0.here hx rfl (pc0 := 53) (pc' := 63) rfl (hb hby d9_53) rfl (flt hd53_37).2.2.2 (by decide) (by decide) ?_
            show Steps p.tables e below (s₁.setTop (mkF m 63 #[.val (.int p0), .val (.ref o0), .val (.ref o1), .val (.int p1), .val (.int (v9_1 p0 tt)), .unset] [])) _
            refine XS.iloadN X0.here hx rfl (hb hby d9_63) rfl ?_
            show Steps p.tables e below (s₁.setTop (mkF m 64 #[.val (.int p0), .val (.ref o0), .val (.ref o1), .val (.int p1), .val (.int (v9_1 p0 tt)), .unset] [(.int p1)])) _
            refine XS.iconst X0.here hx rfl (hb hby d9_64) ?_
            show Steps p.tables e below (s₁.setTop (mkF m 65 #[.val (.int p0), .val (.ref o0), .val (.ref o1), .val (.int p1), .val (.int (v9_1 p0 tt)), .unset] [(.int (3 : Int32)), (.int p1)])) _
            by_cases hd65_43 : (3 : Int32) < p1
            · try simp only [if_pos hd65_43] at k
              show Steps p.tables e below (s₁.setTop (mkF m 65 #[.val (.int p0), .val (.ref o0), .val (.ref o1), .val (.int p1), .val (.int (v9_1 p0 tt)), .unset] [(.int (3 : Int32)), (.int p1)])) _
              refine XS.icmpNo X0.here hx rfl (hb hby d9_65) rfl (tlt hd65_43).2.2.2 ?_
              show Steps p.tables e below (s₁.setTop (mkF m 68 #[.val (.int p0), .val (.ref o0), .val (.ref o1), .val (.int p1), .val (.int (v9_1 p0 tt)), .unset] [])) _
              refine XS.iloadN X0.here hx rfl (hb hby d9_68) rfl ?_
              show Steps p.tables e below (s₁.setTop (mkF m 69 #[.val (.int p0), .val (.ref o0), .val (.ref o1), .val (.int p1), .val (.int (v9_1 p0 tt)), .unset] [(.int p0)])) _
              refine XS.aloadN X0.here hx rfl (hb hby d9_69) rfl rfl ?_
              show Steps p.tables e below (s₁.setTop (mkF m 70 #[.val (.int p0), .val (.ref o0), .val (.ref o1), .val (.int p1), .val (.int (v9_1 p0 tt)), .unset] [(.ref o1), (.int p0)])) _
              refine XS.iconst X0.here hx rfl (hb hby d9_70) ?_
              show Steps p.tables e below (s₁.setTop (mkF m 71 #[.val (.int p0), .val (.ref o0), .val (.ref o1), .val (.int p1), .val (.int (v9_1 p0 tt)), .unset] [(.int (3 : Int32)), (.ref o1), (.int p0)])) _
              refine X0.iaload hx (j := (3 : Int32)) (v := (.int (getI ff (3 : Int32)))) (by rw [e0]; exact Ar44.1) (State.isArrayOf_alike hZ.alike Ar44.2.1) Ar44.2.2 hin44 hat44 (g := (mkF m 71 #[.val (.int p0), .val (.ref o0), .val (.ref o1), .val (.int p1), .val (.int (v9_1 p0 tt)), .unset] [(.int (3 : Int32)), (.ref o1), (.int p0)])) rfl rfl (hb hby d9_71) _ ?_
              show Steps p.tables e below (s₁.setTop (mkF m 72 #[.val (.int p0), .val (.ref o0), .val (.ref o1), .val (.int p1), .val (.int (v9_1 p0 tt)), .unset] [(.int (getI ff (3 : Int32))), (.int p0)])) _
              by_cases hd72_45 : p0 = (getI ff (3 : Int32))
              · try simp only [if_pos hd72_45] at k
                show Steps p.tables e below (s₁.setTop (mkF m 72 #[.val (.int p0), .val (.ref o0), .val (.ref o1), .val (.int p1), .val (.int (v9_1 p0 tt)), .unset] [(.int (getI ff (3 : Int32))), (.int p0)])) _
                refine XS.icmpNo X0.here hx rfl (hb hby d9_72) rfl (teq hd72_45).2 ?_
                show Steps p.tables e below (s₁.setTop (mkF m 75 #[.val (.int p0), .val (.ref o0), .val (.ref o1), .val (.int p1), .val (.int (v9_1 p0 tt)), .unset] [])) _
                refine XS.iconst X0.here hx rfl (hb hby d9_75) ?_
                show Steps p.tables e below (s₁.setTop (mkF m 76 #[.val (.int p0), .val (.ref o0), .val (.ref o1), .val (.int p1), .val (.int (v9_1 p0 tt)), .unset] [(.int (1 : Int32))])) _
                refine XS.goto X0.here hx rfl (pc0 := 76) (pc' := 80) rfl (hb hby d9_76) (by decide) (by decide) ?_
                exact k
              · try simp only [if_neg hd72_45] at k
                show Steps p.tables e below (s₁.setTop (mkF m 72 #[.val (.int p0), .val (.ref o0), .val (.ref o1), .val (.int p1), .val (.int (v9_1 p0 tt)), .unset] [(.int (getI ff (3 : Int32))), (.int p0)])) _
                refine XS.icmpYes X0.here hx rfl (pc0 := 72) (pc' := 79) rfl (hb hby d9_72) rfl (feq hd72_45).2 (by decide) (by decide) ?_
                show Steps p.tables e below (s₁.setTop (mkF m 79 #[.val (.int p0), .val (.ref o0), .val (.ref o1), .val (.int p1), .val (.int (v9_1 p0 tt)), .unset] [])) _
                refine XS.iconst X0.here hx rfl (hb hby d9_79) ?_
                exact k
            · try simp only [if_neg hd65_43] at k
              show Steps p.tables e below (s₁.setTop (mkF m 65 #[.val (.int p0), .val (.ref o0), .val (.ref o1), .val (.int p1), .val (.int (v9_1 p0 tt)), .unset] [(.int (3 : Int32)), (.int p1)])) _
              refine XS.icmpYes X0.here hx rfl (pc0 := 65) (pc' := 79) rfl (hb hby d9_65) rfl (flt hd65_43).2.2.2 (by decide) (by decide) ?_
              show Steps p.tables e below (s₁.setTop (mkF m 79 #[.val (.int p0), .val (.ref o0), .val (.ref o1), .val (.int p1), .val (.int (v9_1 p0 tt)), .unset] [])) _
              refine XS.iconst X0.here hx rfl (hb hby d9_79) ?_
              exact k
      · try simp only [if_neg hd41_34] at k
        show Steps p.tables e below (s₁.setTop (mkF m 41 #[.val (.int p0), .val (.ref o0), .val (.ref o1), .val (.int p1), .val (.int (v9_1 p0 tt)), .unset] [(.int (1 : Int32)), (.int p1)])) _
        refine XS.icmpYes X0.here hx rfl (pc0 := 41) (pc' := 51) rfl (hb hby d9_41) rfl (flt hd41_34).2.2.2 (by decide) (by decide) ?_
        show Steps p.tables e below (s₁.setTop (mkF m 51 #[.val (.int p0), .val (.ref o0), .val (.ref o1), .val (.int p1), .val (.int (v9_1 p0 tt)), .unset] [])) _
        refine XS.iloadN X0.here hx rfl (hb hby d9_51) rfl ?_
        show Steps p.tables e below (s₁.setTop (mkF m 52 #[.val (.int p0), .val (.ref o0), .val (.ref o1), .val (.int p1), .val (.int (v9_1 p0 tt)), .unset] [(.int p1)])) _
        refine XS.iconst X0.here hx rfl (hb hby d9_52) ?_
        show Steps p.tables e below (s₁.setTop (mkF m 53 #[.val (.int p0), .val (.ref o0), .val (.ref o1), .val (.int p1), .val (.int (v9_1 p0 tt)), .unset] [(.int (2 : Int32)), (.int p1)])) _
        by_cases hd53_46 : (2 : Int32) < p1
        · try simp only [if_pos hd53_46] at k
          show Steps p.tables e below (s₁.setTop (mkF m 53 #[.val (.int p0), .val (.ref o0), .val (.ref o1), .val (.int p1), .val (.int (v9_1 p0 tt)), .unset] [(.int (2 : Int32)), (.int p1)])) _
          refine XS.icmpNo X0.here hx rfl (hb hby d9_53) rfl (tlt hd53_46).2.2.2 ?_
          show Steps p.tables e below (s₁.setTop (mkF m 56 #[.val (.int p0), .val (.ref o0), .val (.ref o1), .val (.int p1), .val (.int (v9_1 p0 tt)), .unset] [])) _
          refine XS.iloadN X0.here hx rfl (hb hby d9_56) rfl ?_
          show Steps p.tables e below (s₁.setTop (mkF m 57 #[.val (.int p0), .val (.ref o0), .val (.ref o1), .val (.int p1), .val (.int (v9_1 p0 tt)), .unset] [(.int p0)])) _
          refine XS.aloadN X0.here hx rfl (hb hby d9_57) rfl rfl ?_
          show Steps p.tables e below (s₁.setTop (mkF m 58 #[.val (.int p0), .val (.ref o0), .val (.ref o1), .val (.int p1), .val (.int (v9_1 p0 tt)), .unset] [(.ref o1), (.int p0)])) _
          refine XS.iconst X0.here hx rfl (hb hby d9_58) ?_
          show Steps p.tables e below (s₁.setTop (mkF m 59 #[.val (.int p0), .val (.ref o0), .val (.ref o1), .val (.int p1), .val (.int (v9_1 p0 tt)), .unset] [(.int (2 : Int32)), (.ref o1), (.int p0)])) _
          refine X0.iaload hx (j := (2 : Int32)) (v := (.int (getI ff (2 : Int32)))) (by rw [e0]; exact Ar47.1) (State.isArrayOf_alike hZ.alike Ar47.2.1) Ar47.2.2 hin47 hat47 (g := (mkF m 59 #[.val (.int p0), .val (.ref o0), .val (.ref o1), .val (.int p1), .val (.int (v9_1 p0 tt)), .unset] [(.int (2 : Int32)), (.ref o1), (.int p0)])) rfl rfl (hb hby d9_59) _ ?_
          show Steps p.tables e below (s₁.setTop (mkF m 60 #[.val (.int p0), .val (.ref o0), .val (.ref o1), .val (.int p1), .val (.int (v9_1 p0 tt)), .unset] [(.int (getI ff (2 : Int32))), (.int p0)])) _
          by_cases hd60_48 : p0 = (getI ff (2 : Int32))
          · try simp only [if_pos hd60_48] at k
            show Steps p.tables e below (s₁.setTop (mkF m 60 #[.val (.int p0), .val (.ref o0), .val (.ref o1), .val (.int p1), .val (.int (v9_1 p0 tt)), .unset] [(.int (getI ff (2 : Int32))), (.int p0)])) _
            refine XS.icmpYes X0.here hx rfl (pc0 := 60) (pc' := 75) rfl (hb hby d9_60) rfl (teq hd60_48).1 (by decide) (by decide) ?_
            show Steps p.tables e below (s₁.setTop (mkF m 75 #[.val (.int p0), .val (.ref o0), .val (.ref o1), .val (.int p1), .val (.int (v9_1 p0 tt)), .unset] [])) _
            refine XS.iconst X0.here hx rfl (hb hby d9_75) ?_
            show Steps p.tables e below (s₁.setTop (mkF m 76 #[.val (.int p0), .val (.ref o0), .val (.ref o1), .val (.int p1), .val (.int (v9_1 p0 tt)), .unset] [(.int (1 : Int32))])) _
            refine XS.goto X0.here hx rfl (pc0 := 76) (pc' := 80) rfl (hb hby d9_76) (by decide) (by decide) ?_
            exact k
          · try simp only [if_neg hd60_48] at k
            show Steps p.tables e below (s₁.setTop (mkF m 60 #[.val (.int p0), .val (.ref o0), .val (.ref o1), .val (.int p1), .val (.int (v9_1 p0 tt)), .unset] [(.int (getI ff (2 : Int32))), (.int p0)])) _
            refine XS.icmpNo X0.here hx rfl (hb hby d9_60) rfl (feq hd60_48).1 ?_
            show Steps p.tables e below (s₁.setTop (mkF m 63 #[.val (.int p0), .val (.ref o0), .val (.ref o1), .val (.int p1), .val (.int (v9_1 p0 tt)), .unset] [])) _
            refine XS.iloadN X0.here hx rfl (hb hby d9_63) rfl ?_
            show Steps p.tables e below (s₁.setTop (mkF m 64 #[.val (.int p0), .val (.ref o0), .val (.ref o1), .val (.int p1), .val (.int (v9_1 p0 tt)), .unset] [(.int p1)])) _
            refine XS.iconst X0.here hx rfl (hb hby d9_64) ?_
            show Steps p.tables e below (s₁.setTop (mkF m 65 #[.val (.int p0), .val (.ref o0), .val (.ref o1), .val (.int p1), .val (.int (v9_1 p0 tt)), .unset] [(.int (3 : Int32)), (.int p1)])) _
            by_cases hd65_49 : (3 : Int32) < p1
            · try simp only [if_pos hd65_49] at k
              show Steps p.tables e below (s₁.setTop (mkF m 65 #[.val (.int p0), .val (.ref o0), .val (.ref o1), .val (.int p1), .val (.int (v9_1 p0 tt)), .unset] [(.int (3 : Int32)), (.int p1)])) _
              refine XS.icmpNo X0.here hx rfl (hb hby d9_65) rfl (tlt hd65_49).2.2.2 ?_
              show Steps p.tables e below (s₁.setTop (mkF m 68 #[.val (.int p0), .val (.ref o0), .val (.ref o1), .val (.int p1), .val (.int (v9_1 p0 tt)), .unset] [])) _
              refine XS.iloadN X0.here hx rfl (hb hby d9_68) rfl ?_
              show Steps p.tables e below (s₁.setTop (mkF m 69 #[.val (.int p0), .val (.ref o0), .val (.ref o1), .val (.int p1), .val (.int (v9_1 p0 tt)), .unset] [(.int p0)])) _
              refine XS.aloadN X0.here hx rfl (hb hby d9_69) rfl rfl ?_
              show Steps p.tables e below (s₁.setTop (mkF m 70 #[.val (.int p0), .val (.ref o0), .val (.ref o1), .val (.int p1), .val (.int (v9_1 p0 tt)), .unset] [(.ref o1), (.int p0)])) _
              refine XS.iconst X0.here hx rfl (hb hby d9_70) ?_
              show Steps p.tables e below (s₁.setTop (mkF m 71 #[.val (.int p0), .val (.ref o0), .val (.ref o1), .val (.int p1), .val (.int (v9_1 p0 tt)), .unset] [(.int (3 : Int32)), (.ref o1), (.int p0)])) _
              refine X0.iaload hx (j := (3 : Int32)) (v := (.int (getI ff (3 : Int32)))) (by rw [e0]; exact Ar50.1) (State.isArrayOf_alike hZ.alike Ar50.2.1) Ar50.2.2 hin50 hat50 (g := (mkF m 71 #[.val (.int p0), .val (.ref o0), .val (.ref o1), .val (.int p1), .val (.int (v9_1 p0 tt)), .unset] [(.int (3 : Int32)), (.ref o1), (.int p0)])) rfl rfl (hb hby d9_71) _ ?_
              show Steps p.tables e below (s₁.setTop (mkF m 72 #[.val (.int p0), .val (.ref o0), .val (.ref o1), .val (.int p1), .val (.int (v9_1 p0 tt)), .unset] [(.int (getI ff (3 : Int32))), (.int p0)])) _
              by_cases hd72_51 : p0 = (getI ff (3 : Int32))
              · try simp only [if_pos hd72_51] at k
                show Steps p.tables e below (s₁.setTop (mkF m 72 #[.val (.int p0), .val (.ref o0), .val (.ref o1), .val (.int p1), .val (.int (v9_1 p0 tt)), .unset] [(.int (getI ff (3 : Int32))), (.int p0)])) _
                refine XS.icmpNo X0.here hx rfl (hb hby d9_72) rfl (teq hd72_51).2 ?_
                show Steps p.tables e below (s₁.setTop (mkF m 75 #[.val (.int p0), .val (.ref o0), .val (.ref o1), .val (.int p1), .val (.int (v9_1 p0 tt)), .unset] [])) _
                refine XS.iconst X0.here hx rfl (hb hby d9_75) ?_
                show Steps p.tables e below (s₁.setTop (mkF m 76 #[.val (.int p0), .val (.ref o0), .val (.ref o1), .val (.int p1), .val (.int (v9_1 p0 tt)), .unset] [(.int (1 : Int32))])) _
                refine XS.goto X0.here hx rfl (pc0 := 76) (pc' := 80) rfl (hb hby d9_76) (by decide) (by decide) ?_
                exact k
              · try simp only [if_neg hd72_51] at k
                show Steps p.tables e below (s₁.setTop (mkF m 72 #[.val (.int p0), .val (.ref o0), .val (.ref o1), .val (.int p1), .val (.int (v9_1 p0 tt)), .unset] [(.int (getI ff (3 : Int32))), (.int p0)])) _
                refine XS.icmpYes X0.here hx rfl (pc0 := 72) (pc' := 79) rfl (hb hby d9_72) rfl (feq hd72_51).2 (by decide) (by decide) ?_
                show Steps p.tables e below (s₁.setTop (mkF m 79 #[.val (.int p0), .val (.ref o0), .val (.ref o1), .val (.int p1), .val (.int (v9_1 p0 tt)), .unset] [])) _
                refine XS.iconst X0.here hx rfl (hb hby d9_79) ?_
                exact k
            · try simp only [if_neg hd65_49] at k
              show Steps p.tables e below (s₁.setTop (mkF m 65 #[.val (.int p0), .val (.ref o0), .val (.ref o1), .val (.int p1), .val (.int (v9_1 p0 tt)), .unset] [(.int (3 : Int32)), (.int p1)])) _
              refine XS.icmpYes X0.here hx rfl (pc0 := 65) (pc' := 79) rfl (hb hby d9_65) rfl (flt hd65_49).2.2.2 (by decide) (by decide) ?_
              show Steps p.tables e below (s₁.setTop (mkF m 79 #[.val (.int p0), .val (.ref o0), .val (.ref o1), .val (.int p1), .val (.int (v9_1 p0 tt)), .unset] [])) _
              refine XS.iconst X0.here hx rfl (hb hby d9_79) ?_
              exact k
        · try simp only [if_neg hd53_46] at k
          show Steps p.tables e below (s₁.setTop (mkF m 53 #[.val (.int p0), .val (.ref o0), .val (.ref o1), .val (.int p1), .val (.int (v9_1 p0 tt)), .unset] [(.int (2 : Int32)), (.int p1)])) _
          refine XS.icmpYes X0.here hx rfl (pc0 := 53) (pc' := 63) rfl (hb hby d9_53) rfl (flt hd53_46).2.2.2 (by decide) (by decide) ?_
          show Steps p.tables e below (s₁.setTop (mkF m 63 #[.val (.int p0), .val (.ref o0), .val (.ref o1), .val (.int p1), .val (.int (v9_1 p0 tt)), .unset] [])) _
          refine XS.iloadN X0.here hx rfl (hb hby d9_63) rfl ?_
          show Steps p.tables e below (s₁.setTop (mkF m 64 #[.val (.int p0), .val (.ref o0), .val (.ref o1), .val (.int p1), .val (.int (v9_1 p0 tt)), .unset] [(.int p1)])) _
          refine XS.iconst X0.here hx rfl (hb hby d9_64) ?_
          show Steps p.tables e below (s₁.setTop (mkF m 65 #[.val (.int p0), .val (.ref o0), .val (.ref o1), .val (.int p1), .val (.int (v9_1 p0 tt)), .unset] [(.int (3 : Int32)), (.int p1)])) _
          by_cases hd65_52 : (3 : Int32) < p1
          · try simp only [if_pos hd65_52] at k
            show Steps p.tables e below (s₁.setTop (mkF m 65 #[.val (.int p0), .val (.ref o0), .val (.ref o1), .val (.int p1), .val (.int (v9_1 p0 tt)), .unset] [(.int (3 : Int32)), (.int p1)])) _
            refine XS.icmpNo X0.here hx rfl (hb hby d9_65) rfl (tlt hd65_52).2.2.2 ?_
            show Steps p.tables e below (s₁.setTop (mkF m 68 #[.val (.int p0), .val (.ref o0), .val (.ref o1), .val (.int p1), .val (.int (v9_1 p0 tt)), .unset] [])) _
            refine XS.iloadN X0.here hx rfl (hb hby d9_68) rfl ?_
            show Steps p.tables e below (s₁.setTop (mkF m 69 #[.val (.int p0), .val (.ref o0), .val (.ref o1), .val (.int p1), .val (.int (v9_1 p0 tt)), .unset] [(.int p0)])) _
            refine XS.aloadN X0.here hx rfl (hb hby d9_69) rfl rfl ?_
            show Steps p.tables e below (s₁.setTop (mkF m 70 #[.val (.int p0), .val (.ref o0), .val (.ref o1), .val (.int p1), .val (.int (v9_1 p0 tt)), .unset] [(.ref o1), (.int p0)])) _
            refine XS.iconst X0.here hx rfl (hb hby d9_70) ?_
            show Steps p.tables e below (s₁.setTop (mkF m 71 #[.val (.int p0), .val (.ref o0), .val (.ref o1), .val (.int p1), .val (.int (v9_1 p0 tt)), .unset] [(.int (3 : Int32)), (.ref o1), (.int p0)])) _
            refine X0.iaload hx (j := (3 : Int32)) (v := (.int (getI ff (3 : Int32)))) (by rw [e0]; exact Ar53.1) (State.isArrayOf_alike hZ.alike Ar53.2.1) Ar53.2.2 hin53 hat53 (g := (mkF m 71 #[.val (.int p0), .val (.ref o0), .val (.ref o1), .val (.int p1), .val (.int (v9_1 p0 tt)), .unset] [(.int (3 : Int32)), (.ref o1), (.int p0)])) rfl rfl (hb hby d9_71) _ ?_
            show Steps p.tables e below (s₁.setTop (mkF m 72 #[.val (.int p0), .val (.ref o0), .val (.ref o1), .val (.int p1), .val (.int (v9_1 p0 tt)), .unset] [(.int (getI ff (3 : Int32))), (.int p0)])) _
            by_cases hd72_54 : p0 = (getI ff (3 : Int32))
            · try simp only [if_pos hd72_54] at k
              show Steps p.tables e below (s₁.setTop (mkF m 72 #[.val (.int p0), .val (.ref o0), .val (.ref o1), .val (.int p1), .val (.int (v9_1 p0 tt)), .unset] [(.int (getI ff (3 : Int32))), (.int p0)])) _
              refine XS.icmpNo X0.here hx rfl (hb hby d9_72) rfl (teq hd72_54).2 ?_
              show Steps p.tables e below (s₁.setTop (mkF m 75 #[.val (.int p0), .val (.ref o0), .val (.ref o1), .val (.int p1), .val (.int (v9_1 p0 tt)), .unset] [])) _
              refine XS.iconst X0.here hx rfl (hb hby d9_75) ?_
              show Steps p.tables e below (s₁.setTop (mkF m 76 #[.val (.int p0), .val (.ref o0), .val (.ref o1), .val (.int p1), .val (.int (v9_1 p0 tt)), .unset] [(.int (1 : Int32))])) _
              refine XS.goto X0.here hx rfl (pc0 := 76) (pc' := 80) rfl (hb hby d9_76) (by decide) (by decide) ?_
              exact k
            · try simp only [if_neg hd72_54] at k
              show Steps p.tables e below (s₁.setTop (mkF m 72 #[.val (.int p0), .val (.ref o0), .val (.ref o1), .val (.int p1), .val (.int (v9_1 p0 tt)), .unset] [(.int (getI ff (3 : Int32))), (.int p0)])) _
              refine XS.icmpYes X0.here hx rfl (pc0 := 72) (pc' := 79) rfl (hb hby d9_72) rfl (feq hd72_54).2 (by decide) (by decide) ?_
              show Steps p.tables e below (s₁.setTop (mkF m 79 #[.val (.int p0), .val (.ref o0), .val (.ref o1), .val (.int p1), .val (.int (v9_1 p0 tt)), .unset] [])) _
              refine XS.iconst X0.here hx rfl (hb hby d9_79) ?_
              exact k
          · try simp only [if_neg hd65_52] at k
            show Steps p.tables e below (s₁.setTop (mkF m 65 #[.val (.int p0), .val (.ref o0), .val (.ref o1), .val (.int p1), .val (.int (v9_1 p0 tt)), .unset] [(.int (3 : Int32)), (.int p1)])) _
            refine XS.icmpYes X0.here hx rfl (pc0 := 65) (pc' := 79) rfl (hb hby d9_65) rfl (flt hd65_52).2.2.2 (by decide) (by decide) ?_
            show Steps p.tables e below (s₁.setTop (mkF m 79 #[.val (.int p0), .val (.ref o0), .val (.ref o1), .val (.int p1), .val (.int (v9_1 p0 tt)), .unset] [])) _
            refine XS.iconst X0.here hx rfl (hb hby d9_79) ?_
            exact k
    )
  have pre56 : ∀ t, Steps p.tables e below (s₁.setTop (mkF m 84 #[.val (.int p0), .val (.ref o0), .val (.ref o1), .val (.int p1), .val (.int (v9_1 p0 tt)), .val (.int (v9_2 p1 p0 ff))] [(.int (v9_1 p0 tt))])) t → Steps p.tables e below (s₁.setTop (entryFrame m #[(.int p0), (.ref o0), (.ref o1), (.int p1)] 6)) t := fun t k => pre55 t (by
    show Steps p.tables e below (s₁.setTop (mkF m 80 #[.val (.int p0), .val (.ref o0), .val (.ref o1), .val (.int p1), .val (.int (v9_1 p0 tt)), .unset] [(.int (v9_2 p1 p0 ff))])) _
    refine XS.istore X0.here hx rfl (hb hby d9_80) rfl (l' := #[.val (.int p0), .val (.ref o0), .val (.ref o1), .val (.int p1), .val (.int (v9_1 p0 tt)), .val (.int (v9_2 p1 p0 ff))]) rfl ?_
    show Steps p.tables e below (s₁.setTop (mkF m 82 #[.val (.int p0), .val (.ref o0), .val (.ref o1), .val (.int p1), .val (.int (v9_1 p0 tt)), .val (.int (v9_2 p1 p0 ff))] [])) _
    refine XS.iload X0.here hx rfl (hb hby d9_82) rfl ?_
    show Steps p.tables e below (s₁.setTop (mkF m 84 #[.val (.int p0), .val (.ref o0), .val (.ref o1), .val (.int p1), .val (.int (v9_1 p0 tt)), .val (.int (v9_2 p1 p0 ff))] [(.int (v9_1 p0 tt))])) _
    exact k)
  by_cases hc84_57 : (v9_1 p0 tt) = (0 : Int32)
  · have hv : (f9 p0 p1 tt ff) = (0 : Int32) := by simp only [f9, if_pos hc84_57]
    obtain ⟨fs, hr, hrun, hended, hW, hsame⟩ := X0.leave (v := some (.int (0 : Int32))) (fun h => nomatch (Bd.returns.symm.trans h)) hlk
    refine ⟨_, _, pre56 _ ?_, hrun, hended, _, _, rfl, ?_, ⟨_, rfl⟩, hW, hsame.mono (by decide) (by decide)⟩
    · show Steps p.tables e below (s₁.setTop (mkF m 84 #[.val (.int p0), .val (.ref o0), .val (.ref o1), .val (.int p1), .val (.int (v9_1 p0 tt)), .val (.int (v9_2 p1 p0 ff))] [(.int (v9_1 p0 tt))])) _
      refine XS.ifYes X0.here hx rfl (pc0 := 84) (pc' := 96) rfl (hb hby d9_84) rfl ((if0 _ _).trans (teq hc84_57).1) (by decide) (by decide) ?_
      show Steps p.tables e below (s₁.setTop (mkF m 96 #[.val (.int p0), .val (.ref o0), .val (.ref o1), .val (.int p1), .val (.int (v9_1 p0 tt)), .val (.int (v9_2 p1 p0 ff))] [])) _
      refine XS.iconst X0.here hx rfl (hb hby d9_96) ?_
      show Steps p.tables e below (s₁.setTop (mkF m 97 #[.val (.int p0), .val (.ref o0), .val (.ref o1), .val (.int p1), .val (.int (v9_1 p0 tt)), .val (.int (v9_2 p1 p0 ff))] [(.int (0 : Int32))])) _
      exact retN X0 hx (t := .boolean) Bd.returns (by simp) (hb hby d9_97) hr
    · show Q9 Z p0 o0 o1 p1 ka tt kb ff h0 n0 _ s₁.heap _
      rw [e0]
      exact ⟨by rw [hv], N0, rfl⟩
  · have pre58 : ∀ t, Steps p.tables e below (s₁.setTop (mkF m 89 #[.val (.int p0), .val (.ref o0), .val (.ref o1), .val (.int p1), .val (.int (v9_1 p0 tt)), .val (.int (v9_2 p1 p0 ff))] [(.int (v9_2 p1 p0 ff))])) t → Steps p.tables e below (s₁.setTop (entryFrame m #[(.int p0), (.ref o0), (.ref o1), (.int p1)] 6)) t := fun t k => pre56 t (by
      show Steps p.tables e below (s₁.setTop (mkF m 84 #[.val (.int p0), .val (.ref o0), .val (.ref o1), .val (.int p1), .val (.int (v9_1 p0 tt)), .val (.int (v9_2 p1 p0 ff))] [(.int (v9_1 p0 tt))])) _
      refine XS.ifNo X0.here hx rfl (hb hby d9_84) rfl ((if0 _ _).trans (feq hc84_57).1) ?_
      show Steps p.tables e below (s₁.setTop (mkF m 87 #[.val (.int p0), .val (.ref o0), .val (.ref o1), .val (.int p1), .val (.int (v9_1 p0 tt)), .val (.int (v9_2 p1 p0 ff))] [])) _
      refine XS.iload X0.here hx rfl (hb hby d9_87) rfl ?_
      show Steps p.tables e below (s₁.setTop (mkF m 89 #[.val (.int p0), .val (.ref o0), .val (.ref o1), .val (.int p1), .val (.int (v9_1 p0 tt)), .val (.int (v9_2 p1 p0 ff))] [(.int (v9_2 p1 p0 ff))])) _
      exact k)
    by_cases hc89_59 : (v9_2 p1 p0 ff) = (0 : Int32)
    · have hv : (f9 p0 p1 tt ff) = (1 : Int32) := by simp only [f9, if_neg hc84_57, if_pos hc89_59]
      obtain ⟨fs, hr, hrun, hended, hW, hsame⟩ := X0.leave (v := some (.int (1 : Int32))) (fun h => nomatch (Bd.returns.symm.trans h)) hlk
      refine ⟨_, _, pre58 _ ?_, hrun, hended, _, _, rfl, ?_, ⟨_, rfl⟩, hW, hsame.mono (by decide) (by decide)⟩
      · show Steps p.tables e below (s₁.setTop (mkF m 89 #[.val (.int p0), .val (.ref o0), .val (.ref o1), .val (.int p1), .val (.int (v9_1 p0 tt)), .val (.int (v9_2 p1 p0 ff))] [(.int (v9_2 p1 p0 ff))])) _
        refine XS.ifNo X0.here hx rfl (hb hby d9_89) rfl ((if0 _ _).trans (teq hc89_59).2) ?_
        show Steps p.tables e below (s₁.setTop (mkF m 92 #[.val (.int p0), .val (.ref o0), .val (.ref o1), .val (.int p1), .val (.int (v9_1 p0 tt)), .val (.int (v9_2 p1 p0 ff))] [])) _
        refine XS.iconst X0.here hx rfl (hb hby d9_92) ?_
        show Steps p.tables e below (s₁.setTop (mkF m 93 #[.val (.int p0), .val (.ref o0), .val (.ref o1), .val (.int p1), .val (.int (v9_1 p0 tt)), .val (.int (v9_2 p1 p0 ff))] [(.int (1 : Int32))])) _
        refine XS.goto X0.here hx rfl (pc0 := 93) (pc' := 97) rfl (hb hby d9_93) (by decide) (by decide) ?_
        show Steps p.tables e below (s₁.setTop (mkF m 97 #[.val (.int p0), .val (.ref o0), .val (.ref o1), .val (.int p1), .val (.int (v9_1 p0 tt)), .val (.int (v9_2 p1 p0 ff))] [(.int (1 : Int32))])) _
        exact retN X0 hx (t := .boolean) Bd.returns (by simp) (hb hby d9_97) hr
      · show Q9 Z p0 o0 o1 p1 ka tt kb ff h0 n0 _ s₁.heap _
        rw [e0]
        exact ⟨by rw [hv], N0, rfl⟩
    · have hv : (f9 p0 p1 tt ff) = (0 : Int32) := by simp only [f9, if_neg hc84_57, if_neg hc89_59]
      obtain ⟨fs, hr, hrun, hended, hW, hsame⟩ := X0.leave (v := some (.int (0 : Int32))) (fun h => nomatch (Bd.returns.symm.trans h)) hlk
      refine ⟨_, _, pre58 _ ?_, hrun, hended, _, _, rfl, ?_, ⟨_, rfl⟩, hW, hsame.mono (by decide) (by decide)⟩
      · show Steps p.tables e below (s₁.setTop (mkF m 89 #[.val (.int p0), .val (.ref o0), .val (.ref o1), .val (.int p1), .val (.int (v9_1 p0 tt)), .val (.int (v9_2 p1 p0 ff))] [(.int (v9_2 p1 p0 ff))])) _
        refine XS.ifYes X0.here hx rfl (pc0 := 89) (pc' := 96) rfl (hb hby d9_89) rfl ((if0 _ _).trans (feq hc89_59).2) (by decide) (by decide) ?_
        show Steps p.tables e below (s₁.setTop (mkF m 96 #[.val (.int p0), .val (.ref o0), .val (.ref o1), .val (.int p1), .val (.int (v9_1 p0 tt)), .val (.int (v9_2 p1 p0 ff))] [])) _
        refine XS.iconst X0.here hx rfl (hb hby d9_96) ?_
        show Steps p.tables e below (s₁.setTop (mkF m 97 #[.val (.int p0), .val (.ref o0), .val (.ref o1), .val (.int p1), .val (.int (v9_1 p0 tt)), .val (.int (v9_2 p1 p0 ff))] [(.int (0 : Int32))])) _
        exact retN X0 hx (t := .boolean) Bd.returns (by simp) (hb hby d9_97) hr
      · show Q9 Z p0 o0 o1 p1 ka tt kb ff h0 n0 _ s₁.heap _
        rw [e0]
        exact ⟨by rw [hv], N0, rfl⟩
theorem d8_0 : decode method_4_code 0 = .ok (.iconst 0, 1) := by decide +kernel
theorem d8_1 : decode method_4_code 1 = .ok (.istore 4, 2) := by decide +kernel
theorem d8_3 : decode method_4_code 3 = .ok (.aload_n 1, 1) := by decide +kernel
theorem d8_4 : decode method_4_code 4 = .ok (.iconst 0, 1) := by decide +kernel
theorem d8_5 : decode method_4_code 5 = .ok (.iaload, 1) := by decide +kernel
theorem d8_6 : decode method_4_code 6 = .ok (.aload_n 1, 1) := by decide +kernel
theorem d8_7 : decode method_4_code 7 = .ok (.aload_n 2, 1) := by decide +kernel
theorem d8_8 : decode method_4_code 8 = .ok (.iload_n 3, 1) := by decide +kernel
theorem d8_9 : decode method_4_code 9 = .ok (.invokestatic 7, 3) := by decide +kernel
theorem d8_12 : decode method_4_code 12 = .ok (.ifCond .eq 13, 3) := by decide +kernel
theorem d8_15 : decode method_4_code 15 = .ok (.aload_n 1, 1) := by decide +kernel
theorem d8_16 : decode method_4_code 16 = .ok (.iconst 0, 1) := by decide +kernel
theorem d8_17 : decode method_4_code 17 = .ok (.iaload, 1) := by decide +kernel
theorem d8_18 : decode method_4_code 18 = .ok (.iload_n 0, 1) := by decide +kernel
theorem d8_19 : decode method_4_code 19 = .ok (.if_icmp .ge 6, 3) := by decide +kernel
theorem d8_22 : decode method_4_code 22 = .ok (.iinc 4 1, 3) := by decide +kernel
theorem d8_25 : decode method_4_code 25 = .ok (.aload_n 1, 1) := by decide +kernel
theorem d8_26 : decode method_4_code 26 = .ok (.iconst 1, 1) := by decide +kernel
theorem d8_27 : decode method_4_code 27 = .ok (.iaload, 1) := by decide +kernel
theorem d8_28 : decode method_4_code 28 = .ok (.aload_n 1, 1) := by decide +kernel
theorem d8_29 : decode method_4_code 29 = .ok (.aload_n 2, 1) := by decide +kernel
theorem d8_30 : decode method_4_code 30 = .ok (.iload_n 3, 1) := by decide +kernel
theorem d8_31 : decode method_4_code 31 = .ok (.invokestatic 7, 3) := by decide +kernel
theorem d8_34 : decode method_4_code 34 = .ok (.ifCond .eq 22, 3) := by decide +kernel
theorem d8_37 : decode method_4_code 37 = .ok (.aload_n 1, 1) := by decide +kernel
theorem d8_38 : decode method_4_code 38 = .ok (.iconst 1, 1) := by decide +kernel
theorem d8_39 : decode method_4_code 39 = .ok (.iaload, 1) := by decide +kernel
theorem d8_40 : decode method_4_code 40 = .ok (.aload_n 1, 1) := by decide +kernel
theorem d8_41 : decode method_4_code 41 = .ok (.iconst 0, 1) := by decide +kernel
theorem d8_42 : decode method_4_code 42 = .ok (.iaload, 1) := by decide +kernel
theorem d8_43 : decode method_4_code 43 = .ok (.if_icmp .eq 13, 3) := by decide +kernel
theorem d8_46 : decode method_4_code 46 = .ok (.aload_n 1, 1) := by decide +kernel
theorem d8_47 : decode method_4_code 47 = .ok (.iconst 1, 1) := by decide +kernel
theorem d8_48 : decode method_4_code 48 = .ok (.iaload, 1) := by decide +kernel
theorem d8_49 : decode method_4_code 49 = .ok (.iload_n 0, 1) := by decide +kernel
theorem d8_50 : decode method_4_code 50 = .ok (.if_icmp .ge 6, 3) := by decide +kernel
theorem d8_53 : decode method_4_code 53 = .ok (.iinc 4 1, 3) := by decide +kernel
theorem d8_56 : decode method_4_code 56 = .ok (.aload_n 1, 1) := by decide +kernel
theorem d8_57 : decode method_4_code 57 = .ok (.iconst 2, 1) := by decide +kernel
theorem d8_58 : decode method_4_code 58 = .ok (.iaload, 1) := by decide +kernel
theorem d8_59 : decode method_4_code 59 = .ok (.aload_n 1, 1) := by decide +kernel
theorem d8_60 : decode method_4_code 60 = .ok (.aload_n 2, 1) := by decide +kernel
theorem d8_61 : decode method_4_code 61 = .ok (.iload_n 3, 1) := by decide +kernel
theorem d8_62 : decode method_4_code 62 = .ok (.invokestatic 7, 3) := by decide +kernel
theorem d8_65 : decode method_4_code 65 = .ok (.ifCond .eq 31, 3) := by decide +kernel
theorem d8_68 : decode method_4_code 68 = .ok (.aload_n 1, 1) := by decide +kernel
theorem d8_69 : decode method_4_code 69 = .ok (.iconst 2, 1) := by decide +kernel
theorem d8_70 : decode method_4_code 70 = .ok (.iaload, 1) := by decide +kernel
theorem d8_71 : decode method_4_code 71 = .ok (.aload_n 1, 1) := by decide +kernel
theorem d8_72 : decode method_4_code 72 = .ok (.iconst 0, 1) := by decide +kernel
theorem d8_73 : decode method_4_code 73 = .ok (.iaload, 1) := by decide +kernel
theorem d8_74 : decode method_4_code 74 = .ok (.if_icmp .eq 22, 3) := by decide +kernel
theorem d8_77 : decode method_4_code 77 = .ok (.aload_n 1, 1) := by decide +kernel
theorem d8_78 : decode method_4_code 78 = .ok (.iconst 2, 1) := by decide +kernel
theorem d8_79 : decode method_4_code 79 = .ok (.iaload, 1) := by decide +kernel
theorem d8_80 : decode method_4_code 80 = .ok (.aload_n 1, 1) := by decide +kernel
theorem d8_81 : decode method_4_code 81 = .ok (.iconst 1, 1) := by decide +kernel
theorem d8_82 : decode method_4_code 82 = .ok (.iaload, 1) := by decide +kernel
theorem d8_83 : decode method_4_code 83 = .ok (.if_icmp .eq 13, 3) := by decide +kernel
theorem d8_86 : decode method_4_code 86 = .ok (.aload_n 1, 1) := by decide +kernel
theorem d8_87 : decode method_4_code 87 = .ok (.iconst 2, 1) := by decide +kernel
theorem d8_88 : decode method_4_code 88 = .ok (.iaload, 1) := by decide +kernel
theorem d8_89 : decode method_4_code 89 = .ok (.iload_n 0, 1) := by decide +kernel
theorem d8_90 : decode method_4_code 90 = .ok (.if_icmp .ge 6, 3) := by decide +kernel
theorem d8_93 : decode method_4_code 93 = .ok (.iinc 4 1, 3) := by decide +kernel
theorem d8_96 : decode method_4_code 96 = .ok (.iload 4, 2) := by decide +kernel
theorem d8_98 : decode method_4_code 98 = .ok (.ireturn, 1) := by decide +kernel
theorem pn_8 : plainName "com/example/knotwork/knotwork/generate/FreeNumbersFreePinLaw" = true := by first | (simp [plainName, overriddenIn]; done) | decide +kernel
theorem ef_8 (m : MethodId) (x0 : Int32) (x1 : Addr) (x2 : Addr) (x3 : Int32) : entryFrame m #[(.int x0), (.ref x1), (.ref x2), (.int x3)] 5 = mkF m 0 #[.val (.int x0), .val (.ref x1), .val (.ref x2), .val (.int x3), .unset] [] := by first | (simp [entryFrame, mkF, argsToLocals, Value.category]; done) | rfl
def v8_1 (tt : List Int32) (p1 : Int32) (ff : List Int32) (p0 : Int32) : Int32 := (if (f9 (getI tt (0 : Int32)) p1 tt ff) = (0 : Int32) then (0 : Int32) else (if (getI tt (0 : Int32)) < p0 then (1 : Int32) else (0 : Int32)))
def v8_2 (tt : List Int32) (p1 : Int32) (ff : List Int32) (p0 : Int32) : Int32 := (if (f9 (getI tt (1 : Int32)) p1 tt ff) = (0 : Int32) then (v8_1 tt p1 ff p0) else (if (getI tt (1 : Int32)) = (getI tt (0 : Int32)) then (v8_1 tt p1 ff p0) else (if (getI tt (1 : Int32)) < p0 then ((v8_1 tt p1 ff p0) + (1 : Int32)) else (v8_1 tt p1 ff p0))))
def v8_3 (tt : List Int32) (p1 : Int32) (ff : List Int32) (p0 : Int32) : Int32 := (if (f9 (getI tt (2 : Int32)) p1 tt ff) = (0 : Int32) then (v8_2 tt p1 ff p0) else (if (getI tt (2 : Int32)) = (getI tt (0 : Int32)) then (v8_2 tt p1 ff p0) else (if (getI tt (2 : Int32)) = (getI tt (1 : Int32)) then (v8_2 tt p1 ff p0) else (if (getI tt (2 : Int32)) < p0 then ((v8_2 tt p1 ff p0) + (1 : Int32)) else (v8_2 tt p1 ff p0)))))
def f8 (p0 : Int32) (p1 : Int32) (tt : List Int32) (ff : List Int32) : Int32 := (v8_3 tt p1 ff p0)
def Q8 (Z : State) (p0 : Int32) (o0 : Addr) (o1 : Addr) (p1 : Int32) (ka : ClassId) (tt : List Int32) (kb : ClassId) (ff : List Int32) (h0 : Heap) (n0 : Nat) (v : Option Value) (h : Heap) (L : List Loc) : Prop := v = some (.int (f8 p0 p1 tt ff)) ∧ Fr n0 L ∧ h = h0
set_option maxRecDepth 65536 in
set_option maxHeartbeats 40000000 in
theorem rm8 (l : Launch) (Z : State) (a0 : Array Value) (hw : ∀ d ∈ tables_1, d.before a0 Z = true) (ws : List Jvm.Cond) (p0 : Int32) (o0 : Addr) (o1 : Addr) (p1 : Int32) (ka : ClassId) (tt : List Int32) (kb : ClassId) (ff : List Int32) (h0 : Heap) (n0 : Nat) (Z0 : n0 ≤ h0.size) (V_o0 : Ia Z h0 o0 ka .int (3 : Int32) tt) (V_o1 : Ia Z h0 o1 kb .int (4 : Int32) ff)  :
    MetFree l (⟨"com/example/knotwork/knotwork/generate/FreeNumbersFreePinLaw", "below", "(I[I[II)I"⟩ : MethodName) (head1 (Jvm.Cond.code (⟨"com/example/knotwork/knotwork/generate/FreeNumbersFreePinLaw", "below", "(I[I[II)I"⟩ : MethodName) method_4_code 5 (some .int) :: ws) ({ frames := 1, cells := 0, slots := 0, locals := 17 } : Room)) (fun a U => a = #[(.int p0), (.ref o0), (.ref o1), (.int p1)] ∧ Z.Warmed39 U.vm ∧ U.heap = h0) (fun _ _ _ _ _ => True) (fun _ U o U' => ∃ v L, o = .returned v ∧ Q8 Z p0 o0 o1 p1 ka tt kb ff h0 n0 v U'.heap L ∧ FrameEnd U o U' L ({ frames := 1, cells := 0, slots := 0, locals := 17 } : Room).cells ({ frames := 1, cells := 0, slots := 0, locals := 17 } : Room).slots) := by
  refine MetFree.of_bodySF (plainFor_of_name pn_8) hisR ?_
  intro p e s m args below meth c s₁ Bd hml0 hP hK
  obtain ⟨rfl, hZ, hh⟩ := hP
  have hx := Bd.exec
  have hby := Bd.bytes
  have hml : c.maxLocals = 5 := hml0
  have hown : s.vm.findClass "com/example/knotwork/knotwork/generate/FreeNumbersFreePinLaw" = some m.cls := findClass_of_methodNamed Bd.named
  have hnm := (name_of_methodNamed Bd.named Bd.method).1
  have X0 : Stand p l e ({ frames := 1, cells := 0, slots := 0, locals := 17 } : Room) s m #[(.int p0), (.ref o0), (.ref o1), (.int p1)] below meth c s₁ [] 0 0 := Stand.of_body Bd
  have e0 : s₁.heap = h0 := by rw [← hh, Bd.state]; rfl
  have N0 := Fr.nil n0
  have hlk : meth.locks = false := by first | exact BodyLoose.notSynchronized Bd | exact Body.notSynchronized Bd
  have pre0 : ∀ t, Steps p.tables e below (s₁.setTop (mkF m 0 #[.val (.int p0), .val (.ref o0), .val (.ref o1), .val (.int p1), .unset] [])) t → Steps p.tables e below (s₁.setTop (entryFrame m #[(.int p0), (.ref o0), (.ref o1), (.int p1)] 5)) t := fun t k => castTop (ef_8 m p0 o0 o1 p1) k
  obtain ⟨cl1, Ar1, hin1, hat1⟩ := Ia.get (V_o0) (j := (0 : Int32)) ⟨by decide, by decide⟩
  obtain ⟨_, _, ⟨T2, L2, k2, n2⟩, -, X2, ⟨Lc2, hQ2, l2, y2, z2⟩, st2⟩ := Jvm.LawKit.callS X0 hx (y := (⟨"com/example/knotwork/knotwork/generate/FreeNumbersFreePinLaw", "inT", "(I[I[II)Z"⟩ : MethodName)) hown (mvT hZ (hw _ (List.mem_of_getElem? (i := 49) rfl))) (mvT hZ (hw _ (List.mem_of_getElem? (i := 50) rfl))) (mvT hZ (hw _ (List.mem_of_getElem? (i := 2) rfl))) (mvT hZ (hw _ (List.mem_of_getElem? (i := 51) rfl))) (by decide) (backOf (W := 0) (rm9 l Z a0 hw [] (getI tt (0 : Int32)) o0 o1 p1 ka tt kb ff h0 n0 Z0 (V_o0) (V_o1)) hZ (hw _ (List.mem_of_getElem? (i := 51) rfl)) (hw _ (List.mem_of_getElem? (i := 2) rfl)) (by decide) (by decide)) (g := (mkF m 9 #[.val (.int p0), .val (.ref o0), .val (.ref o1), .val (.int p1), .val (.int (0 : Int32))] [(.int p1), (.ref o1), (.ref o0), (.int (getI tt (0 : Int32)))])) rfl (by rw [hml]; rfl) (argsL := [(.int (getI tt (0 : Int32))), (.ref o0), (.ref o1), (.int p1)]) (rest := []) (lenOf pd_2 rfl) rfl (by show 2 * 0 + _ ≤ _; exact Nat.le_of_eq rfl) (hb hby d8_9) (fun _ _ => ⟨rfl, e0, (by decide : 0 + 0 ≤ _), (by decide : 0 + 0 ≤ _)⟩)
  dsimp only [Pt.U, Pt.locs, Pt.cells, Pt.slots] at X2 l2 y2 z2 st2 hQ2
  rw [l2, y2, z2] at X2
  obtain ⟨rfl, N2q, e2⟩ := hQ2
  have N2 := Fr.app N0 N2q
  have pre3 : ∀ t, Steps p.tables e below (T2.setTop (mkF m 12 #[.val (.int p0), .val (.ref o0), .val (.ref o1), .val (.int p1), .val (.int (0 : Int32))] [(.int (f9 (getI tt (0 : Int32)) p1 tt ff))])) t → Steps p.tables e below (s₁.setTop (entryFrame m #[(.int p0), (.ref o0), (.ref o1), (.int p1)] 5)) t := fun t k => pre0 t (by
    show Steps p.tables e below (s₁.setTop (mkF m 0 #[.val (.int p0), .val (.ref o0), .val (.ref o1), .val (.int p1), .unset] [])) _
    refine XS.iconst X0.here hx rfl (hb hby d8_0) ?_
    show Steps p.tables e below (s₁.setTop (mkF m 1 #[.val (.int p0), .val (.ref o0), .val (.ref o1), .val (.int p1), .unset] [(.int (0 : Int32))])) _
    refine XS.istore X0.here hx rfl (hb hby d8_1) rfl (l' := #[.val (.int p0), .val (.ref o0), .val (.ref o1), .val (.int p1), .val (.int (0 : Int32))]) rfl ?_
    show Steps p.tables e below (s₁.setTop (mkF m 3 #[.val (.int p0), .val (.ref o0), .val (.ref o1), .val (.int p1), .val (.int (0 : Int32))] [])) _
    refine XS.aloadN X0.here hx rfl (hb hby d8_3) rfl rfl ?_
    show Steps p.tables e below (s₁.setTop (mkF m 4 #[.val (.int p0), .val (.ref o0), .val (.ref o1), .val (.int p1), .val (.int (0 : Int32))] [(.ref o0)])) _
    refine XS.iconst X0.here hx rfl (hb hby d8_4) ?_
    show Steps p.tables e below (s₁.setTop (mkF m 5 #[.val (.int p0), .val (.ref o0), .val (.ref o1), .val (.int p1), .val (.int (0 : Int32))] [(.int (0 : Int32)), (.ref o0)])) _
    refine X0.iaload hx (j := (0 : Int32)) (v := (.int (getI tt (0 : Int32)))) (by rw [e0]; exact Ar1.1) (State.isArrayOf_alike hZ.alike Ar1.2.1) Ar1.2.2 hin1 hat1 (g := (mkF m 5 #[.val (.int p0), .val (.ref o0), .val (.ref o1), .val (.int p1), .val (.int (0 : Int32))] [(.int (0 : Int32)), (.ref o0)])) rfl rfl (hb hby d8_5) _ ?_
    show Steps p.tables e below (s₁.setTop (mkF m 6 #[.val (.int p0), .val (.ref o0), .val (.ref o1), .val (.int p1), .val (.int (0 : Int32))] [(.int (getI tt (0 : Int32)))])) _
    refine XS.aloadN X0.here hx rfl (hb hby d8_6) rfl rfl ?_
    show Steps p.tables e below (s₁.setTop (mkF m 7 #[.val (.int p0), .val (.ref o0), .val (.ref o1), .val (.int p1), .val (.int (0 : Int32))] [(.ref o0), (.int (getI tt (0 : Int32)))])) _
    refine XS.aloadN X0.here hx rfl (hb hby d8_7) rfl rfl ?_
    show Steps p.tables e below (s₁.setTop (mkF m 8 #[.val (.int p0), .val (.ref o0), .val (.ref o1), .val (.int p1), .val (.int (0 : Int32))] [(.ref o1), (.ref o0), (.int (getI tt (0 : Int32)))])) _
    refine XS.iloadN X0.here hx rfl (hb hby d8_8) rfl ?_
    show Steps p.tables e below (s₁.setTop (mkF m 9 #[.val (.int p0), .val (.ref o0), .val (.ref o1), .val (.int p1), .val (.int (0 : Int32))] [(.int p1), (.ref o1), (.ref o0), (.int (getI tt (0 : Int32)))])) _
    refine st2 _ ?_
    show Steps p.tables e below (T2.setTop (mkF m 12 #[.val (.int p0), .val (.ref o0), .val (.ref o1), .val (.int p1), .val (.int (0 : Int32))] [(.int (f9 (getI tt (0 : Int32)) p1 tt ff))])) _
    exact k)
  obtain ⟨cl5, Ar5, hin5, hat5⟩ := Ia.get (V_o0) (j := (0 : Int32)) ⟨by decide, by decide⟩
  have pre7 : ∀ t, Steps p.tables e below (T2.setTop (mkF m 25 #[.val (.int p0), .val (.ref o0), .val (.ref o1), .val (.int p1), .val (.int (if (f9 (getI tt (0 : Int32)) p1 tt ff) = (0 : Int32) then (0 : Int32) else (if (getI tt (0 : Int32)) < p0 then (1 : Int32) else (0 : Int32))))] [])) t → Steps p.tables e below (s₁.setTop (entryFrame m #[(.int p0), (.ref o0), (.ref o1), (.int p1)] 5)) t := fun t k => pre3 t (by
    show Steps p.tables e below (T2.setTop (mkF m 12 #[.val (.int p0), .val (.ref o0), .val (.ref o1), .val (.int p1), .val (.int (0 : Int32))] [(.int (f9 (getI tt (0 : Int32)) p1 tt ff))])) _
    by_cases hd12_4 : (f9 (getI tt (0 : Int32)) p1 tt ff) = (0 : Int32)
    · try simp only [if_pos hd12_4] at k
      show Steps p.tables e below (T2.setTop (mkF m 12 #[.val (.int p0), .val (.ref o0), .val (.ref o1), .val (.int p1), .val (.int (0 : Int32))] [(.int (f9 (getI tt (0 : Int32)) p1 tt ff))])) _
      refine XS.ifYes X2.here hx rfl (pc0 := 12) (pc' := 25) rfl (hb hby d8_12) rfl ((if0 _ _).trans (teq hd12_4).1) (by decide) (by decide) ?_
      exact k
    · try simp only [if_neg hd12_4] at k
      show Steps p.tables e below (T2.setTop (mkF m 12 #[.val (.int p0), .val (.ref o0), .val (.ref o1), .val (.int p1), .val (.int (0 : Int32))] [(.int (f9 (getI tt (0 : Int32)) p1 tt ff))])) _
      refine XS.ifNo X2.here hx rfl (hb hby d8_12) rfl ((if0 _ _).trans (feq hd12_4).1) ?_
      show Steps p.tables e below (T2.setTop (mkF m 15 #[.val (.int p0), .val (.ref o0), .val (.ref o1), .val (.int p1), .val (.int (0 : Int32))] [])) _
      refine XS.aloadN X2.here hx rfl (hb hby d8_15) rfl rfl ?_
      show Steps p.tables e below (T2.setTop (mkF m 16 #[.val (.int p0), .val (.ref o0), .val (.ref o1), .val (.int p1), .val (.int (0 : Int32))] [(.ref o0)])) _
      refine XS.iconst X2.here hx rfl (hb hby d8_16) ?_
      show Steps p.tables e below (T2.setTop (mkF m 17 #[.val (.int p0), .val (.ref o0), .val (.ref o1), .val (.int p1), .val (.int (0 : Int32))] [(.int (0 : Int32)), (.ref o0)])) _
      refine X2.iaload hx (j := (0 : Int32)) (v := (.int (getI tt (0 : Int32)))) (by rw [e2]; exact Ar5.1) (State.isArrayOf_alike hZ.alike Ar5.2.1) Ar5.2.2 hin5 hat5 (g := (mkF m 17 #[.val (.int p0), .val (.ref o0), .val (.ref o1), .val (.int p1), .val (.int (0 : Int32))] [(.int (0 : Int32)), (.ref o0)])) rfl rfl (hb hby d8_17) _ ?_
      show Steps p.tables e below (T2.setTop (mkF m 18 #[.val (.int p0), .val (.ref o0), .val (.ref o1), .val (.int p1), .val (.int (0 : Int32))] [(.int (getI tt (0 : Int32)))])) _
      refine XS.iloadN X2.here hx rfl (hb hby d8_18) rfl ?_
      show Steps p.tables e below (T2.setTop (mkF m 19 #[.val (.int p0), .val (.ref o0), .val (.ref o1), .val (.int p1), .val (.int (0 : Int32))] [(.int p0), (.int (getI tt (0 : Int32)))])) _
      by_cases hd19_6 : (getI tt (0 : Int32)) < p0
      · try simp only [if_pos hd19_6] at k
        show Steps p.tables e below (T2.setTop (mkF m 19 #[.val (.int p0), .val (.ref o0), .val (.ref o1), .val (.int p1), .val (.int (0 : Int32))] [(.int p0), (.int (getI tt (0 : Int32)))])) _
        refine XS.icmpNo X2.here hx rfl (hb hby d8_19) rfl (tlt hd19_6).2.1 ?_
        show Steps p.tables e below (T2.setTop (mkF m 22 #[.val (.int p0), .val (.ref o0), .val (.ref o1), .val (.int p1), .val (.int (0 : Int32))] [])) _
        refine XS.iinc X2.here hx rfl (hb hby d8_22) rfl (l' := #[.val (.int p0), .val (.ref o0), .val (.ref o1), .val (.int p1), .val (.int (1 : Int32))]) rfl ?_
        exact k
      · try simp only [if_neg hd19_6] at k
        show Steps p.tables e below (T2.setTop (mkF m 19 #[.val (.int p0), .val (.ref o0), .val (.ref o1), .val (.int p1), .val (.int (0 : Int32))] [(.int p0), (.int (getI tt (0 : Int32)))])) _
        refine XS.icmpYes X2.here hx rfl (pc0 := 19) (pc' := 25) rfl (hb hby d8_19) rfl (flt hd19_6).2.1 (by decide) (by decide) ?_
        exact k
    )
  obtain ⟨cl8, Ar8, hin8, hat8⟩ := Ia.get (V_o0) (j := (1 : Int32)) ⟨by decide, by decide⟩
  obtain ⟨_, _, ⟨T9, L9, k9, n9⟩, -, X9, ⟨Lc9, hQ9, l9, y9, z9⟩, st9⟩ := Jvm.LawKit.callS X2 hx (y := (⟨"com/example/knotwork/knotwork/generate/FreeNumbersFreePinLaw", "inT", "(I[I[II)Z"⟩ : MethodName)) hown (mvT hZ (hw _ (List.mem_of_getElem? (i := 49) rfl))) (mvT hZ (hw _ (List.mem_of_getElem? (i := 50) rfl))) (mvT hZ (hw _ (List.mem_of_getElem? (i := 2) rfl))) (mvT hZ (hw _ (List.mem_of_getElem? (i := 51) rfl))) (by decide) (backOf (W := 0) (rm9 l Z a0 hw [] (getI tt (1 : Int32)) o0 o1 p1 ka tt kb ff h0 n0 Z0 (V_o0) (V_o1)) hZ (hw _ (List.mem_of_getElem? (i := 51) rfl)) (hw _ (List.mem_of_getElem? (i := 2) rfl)) (by decide) (by decide)) (g := (mkF m 31 #[.val (.int p0), .val (.ref o0), .val (.ref o1), .val (.int p1), .val (.int (v8_1 tt p1 ff p0))] [(.int p1), (.ref o1), (.ref o0), (.int (getI tt (1 : Int32)))])) rfl (by rw [hml]; rfl) (argsL := [(.int (getI tt (1 : Int32))), (.ref o0), (.ref o1), (.int p1)]) (rest := []) (lenOf pd_2 rfl) rfl (by show 2 * 0 + _ ≤ _; exact Nat.le_of_eq rfl) (hb hby d8_31) (fun _ _ => ⟨rfl, e2, (by decide : 0 + 0 ≤ _), (by decide : 0 + 0 ≤ _)⟩)
  dsimp only [Pt.U, Pt.locs, Pt.cells, Pt.slots] at X9 l9 y9 z9 st9 hQ9
  rw [l9, y9, z9] at X9
  obtain ⟨rfl, N9q, e9⟩ := hQ9
  have N9 := Fr.app N2 N9q
  have pre10 : ∀ t, Steps p.tables e below (T9.setTop (mkF m 34 #[.val (.int p0), .val (.ref o0), .val (.ref o1), .val (.int p1), .val (.int (v8_1 tt p1 ff p0))] [(.int (f9 (getI tt (1 : Int32)) p1 tt ff))])) t → Steps p.tables e below (s₁.setTop (entryFrame m #[(.int p0), (.ref o0), (.ref o1), (.int p1)] 5)) t := fun t k => pre7 t (by
    show Steps p.tables e below (T2.setTop (mkF m 25 #[.val (.int p0), .val (.ref o0), .val (.ref o1), .val (.int p1), .val (.int (v8_1 tt p1 ff p0))] [])) _
    refine XS.aloadN X2.here hx rfl (hb hby d8_25) rfl rfl ?_
    show Steps p.tables e below (T2.setTop (mkF m 26 #[.val (.int p0), .val (.ref o0), .val (.ref o1), .val (.int p1), .val (.int (v8_1 tt p1 ff p0))] [(.ref o0)])) _
    refine XS.iconst X2.here hx rfl (hb hby d8_26) ?_
    show Steps p.tables e below (T2.setTop (mkF m 27 #[.val (.int p0), .val (.ref o0), .val (.ref o1), .val (.int p1), .val (.int (v8_1 tt p1 ff p0))] [(.int (1 : Int32)), (.ref o0)])) _
    refine X2.iaload hx (j := (1 : Int32)) (v := (.int (getI tt (1 : Int32)))) (by rw [e2]; exact Ar8.1) (State.isArrayOf_alike hZ.alike Ar8.2.1) Ar8.2.2 hin8 hat8 (g := (mkF m 27 #[.val (.int p0), .val (.ref o0), .val (.ref o1), .val (.int p1), .val (.int (v8_1 tt p1 ff p0))] [(.int (1 : Int32)), (.ref o0)])) rfl rfl (hb hby d8_27) _ ?_
    show Steps p.tables e below (T2.setTop (mkF m 28 #[.val (.int p0), .val (.ref o0), .val (.ref o1), .val (.int p1), .val (.int (v8_1 tt p1 ff p0))] [(.int (getI tt (1 : Int32)))])) _
    refine XS.aloadN X2.here hx rfl (hb hby d8_28) rfl rfl ?_
    show Steps p.tables e below (T2.setTop (mkF m 29 #[.val (.int p0), .val (.ref o0), .val (.ref o1), .val (.int p1), .val (.int (v8_1 tt p1 ff p0))] [(.ref o0), (.int (getI tt (1 : Int32)))])) _
    refine XS.aloadN X2.here hx rfl (hb hby d8_29) rfl rfl ?_
    show Steps p.tables e below (T2.setTop (mkF m 30 #[.val (.int p0), .val (.ref o0), .val (.ref o1), .val (.int p1), .val (.int (v8_1 tt p1 ff p0))] [(.ref o1), (.ref o0), (.int (getI tt (1 : Int32)))])) _
    refine XS.iloadN X2.here hx rfl (hb hby d8_30) rfl ?_
    show Steps p.tables e below (T2.setTop (mkF m 31 #[.val (.int p0), .val (.ref o0), .val (.ref o1), .val (.int p1), .val (.int (v8_1 tt p1 ff p0))] [(.int p1), (.ref o1), (.ref o0), (.int (getI tt (1 : Int32)))])) _
    refine st9 _ ?_
    show Steps p.tables e below (T9.setTop (mkF m 34 #[.val (.int p0), .val (.ref o0), .val (.ref o1), .val (.int p1), .val (.int (v8_1 tt p1 ff p0))] [(.int (f9 (getI tt (1 : Int32)) p1 tt ff))])) _
    exact k)
  obtain ⟨cl12, Ar12, hin12, hat12⟩ := Ia.get (V_o0) (j := (1 : Int32)) ⟨by decide, by decide⟩
  obtain ⟨cl13, Ar13, hin13, hat13⟩ := Ia.get (V_o0) (j := (0 : Int32)) ⟨by decide, by decide⟩
  obtain ⟨cl15, Ar15, hin15, hat15⟩ := Ia.get (V_o0) (j := (1 : Int32)) ⟨by decide, by decide⟩
  have pre17 : ∀ t, Steps p.tables e below (T9.setTop (mkF m 56 #[.val (.int p0), .val (.ref o0), .val (.ref o1), .val (.int p1), .val (.int (if (f9 (getI tt (1 : Int32)) p1 tt ff) = (0 : Int32) then (v8_1 tt p1 ff p0) else (if (getI tt (1 : Int32)) = (getI tt (0 : Int32)) then (v8_1 tt p1 ff p0) else (if (getI tt (1 : Int32)) < p0 then ((v8_1 tt p1 ff p0) + (1 : Int32)) else (v8_1 tt p1 ff p0)))))] [])) t → Steps p.tables e below (s₁.setTop (entryFrame m #[(.int p0), (.ref o0), (.ref o1), (.int p1)] 5)) t := fun t k => pre10 t (by
    show Steps p.tables e below (T9.setTop (mkF m 34 #[.val (.int p0), .val (.ref o0), .val (.ref o1), .val (.int p1), .val (.int (v8_1 tt p1 ff p0))] [(.int (f9 (getI tt (1 : Int32)) p1 tt ff))])) _
    by_cases hd34_11 : (f9 (getI tt (1 : Int32)) p1 tt ff) = (0 : Int32)
    · try simp only [if_pos hd34_11] at k
      show Steps p.tables e below (T9.setTop (mkF m 34 #[.val (.int p0), .val (.ref o0), .val (.ref o1), .val (.int p1), .val (.int (v8_1 tt p1 ff p0))] [(.int (f9 (getI tt (1 : Int32)) p1 tt ff))])) _
      refine XS.ifYes X9.here hx rfl (pc0 := 34) (pc' := 56) rfl (hb hby d8_34) rfl ((if0 _ _).trans (teq hd34_11).1) (by decide) (by decide) ?_
      exact k
    · try simp only [if_neg hd34_11] at k
      show Steps p.tables e below (T9.setTop (mkF m 34 #[.val (.int p0), .val (.ref o0), .val (.ref o1), .val (.int p1), .val (.int (v8_1 tt p1 ff p0))] [(.int (f9 (getI tt (1 : Int32)) p1 tt ff))])) _
      refine XS.ifNo X9.here hx rfl (hb hby d8_34) rfl ((if0 _ _).trans (feq hd34_11).1) ?_
      show Steps p.tables e below (T9.setTop (mkF m 37 #[.val (.int p0), .val (.ref o0), .val (.ref o1), .val (.int p1), .val (.int (v8_1 tt p1 ff p0))] [])) _
      refine XS.aloadN X9.here hx rfl (hb hby d8_37) rfl rfl ?_
      show Steps p.tables e below (T9.setTop (mkF m 38 #[.val (.int p0), .val (.ref o0), .val (.ref o1), .val (.int p1), .val (.int (v8_1 tt p1 ff p0))] [(.ref o0)])) _
      refine XS.iconst X9.here hx rfl (hb hby d8_38) ?_
      show Steps p.tables e below (T9.setTop (mkF m 39 #[.val (.int p0), .val (.ref o0), .val (.ref o1), .val (.int p1), .val (.int (v8_1 tt p1 ff p0))] [(.int (1 : Int32)), (.ref o0)])) _
      refine X9.iaload hx (j := (1 : Int32)) (v := (.int (getI tt (1 : Int32)))) (by rw [e9]; exact Ar12.1) (State.isArrayOf_alike hZ.alike Ar12.2.1) Ar12.2.2 hin12 hat12 (g := (mkF m 39 #[.val (.int p0), .val (.ref o0), .val (.ref o1), .val (.int p1), .val (.int (v8_1 tt p1 ff p0))] [(.int (1 : Int32)), (.ref o0)])) rfl rfl (hb hby d8_39) _ ?_
      show Steps p.tables e below (T9.setTop (mkF m 40 #[.val (.int p0), .val (.ref o0), .val (.ref o1), .val (.int p1), .val (.int (v8_1 tt p1 ff p0))] [(.int (getI tt (1 : Int32)))])) _
      refine XS.aloadN X9.here hx rfl (hb hby d8_40) rfl rfl ?_
      show Steps p.tables e below (T9.setTop (mkF m 41 #[.val (.int p0), .val (.ref o0), .val (.ref o1), .val (.int p1), .val (.int (v8_1 tt p1 ff p0))] [(.ref o0), (.int (getI tt (1 : Int32)))])) _
      refine XS.iconst X9.here hx rfl (hb hby d8_41) ?_
      show Steps p.tables e below (T9.setTop (mkF m 42 #[.val (.int p0), .val (.ref o0), .val (.ref o1), .val (.int p1), .val (.int (v8_1 tt p1 ff p0))] [(.int (0 : Int32)), (.ref o0), (.int (getI tt (1 : Int32)))])) _
      refine X9.iaload hx (j := (0 : Int32)) (v := (.int (getI tt (0 : Int32)))) (by rw [e9]; exact Ar13.1) (State.isArrayOf_alike hZ.alike Ar13.2.1) Ar13.2.2 hin13 hat13 (g := (mkF m 42 #[.val (.int p0), .val (.ref o0), .val (.ref o1), .val (.int p1), .val (.int (v8_1 tt p1 ff p0))] [(.int (0 : Int32)), (.ref o0), (.int (getI tt (1 : Int32)))])) rfl rfl (hb hby d8_42) _ ?_
      show Steps p.tables e below (T9.setTop (mkF m 43 #[.val (.int p0), .val (.ref o0), .val (.ref o1), .val (.int p1), .val (.int (v8_1 tt p1 ff p0))] [(.int (getI tt (0 : Int32))), (.int (getI tt (1 : Int32)))])) _
      by_cases hd43_14 : (getI tt (1 : Int32)) = (getI tt (0 : Int32))
      · try simp only [if_pos hd43_14] at k
        show Steps p.tables e below (T9.setTop (mkF m 43 #[.val (.int p0), .val (.ref o0), .val (.ref o1), .val (.int p1), .val (.int (v8_1 tt p1 ff p0))] [(.int (getI tt (0 : Int32))), (.int (getI tt (1 : Int32)))])) _
        refine XS.icmpYes X9.here hx rfl (pc0 := 43) (pc' := 56) rfl (hb hby d8_43) rfl (teq hd43_14).1 (by decide) (by decide) ?_
        exact k
      · try simp only [if_neg hd43_14] at k
        show Steps p.tables e below (T9.setTop (mkF m 43 #[.val (.int p0), .val (.ref o0), .val (.ref o1), .val (.int p1), .val (.int (v8_1 tt p1 ff p0))] [(.int (getI tt (0 : Int32))), (.int (getI tt (1 : Int32)))])) _
        refine XS.icmpNo X9.here hx rfl (hb hby d8_43) rfl (feq hd43_14).1 ?_
        show Steps p.tables e below (T9.setTop (mkF m 46 #[.val (.int p0), .val (.ref o0), .val (.ref o1), .val (.int p1), .val (.int (v8_1 tt p1 ff p0))] [])) _
        refine XS.aloadN X9.here hx rfl (hb hby d8_46) rfl rfl ?_
        show Steps p.tables e below (T9.setTop (mkF m 47 #[.val (.int p0), .val (.ref o0), .val (.ref o1), .val (.int p1), .val (.int (v8_1 tt p1 ff p0))] [(.ref o0)])) _
        refine XS.iconst X9.here hx rfl (hb hby d8_47) ?_
        show Steps p.tables e below (T9.setTop (mkF m 48 #[.val (.int p0), .val (.ref o0), .val (.ref o1), .val (.int p1), .val (.int (v8_1 tt p1 ff p0))] [(.int (1 : Int32)), (.ref o0)])) _
        refine X9.iaload hx (j := (1 : Int32)) (v := (.int (getI tt (1 : Int32)))) (by rw [e9]; exact Ar15.1) (State.isArrayOf_alike hZ.alike Ar15.2.1) Ar15.2.2 hin15 hat15 (g := (mkF m 48 #[.val (.int p0), .val (.ref o0), .val (.ref o1), .val (.int p1), .val (.int (v8_1 tt p1 ff p0))] [(.int (1 : Int32)), (.ref o0)])) rfl rfl (hb hby d8_48) _ ?_
        show Steps p.tables e below (T9.setTop (mkF m 49 #[.val (.int p0), .val (.ref o0), .val (.ref o1), .val (.int p1), .val (.int (v8_1 tt p1 ff p0))] [(.int (getI tt (1 : Int32)))])) _
        refine XS.iloadN X9.here hx rfl (hb hby d8_49) rfl ?_
        show Steps p.tables e below (T9.setTop (mkF m 50 #[.val (.int p0), .val (.ref o0), .val (.ref o1), .val (.int p1), .val (.int (v8_1 tt p1 ff p0))] [(.int p0), (.int (getI tt (1 : Int32)))])) _
        by_cases hd50_16 : (getI tt (1 : Int32)) < p0
        · try simp only [if_pos hd50_16] at k
          show Steps p.tables e below (T9.setTop (mkF m 50 #[.val (.int p0), .val (.ref o0), .val (.ref o1), .val (.int p1), .val (.int (v8_1 tt p1 ff p0))] [(.int p0), (.int (getI tt (1 : Int32)))])) _
          refine XS.icmpNo X9.here hx rfl (hb hby d8_50) rfl (tlt hd50_16).2.1 ?_
          show Steps p.tables e below (T9.setTop (mkF m 53 #[.val (.int p0), .val (.ref o0), .val (.ref o1), .val (.int p1), .val (.int (v8_1 tt p1 ff p0))] [])) _
          refine XS.iinc X9.here hx rfl (hb hby d8_53) rfl (l' := #[.val (.int p0), .val (.ref o0), .val (.ref o1), .val (.int p1), .val (.int ((v8_1 tt p1 ff p0) + (1 : Int32)))]) rfl ?_
          exact k
        · try simp only [if_neg hd50_16] at k
          show Steps p.tables e below (T9.setTop (mkF m 50 #[.val (.int p0), .val (.ref o0), .val (.ref o1), .val (.int p1), .val (.int (v8_1 tt p1 ff p0))] [(.int p0), (.int (getI tt (1 : Int32)))])) _
          refine XS.icmpYes X9.here hx rfl (pc0 := 50) (pc' := 56) rfl (hb hby d8_50) rfl (flt hd50_16).2.1 (by decide) (by decide) ?_
          exact k
    )
  obtain ⟨cl18, Ar18, hin18, hat18⟩ := Ia.get (V_o0) (j := (2 : Int32)) ⟨by decide, by decide⟩
  obtain ⟨_, _, ⟨T19, L19, k19, n19⟩, -, X19, ⟨Lc19, hQ19, l19, y19, z19⟩, st19⟩ := Jvm.LawKit.callS X9 hx (y := (⟨"com/example/knotwork/knotwork/generate/FreeNumbersFreePinLaw", "inT", "(I[I[II)Z"⟩ : MethodName)) hown (mvT hZ (hw _ (List.mem_of_getElem? (i := 49) rfl))) (mvT hZ (hw _ (List.mem_of_getElem? (i := 50) rfl))) (mvT hZ (hw _ (List.mem_of_getElem? (i := 2) rfl))) (mvT hZ (hw _ (List.mem_of_getElem? (i := 51) rfl))) (by decide) (backOf (W := 0) (rm9 l Z a0 hw [] (getI tt (2 : Int32)) o0 o1 p1 ka tt kb ff h0 n0 Z0 (V_o0) (V_o1)) hZ (hw _ (List.mem_of_getElem? (i := 51) rfl)) (hw _ (List.mem_of_getElem? (i := 2) rfl)) (by decide) (by decide)) (g := (mkF m 62 #[.val (.int p0), .val (.ref o0), .val (.ref o1), .val (.int p1), .val (.int (v8_2 tt p1 ff p0))] [(.int p1), (.ref o1), (.ref o0), (.int (getI tt (2 : Int32)))])) rfl (by rw [hml]; rfl) (argsL := [(.int (getI tt (2 : Int32))), (.ref o0), (.ref o1), (.int p1)]) (rest := []) (lenOf pd_2 rfl) rfl (by show 2 * 0 + _ ≤ _; exact Nat.le_of_eq rfl) (hb hby d8_62) (fun _ _ => ⟨rfl, e9, (by decide : 0 + 0 ≤ _), (by decide : 0 + 0 ≤ _)⟩)
  dsimp only [Pt.U, Pt.locs, Pt.cells, Pt.slots] at X19 l19 y19 z19 st19 hQ19
  rw [l19, y19, z19] at X19
  obtain ⟨rfl, N19q, e19⟩ := hQ19
  have N19 := Fr.app N9 N19q
  have pre20 : ∀ t, Steps p.tables e below (T19.setTop (mkF m 65 #[.val (.int p0), .val (.ref o0), .val (.ref o1), .val (.int p1), .val (.int (v8_2 tt p1 ff p0))] [(.int (f9 (getI tt (2 : Int32)) p1 tt ff))])) t → Steps p.tables e below (s₁.setTop (entryFrame m #[(.int p0), (.ref o0), (.ref o1), (.int p1)] 5)) t := fun t k => pre17 t (by
    show Steps p.tables e below (T9.setTop (mkF m 56 #[.val (.int p0), .val (.ref o0), .val (.ref o1), .val (.int p1), .val (.int (v8_2 tt p1 ff p0))] [])) _
    refine XS.aloadN X9.here hx rfl (hb hby d8_56) rfl rfl ?_
    show Steps p.tables e below (T9.setTop (mkF m 57 #[.val (.int p0), .val (.ref o0), .val (.ref o1), .val (.int p1), .val (.int (v8_2 tt p1 ff p0))] [(.ref o0)])) _
    refine XS.iconst X9.here hx rfl (hb hby d8_57) ?_
    show Steps p.tables e below (T9.setTop (mkF m 58 #[.val (.int p0), .val (.ref o0), .val (.ref o1), .val (.int p1), .val (.int (v8_2 tt p1 ff p0))] [(.int (2 : Int32)), (.ref o0)])) _
    refine X9.iaload hx (j := (2 : Int32)) (v := (.int (getI tt (2 : Int32)))) (by rw [e9]; exact Ar18.1) (State.isArrayOf_alike hZ.alike Ar18.2.1) Ar18.2.2 hin18 hat18 (g := (mkF m 58 #[.val (.int p0), .val (.ref o0), .val (.ref o1), .val (.int p1), .val (.int (v8_2 tt p1 ff p0))] [(.int (2 : Int32)), (.ref o0)])) rfl rfl (hb hby d8_58) _ ?_
    show Steps p.tables e below (T9.setTop (mkF m 59 #[.val (.int p0), .val (.ref o0), .val (.ref o1), .val (.int p1), .val (.int (v8_2 tt p1 ff p0))] [(.int (getI tt (2 : Int32)))])) _
    refine XS.aloadN X9.here hx rfl (hb hby d8_59) rfl rfl ?_
    show Steps p.tables e below (T9.setTop (mkF m 60 #[.val (.int p0), .val (.ref o0), .val (.ref o1), .val (.int p1), .val (.int (v8_2 tt p1 ff p0))] [(.ref o0), (.int (getI tt (2 : Int32)))])) _
    refine XS.aloadN X9.here hx rfl (hb hby d8_60) rfl rfl ?_
    show Steps p.tables e below (T9.setTop (mkF m 61 #[.val (.int p0), .val (.ref o0), .val (.ref o1), .val (.int p1), .val (.int (v8_2 tt p1 ff p0))] [(.ref o1), (.ref o0), (.int (getI tt (2 : Int32)))])) _
    refine XS.iloadN X9.here hx rfl (hb hby d8_61) rfl ?_
    show Steps p.tables e below (T9.setTop (mkF m 62 #[.val (.int p0), .val (.ref o0), .val (.ref o1), .val (.int p1), .val (.int (v8_2 tt p1 ff p0))] [(.int p1), (.ref o1), (.ref o0), (.int (getI tt (2 : Int32)))])) _
    refine st19 _ ?_
    show Steps p.tables e below (T19.setTop (mkF m 65 #[.val (.int p0), .val (.ref o0), .val (.ref o1), .val (.int p1), .val (.int (v8_2 tt p1 ff p0))] [(.int (f9 (getI tt (2 : Int32)) p1 tt ff))])) _
    exact k)
  obtain ⟨cl22, Ar22, hin22, hat22⟩ := Ia.get (V_o0) (j := (2 : Int32)) ⟨by decide, by decide⟩
  obtain ⟨cl23, Ar23, hin23, hat23⟩ := Ia.get (V_o0) (j := (0 : Int32)) ⟨by decide, by decide⟩
  obtain ⟨cl25, Ar25, hin25, hat25⟩ := Ia.get (V_o0) (j := (2 : Int32)) ⟨by decide, by decide⟩
  obtain ⟨cl26, Ar26, hin26, hat26⟩ := Ia.get (V_o0) (j := (1 : Int32)) ⟨by decide, by decide⟩
  obtain ⟨cl28, Ar28, hin28, hat28⟩ := Ia.get (V_o0) (j := (2 : Int32)) ⟨by decide, by decide⟩
  have pre30 : ∀ t, Steps p.tables e below (T19.setTop (mkF m 96 #[.val (.int p0), .val (.ref o0), .val (.ref o1), .val (.int p1), .val (.int (if (f9 (getI tt (2 : Int32)) p1 tt ff) = (0 : Int32) then (v8_2 tt p1 ff p0) else (if (getI tt (2 : Int32)) = (getI tt (0 : Int32)) then (v8_2 tt p1 ff p0) else (if (getI tt (2 : Int32)) = (getI tt (1 : Int32)) then (v8_2 tt p1 ff p0) else (if (getI tt (2 : Int32)) < p0 then ((v8_2 tt p1 ff p0) + (1 : Int32)) else (v8_2 tt p1 ff p0))))))] [])) t → Steps p.tables e below (s₁.setTop (entryFrame m #[(.int p0), (.ref o0), (.ref o1), (.int p1)] 5)) t := fun t k => pre20 t (by
    show Steps p.tables e below (T19.setTop (mkF m 65 #[.val (.int p0), .val (.ref o0), .val (.ref o1), .val (.int p1), .val (.int (v8_2 tt p1 ff p0))] [(.int (f9 (getI tt (2 : Int32)) p1 tt ff))])) _
    by_cases hd65_21 : (f9 (getI tt (2 : Int32)) p1 tt ff) = (0 : Int32)
    · try simp only [if_pos hd65_21] at k
      show Steps p.tables e below (T19.setTop (mkF m 65 #[.val (.int p0), .val (.ref o0), .val (.ref o1), .val (.int p1), .val (.int (v8_2 tt p1 ff p0))] [(.int (f9 (getI tt (2 : Int32)) p1 tt ff))])) _
      refine XS.ifYes X19.here hx rfl (pc0 := 65) (pc' := 96) rfl (hb hby d8_65) rfl ((if0 _ _).trans (teq hd65_21).1) (by decide) (by decide) ?_
      exact k
    · try simp only [if_neg hd65_21] at k
      show Steps p.tables e below (T19.setTop (mkF m 65 #[.val (.int p0), .val (.ref o0), .val (.ref o1), .val (.int p1), .val (.int (v8_2 tt p1 ff p0))] [(.int (f9 (getI tt (2 : Int32)) p1 tt ff))])) _
      refine XS.ifNo X19.here hx rfl (hb hby d8_65) rfl ((if0 _ _).trans (feq hd65_21).1) ?_
      show Steps p.tables e below (T19.setTop (mkF m 68 #[.val (.int p0), .val (.ref o0), .val (.ref o1), .val (.int p1), .val (.int (v8_2 tt p1 ff p0))] [])) _
      refine XS.aloadN X19.here hx rfl (hb hby d8_68) rfl rfl ?_
      show Steps p.tables e below (T19.setTop (mkF m 69 #[.val (.int p0), .val (.ref o0), .val (.ref o1), .val (.int p1), .val (.int (v8_2 tt p1 ff p0))] [(.ref o0)])) _
      refine XS.iconst X19.here hx rfl (hb hby d8_69) ?_
      show Steps p.tables e below (T19.setTop (mkF m 70 #[.val (.int p0), .val (.ref o0), .val (.ref o1), .val (.int p1), .val (.int (v8_2 tt p1 ff p0))] [(.int (2 : Int32)), (.ref o0)])) _
      refine X19.iaload hx (j := (2 : Int32)) (v := (.int (getI tt (2 : Int32)))) (by rw [e19]; exact Ar22.1) (State.isArrayOf_alike hZ.alike Ar22.2.1) Ar22.2.2 hin22 hat22 (g := (mkF m 70 #[.val (.int p0), .val (.ref o0), .val (.ref o1), .val (.int p1), .val (.int (v8_2 tt p1 ff p0))] [(.int (2 : Int32)), (.ref o0)])) rfl rfl (hb hby d8_70) _ ?_
      show Steps p.tables e below (T19.setTop (mkF m 71 #[.val (.int p0), .val (.ref o0), .val (.ref o1), .val (.int p1), .val (.int (v8_2 tt p1 ff p0))] [(.int (getI tt (2 : Int32)))])) _
      refine XS.aloadN X19.here hx rfl (hb hby d8_71) rfl rfl ?_
      show Steps p.tables e below (T19.setTop (mkF m 72 #[.val (.int p0), .val (.ref o0), .val (.ref o1), .val (.int p1), .val (.int (v8_2 tt p1 ff p0))] [(.ref o0), (.int (getI tt (2 : Int32)))])) _
      refine XS.iconst X19.here hx rfl (hb hby d8_72) ?_
      show Steps p.tables e below (T19.setTop (mkF m 73 #[.val (.int p0), .val (.ref o0), .val (.ref o1), .val (.int p1), .val (.int (v8_2 tt p1 ff p0))] [(.int (0 : Int32)), (.ref o0), (.int (getI tt (2 : Int32)))])) _
      refine X19.iaload hx (j := (0 : Int32)) (v := (.int (getI tt (0 : Int32)))) (by rw [e19]; exact Ar23.1) (State.isArrayOf_alike hZ.alike Ar23.2.1) Ar23.2.2 hin23 hat23 (g := (mkF m 73 #[.val (.int p0), .val (.ref o0), .val (.ref o1), .val (.int p1), .val (.int (v8_2 tt p1 ff p0))] [(.int (0 : Int32)), (.ref o0), (.int (getI tt (2 : Int32)))])) rfl rfl (hb hby d8_73) _ ?_
      show Steps p.tables e below (T19.setTop (mkF m 74 #[.val (.int p0), .val (.ref o0), .val (.ref o1), .val (.int p1), .val (.int (v8_2 tt p1 ff p0))] [(.int (getI tt (0 : Int32))), (.int (getI tt (2 : Int32)))])) _
      by_cases hd74_24 : (getI tt (2 : Int32)) = (getI tt (0 : Int32))
      · try simp only [if_pos hd74_24] at k
        show Steps p.tables e below (T19.setTop (mkF m 74 #[.val (.int p0), .val (.ref o0), .val (.ref o1), .val (.int p1), .val (.int (v8_2 tt p1 ff p0))] [(.int (getI tt (0 : Int32))), (.int (getI tt (2 : Int32)))])) _
        refine XS.icmpYes X19.here hx rfl (pc0 := 74) (pc' := 96) rfl (hb hby d8_74) rfl (teq hd74_24).1 (by decide) (by decide) ?_
        exact k
      · try simp only [if_neg hd74_24] at k
        show Steps p.tables e below (T19.setTop (mkF m 74 #[.val (.int p0), .val (.ref o0), .val (.ref o1), .val (.int p1), .val (.int (v8_2 tt p1 ff p0))] [(.int (getI tt (0 : Int32))), (.int (getI tt (2 : Int32)))])) _
        refine XS.icmpNo X19.here hx rfl (hb hby d8_74) rfl (feq hd74_24).1 ?_
        show Steps p.tables e below (T19.setTop (mkF m 77 #[.val (.int p0), .val (.ref o0), .val (.ref o1), .val (.int p1), .val (.int (v8_2 tt p1 ff p0))] [])) _
        refine XS.aloadN X19.here hx rfl (hb hby d8_77) rfl rfl ?_
        show Steps p.tables e below (T19.setTop (mkF m 78 #[.val (.int p0), .val (.ref o0), .val (.ref o1), .val (.int p1), .val (.int (v8_2 tt p1 ff p0))] [(.ref o0)])) _
        refine XS.iconst X19.here hx rfl (hb hby d8_78) ?_
        show Steps p.tables e below (T19.setTop (mkF m 79 #[.val (.int p0), .val (.ref o0), .val (.ref o1), .val (.int p1), .val (.int (v8_2 tt p1 ff p0))] [(.int (2 : Int32)), (.ref o0)])) _
        refine X19.iaload hx (j := (2 : Int32)) (v := (.int (getI tt (2 : Int32)))) (by rw [e19]; exact Ar25.1) (State.isArrayOf_alike hZ.alike Ar25.2.1) Ar25.2.2 hin25 hat25 (g := (mkF m 79 #[.val (.int p0), .val (.ref o0), .val (.ref o1), .val (.int p1), .val (.int (v8_2 tt p1 ff p0))] [(.int (2 : Int32)), (.ref o0)])) rfl rfl (hb hby d8_79) _ ?_
        show Steps p.tables e below (T19.setTop (mkF m 80 #[.val (.int p0), .val (.ref o0), .val (.ref o1), .val (.int p1), .val (.int (v8_2 tt p1 ff p0))] [(.int (getI tt (2 : Int32)))])) _
        refine XS.aloadN X19.here hx rfl (hb hby d8_80) rfl rfl ?_
        show Steps p.tables e below (T19.setTop (mkF m 81 #[.val (.int p0), .val (.ref o0), .val (.ref o1), .val (.int p1), .val (.int (v8_2 tt p1 ff p0))] [(.ref o0), (.int (getI tt (2 : Int32)))])) _
        refine XS.iconst X19.here hx rfl (hb hby d8_81) ?_
        show Steps p.tables e below (T19.setTop (mkF m 82 #[.val (.int p0), .val (.ref o0), .val (.ref o1), .val (.int p1), .val (.int (v8_2 tt p1 ff p0))] [(.int (1 : Int32)), (.ref o0), (.int (getI tt (2 : Int32)))])) _
        refine X19.iaload hx (j := (1 : Int32)) (v := (.int (getI tt (1 : Int32)))) (by rw [e19]; exact Ar26.1) (State.isArrayOf_alike hZ.alike Ar26.2.1) Ar26.2.2 hin26 hat26 (g := (mkF m 82 #[.val (.int p0), .val (.ref o0), .val (.ref o1), .val (.int p1), .val (.int (v8_2 tt p1 ff p0))] [(.int (1 : Int32)), (.ref o0), (.int (getI tt (2 : Int32)))])) rfl rfl (hb hby d8_82) _ ?_
        show Steps p.tables e below (T19.setTop (mkF m 83 #[.val (.int p0), .val (.ref o0), .val (.ref o1), .val (.int p1), .val (.int (v8_2 tt p1 ff p0))] [(.int (getI tt (1 : Int32))), (.int (getI tt (2 : Int32)))])) _
        by_cases hd83_27 : (getI tt (2 : Int32)) = (getI tt (1 : Int32))
        · try simp only [if_pos hd83_27] at k
          show Steps p.tables e below (T19.setTop (mkF m 83 #[.val (.int p0), .val (.ref o0), .val (.ref o1), .val (.int p1), .val (.int (v8_2 tt p1 ff p0))] [(.int (getI tt (1 : Int32))), (.int (getI tt (2 : Int32)))])) _
          refine XS.icmpYes X19.here hx rfl (pc0 := 83) (pc' := 96) rfl (hb hby d8_83) rfl (teq hd83_27).1 (by decide) (by decide) ?_
          exact k
        · try simp only [if_neg hd83_27] at k
          show Steps p.tables e below (T19.setTop (mkF m 83 #[.val (.int p0), .val (.ref o0), .val (.ref o1), .val (.int p1), .val (.int (v8_2 tt p1 ff p0))] [(.int (getI tt (1 : Int32))), (.int (getI tt (2 : Int32)))])) _
          refine XS.icmpNo X19.here hx rfl (hb hby d8_83) rfl (feq hd83_27).1 ?_
          show Steps p.tables e below (T19.setTop (mkF m 86 #[.val (.int p0), .val (.ref o0), .val (.ref o1), .val (.int p1), .val (.int (v8_2 tt p1 ff p0))] [])) _
          refine XS.aloadN X19.here hx rfl (hb hby d8_86) rfl rfl ?_
          show Steps p.tables e below (T19.setTop (mkF m 87 #[.val (.int p0), .val (.ref o0), .val (.ref o1), .val (.int p1), .val (.int (v8_2 tt p1 ff p0))] [(.ref o0)])) _
          refine XS.iconst X19.here hx rfl (hb hby d8_87) ?_
          show Steps p.tables e below (T19.setTop (mkF m 88 #[.val (.int p0), .val (.ref o0), .val (.ref o1), .val (.int p1), .val (.int (v8_2 tt p1 ff p0))] [(.int (2 : Int32)), (.ref o0)])) _
          refine X19.iaload hx (j := (2 : Int32)) (v := (.int (getI tt (2 : Int32)))) (by rw [e19]; exact Ar28.1) (State.isArrayOf_alike hZ.alike Ar28.2.1) Ar28.2.2 hin28 hat28 (g := (mkF m 88 #[.val (.int p0), .val (.ref o0), .val (.ref o1), .val (.int p1), .val (.int (v8_2 tt p1 ff p0))] [(.int (2 : Int32)), (.ref o0)])) rfl rfl (hb hby d8_88) _ ?_
          show Steps p.tables e below (T19.setTop (mkF m 89 #[.val (.int p0), .val (.ref o0), .val (.ref o1), .val (.int p1), .val (.int (v8_2 tt p1 ff p0))] [(.int (getI tt (2 : Int32)))])) _
          refine XS.iloadN X19.here hx rfl (hb hby d8_89) rfl ?_
          show Steps p.tables e below (T19.setTop (mkF m 90 #[.val (.int p0), .val (.ref o0), .val (.ref o1), .val (.int p1), .val (.int (v8_2 tt p1 ff p0))] [(.int p0), (.int (getI tt (2 : Int32)))])) _
          by_cases hd90_29 : (getI tt (2 : Int32)) < p0
          · try simp only [if_pos hd90_29] at k
            show Steps p.tables e below (T19.setTop (mkF m 90 #[.val (.int p0), .val (.ref o0), .val (.ref o1), .val (.int p1), .val (.int (v8_2 tt p1 ff p0))] [(.int p0), (.int (getI tt (2 : Int32)))])) _
            refine XS.icmpNo X19.here hx rfl (hb hby d8_90) rfl (tlt hd90_29).2.1 ?_
            show Steps p.tables e below (T19.setTop (mkF m 93 #[.val (.int p0), .val (.ref o0), .val (.ref o1), .val (.int p1), .val (.int (v8_2 tt p1 ff p0))] [])) _
            refine XS.iinc X19.here hx rfl (hb hby d8_93) rfl (l' := #[.val (.int p0), .val (.ref o0), .val (.ref o1), .val (.int p1), .val (.int ((v8_2 tt p1 ff p0) + (1 : Int32)))]) rfl ?_
            exact k
          · try simp only [if_neg hd90_29] at k
            show Steps p.tables e below (T19.setTop (mkF m 90 #[.val (.int p0), .val (.ref o0), .val (.ref o1), .val (.int p1), .val (.int (v8_2 tt p1 ff p0))] [(.int p0), (.int (getI tt (2 : Int32)))])) _
            refine XS.icmpYes X19.here hx rfl (pc0 := 90) (pc' := 96) rfl (hb hby d8_90) rfl (flt hd90_29).2.1 (by decide) (by decide) ?_
            exact k
    )
  have hv : (f8 p0 p1 tt ff) = (v8_3 tt p1 ff p0) := rfl
  obtain ⟨fs, hr, hrun, hended, hW, hsame⟩ := X19.leave (v := some (.int (v8_3 tt p1 ff p0))) (fun h => nomatch (Bd.returns.symm.trans h)) hlk
  refine ⟨_, _, pre30 _ ?_, hrun, hended, _, _, rfl, ?_, ⟨_, rfl⟩, hW, hsame.mono (by decide) (by decide)⟩
  · show Steps p.tables e below (T19.setTop (mkF m 96 #[.val (.int p0), .val (.ref o0), .val (.ref o1), .val (.int p1), .val (.int (v8_3 tt p1 ff p0))] [])) _
    refine XS.iload X19.here hx rfl (hb hby d8_96) rfl ?_
    show Steps p.tables e below (T19.setTop (mkF m 98 #[.val (.int p0), .val (.ref o0), .val (.ref o1), .val (.int p1), .val (.int (v8_3 tt p1 ff p0))] [(.int (v8_3 tt p1 ff p0))])) _
    exact retI X19 hx Bd.returns (hb hby d8_98) hr
  · show Q8 Z p0 o0 o1 p1 ka tt kb ff h0 n0 _ T19.heap _
    rw [e19]
    exact ⟨by rw [hv], N19, rfl⟩
theorem d11_0 : decode method_5_code 0 = .ok (.iload_n 0, 1) := by decide +kernel
theorem d11_1 : decode method_5_code 1 = .ok (.iload_n 0, 1) := by decide +kernel
theorem d11_2 : decode method_5_code 2 = .ok (.aload_n 1, 1) := by decide +kernel
theorem d11_3 : decode method_5_code 3 = .ok (.aload_n 2, 1) := by decide +kernel
theorem d11_4 : decode method_5_code 4 = .ok (.iload_n 3, 1) := by decide +kernel
theorem d11_5 : decode method_5_code 5 = .ok (.invokestatic 13, 3) := by decide +kernel
theorem d11_8 : decode method_5_code 8 = .ok (.isub, 1) := by decide +kernel
theorem d11_9 : decode method_5_code 9 = .ok (.istore 6, 2) := by decide +kernel
theorem d11_11 : decode method_5_code 11 = .ok (.iload 6, 2) := by decide +kernel
theorem d11_13 : decode method_5_code 13 = .ok (.iload 5, 2) := by decide +kernel
theorem d11_15 : decode method_5_code 15 = .ok (.if_icmp .ge 16, 3) := by decide +kernel
theorem d11_18 : decode method_5_code 18 = .ok (.aload 4, 2) := by decide +kernel
theorem d11_20 : decode method_5_code 20 = .ok (.iload 6, 2) := by decide +kernel
theorem d11_22 : decode method_5_code 22 = .ok (.iaload, 1) := by decide +kernel
theorem d11_23 : decode method_5_code 23 = .ok (.iload_n 0, 1) := by decide +kernel
theorem d11_24 : decode method_5_code 24 = .ok (.if_icmp .ne 7, 3) := by decide +kernel
theorem d11_27 : decode method_5_code 27 = .ok (.iconst 1, 1) := by decide +kernel
theorem d11_28 : decode method_5_code 28 = .ok (.goto 4, 3) := by decide +kernel
theorem d11_31 : decode method_5_code 31 = .ok (.iconst 0, 1) := by decide +kernel
theorem d11_32 : decode method_5_code 32 = .ok (.istore 7, 2) := by decide +kernel
theorem d11_34 : decode method_5_code 34 = .ok (.iload 7, 2) := by decide +kernel
theorem d11_36 : decode method_5_code 36 = .ok (.iload_n 0, 1) := by decide +kernel
theorem d11_37 : decode method_5_code 37 = .ok (.aload_n 1, 1) := by decide +kernel
theorem d11_38 : decode method_5_code 38 = .ok (.aload_n 2, 1) := by decide +kernel
theorem d11_39 : decode method_5_code 39 = .ok (.iload_n 3, 1) := by decide +kernel
theorem d11_40 : decode method_5_code 40 = .ok (.invokestatic 7, 3) := by decide +kernel
theorem d11_43 : decode method_5_code 43 = .ok (.ifCond .ne 7, 3) := by decide +kernel
theorem d11_46 : decode method_5_code 46 = .ok (.iconst 1, 1) := by decide +kernel
theorem d11_47 : decode method_5_code 47 = .ok (.goto 4, 3) := by decide +kernel
theorem d11_50 : decode method_5_code 50 = .ok (.iconst 0, 1) := by decide +kernel
theorem d11_51 : decode method_5_code 51 = .ok (.if_icmp .ne 7, 3) := by decide +kernel
theorem d11_54 : decode method_5_code 54 = .ok (.iconst 1, 1) := by decide +kernel
theorem d11_55 : decode method_5_code 55 = .ok (.goto 4, 3) := by decide +kernel
theorem d11_58 : decode method_5_code 58 = .ok (.iconst 0, 1) := by decide +kernel
theorem d11_59 : decode method_5_code 59 = .ok (.ireturn, 1) := by decide +kernel
theorem pn_11 : plainName "com/example/knotwork/knotwork/generate/FreeNumbersFreePinLaw" = true := by first | (simp [plainName, overriddenIn]; done) | decide +kernel
theorem ef_11 (m : MethodId) (x0 : Int32) (x1 : Addr) (x2 : Addr) (x3 : Int32) (x4 : Addr) (x5 : Int32) : entryFrame m #[(.int x0), (.ref x1), (.ref x2), (.int x3), (.ref x4), (.int x5)] 8 = mkF m 0 #[.val (.int x0), .val (.ref x1), .val (.ref x2), .val (.int x3), .val (.ref x4), .val (.int x5), .unset, .unset] [] := by first | (simp [entryFrame, mkF, argsToLocals, Value.category]; done) | rfl
def v11_1 (p0 : Int32) (p1 : Int32) (tt : List Int32) (ff : List Int32) (p2 : Int32) (ii : List Int32) : Int32 := (if (p0 - (f8 p0 p1 tt ff)) < p2 then (if (getI ii (p0 - (f8 p0 p1 tt ff))) = p0 then (1 : Int32) else (0 : Int32)) else (0 : Int32))
def v11_2 (p0 : Int32) (p1 : Int32) (tt : List Int32) (ff : List Int32) : Int32 := (if (f9 p0 p1 tt ff) = (0 : Int32) then (1 : Int32) else (0 : Int32))
def f11 (p0 : Int32) (p1 : Int32) (p2 : Int32) (tt : List Int32) (ff : List Int32) (ii : List Int32) : Int32 := (if (v11_1 p0 p1 tt ff p2 ii) = (v11_2 p0 p1 tt ff) then (1 : Int32) else (0 : Int32))
def Q11 (Z : State) (p0 : Int32) (o0 : Addr) (o1 : Addr) (p1 : Int32) (o2 : Addr) (p2 : Int32) (ka : ClassId) (tt : List Int32) (kb : ClassId) (ff : List Int32) (kc : ClassId) (ii : List Int32) (h0 : Heap) (n0 : Nat) (v : Option Value) (h : Heap) (L : List Loc) : Prop := v = some (.int (f11 p0 p1 p2 tt ff ii)) ∧ Fr n0 L ∧ h = h0
set_option maxRecDepth 65536 in
set_option maxHeartbeats 40000000 in
theorem rm11 (l : Launch) (Z : State) (a0 : Array Value) (hw : ∀ d ∈ tables_1, d.before a0 Z = true) (ws : List Jvm.Cond) (p0 : Int32) (o0 : Addr) (o1 : Addr) (p1 : Int32) (o2 : Addr) (p2 : Int32) (ka : ClassId) (tt : List Int32) (kb : ClassId) (ff : List Int32) (kc : ClassId) (ii : List Int32) (h0 : Heap) (n0 : Nat) (Z0 : n0 ≤ h0.size) (V_o0 : Ia Z h0 o0 ka .int (3 : Int32) tt) (V_o1 : Ia Z h0 o1 kb .int (4 : Int32) ff) (V_o2 : Ia Z h0 o2 kc .int (129 : Int32) ii) (hid : ¬ (p0 - (f8 p0 p1 tt ff)) < (0 : Int32) ∧ (p0 - (f8 p0 p1 tt ff)) < (129 : Int32)) :
    MetFree l (⟨"com/example/knotwork/knotwork/generate/FreeNumbersFreePinLaw", "ok", "(I[I[II[II)Z"⟩ : MethodName) (head1 (Jvm.Cond.code (⟨"com/example/knotwork/knotwork/generate/FreeNumbersFreePinLaw", "ok", "(I[I[II[II)Z"⟩ : MethodName) method_5_code 8 (some .boolean) :: ws) ({ frames := 2, cells := 0, slots := 0, locals := 34 } : Room)) (fun a U => a = #[(.int p0), (.ref o0), (.ref o1), (.int p1), (.ref o2), (.int p2)] ∧ Z.Warmed39 U.vm ∧ U.heap = h0) (fun _ _ _ _ _ => True) (fun _ U o U' => ∃ v L, o = .returned v ∧ Q11 Z p0 o0 o1 p1 o2 p2 ka tt kb ff kc ii h0 n0 v U'.heap L ∧ FrameEnd U o U' L ({ frames := 2, cells := 0, slots := 0, locals := 34 } : Room).cells ({ frames := 2, cells := 0, slots := 0, locals := 34 } : Room).slots) := by
  refine MetFree.of_bodySF (plainFor_of_name pn_11) hisR ?_
  intro p e s m args below meth c s₁ Bd hml0 hP hK
  obtain ⟨rfl, hZ, hh⟩ := hP
  have hx := Bd.exec
  have hby := Bd.bytes
  have hml : c.maxLocals = 8 := hml0
  have hown : s.vm.findClass "com/example/knotwork/knotwork/generate/FreeNumbersFreePinLaw" = some m.cls := findClass_of_methodNamed Bd.named
  have hnm := (name_of_methodNamed Bd.named Bd.method).1
  have X0 : Stand p l e ({ frames := 2, cells := 0, slots := 0, locals := 34 } : Room) s m #[(.int p0), (.ref o0), (.ref o1), (.int p1), (.ref o2), (.int p2)] below meth c s₁ [] 0 0 := Stand.of_body Bd
  have e0 : s₁.heap = h0 := by rw [← hh, Bd.state]; rfl
  have N0 := Fr.nil n0
  have hlk : meth.locks = false := by first | exact BodyLoose.notSynchronized Bd | exact Body.notSynchronized Bd
  have pre0 : ∀ t, Steps p.tables e below (s₁.setTop (mkF m 0 #[.val (.int p0), .val (.ref o0), .val (.ref o1), .val (.int p1), .val (.ref o2), .val (.int p2), .unset, .unset] [])) t → Steps p.tables e below (s₁.setTop (entryFrame m #[(.int p0), (.ref o0), (.ref o1), (.int p1), (.ref o2), (.int p2)] 8)) t := fun t k => castTop (ef_11 m p0 o0 o1 p1 o2 p2) k
  obtain ⟨_, _, ⟨T1, L1, k1, n1⟩, -, X1, ⟨Lc1, hQ1, l1, y1, z1⟩, st1⟩ := Jvm.LawKit.callS X0 hx (y := (⟨"com/example/knotwork/knotwork/generate/FreeNumbersFreePinLaw", "below", "(I[I[II)I"⟩ : MethodName)) hown (mvT hZ (hw _ (List.mem_of_getElem? (i := 46) rfl))) (mvT hZ (hw _ (List.mem_of_getElem? (i := 47) rfl))) (mvT hZ (hw _ (List.mem_of_getElem? (i := 2) rfl))) (mvT hZ (hw _ (List.mem_of_getElem? (i := 48) rfl))) (by decide) (backOf (W := 1) (rm8 l Z a0 hw [] p0 o0 o1 p1 ka tt kb ff h0 n0 Z0 (V_o0) (V_o1)) hZ (hw _ (List.mem_of_getElem? (i := 48) rfl)) (hw _ (List.mem_of_getElem? (i := 2) rfl)) (by decide) (by decide)) (g := (mkF m 5 #[.val (.int p0), .val (.ref o0), .val (.ref o1), .val (.int p1), .val (.ref o2), .val (.int p2), .unset, .unset] [(.int p1), (.ref o1), (.ref o0), (.int p0), (.int p0)])) rfl (by rw [hml]; rfl) (argsL := [(.int p0), (.ref o0), (.ref o1), (.int p1)]) (rest := [(.int p0)]) (lenOf pd_3 rfl) rfl (by show 2 * 0 + _ ≤ _; exact Nat.le_of_eq rfl) (hb hby d11_5) (fun _ _ => ⟨rfl, e0, (by decide : 0 + 0 ≤ _), (by decide : 0 + 0 ≤ _)⟩)
  dsimp only [Pt.U, Pt.locs, Pt.cells, Pt.slots] at X1 l1 y1 z1 st1 hQ1
  rw [l1, y1, z1] at X1
  obtain ⟨rfl, N1q, e1⟩ := hQ1
  have N1 := Fr.app N0 N1q
  have pre2 : ∀ t, Steps p.tables e below (T1.setTop (mkF m 15 #[.val (.int p0), .val (.ref o0), .val (.ref o1), .val (.int p1), .val (.ref o2), .val (.int p2), .val (.int (p0 - (f8 p0 p1 tt ff))), .unset] [(.int p2), (.int (p0 - (f8 p0 p1 tt ff)))])) t → Steps p.tables e below (s₁.setTop (entryFrame m #[(.int p0), (.ref o0), (.ref o1), (.int p1), (.ref o2), (.int p2)] 8)) t := fun t k => pre0 t (by
    show Steps p.tables e below (s₁.setTop (mkF m 0 #[.val (.int p0), .val (.ref o0), .val (.ref o1), .val (.int p1), .val (.ref o2), .val (.int p2), .unset, .unset] [])) _
    refine XS.iloadN X0.here hx rfl (hb hby d11_0) rfl ?_
    show Steps p.tables e below (s₁.setTop (mkF m 1 #[.val (.int p0), .val (.ref o0), .val (.ref o1), .val (.int p1), .val (.ref o2), .val (.int p2), .unset, .unset] [(.int p0)])) _
    refine XS.iloadN X0.here hx rfl (hb hby d11_1) rfl ?_
    show Steps p.tables e below (s₁.setTop (mkF m 2 #[.val (.int p0), .val (.ref o0), .val (.ref o1), .val (.int p1), .val (.ref o2), .val (.int p2), .unset, .unset] [(.int p0), (.int p0)])) _
    refine XS.aloadN X0.here hx rfl (hb hby d11_2) rfl rfl ?_
    show Steps p.tables e below (s₁.setTop (mkF m 3 #[.val (.int p0), .val (.ref o0), .val (.ref o1), .val (.int p1), .val (.ref o2), .val (.int p2), .unset, .unset] [(.ref o0), (.int p0), (.int p0)])) _
    refine XS.aloadN X0.here hx rfl (hb hby d11_3) rfl rfl ?_
    show Steps p.tables e below (s₁.setTop (mkF m 4 #[.val (.int p0), .val (.ref o0), .val (.ref o1), .val (.int p1), .val (.ref o2), .val (.int p2), .unset, .unset] [(.ref o1), (.ref o0), (.int p0), (.int p0)])) _
    refine XS.iloadN X0.here hx rfl (hb hby d11_4) rfl ?_
    show Steps p.tables e below (s₁.setTop (mkF m 5 #[.val (.int p0), .val (.ref o0), .val (.ref o1), .val (.int p1), .val (.ref o2), .val (.int p2), .unset, .unset] [(.int p1), (.ref o1), (.ref o0), (.int p0), (.int p0)])) _
    refine st1 _ ?_
    show Steps p.tables e below (T1.setTop (mkF m 8 #[.val (.int p0), .val (.ref o0), .val (.ref o1), .val (.int p1), .val (.ref o2), .val (.int p2), .unset, .unset] [(.int (f8 p0 p1 tt ff)), (.int p0)])) _
    refine XS.isub X1.here hx rfl (hb hby d11_8) rfl ?_
    show Steps p.tables e below (T1.setTop (mkF m 9 #[.val (.int p0), .val (.ref o0), .val (.ref o1), .val (.int p1), .val (.ref o2), .val (.int p2), .unset, .unset] [(.int (p0 - (f8 p0 p1 tt ff)))])) _
    refine XS.istore X1.here hx rfl (hb hby d11_9) rfl (l' := #[.val (.int p0), .val (.ref o0), .val (.ref o1), .val (.int p1), .val (.ref o2), .val (.int p2), .val (.int (p0 - (f8 p0 p1 tt ff))), .unset]) rfl ?_
    show Steps p.tables e below (T1.setTop (mkF m 11 #[.val (.int p0), .val (.ref o0), .val (.ref o1), .val (.int p1), .val (.ref o2), .val (.int p2), .val (.int (p0 - (f8 p0 p1 tt ff))), .unset] [])) _
    refine XS.iload X1.here hx rfl (hb hby d11_11) rfl ?_
    show Steps p.tables e below (T1.setTop (mkF m 13 #[.val (.int p0), .val (.ref o0), .val (.ref o1), .val (.int p1), .val (.ref o2), .val (.int p2), .val (.int (p0 - (f8 p0 p1 tt ff))), .unset] [(.int (p0 - (f8 p0 p1 tt ff)))])) _
    refine XS.iload X1.here hx rfl (hb hby d11_13) rfl ?_
    show Steps p.tables e below (T1.setTop (mkF m 15 #[.val (.int p0), .val (.ref o0), .val (.ref o1), .val (.int p1), .val (.ref o2), .val (.int p2), .val (.int (p0 - (f8 p0 p1 tt ff))), .unset] [(.int p2), (.int (p0 - (f8 p0 p1 tt ff)))])) _
    exact k)
  obtain ⟨cl4, Ar4, hin4, hat4⟩ := Ia.get (V_o2) (j := (p0 - (f8 p0 p1 tt ff))) hid
  have pre6 : ∀ t, Steps p.tables e below (T1.setTop (mkF m 32 #[.val (.int p0), .val (.ref o0), .val (.ref o1), .val (.int p1), .val (.ref o2), .val (.int p2), .val (.int (p0 - (f8 p0 p1 tt ff))), .unset] [(.int (if (p0 - (f8 p0 p1 tt ff)) < p2 then (if (getI ii (p0 - (f8 p0 p1 tt ff))) = p0 then (1 : Int32) else (0 : Int32)) else (0 : Int32)))])) t → Steps p.tables e below (s₁.setTop (entryFrame m #[(.int p0), (.ref o0), (.ref o1), (.int p1), (.ref o2), (.int p2)] 8)) t := fun t k => pre2 t (by
    show Steps p.tables e below (T1.setTop (mkF m 15 #[.val (.int p0), .val (.ref o0), .val (.ref o1), .val (.int p1), .val (.ref o2), .val (.int p2), .val (.int (p0 - (f8 p0 p1 tt ff))), .unset] [(.int p2), (.int (p0 - (f8 p0 p1 tt ff)))])) _
    by_cases hd15_3 : (p0 - (f8 p0 p1 tt ff)) < p2
    · try simp only [if_pos hd15_3] at k
      show Steps p.tables e below (T1.setTop (mkF m 15 #[.val (.int p0), .val (.ref o0), .val (.ref o1), .val (.int p1), .val (.ref o2), .val (.int p2), .val (.int (p0 - (f8 p0 p1 tt ff))), .unset] [(.int p2), (.int (p0 - (f8 p0 p1 tt ff)))])) _
      refine XS.icmpNo X1.here hx rfl (hb hby d11_15) rfl (tlt hd15_3).2.1 ?_
      show Steps p.tables e below (T1.setTop (mkF m 18 #[.val (.int p0), .val (.ref o0), .val (.ref o1), .val (.int p1), .val (.ref o2), .val (.int p2), .val (.int (p0 - (f8 p0 p1 tt ff))), .unset] [])) _
      refine XS.aload X1.here hx rfl (hb hby d11_18) rfl rfl ?_
      show Steps p.tables e below (T1.setTop (mkF m 20 #[.val (.int p0), .val (.ref o0), .val (.ref o1), .val (.int p1), .val (.ref o2), .val (.int p2), .val (.int (p0 - (f8 p0 p1 tt ff))), .unset] [(.ref o2)])) _
      refine XS.iload X1.here hx rfl (hb hby d11_20) rfl ?_
      show Steps p.tables e below (T1.setTop (mkF m 22 #[.val (.int p0), .val (.ref o0), .val (.ref o1), .val (.int p1), .val (.ref o2), .val (.int p2), .val (.int (p0 - (f8 p0 p1 tt ff))), .unset] [(.int (p0 - (f8 p0 p1 tt ff))), (.ref o2)])) _
      refine X1.iaload hx (j := (p0 - (f8 p0 p1 tt ff))) (v := (.int (getI ii (p0 - (f8 p0 p1 tt ff))))) (by rw [e1]; exact Ar4.1) (State.isArrayOf_alike hZ.alike Ar4.2.1) Ar4.2.2 hin4 hat4 (g := (mkF m 22 #[.val (.int p0), .val (.ref o0), .val (.ref o1), .val (.int p1), .val (.ref o2), .val (.int p2), .val (.int (p0 - (f8 p0 p1 tt ff))), .unset] [(.int (p0 - (f8 p0 p1 tt ff))), (.ref o2)])) rfl rfl (hb hby d11_22) _ ?_
      show Steps p.tables e below (T1.setTop (mkF m 23 #[.val (.int p0), .val (.ref o0), .val (.ref o1), .val (.int p1), .val (.ref o2), .val (.int p2), .val (.int (p0 - (f8 p0 p1 tt ff))), .unset] [(.int (getI ii (p0 - (f8 p0 p1 tt ff))))])) _
      refine XS.iloadN X1.here hx rfl (hb hby d11_23) rfl ?_
      show Steps p.tables e below (T1.setTop (mkF m 24 #[.val (.int p0), .val (.ref o0), .val (.ref o1), .val (.int p1), .val (.ref o2), .val (.int p2), .val (.int (p0 - (f8 p0 p1 tt ff))), .unset] [(.int p0), (.int (getI ii (p0 - (f8 p0 p1 tt ff))))])) _
      by_cases hd24_5 : (getI ii (p0 - (f8 p0 p1 tt ff))) = p0
      · try simp only [if_pos hd24_5] at k
        show Steps p.tables e below (T1.setTop (mkF m 24 #[.val (.int p0), .val (.ref o0), .val (.ref o1), .val (.int p1), .val (.ref o2), .val (.int p2), .val (.int (p0 - (f8 p0 p1 tt ff))), .unset] [(.int p0), (.int (getI ii (p0 - (f8 p0 p1 tt ff))))])) _
        refine XS.icmpNo X1.here hx rfl (hb hby d11_24) rfl (teq hd24_5).2 ?_
        show Steps p.tables e below (T1.setTop (mkF m 27 #[.val (.int p0), .val (.ref o0), .val (.ref o1), .val (.int p1), .val (.ref o2), .val (.int p2), .val (.int (p0 - (f8 p0 p1 tt ff))), .unset] [])) _
        refine XS.iconst X1.here hx rfl (hb hby d11_27) ?_
        show Steps p.tables e below (T1.setTop (mkF m 28 #[.val (.int p0), .val (.ref o0), .val (.ref o1), .val (.int p1), .val (.ref o2), .val (.int p2), .val (.int (p0 - (f8 p0 p1 tt ff))), .unset] [(.int (1 : Int32))])) _
        refine XS.goto X1.here hx rfl (pc0 := 28) (pc' := 32) rfl (hb hby d11_28) (by decide) (by decide) ?_
        exact k
      · try simp only [if_neg hd24_5] at k
        show Steps p.tables e below (T1.setTop (mkF m 24 #[.val (.int p0), .val (.ref o0), .val (.ref o1), .val (.int p1), .val (.ref o2), .val (.int p2), .val (.int (p0 - (f8 p0 p1 tt ff))), .unset] [(.int p0), (.int (getI ii (p0 - (f8 p0 p1 tt ff))))])) _
        refine XS.icmpYes X1.here hx rfl (pc0 := 24) (pc' := 31) rfl (hb hby d11_24) rfl (feq hd24_5).2 (by decide) (by decide) ?_
        show Steps p.tables e below (T1.setTop (mkF m 31 #[.val (.int p0), .val (.ref o0), .val (.ref o1), .val (.int p1), .val (.ref o2), .val (.int p2), .val (.int (p0 - (f8 p0 p1 tt ff))), .unset] [])) _
        refine XS.iconst X1.here hx rfl (hb hby d11_31) ?_
        exact k
    · try simp only [if_neg hd15_3] at k
      show Steps p.tables e below (T1.setTop (mkF m 15 #[.val (.int p0), .val (.ref o0), .val (.ref o1), .val (.int p1), .val (.ref o2), .val (.int p2), .val (.int (p0 - (f8 p0 p1 tt ff))), .unset] [(.int p2), (.int (p0 - (f8 p0 p1 tt ff)))])) _
      refine XS.icmpYes X1.here hx rfl (pc0 := 15) (pc' := 31) rfl (hb hby d11_15) rfl (flt hd15_3).2.1 (by decide) (by decide) ?_
      show Steps p.tables e below (T1.setTop (mkF m 31 #[.val (.int p0), .val (.ref o0), .val (.ref o1), .val (.int p1), .val (.ref o2), .val (.int p2), .val (.int (p0 - (f8 p0 p1 tt ff))), .unset] [])) _
      refine XS.iconst X1.here hx rfl (hb hby d11_31) ?_
      exact k
    )
  obtain ⟨_, _, ⟨T7, L7, k7, n7⟩, -, X7, ⟨Lc7, hQ7, l7, y7, z7⟩, st7⟩ := Jvm.LawKit.callS X1 hx (y := (⟨"com/example/knotwork/knotwork/generate/FreeNumbersFreePinLaw", "inT", "(I[I[II)Z"⟩ : MethodName)) hown (mvT hZ (hw _ (List.mem_of_getElem? (i := 49) rfl))) (mvT hZ (hw _ (List.mem_of_getElem? (i := 50) rfl))) (mvT hZ (hw _ (List.mem_of_getElem? (i := 2) rfl))) (mvT hZ (hw _ (List.mem_of_getElem? (i := 51) rfl))) (by decide) (backOf (W := 1) (rm9 l Z a0 hw [] p0 o0 o1 p1 ka tt kb ff h0 n0 Z0 (V_o0) (V_o1)) hZ (hw _ (List.mem_of_getElem? (i := 51) rfl)) (hw _ (List.mem_of_getElem? (i := 2) rfl)) (by decide) (by decide)) (g := (mkF m 40 #[.val (.int p0), .val (.ref o0), .val (.ref o1), .val (.int p1), .val (.ref o2), .val (.int p2), .val (.int (p0 - (f8 p0 p1 tt ff))), .val (.int (v11_1 p0 p1 tt ff p2 ii))] [(.int p1), (.ref o1), (.ref o0), (.int p0), (.int (v11_1 p0 p1 tt ff p2 ii))])) rfl (by rw [hml]; rfl) (argsL := [(.int p0), (.ref o0), (.ref o1), (.int p1)]) (rest := [(.int (v11_1 p0 p1 tt ff p2 ii))]) (lenOf pd_2 rfl) rfl (by show 2 * 0 + _ ≤ _; exact Nat.le_of_eq rfl) (hb hby d11_40) (fun _ _ => ⟨rfl, e1, (by decide : 0 + 0 ≤ _), (by decide : 0 + 0 ≤ _)⟩)
  dsimp only [Pt.U, Pt.locs, Pt.cells, Pt.slots] at X7 l7 y7 z7 st7 hQ7
  rw [l7, y7, z7] at X7
  obtain ⟨rfl, N7q, e7⟩ := hQ7
  have N7 := Fr.app N1 N7q
  have pre8 : ∀ t, Steps p.tables e below (T7.setTop (mkF m 43 #[.val (.int p0), .val (.ref o0), .val (.ref o1), .val (.int p1), .val (.ref o2), .val (.int p2), .val (.int (p0 - (f8 p0 p1 tt ff))), .val (.int (v11_1 p0 p1 tt ff p2 ii))] [(.int (f9 p0 p1 tt ff)), (.int (v11_1 p0 p1 tt ff p2 ii))])) t → Steps p.tables e below (s₁.setTop (entryFrame m #[(.int p0), (.ref o0), (.ref o1), (.int p1), (.ref o2), (.int p2)] 8)) t := fun t k => pre6 t (by
    show Steps p.tables e below (T1.setTop (mkF m 32 #[.val (.int p0), .val (.ref o0), .val (.ref o1), .val (.int p1), .val (.ref o2), .val (.int p2), .val (.int (p0 - (f8 p0 p1 tt ff))), .unset] [(.int (v11_1 p0 p1 tt ff p2 ii))])) _
    refine XS.istore X1.here hx rfl (hb hby d11_32) rfl (l' := #[.val (.int p0), .val (.ref o0), .val (.ref o1), .val (.int p1), .val (.ref o2), .val (.int p2), .val (.int (p0 - (f8 p0 p1 tt ff))), .val (.int (v11_1 p0 p1 tt ff p2 ii))]) rfl ?_
    show Steps p.tables e below (T1.setTop (mkF m 34 #[.val (.int p0), .val (.ref o0), .val (.ref o1), .val (.int p1), .val (.ref o2), .val (.int p2), .val (.int (p0 - (f8 p0 p1 tt ff))), .val (.int (v11_1 p0 p1 tt ff p2 ii))] [])) _
    refine XS.iload X1.here hx rfl (hb hby d11_34) rfl ?_
    show Steps p.tables e below (T1.setTop (mkF m 36 #[.val (.int p0), .val (.ref o0), .val (.ref o1), .val (.int p1), .val (.ref o2), .val (.int p2), .val (.int (p0 - (f8 p0 p1 tt ff))), .val (.int (v11_1 p0 p1 tt ff p2 ii))] [(.int (v11_1 p0 p1 tt ff p2 ii))])) _
    refine XS.iloadN X1.here hx rfl (hb hby d11_36) rfl ?_
    show Steps p.tables e below (T1.setTop (mkF m 37 #[.val (.int p0), .val (.ref o0), .val (.ref o1), .val (.int p1), .val (.ref o2), .val (.int p2), .val (.int (p0 - (f8 p0 p1 tt ff))), .val (.int (v11_1 p0 p1 tt ff p2 ii))] [(.int p0), (.int (v11_1 p0 p1 tt ff p2 ii))])) _
    refine XS.aloadN X1.here hx rfl (hb hby d11_37) rfl rfl ?_
    show Steps p.tables e below (T1.setTop (mkF m 38 #[.val (.int p0), .val (.ref o0), .val (.ref o1), .val (.int p1), .val (.ref o2), .val (.int p2), .val (.int (p0 - (f8 p0 p1 tt ff))), .val (.int (v11_1 p0 p1 tt ff p2 ii))] [(.ref o0), (.int p0), (.int (v11_1 p0 p1 tt ff p2 ii))])) _
    refine XS.aloadN X1.here hx rfl (hb hby d11_38) rfl rfl ?_
    show Steps p.tables e below (T1.setTop (mkF m 39 #[.val (.int p0), .val (.ref o0), .val (.ref o1), .val (.int p1), .val (.ref o2), .val (.int p2), .val (.int (p0 - (f8 p0 p1 tt ff))), .val (.int (v11_1 p0 p1 tt ff p2 ii))] [(.ref o1), (.ref o0), (.int p0), (.int (v11_1 p0 p1 tt ff p2 ii))])) _
    refine XS.iloadN X1.here hx rfl (hb hby d11_39) rfl ?_
    show Steps p.tables e below (T1.setTop (mkF m 40 #[.val (.int p0), .val (.ref o0), .val (.ref o1), .val (.int p1), .val (.ref o2), .val (.int p2), .val (.int (p0 - (f8 p0 p1 tt ff))), .val (.int (v11_1 p0 p1 tt ff p2 ii))] [(.int p1), (.ref o1), (.ref o0), (.int p0), (.int (v11_1 p0 p1 tt ff p2 ii))])) _
    refine st7 _ ?_
    show Steps p.tables e below (T7.setTop (mkF m 43 #[.val (.int p0), .val (.ref o0), .val (.ref o1), .val (.int p1), .val (.ref o2), .val (.int p2), .val (.int (p0 - (f8 p0 p1 tt ff))), .val (.int (v11_1 p0 p1 tt ff p2 ii))] [(.int (f9 p0 p1 tt ff)), (.int (v11_1 p0 p1 tt ff p2 ii))])) _
    exact k)
  have pre10 : ∀ t, Steps p.tables e below (T7.setTop (mkF m 51 #[.val (.int p0), .val (.ref o0), .val (.ref o1), .val (.int p1), .val (.ref o2), .val (.int p2), .val (.int (p0 - (f8 p0 p1 tt ff))), .val (.int (v11_1 p0 p1 tt ff p2 ii))] [(.int (if (f9 p0 p1 tt ff) = (0 : Int32) then (1 : Int32) else (0 : Int32))), (.int (v11_1 p0 p1 tt ff p2 ii))])) t → Steps p.tables e below (s₁.setTop (entryFrame m #[(.int p0), (.ref o0), (.ref o1), (.int p1), (.ref o2), (.int p2)] 8)) t := fun t k => pre8 t (by
    show Steps p.tables e below (T7.setTop (mkF m 43 #[.val (.int p0), .val (.ref o0), .val (.ref o1), .val (.int p1), .val (.ref o2), .val (.int p2), .val (.int (p0 - (f8 p0 p1 tt ff))), .val (.int (v11_1 p0 p1 tt ff p2 ii))] [(.int (f9 p0 p1 tt ff)), (.int (v11_1 p0 p1 tt ff p2 ii))])) _
    by_cases hd43_9 : (f9 p0 p1 tt ff) = (0 : Int32)
    · try simp only [if_pos hd43_9] at k
      show Steps p.tables e below (T7.setTop (mkF m 43 #[.val (.int p0), .val (.ref o0), .val (.ref o1), .val (.int p1), .val (.ref o2), .val (.int p2), .val (.int (p0 - (f8 p0 p1 tt ff))), .val (.int (v11_1 p0 p1 tt ff p2 ii))] [(.int (f9 p0 p1 tt ff)), (.int (v11_1 p0 p1 tt ff p2 ii))])) _
      refine XS.ifNo X7.here hx rfl (hb hby d11_43) rfl ((if0 _ _).trans (teq hd43_9).2) ?_
      show Steps p.tables e below (T7.setTop (mkF m 46 #[.val (.int p0), .val (.ref o0), .val (.ref o1), .val (.int p1), .val (.ref o2), .val (.int p2), .val (.int (p0 - (f8 p0 p1 tt ff))), .val (.int (v11_1 p0 p1 tt ff p2 ii))] [(.int (v11_1 p0 p1 tt ff p2 ii))])) _
      refine XS.iconst X7.here hx rfl (hb hby d11_46) ?_
      show Steps p.tables e below (T7.setTop (mkF m 47 #[.val (.int p0), .val (.ref o0), .val (.ref o1), .val (.int p1), .val (.ref o2), .val (.int p2), .val (.int (p0 - (f8 p0 p1 tt ff))), .val (.int (v11_1 p0 p1 tt ff p2 ii))] [(.int (1 : Int32)), (.int (v11_1 p0 p1 tt ff p2 ii))])) _
      refine XS.goto X7.here hx rfl (pc0 := 47) (pc' := 51) rfl (hb hby d11_47) (by decide) (by decide) ?_
      exact k
    · try simp only [if_neg hd43_9] at k
      show Steps p.tables e below (T7.setTop (mkF m 43 #[.val (.int p0), .val (.ref o0), .val (.ref o1), .val (.int p1), .val (.ref o2), .val (.int p2), .val (.int (p0 - (f8 p0 p1 tt ff))), .val (.int (v11_1 p0 p1 tt ff p2 ii))] [(.int (f9 p0 p1 tt ff)), (.int (v11_1 p0 p1 tt ff p2 ii))])) _
      refine XS.ifYes X7.here hx rfl (pc0 := 43) (pc' := 50) rfl (hb hby d11_43) rfl ((if0 _ _).trans (feq hd43_9).2) (by decide) (by decide) ?_
      show Steps p.tables e below (T7.setTop (mkF m 50 #[.val (.int p0), .val (.ref o0), .val (.ref o1), .val (.int p1), .val (.ref o2), .val (.int p2), .val (.int (p0 - (f8 p0 p1 tt ff))), .val (.int (v11_1 p0 p1 tt ff p2 ii))] [(.int (v11_1 p0 p1 tt ff p2 ii))])) _
      refine XS.iconst X7.here hx rfl (hb hby d11_50) ?_
      exact k
    )
  by_cases hc51_11 : (v11_1 p0 p1 tt ff p2 ii) = (v11_2 p0 p1 tt ff)
  · have hv : (f11 p0 p1 p2 tt ff ii) = (1 : Int32) := by simp only [f11, if_pos hc51_11]
    obtain ⟨fs, hr, hrun, hended, hW, hsame⟩ := X7.leave (v := some (.int (1 : Int32))) (fun h => nomatch (Bd.returns.symm.trans h)) hlk
    refine ⟨_, _, pre10 _ ?_, hrun, hended, _, _, rfl, ?_, ⟨_, rfl⟩, hW, hsame.mono (by decide) (by decide)⟩
    · show Steps p.tables e below (T7.setTop (mkF m 51 #[.val (.int p0), .val (.ref o0), .val (.ref o1), .val (.int p1), .val (.ref o2), .val (.int p2), .val (.int (p0 - (f8 p0 p1 tt ff))), .val (.int (v11_1 p0 p1 tt ff p2 ii))] [(.int (v11_2 p0 p1 tt ff)), (.int (v11_1 p0 p1 tt ff p2 ii))])) _
      refine XS.icmpNo X7.here hx rfl (hb hby d11_51) rfl (teq hc51_11).2 ?_
      show Steps p.tables e below (T7.setTop (mkF m 54 #[.val (.int p0), .val (.ref o0), .val (.ref o1), .val (.int p1), .val (.ref o2), .val (.int p2), .val (.int (p0 - (f8 p0 p1 tt ff))), .val (.int (v11_1 p0 p1 tt ff p2 ii))] [])) _
      refine XS.iconst X7.here hx rfl (hb hby d11_54) ?_
      show Steps p.tables e below (T7.setTop (mkF m 55 #[.val (.int p0), .val (.ref o0), .val (.ref o1), .val (.int p1), .val (.ref o2), .val (.int p2), .val (.int (p0 - (f8 p0 p1 tt ff))), .val (.int (v11_1 p0 p1 tt ff p2 ii))] [(.int (1 : Int32))])) _
      refine XS.goto X7.here hx rfl (pc0 := 55) (pc' := 59) rfl (hb hby d11_55) (by decide) (by decide) ?_
      show Steps p.tables e below (T7.setTop (mkF m 59 #[.val (.int p0), .val (.ref o0), .val (.ref o1), .val (.int p1), .val (.ref o2), .val (.int p2), .val (.int (p0 - (f8 p0 p1 tt ff))), .val (.int (v11_1 p0 p1 tt ff p2 ii))] [(.int (1 : Int32))])) _
      exact retN X7 hx (t := .boolean) Bd.returns (by simp) (hb hby d11_59) hr
    · show Q11 Z p0 o0 o1 p1 o2 p2 ka tt kb ff kc ii h0 n0 _ T7.heap _
      rw [e7]
      exact ⟨by rw [hv], N7, rfl⟩
  · have hv : (f11 p0 p1 p2 tt ff ii) = (0 : Int32) := by simp only [f11, if_neg hc51_11]
    obtain ⟨fs, hr, hrun, hended, hW, hsame⟩ := X7.leave (v := some (.int (0 : Int32))) (fun h => nomatch (Bd.returns.symm.trans h)) hlk
    refine ⟨_, _, pre10 _ ?_, hrun, hended, _, _, rfl, ?_, ⟨_, rfl⟩, hW, hsame.mono (by decide) (by decide)⟩
    · show Steps p.tables e below (T7.setTop (mkF m 51 #[.val (.int p0), .val (.ref o0), .val (.ref o1), .val (.int p1), .val (.ref o2), .val (.int p2), .val (.int (p0 - (f8 p0 p1 tt ff))), .val (.int (v11_1 p0 p1 tt ff p2 ii))] [(.int (v11_2 p0 p1 tt ff)), (.int (v11_1 p0 p1 tt ff p2 ii))])) _
      refine XS.icmpYes X7.here hx rfl (pc0 := 51) (pc' := 58) rfl (hb hby d11_51) rfl (feq hc51_11).2 (by decide) (by decide) ?_
      show Steps p.tables e below (T7.setTop (mkF m 58 #[.val (.int p0), .val (.ref o0), .val (.ref o1), .val (.int p1), .val (.ref o2), .val (.int p2), .val (.int (p0 - (f8 p0 p1 tt ff))), .val (.int (v11_1 p0 p1 tt ff p2 ii))] [])) _
      refine XS.iconst X7.here hx rfl (hb hby d11_58) ?_
      show Steps p.tables e below (T7.setTop (mkF m 59 #[.val (.int p0), .val (.ref o0), .val (.ref o1), .val (.int p1), .val (.ref o2), .val (.int p2), .val (.int (p0 - (f8 p0 p1 tt ff))), .val (.int (v11_1 p0 p1 tt ff p2 ii))] [(.int (0 : Int32))])) _
      exact retN X7 hx (t := .boolean) Bd.returns (by simp) (hb hby d11_59) hr
    · show Q11 Z p0 o0 o1 p1 o2 p2 ka tt kb ff kc ii h0 n0 _ T7.heap _
      rw [e7]
      exact ⟨by rw [hv], N7, rfl⟩
theorem d2_0 : decode prog_34_method_1_code 0 = .ok (.aload_n 0, 1) := by decide +kernel
theorem d2_1 : decode prog_34_method_1_code 1 = .ok (.invokespecial 1, 3) := by decide +kernel
theorem d2_4 : decode prog_34_method_1_code 4 = .ok (.aload_n 0, 1) := by decide +kernel
theorem d2_5 : decode prog_34_method_1_code 5 = .ok (.lload_n 1, 1) := by decide +kernel
theorem d2_6 : decode prog_34_method_1_code 6 = .ok (.putfield 7, 3) := by decide +kernel
theorem d2_9 : decode prog_34_method_1_code 9 = .ok (.return_, 1) := by decide +kernel
theorem pn_2 : plainName "com/example/knotwork/knotwork/generate/SeededRandom" = true := by first | (simp [plainName, overriddenIn]; done) | decide +kernel
theorem ef_2 (m : MethodId) (x0 : Addr) (x1 : Int64) : entryFrame m #[(.ref x0), (.long x1)] 3 = mkF m 0 #[.val (.ref x0), .val (.long x1), .second] [] := by first | (simp [entryFrame, mkF, argsToLocals, Value.category]; done) | rfl
def Q2 (Z : State) (o0 : Addr) (q0 : Int64) (u0 : Value) (h0 : Heap) (n0 : Nat) (v : Option Value) (h : Heap) (L : List Loc) : Prop := v = none ∧ Fr n0 L ∧ Keep h0 h [o0] ∧ Fld Z h o0 "com/example/knotwork/knotwork/generate/SeededRandom" "state" "J" (.long q0)
set_option maxRecDepth 65536 in
set_option maxHeartbeats 40000000 in
theorem rm2 (l : Launch) (Z : State) (a0 : Array Value) (hw : ∀ d ∈ tables_1, d.before a0 Z = true) (ws : List Jvm.Cond) (o0 : Addr) (q0 : Int64) (u0 : Value) (h0 : Heap) (n0 : Nat) (Z0 : n0 ≤ h0.size) (E_o0 : Exa Z h0 o0 "com/example/knotwork/knotwork/generate/SeededRandom") (g_o0 : n0 ≤ o0) (F_state_o0 : Fld Z h0 o0 "com/example/knotwork/knotwork/generate/SeededRandom" "state" "J" u0)  :
    MetFree l (⟨"com/example/knotwork/knotwork/generate/SeededRandom", "<init>", "(J)V"⟩ : MethodName) (head1 (Jvm.Cond.code (⟨"com/example/knotwork/knotwork/generate/SeededRandom", "<init>", "(J)V"⟩ : MethodName) prog_34_method_1_code 3 none :: ws) ({ frames := 1, cells := 0, slots := 0, locals := 12 } : Room)) (fun a U => a = #[(.ref o0), (.long q0)] ∧ Z.Warmed39 U.vm ∧ U.heap = h0) (fun _ _ _ _ _ => True) (fun _ U o U' => ∃ v L, o = .returned v ∧ Q2 Z o0 q0 u0 h0 n0 v U'.heap L ∧ FrameEnd U o U' L ({ frames := 1, cells := 0, slots := 0, locals := 12 } : Room).cells ({ frames := 1, cells := 0, slots := 0, locals := 12 } : Room).slots) := by
  refine MetFree.of_bodySF (plainFor_of_name pn_2) hisR ?_
  intro p e s m args below meth c s₁ Bd hml0 hP hK
  obtain ⟨rfl, hZ, hh⟩ := hP
  have hx := Bd.exec
  have hby := Bd.bytes
  have hml : c.maxLocals = 3 := hml0
  have hown : s.vm.findClass "com/example/knotwork/knotwork/generate/SeededRandom" = some m.cls := findClass_of_methodNamed Bd.named
  have hnm := (name_of_methodNamed Bd.named Bd.method).1
  have X0 : Stand p l e ({ frames := 1, cells := 0, slots := 0, locals := 12 } : Room) s m #[(.ref o0), (.long q0)] below meth c s₁ [] 0 0 := Stand.of_body Bd
  have e0 : s₁.heap = h0 := by rw [← hh, Bd.state]; rfl
  have N0 := Fr.nil n0
  have hlk : meth.locks = false := by first | exact BodyLoose.notSynchronized Bd | exact Body.notSynchronized Bd
  have pre0 : ∀ t, Steps p.tables e below (s₁.setTop (mkF m 0 #[.val (.ref o0), .val (.long q0), .second] [])) t → Steps p.tables e below (s₁.setTop (entryFrame m #[(.ref o0), (.long q0)] 3)) t := fun t k => castTop (ef_2 m o0 q0) k
  obtain ⟨T1, X1, e1, st1⟩ := initO X0 hx hZ hown (hw _ (List.mem_of_getElem? (i := 11) rfl)) (hw _ (List.mem_of_getElem? (i := 12) rfl)) (hw _ (List.mem_of_getElem? (i := 13) rfl)) e0 (g := (mkF m 1 #[.val (.ref o0), .val (.long q0), .second] [(.ref o0)])) rfl (by rw [hml]; rfl) rfl (hb hby d2_1) (by decide) (W := 0) (by show 2 * 0 + _ ≤ _; exact Nat.le_of_eq rfl) (by decide)
  obtain ⟨T2, h2, X2, e2, W2, st2⟩ := putF X1 hx hZ hown (host := "") (Or.inl (hw _ (List.mem_of_getElem? (i := 14) rfl))) Via.refl e1 (F_state_o0) (E_o0) (Or.inl (hw _ (List.mem_of_getElem? (i := 15) rfl))) (hw _ (List.mem_of_getElem? (i := 6) rfl)) (ty := .long) (by decide) rfl rfl (g := (mkF m 6 #[.val (.ref o0), .val (.long q0), .second] [(.long q0), (.ref o0)])) rfl rfl (hb hby d2_6)
  have Fw2 := (F_state_o0).same W2
  have N2 := Fr.snoc X2 N0 g_o0
  have Z2 : n0 ≤ h2.size := Nat.le_trans Z0 (Keep.of_wr W2).1
  have K2 : Keep h0 h2 [o0] := ((Keep.refl h0 [o0])).wr W2 (Or.inl (List.mem_of_getElem? (i := 0) rfl))
  obtain ⟨fs, hr, hrun, hended, hW, hsame⟩ := X2.leave (v := none) (fun _ => rfl) hlk
  refine ⟨_, _, pre0 _ ?_, hrun, hended, _, _, rfl, ?_, ⟨_, rfl⟩, hW, hsame.mono (by decide) (by decide)⟩
  · show Steps p.tables e below (s₁.setTop (mkF m 0 #[.val (.ref o0), .val (.long q0), .second] [])) _
    refine XS.aloadN X0.here hx rfl (hb hby d2_0) rfl rfl ?_
    show Steps p.tables e below (s₁.setTop (mkF m 1 #[.val (.ref o0), .val (.long q0), .second] [(.ref o0)])) _
    refine st1 _ ?_
    show Steps p.tables e below (T1.setTop (mkF m 4 #[.val (.ref o0), .val (.long q0), .second] [])) _
    refine XS.aloadN X1.here hx rfl (hb hby d2_4) rfl rfl ?_
    show Steps p.tables e below (T1.setTop (mkF m 5 #[.val (.ref o0), .val (.long q0), .second] [(.ref o0)])) _
    refine XS.lloadN X1.here hx rfl (hb hby d2_5) rfl ?_
    show Steps p.tables e below (T1.setTop (mkF m 6 #[.val (.ref o0), .val (.long q0), .second] [(.long q0), (.ref o0)])) _
    refine st2 _ ?_
    show Steps p.tables e below (T2.setTop (mkF m 9 #[.val (.ref o0), .val (.long q0), .second] [])) _
    exact X2.returnOut hx Bd.returns (hb hby d2_9) hr
  · show Q2 Z o0 q0 u0 h0 n0 _ T2.heap _
    rw [e2]
    exact ⟨rfl, N2, K2, Fw2⟩
theorem d4_0 : decode prog_27_method_1_code 0 = .ok (.aload_n 0, 1) := by decide +kernel
theorem d4_1 : decode prog_27_method_1_code 1 = .ok (.invokespecial 1, 3) := by decide +kernel
theorem d4_4 : decode prog_27_method_1_code 4 = .ok (.aload_n 0, 1) := by decide +kernel
theorem d4_5 : decode prog_27_method_1_code 5 = .ok (.iload_n 1, 1) := by decide +kernel
theorem d4_6 : decode prog_27_method_1_code 6 = .ok (.putfield 7, 3) := by decide +kernel
theorem d4_9 : decode prog_27_method_1_code 9 = .ok (.aload_n 0, 1) := by decide +kernel
theorem d4_10 : decode prog_27_method_1_code 10 = .ok (.iload_n 1, 1) := by decide +kernel
theorem d4_11 : decode prog_27_method_1_code 11 = .ok (.i2l, 1) := by decide +kernel
theorem d4_12 : decode prog_27_method_1_code 12 = .ok (.ldc2_w 13, 3) := by decide +kernel
theorem d4_15 : decode prog_27_method_1_code 15 = .ok (.ladd, 1) := by decide +kernel
theorem d4_16 : decode prog_27_method_1_code 16 = .ok (.ldc2_w 15, 3) := by decide +kernel
theorem d4_19 : decode prog_27_method_1_code 19 = .ok (.ldiv, 1) := by decide +kernel
theorem d4_20 : decode prog_27_method_1_code 20 = .ok (.l2i, 1) := by decide +kernel
theorem d4_21 : decode prog_27_method_1_code 21 = .ok (.newarray .long, 2) := by decide +kernel
theorem d4_23 : decode prog_27_method_1_code 23 = .ok (.putfield 17, 3) := by decide +kernel
theorem d4_26 : decode prog_27_method_1_code 26 = .ok (.return_, 1) := by decide +kernel
theorem pn_4 : plainName "com/example/knotwork/knotwork/generate/FreeNumbers" = true := by first | (simp [plainName, overriddenIn]; done) | decide +kernel
theorem ef_4 (m : MethodId) (x0 : Addr) (x1 : Int32) : entryFrame m #[(.ref x0), (.int x1)] 2 = mkF m 0 #[.val (.ref x0), .val (.int x1)] [] := by first | (simp [entryFrame, mkF, argsToLocals, Value.category]; done) | rfl
def Q4 (Z : State) (o0 : Addr) (p0 : Int32) (u_bound : Value) (u_taken : Value) (u_takenCount : Value) (h0 : Heap) (n0 : Nat) (v : Option Value) (h : Heap) (L : List Loc) : Prop := v = none ∧ Fr n0 L ∧ ∃ (ta : Addr) (ka : ClassId), n0 ≤ ta ∧ h0.size ≤ ta ∧ o0 ≠ ta ∧ Keep h0 h [o0] ∧ Fld Z h o0 "com/example/knotwork/knotwork/generate/FreeNumbers" "bound" "I" (.int p0) ∧ Fld Z h o0 "com/example/knotwork/knotwork/generate/FreeNumbers" "taken" "[J" (.ref ta) ∧ Fld Z h o0 "com/example/knotwork/knotwork/generate/FreeNumbers" "takenCount" "I" u_takenCount ∧ La Z h ta ka ((((p0.toInt64) + (63 : Int64)) / (64 : Int64)).toInt32) (List.replicate ((((p0.toInt64) + (63 : Int64)) / (64 : Int64)).toInt32).toNatClampNeg 0)
set_option maxRecDepth 65536 in
set_option maxHeartbeats 40000000 in
theorem rm4 (l : Launch) (Z : State) (a0 : Array Value) (hw : ∀ d ∈ tables_1, d.before a0 Z = true) (ws : List Jvm.Cond) (o0 : Addr) (p0 : Int32) (u_bound : Value) (u_taken : Value) (u_takenCount : Value) (h0 : Heap) (n0 : Nat) (Z0 : n0 ≤ h0.size) (E_o0 : Exa Z h0 o0 "com/example/knotwork/knotwork/generate/FreeNumbers") (g_o0 : n0 ≤ o0) (F_bound_o0 : Fld Z h0 o0 "com/example/knotwork/knotwork/generate/FreeNumbers" "bound" "I" u_bound) (F_taken_o0 : Fld Z h0 o0 "com/example/knotwork/knotwork/generate/FreeNumbers" "taken" "[J" u_taken) (F_takenCount_o0 : Fld Z h0 o0 "com/example/knotwork/knotwork/generate/FreeNumbers" "takenCount" "I" u_takenCount) (hng : ¬ ((((p0.toInt64) + (63 : Int64)) / (64 : Int64)).toInt32) < 0) (hcp : ((((p0.toInt64) + (63 : Int64)) / (64 : Int64)).toInt32).toNatClampNeg ≤ 2) :
    MetFree l (⟨"com/example/knotwork/knotwork/generate/FreeNumbers", "<init>", "(I)V"⟩ : MethodName) (head1 (Jvm.Cond.code (⟨"com/example/knotwork/knotwork/generate/FreeNumbers", "<init>", "(I)V"⟩ : MethodName) prog_27_method_1_code 2 none :: ws) ({ frames := 1, cells := 1, slots := 2, locals := 12 } : Room)) (fun a U => a = #[(.ref o0), (.int p0)] ∧ Z.Warmed39 U.vm ∧ U.heap = h0) (fun _ _ _ _ _ => True) (fun _ U o U' => ∃ v L, o = .returned v ∧ Q4 Z o0 p0 u_bound u_taken u_takenCount h0 n0 v U'.heap L ∧ FrameEnd U o U' L ({ frames := 1, cells := 1, slots := 2, locals := 12 } : Room).cells ({ frames := 1, cells := 1, slots := 2, locals := 12 } : Room).slots) := by
  refine MetFree.of_bodySF (plainFor_of_name pn_4) hisR ?_
  intro p e s m args below meth c s₁ Bd hml0 hP hK
  obtain ⟨rfl, hZ, hh⟩ := hP
  have hx := Bd.exec
  have hby := Bd.bytes
  have hml : c.maxLocals = 2 := hml0
  have hown : s.vm.findClass "com/example/knotwork/knotwork/generate/FreeNumbers" = some m.cls := findClass_of_methodNamed Bd.named
  have hnm := (name_of_methodNamed Bd.named Bd.method).1
  have X0 : Stand p l e ({ frames := 1, cells := 1, slots := 2, locals := 12 } : Room) s m #[(.ref o0), (.int p0)] below meth c s₁ [] 0 0 := Stand.of_body Bd
  have e0 : s₁.heap = h0 := by rw [← hh, Bd.state]; rfl
  have N0 := Fr.nil n0
  have hlk : meth.locks = false := by first | exact BodyLoose.notSynchronized Bd | exact Body.notSynchronized Bd
  have pre0 : ∀ t, Steps p.tables e below (s₁.setTop (mkF m 0 #[.val (.ref o0), .val (.int p0)] [])) t → Steps p.tables e below (s₁.setTop (entryFrame m #[(.ref o0), (.int p0)] 2)) t := fun t k => castTop (ef_4 m o0 p0) k
  obtain ⟨T1, X1, e1, st1⟩ := initO X0 hx hZ hown (hw _ (List.mem_of_getElem? (i := 22) rfl)) (hw _ (List.mem_of_getElem? (i := 12) rfl)) (hw _ (List.mem_of_getElem? (i := 13) rfl)) e0 (g := (mkF m 1 #[.val (.ref o0), .val (.int p0)] [(.ref o0)])) rfl (by rw [hml]; rfl) rfl (hb hby d4_1) (by decide) (W := 0) (by show 2 * 0 + _ ≤ _; exact Nat.le_of_eq rfl) (by decide)
  obtain ⟨T2, h2, X2, e2, W2, st2⟩ := putF X1 hx hZ hown (host := "") (Or.inl (hw _ (List.mem_of_getElem? (i := 23) rfl))) Via.refl e1 (F_bound_o0) (E_o0) (Or.inr ⟨(hw _ (List.mem_of_getElem? (i := 24) rfl)), rfl, hnm⟩) (hw _ (List.mem_of_getElem? (i := 17) rfl)) (ty := .int) (by decide) rfl rfl (g := (mkF m 6 #[.val (.ref o0), .val (.int p0)] [(.int p0), (.ref o0)])) rfl rfl (hb hby d4_6)
  have Fw2 := (F_bound_o0).same W2
  have N2 := Fr.snoc X2 N0 g_o0
  have Z2 : n0 ≤ h2.size := Nat.le_trans Z0 (Keep.of_wr W2).1
  have K2 : Keep h0 h2 [o0] := ((Keep.refl h0 [o0])).wr W2 (Or.inl (List.mem_of_getElem? (i := 0) rfl))
  obtain ⟨T3, h3, k3, X3, e3, E3, A3, st3⟩ := newP X2 hx hZ (hw _ (List.mem_of_getElem? (i := 27) rfl)) e2 (g := (mkF m 21 #[.val (.ref o0), .val (.int p0)] [(.int ((((p0.toInt64) + (63 : Int64)) / (64 : Int64)).toInt32)), (.ref o0)])) rfl (hb hby d4_21) rfl hng (cap := 2) hcp (by decide) (by decide) (by decide)
  obtain ⟨b3, g3⟩ : ∃ z, z = h2.size := ⟨_, rfl⟩
  rw [← g3] at A3 st3
  have g_b3 : n0 ≤ b3 := Nat.le_trans Z2 (Nat.le_of_eq g3.symm)
  have sz_b3 : h0.size ≤ b3 := Nat.le_trans (K2).1 (Nat.le_of_eq g3.symm)
  have ne_o0_b3 : o0 ≠ b3 := Nat.ne_of_lt (Nat.lt_of_lt_of_le ((E_o0.wr W2)).lt (Nat.le_of_eq g3.symm))
  have Z3 : n0 ≤ h3.size := Nat.le_trans Z2 E3.1
  have K3 : Keep h0 h3 [o0] := (K2).ext E3
  have V_b3 := La.new A3 hng
  obtain ⟨T4, h4, X4, e4, W4, st4⟩ := putF X3 hx hZ hown (host := "") (Or.inl (hw _ (List.mem_of_getElem? (i := 28) rfl))) Via.refl e3 (((F_taken_o0.other W2 (Or.inr (slot_ne (Or.inr (hw _ (List.mem_of_getElem? (i := 29) rfl))) (Or.inr (hw _ (List.mem_of_getElem? (i := 24) rfl))) (by decide) (t := (.array .long)) (t' := .int) (by decide) (by decide)))).ext E3)) (((E_o0.wr W2).ext E3)) (Or.inr ⟨(hw _ (List.mem_of_getElem? (i := 29) rfl)), rfl, hnm⟩) (hw _ (List.mem_of_getElem? (i := 17) rfl)) (ty := (.array .long)) (by decide) rfl rfl (g := (mkF m 23 #[.val (.ref o0), .val (.int p0)] [(.ref b3), (.ref o0)])) rfl rfl (hb hby d4_23)
  have Fw4 := (((F_taken_o0.other W2 (Or.inr (slot_ne (Or.inr (hw _ (List.mem_of_getElem? (i := 29) rfl))) (Or.inr (hw _ (List.mem_of_getElem? (i := 24) rfl))) (by decide) (t := (.array .long)) (t' := .int) (by decide) (by decide)))).ext E3)).same W4
  have N4 := Fr.snoc X4 N2 g_o0
  have Z4 : n0 ≤ h4.size := Nat.le_trans Z3 (Keep.of_wr W4).1
  have K4 : Keep h0 h4 [o0] := (K3).wr W4 (Or.inl (List.mem_of_getElem? (i := 0) rfl))
  obtain ⟨fs, hr, hrun, hended, hW, hsame⟩ := X4.leave (v := none) (fun _ => rfl) hlk
  refine ⟨_, _, pre0 _ ?_, hrun, hended, _, _, rfl, ?_, ⟨_, rfl⟩, hW, hsame.mono (by decide) (by decide)⟩
  · show Steps p.tables e below (s₁.setTop (mkF m 0 #[.val (.ref o0), .val (.int p0)] [])) _
    refine XS.aloadN X0.here hx rfl (hb hby d4_0) rfl rfl ?_
    show Steps p.tables e below (s₁.setTop (mkF m 1 #[.val (.ref o0), .val (.int p0)] [(.ref o0)])) _
    refine st1 _ ?_
    show Steps p.tables e below (T1.setTop (mkF m 4 #[.val (.ref o0), .val (.int p0)] [])) _
    refine XS.aloadN X1.here hx rfl (hb hby d4_4) rfl rfl ?_
    show Steps p.tables e below (T1.setTop (mkF m 5 #[.val (.ref o0), .val (.int p0)] [(.ref o0)])) _
    refine XS.iloadN X1.here hx rfl (hb hby d4_5) rfl ?_
    show Steps p.tables e below (T1.setTop (mkF m 6 #[.val (.ref o0), .val (.int p0)] [(.int p0), (.ref o0)])) _
    refine st2 _ ?_
    show Steps p.tables e below (T2.setTop (mkF m 9 #[.val (.ref o0), .val (.int p0)] [])) _
    refine XS.aloadN X2.here hx rfl (hb hby d4_9) rfl rfl ?_
    show Steps p.tables e below (T2.setTop (mkF m 10 #[.val (.ref o0), .val (.int p0)] [(.ref o0)])) _
    refine XS.iloadN X2.here hx rfl (hb hby d4_10) rfl ?_
    show Steps p.tables e below (T2.setTop (mkF m 11 #[.val (.ref o0), .val (.int p0)] [(.int p0), (.ref o0)])) _
    refine XS.i2l X2.here hx rfl (hb hby d4_11) rfl ?_
    show Steps p.tables e below (T2.setTop (mkF m 12 #[.val (.ref o0), .val (.int p0)] [(.long (p0.toInt64)), (.ref o0)])) _
    refine X2.ldc2Long hx hown (mvT hZ (hw _ (List.mem_of_getElem? (i := 25) rfl))) (g := (mkF m 12 #[.val (.ref o0), .val (.int p0)] [(.long (p0.toInt64)), (.ref o0)])) rfl (hb hby d4_12) _ ?_
    show Steps p.tables e below (T2.setTop (mkF m 15 #[.val (.ref o0), .val (.int p0)] [(.long (63 : Int64)), (.long (p0.toInt64)), (.ref o0)])) _
    refine XS.ladd X2.here hx rfl (hb hby d4_15) rfl ?_
    show Steps p.tables e below (T2.setTop (mkF m 16 #[.val (.ref o0), .val (.int p0)] [(.long ((p0.toInt64) + (63 : Int64))), (.ref o0)])) _
    refine X2.ldc2Long hx hown (mvT hZ (hw _ (List.mem_of_getElem? (i := 26) rfl))) (g := (mkF m 16 #[.val (.ref o0), .val (.int p0)] [(.long ((p0.toInt64) + (63 : Int64))), (.ref o0)])) rfl (hb hby d4_16) _ ?_
    show Steps p.tables e below (T2.setTop (mkF m 19 #[.val (.ref o0), .val (.int p0)] [(.long (64 : Int64)), (.long ((p0.toInt64) + (63 : Int64))), (.ref o0)])) _
    refine XS.ldiv X2.here hx rfl (hb hby d4_19) rfl (by decide) ?_
    show Steps p.tables e below (T2.setTop (mkF m 20 #[.val (.ref o0), .val (.int p0)] [(.long (((p0.toInt64) + (63 : Int64)) / (64 : Int64))), (.ref o0)])) _
    refine XS.l2i X2.here hx rfl (hb hby d4_20) rfl ?_
    show Steps p.tables e below (T2.setTop (mkF m 21 #[.val (.ref o0), .val (.int p0)] [(.int ((((p0.toInt64) + (63 : Int64)) / (64 : Int64)).toInt32)), (.ref o0)])) _
    refine st3 _ ?_
    show Steps p.tables e below (T3.setTop (mkF m 23 #[.val (.ref o0), .val (.int p0)] [(.ref b3), (.ref o0)])) _
    refine st4 _ ?_
    show Steps p.tables e below (T4.setTop (mkF m 26 #[.val (.ref o0), .val (.int p0)] [])) _
    exact X4.returnOut hx Bd.returns (hb hby d4_26) hr
  · show Q4 Z o0 p0 u_bound u_taken u_takenCount h0 n0 _ T4.heap _
    rw [e4]
    exact ⟨rfl, N4, b3, k3, g_b3, sz_b3, ne_o0_b3, K4, ((Fw2.ext E3).other W4 (Or.inr (slot_ne (Or.inr (hw _ (List.mem_of_getElem? (i := 24) rfl))) (Or.inr (hw _ (List.mem_of_getElem? (i := 29) rfl))) (by decide) (t := .int) (t' := (.array .long)) (by decide) (by decide)))), Fw4, (((F_takenCount_o0.other W2 (Or.inr (slot_ne (Or.inl (hw _ (List.mem_of_getElem? (i := 40) rfl))) (Or.inr (hw _ (List.mem_of_getElem? (i := 24) rfl))) (by decide) (t := .int) (t' := .int) (by decide) (by decide)))).ext E3).other W4 (Or.inr (slot_ne (Or.inl (hw _ (List.mem_of_getElem? (i := 40) rfl))) (Or.inr (hw _ (List.mem_of_getElem? (i := 29) rfl))) (by decide) (t := .int) (t' := (.array .long)) (by decide) (by decide)))), (V_b3.other W4 (Ne.symm ne_o0_b3))⟩
theorem own_keep_nil {h h' : Heap} (ws : List Addr) (K : Keep h h' []) : Keep h h' ws := (Keep.refl h ws).trans K (fun x hx => nomatch hx)
theorem own_keep_tr {h h' h'' : Heap} {ws : List Addr} (K : Keep h h' ws) (K' : Keep h' h'' ws) : Keep h h'' ws := K.trans K' (fun x hx => Or.inl hx)
theorem own_ofNat_toInt {n : Nat} (h : n < 2147483648) : (Int32.ofNat n).toInt = n := by rw [Int32.toInt_ofNat_of_lt (by omega)]
theorem own_ofNat_clamp {n : Nat} (h : n < 2147483648) : (Int32.ofNat n).toNatClampNeg = n := by
  simp only [Int32.toNatClampNeg, own_ofNat_toInt h]; rfl
theorem own_lt_of {i n : Nat} (h : i < n) (hn : n < 2147483648) : Int32.ofNat i < Int32.ofNat n := by
  rw [Int32.lt_iff_toInt_lt, own_ofNat_toInt (by omega), own_ofNat_toInt hn]; omega
theorem own_nlt_of {i n : Nat} (h : n ≤ i) (hn : i < 2147483648) : ¬ Int32.ofNat i < Int32.ofNat n := by
  rw [Int32.lt_iff_toInt_lt, own_ofNat_toInt (by omega), own_ofNat_toInt (by omega)]; omega
theorem own_nneg {i : Nat} (h : i < 2147483648) : ¬ Int32.ofNat i < (0 : Int32) := own_nlt_of (n := 0) (Nat.zero_le _) h
theorem own_succ {i : Nat} (h : i < 2147483647) : Int32.ofNat i + 1 = Int32.ofNat (i + 1) := by
  apply Int32.toInt_inj.mp
  rw [Int32.toInt_add, own_ofNat_toInt (by omega), own_ofNat_toInt (by omega)]
  show Int.bmod (i + 1) _ = _
  rw [Int.bmod_eq_of_le (by omega) (by omega)]; rfl
theorem own_ixin {n : Nat} {nl : Int32} (h : n < 128) (hl : n / 64 < nl.toNatClampNeg) : ¬ (((Int32.ofNat n).toUInt32 >>> ((6 : Int32) &&& 31).toUInt32).toInt32) < (0 : Int32) ∧ (((Int32.ofNat n).toUInt32 >>> ((6 : Int32) &&& 31).toUInt32).toInt32) < nl := by
  have e : (((Int32.ofNat n).toUInt32 >>> ((6 : Int32) &&& 31).toUInt32).toInt32) = Int32.ofNat (n / 64) := (own_idx ⟨n, h⟩).1
  rw [e]
  refine ⟨own_nneg (by omega), ?_⟩
  rw [Int32.lt_iff_toInt_lt, own_ofNat_toInt (by omega)]
  simp only [Int32.toNatClampNeg] at hl; omega

theorem d7_2 : decode prog_27_method_3_code 2 = .ok (.iload_n 3, 1) := by decide +kernel
theorem d7_3 : decode prog_27_method_3_code 3 = .ok (.iload_n 2, 1) := by decide +kernel
theorem d7_4 : decode prog_27_method_3_code 4 = .ok (.if_icmp .ge 54, 3) := by decide +kernel
theorem d7_7 : decode prog_27_method_3_code 7 = .ok (.aload_n 1, 1) := by decide +kernel
theorem d7_8 : decode prog_27_method_3_code 8 = .ok (.iload_n 3, 1) := by decide +kernel
theorem d7_9 : decode prog_27_method_3_code 9 = .ok (.iaload, 1) := by decide +kernel
theorem d7_10 : decode prog_27_method_3_code 10 = .ok (.istore 4, 2) := by decide +kernel
theorem d7_12 : decode prog_27_method_3_code 12 = .ok (.aload_n 0, 1) := by decide +kernel
theorem d7_13 : decode prog_27_method_3_code 13 = .ok (.iload 4, 2) := by decide +kernel
theorem d7_15 : decode prog_27_method_3_code 15 = .ok (.invokevirtual 21, 3) := by decide +kernel
theorem d7_18 : decode prog_27_method_3_code 18 = .ok (.ifCond .eq 34, 3) := by decide +kernel
theorem d7_21 : decode prog_27_method_3_code 21 = .ok (.aload_n 0, 1) := by decide +kernel
theorem d7_22 : decode prog_27_method_3_code 22 = .ok (.getfield 17, 3) := by decide +kernel
theorem d7_25 : decode prog_27_method_3_code 25 = .ok (.iload 4, 2) := by decide +kernel
theorem d7_27 : decode prog_27_method_3_code 27 = .ok (.bipush 6, 2) := by decide +kernel
theorem d7_29 : decode prog_27_method_3_code 29 = .ok (.iushr, 1) := by decide +kernel
theorem d7_30 : decode prog_27_method_3_code 30 = .ok (.dup2, 1) := by decide +kernel
theorem d7_31 : decode prog_27_method_3_code 31 = .ok (.laload, 1) := by decide +kernel
theorem d7_32 : decode prog_27_method_3_code 32 = .ok (.lconst 1, 1) := by decide +kernel
theorem d7_33 : decode prog_27_method_3_code 33 = .ok (.iload 4, 2) := by decide +kernel
theorem d7_35 : decode prog_27_method_3_code 35 = .ok (.lshl, 1) := by decide +kernel
theorem d7_36 : decode prog_27_method_3_code 36 = .ok (.ldc2_w 28, 3) := by decide +kernel
theorem d7_39 : decode prog_27_method_3_code 39 = .ok (.lxor, 1) := by decide +kernel
theorem d7_40 : decode prog_27_method_3_code 40 = .ok (.land, 1) := by decide +kernel
theorem d7_41 : decode prog_27_method_3_code 41 = .ok (.lastore, 1) := by decide +kernel
theorem d7_42 : decode prog_27_method_3_code 42 = .ok (.aload_n 0, 1) := by decide +kernel
theorem d7_43 : decode prog_27_method_3_code 43 = .ok (.dup, 1) := by decide +kernel
theorem d7_44 : decode prog_27_method_3_code 44 = .ok (.getfield 25, 3) := by decide +kernel
theorem d7_47 : decode prog_27_method_3_code 47 = .ok (.iconst 1, 1) := by decide +kernel
theorem d7_48 : decode prog_27_method_3_code 48 = .ok (.isub, 1) := by decide +kernel
theorem d7_49 : decode prog_27_method_3_code 49 = .ok (.putfield 25, 3) := by decide +kernel
theorem d7_52 : decode prog_27_method_3_code 52 = .ok (.iinc 3 1, 3) := by decide +kernel
theorem d7_55 : decode prog_27_method_3_code 55 = .ok (.goto (-53), 3) := by decide +kernel
def v7_1 (ts : List Int64) (xs : List Int32) (i3 : Int32) : Int64 := (getJ ts (((getI xs i3).toUInt32 >>> ((6 : Int32) &&& 31).toUInt32).toInt32))
def gsg7t_takenCount (i3 : Int32) (tc : Int32) (ts : List Int64) (xs : List Int32) : Int32 := (if (f6 (getI xs i3) ts) = (0 : Int32) then tc else (tc - (1 : Int32)))
def gsg7t_ta (i3 : Int32) (ts : List Int64) (xs : List Int32) : List Int64 := (if (f6 (getI xs i3) ts) = (0 : Int32) then ts else (setJ ts (((getI xs i3).toUInt32 >>> ((6 : Int32) &&& 31).toUInt32).toInt32) ((v7_1 ts xs i3) &&& (((1 : Int64) <<< ((getI xs i3) &&& 0x3f).toInt64) ^^^ (-1 : Int64)))))
set_option maxRecDepth 65536 in
set_option maxHeartbeats 40000000 in
theorem sg7t {p : Program} {l : Launch} {e : Env} {s : State} {m : MethodId} {args : Array Value} {below : List Frame} {meth : Method} {c : Code} {T0 : State} {locs : List Loc} {cells slots : Nat} {Z : State} {a0 : Array Value} {h0 : Heap} {n0 : Nat} (o0 : Addr) (o1 : Addr) (p0 : Int32) (i3 : Int32) (s4 : Slot) (nl : Int32) (nn : Int32) (ta : Addr) (tc : Int32) (bd : Int32) (ka : ClassId) (ts : List Int64) (kx : ClassId) (xs : List Int32)
    (X0 : Stand p l e ({ frames := 1, cells := 0, slots := 0, locals := 13 } : Room) s m args below meth c T0 locs cells slots) (hx : p.tables.exec = Jvm.exec) (hZ : Z.Warmed39 s.vm) (hw : ∀ d ∈ tables_1, d.before a0 Z = true) (hby : c.code = prog_27_method_3_code) (hml : c.maxLocals = 5) (hown : s.vm.findClass "com/example/knotwork/knotwork/generate/FreeNumbers" = some m.cls) (e0 : T0.heap = h0) (Z0 : n0 ≤ h0.size) (N0 : Fr n0 locs) (hcc : cells ≤ ({ frames := 1, cells := 0, slots := 0, locals := 13 } : Room).cells) (hss : slots ≤ ({ frames := 1, cells := 0, slots := 0, locals := 13 } : Room).slots) (E_o0 : Exa Z h0 o0 "com/example/knotwork/knotwork/generate/FreeNumbers") (g_o0 : n0 ≤ o0) (F_taken_o0 : Fld Z h0 o0 "com/example/knotwork/knotwork/generate/FreeNumbers" "taken" "[J" (.ref ta)) (F_takenCount_o0 : Fld Z h0 o0 "com/example/knotwork/knotwork/generate/FreeNumbers" "takenCount" "I" (.int tc)) (F_bound_o0 : Fld Z h0 o0 "com/example/knotwork/knotwork/generate/FreeNumbers" "bound" "I" (.int bd)) (V_ta : La Z h0 ta ka nl ts) (g_ta : n0 ≤ ta) (V_o1 : Ia Z h0 o1 kx .int nn xs) (ne_o0_ta : o0 ≠ ta) (ne_o0_o1 : o0 ≠ o1) (ne_ta_o1 : ta ≠ o1) (hlt : i3 < p0) (hnb : ¬ i3 < (0 : Int32) ∧ i3 < nn) (hix : ¬ (((getI xs i3).toUInt32 >>> ((6 : Int32) &&& 31).toUInt32).toInt32) < (0 : Int32) ∧ (((getI xs i3).toUInt32 >>> ((6 : Int32) &&& 31).toUInt32).toInt32) < nl) (h4 : One s4) :
    ∃ (T' : State) (locs' : List Loc), Stand p l e ({ frames := 1, cells := 0, slots := 0, locals := 13 } : Room) s m args below meth c T' locs' cells slots ∧ Fr n0 locs' ∧ Keep h0 T'.heap [o0, ta] ∧ Fld Z T'.heap o0 "com/example/knotwork/knotwork/generate/FreeNumbers" "taken" "[J" (.ref ta) ∧ Fld Z T'.heap o0 "com/example/knotwork/knotwork/generate/FreeNumbers" "takenCount" "I" (.int (gsg7t_takenCount i3 tc ts xs)) ∧ Fld Z T'.heap o0 "com/example/knotwork/knotwork/generate/FreeNumbers" "bound" "I" (.int bd) ∧ La Z T'.heap ta ka nl (gsg7t_ta i3 ts xs) ∧ Ia Z T'.heap o1 kx .int nn xs ∧ ∀ t, Steps p.tables e below (T'.setTop (mkF m 2 #[.val (.ref o0), .val (.ref o1), .val (.int p0), .val (.int (i3 + (1 : Int32))), .val (.int (getI xs i3))] [])) t → Steps p.tables e below (T0.setTop (mkF m 2 #[.val (.ref o0), .val (.ref o1), .val (.int p0), .val (.int i3), s4] [])) t := by
  have pre0 : ∀ t, Steps p.tables e below (T0.setTop (mkF m 2 #[.val (.ref o0), .val (.ref o1), .val (.int p0), .val (.int i3), s4] [])) t → Steps p.tables e below (T0.setTop (mkF m 2 #[.val (.ref o0), .val (.ref o1), .val (.int p0), .val (.int i3), s4] [])) t := fun t k => k
  obtain ⟨cl1, Ar1, hin1, hat1⟩ := Ia.get (V_o1) (j := i3) hnb
  obtain ⟨cq2, q2, q2'⟩ := (E_o0).cell
  obtain ⟨_, _, ⟨T2, L2, k2, n2⟩, -, X2, ⟨Lc2, hQ2, l2, y2, z2⟩, st2⟩ := X0.privateBack hx (y := (⟨"com/example/knotwork/knotwork/generate/FreeNumbers", "isTaken", "(I)Z"⟩ : MethodName)) hown (mvT hZ (hw _ (List.mem_of_getElem? (i := 35) rfl))) (mvT hZ (hw _ (List.mem_of_getElem? (i := 36) rfl))) (own_sel (mvT hZ (hw _ (List.mem_of_getElem? (i := 17) rfl))) (Cond.privateMethod_at (mvP hZ (hw _ (List.mem_of_getElem? (i := 37) rfl)) (args := #[]))) (mvT hZ (hw _ (List.mem_of_getElem? (i := 36) rfl))) (by decide)) (Cond.privateMethod_at (mvP hZ (hw _ (List.mem_of_getElem? (i := 37) rfl)) (args := #[]))) (mvT hZ (hw _ (List.mem_of_getElem? (i := 38) rfl))) (by decide) (backOf (W := 0) (rm6 l Z a0 hw [] o0 (getI xs i3) nl ta ka ts h0 n0 Z0 (E_o0) (F_taken_o0) (V_ta) hix) hZ (hw _ (List.mem_of_getElem? (i := 38) rfl)) (hw _ (List.mem_of_getElem? (i := 18) rfl)) (by decide) (by decide)) (g := (mkF m 15 #[.val (.ref o0), .val (.ref o1), .val (.int p0), .val (.int i3), .val (.int (getI xs i3))] [(.int (getI xs i3)), (.ref o0)])) rfl (by rw [hml]; rfl) (Steps.refl _) (a := o0) (by first | exact q2 | (rw [e0]; exact q2)) q2' (argsL := [(.int (getI xs i3))]) (rest := []) (lenOf pd_1 rfl) rfl (by show 2 * 0 + _ ≤ _; exact Nat.le_of_eq rfl) (hb hby d7_15) (fun _ _ => ⟨rfl, e0, hcc, hss⟩)
  dsimp only [Pt.U, Pt.locs, Pt.cells, Pt.slots] at X2 l2 y2 z2 st2 hQ2
  rw [l2, y2, z2] at X2
  obtain ⟨rfl, N2q, e2⟩ := hQ2
  have N2 := Fr.app N0 N2q
  have pre3 : ∀ t, Steps p.tables e below (T2.setTop (mkF m 18 #[.val (.ref o0), .val (.ref o1), .val (.int p0), .val (.int i3), .val (.int (getI xs i3))] [(.int (f6 (getI xs i3) ts))])) t → Steps p.tables e below (T0.setTop (mkF m 2 #[.val (.ref o0), .val (.ref o1), .val (.int p0), .val (.int i3), s4] [])) t := fun t k => pre0 t (by
    show Steps p.tables e below (T0.setTop (mkF m 2 #[.val (.ref o0), .val (.ref o1), .val (.int p0), .val (.int i3), s4] [])) _
    refine XS.iloadN X0.here hx rfl (hb hby d7_2) rfl ?_
    show Steps p.tables e below (T0.setTop (mkF m 3 #[.val (.ref o0), .val (.ref o1), .val (.int p0), .val (.int i3), s4] [(.int i3)])) _
    refine XS.iloadN X0.here hx rfl (hb hby d7_3) rfl ?_
    show Steps p.tables e below (T0.setTop (mkF m 4 #[.val (.ref o0), .val (.ref o1), .val (.int p0), .val (.int i3), s4] [(.int p0), (.int i3)])) _
    refine XS.icmpNo X0.here hx rfl (hb hby d7_4) rfl (tlt (hlt : i3 < p0)).2.1 ?_
    show Steps p.tables e below (T0.setTop (mkF m 7 #[.val (.ref o0), .val (.ref o1), .val (.int p0), .val (.int i3), s4] [])) _
    refine XS.aloadN X0.here hx rfl (hb hby d7_7) rfl rfl ?_
    show Steps p.tables e below (T0.setTop (mkF m 8 #[.val (.ref o0), .val (.ref o1), .val (.int p0), .val (.int i3), s4] [(.ref o1)])) _
    refine XS.iloadN X0.here hx rfl (hb hby d7_8) rfl ?_
    show Steps p.tables e below (T0.setTop (mkF m 9 #[.val (.ref o0), .val (.ref o1), .val (.int p0), .val (.int i3), s4] [(.int i3), (.ref o1)])) _
    refine X0.iaload hx (j := i3) (v := (.int (getI xs i3))) (by rw [e0]; exact Ar1.1) (State.isArrayOf_alike hZ.alike Ar1.2.1) Ar1.2.2 hin1 hat1 (g := (mkF m 9 #[.val (.ref o0), .val (.ref o1), .val (.int p0), .val (.int i3), s4] [(.int i3), (.ref o1)])) rfl rfl (hb hby d7_9) _ ?_
    show Steps p.tables e below (T0.setTop (mkF m 10 #[.val (.ref o0), .val (.ref o1), .val (.int p0), .val (.int i3), s4] [(.int (getI xs i3))])) _
    refine XS.istoreS X0.here hx rfl (hb hby d7_10) rfl rfl h4 ?_
    show Steps p.tables e below (T0.setTop (mkF m 12 #[.val (.ref o0), .val (.ref o1), .val (.int p0), .val (.int i3), .val (.int (getI xs i3))] [])) _
    refine XS.aloadN X0.here hx rfl (hb hby d7_12) rfl rfl ?_
    show Steps p.tables e below (T0.setTop (mkF m 13 #[.val (.ref o0), .val (.ref o1), .val (.int p0), .val (.int i3), .val (.int (getI xs i3))] [(.ref o0)])) _
    refine XS.iload X0.here hx rfl (hb hby d7_13) rfl ?_
    show Steps p.tables e below (T0.setTop (mkF m 15 #[.val (.ref o0), .val (.ref o1), .val (.int p0), .val (.int i3), .val (.int (getI xs i3))] [(.int (getI xs i3)), (.ref o0)])) _
    refine st2.trans ?_
    show Steps p.tables e below (T2.setTop (mkF m 18 #[.val (.ref o0), .val (.ref o1), .val (.int p0), .val (.int i3), .val (.int (getI xs i3))] [(.int (f6 (getI xs i3) ts))])) _
    exact k)
  by_cases hc18_4 : (f6 (getI xs i3) ts) = (0 : Int32)
  · have hg5 : (gsg7t_takenCount i3 tc ts xs) = tc := by simp only [gsg7t_takenCount, if_pos hc18_4]
    have hg6 : (gsg7t_ta i3 ts xs) = ts := by simp only [gsg7t_ta, if_pos hc18_4]
    refine ⟨T2, _, X2, N2, (by rw [e2]; exact (Keep.refl h0 [o0, ta])), (by rw [e2]; exact F_taken_o0), (by rw [e2, hg5]; exact F_takenCount_o0), (by rw [e2]; exact F_bound_o0), (by rw [e2, hg6]; exact V_ta), (by rw [e2]; exact V_o1), fun t k => pre3 t ?_⟩
    show Steps p.tables e below (T2.setTop (mkF m 18 #[.val (.ref o0), .val (.ref o1), .val (.int p0), .val (.int i3), .val (.int (getI xs i3))] [(.int (f6 (getI xs i3) ts))])) _
    refine XS.ifYes X2.here hx rfl (pc0 := 18) (pc' := 52) rfl (hb hby d7_18) rfl ((if0 _ _).trans (teq hc18_4).1) (by decide) (by decide) ?_
    show Steps p.tables e below (T2.setTop (mkF m 52 #[.val (.ref o0), .val (.ref o1), .val (.int p0), .val (.int i3), .val (.int (getI xs i3))] [])) _
    refine XS.iinc X2.here hx rfl (hb hby d7_52) rfl (l' := #[.val (.ref o0), .val (.ref o1), .val (.int p0), .val (.int (i3 + (1 : Int32))), .val (.int (getI xs i3))]) rfl ?_
    show Steps p.tables e below (T2.setTop (mkF m 55 #[.val (.ref o0), .val (.ref o1), .val (.int p0), .val (.int (i3 + (1 : Int32))), .val (.int (getI xs i3))] [])) _
    refine XS.goto X2.here hx rfl (pc0 := 55) (pc' := 2) rfl (hb hby d7_55) (by decide) (by decide) ?_
    show Steps p.tables e below (T2.setTop (mkF m 2 #[.val (.ref o0), .val (.ref o1), .val (.int p0), .val (.int (i3 + (1 : Int32))), .val (.int (getI xs i3))] [])) _
    exact k
  · obtain ⟨T7, X7, e7, st7⟩ := getF X2 hx hZ hown (host := "") (Or.inl (hw _ (List.mem_of_getElem? (i := 28) rfl))) Via.refl e2 (F_taken_o0) (g := (mkF m 22 #[.val (.ref o0), .val (.ref o1), .val (.int p0), .val (.int i3), .val (.int (getI xs i3))] [(.ref o0)])) rfl rfl (hb hby d7_22)
    obtain ⟨cl8, Ar8, hin8, hat8⟩ := La.get (V_ta) (j := (((getI xs i3).toUInt32 >>> ((6 : Int32) &&& 31).toUInt32).toInt32)) hix
    obtain ⟨cl9, Ar9, hin9, hat9⟩ := La.get (V_ta) (j := (((getI xs i3).toUInt32 >>> ((6 : Int32) &&& 31).toUInt32).toInt32)) hix
    obtain ⟨T10, h10, X10, e10, W10, st10⟩ := stJ X7 hx hZ e7 Ar9 (j := (((getI xs i3).toUInt32 >>> ((6 : Int32) &&& 31).toUInt32).toInt32)) hin9 (g := (mkF m 41 #[.val (.ref o0), .val (.ref o1), .val (.int p0), .val (.int i3), .val (.int (getI xs i3))] [(.long ((v7_1 ts xs i3) &&& (((1 : Int64) <<< ((getI xs i3) &&& 0x3f).toInt64) ^^^ (-1 : Int64)))), (.int (((getI xs i3).toUInt32 >>> ((6 : Int32) &&& 31).toUInt32).toInt32)), (.ref ta)])) rfl rfl (hb hby d7_41)
    have Vw10 := La.set (V_ta) (j := (((getI xs i3).toUInt32 >>> ((6 : Int32) &&& 31).toUInt32).toInt32)) (x := ((v7_1 ts xs i3) &&& (((1 : Int64) <<< ((getI xs i3) &&& 0x3f).toInt64) ^^^ (-1 : Int64)))) hix  W10
    have N10 := Fr.snoc X10 N2 g_ta
    have Z10 : n0 ≤ h10.size := Nat.le_trans Z0 (Keep.of_wr W10).1
    have K10 : Keep h0 h10 [o0, ta] := ((Keep.refl h0 [o0, ta])).wr W10 (Or.inl (List.mem_of_getElem? (i := 1) rfl))
    obtain ⟨T11, X11, e11, st11⟩ := getF X10 hx hZ hown (host := "") (Or.inl (hw _ (List.mem_of_getElem? (i := 39) rfl))) Via.refl e10 ((F_takenCount_o0.other W10 (Or.inl ne_o0_ta))) (g := (mkF m 44 #[.val (.ref o0), .val (.ref o1), .val (.int p0), .val (.int i3), .val (.int (getI xs i3))] [(.ref o0), (.ref o0)])) rfl rfl (hb hby d7_44)
    obtain ⟨T12, h12, X12, e12, W12, st12⟩ := putF X11 hx hZ hown (host := "") (Or.inl (hw _ (List.mem_of_getElem? (i := 39) rfl))) Via.refl e11 ((F_takenCount_o0.other W10 (Or.inl ne_o0_ta))) ((E_o0.wr W10)) (Or.inl (hw _ (List.mem_of_getElem? (i := 40) rfl))) (hw _ (List.mem_of_getElem? (i := 17) rfl)) (ty := .int) (by decide) rfl rfl (g := (mkF m 49 #[.val (.ref o0), .val (.ref o1), .val (.int p0), .val (.int i3), .val (.int (getI xs i3))] [(.int (tc - (1 : Int32))), (.ref o0)])) rfl rfl (hb hby d7_49)
    have Fw12 := ((F_takenCount_o0.other W10 (Or.inl ne_o0_ta))).same W12
    have N12 := Fr.snoc X12 N10 g_o0
    have Z12 : n0 ≤ h12.size := Nat.le_trans Z10 (Keep.of_wr W12).1
    have K12 : Keep h0 h12 [o0, ta] := (K10).wr W12 (Or.inl (List.mem_of_getElem? (i := 0) rfl))
    have hg13 : (gsg7t_takenCount i3 tc ts xs) = (tc - (1 : Int32)) := by simp only [gsg7t_takenCount, if_neg hc18_4]
    have hg14 : (gsg7t_ta i3 ts xs) = (setJ ts (((getI xs i3).toUInt32 >>> ((6 : Int32) &&& 31).toUInt32).toInt32) ((v7_1 ts xs i3) &&& (((1 : Int64) <<< ((getI xs i3) &&& 0x3f).toInt64) ^^^ (-1 : Int64)))) := by simp only [gsg7t_ta, if_neg hc18_4]
    refine ⟨T12, _, X12, N12, (by rw [e12]; exact K12), (by rw [e12]; exact ((F_taken_o0.other W10 (Or.inl ne_o0_ta)).other W12 (Or.inr (slot_ne (Or.inr (hw _ (List.mem_of_getElem? (i := 29) rfl))) (Or.inl (hw _ (List.mem_of_getElem? (i := 40) rfl))) (by decide) (t := (.array .long)) (t' := .int) (by decide) (by decide))))), (by rw [e12, hg13]; exact Fw12), (by rw [e12]; exact ((F_bound_o0.other W10 (Or.inl ne_o0_ta)).other W12 (Or.inr (slot_ne (Or.inr (hw _ (List.mem_of_getElem? (i := 24) rfl))) (Or.inl (hw _ (List.mem_of_getElem? (i := 40) rfl))) (by decide) (t := .int) (t' := .int) (by decide) (by decide))))), (by rw [e12, hg14]; exact (Vw10.other W12 (Ne.symm ne_o0_ta))), (by rw [e12]; exact ((V_o1.other W10 (Ne.symm ne_ta_o1)).other W12 (Ne.symm ne_o0_o1))), fun t k => pre3 t ?_⟩
    show Steps p.tables e below (T2.setTop (mkF m 18 #[.val (.ref o0), .val (.ref o1), .val (.int p0), .val (.int i3), .val (.int (getI xs i3))] [(.int (f6 (getI xs i3) ts))])) _
    refine XS.ifNo X2.here hx rfl (hb hby d7_18) rfl ((if0 _ _).trans (feq hc18_4).1) ?_
    show Steps p.tables e below (T2.setTop (mkF m 21 #[.val (.ref o0), .val (.ref o1), .val (.int p0), .val (.int i3), .val (.int (getI xs i3))] [])) _
    refine XS.aloadN X2.here hx rfl (hb hby d7_21) rfl rfl ?_
    show Steps p.tables e below (T2.setTop (mkF m 22 #[.val (.ref o0), .val (.ref o1), .val (.int p0), .val (.int i3), .val (.int (getI xs i3))] [(.ref o0)])) _
    refine st7 _ ?_
    show Steps p.tables e below (T7.setTop (mkF m 25 #[.val (.ref o0), .val (.ref o1), .val (.int p0), .val (.int i3), .val (.int (getI xs i3))] [(.ref ta)])) _
    refine XS.iload X7.here hx rfl (hb hby d7_25) rfl ?_
    show Steps p.tables e below (T7.setTop (mkF m 27 #[.val (.ref o0), .val (.ref o1), .val (.int p0), .val (.int i3), .val (.int (getI xs i3))] [(.int (getI xs i3)), (.ref ta)])) _
    refine XS.bipush X7.here hx rfl (hb hby d7_27) ?_
    show Steps p.tables e below (T7.setTop (mkF m 29 #[.val (.ref o0), .val (.ref o1), .val (.int p0), .val (.int i3), .val (.int (getI xs i3))] [(.int (6 : Int32)), (.int (getI xs i3)), (.ref ta)])) _
    refine XS.iushr X7.here hx rfl (hb hby d7_29) rfl ?_
    show Steps p.tables e below (T7.setTop (mkF m 30 #[.val (.ref o0), .val (.ref o1), .val (.int p0), .val (.int i3), .val (.int (getI xs i3))] [(.int (((getI xs i3).toUInt32 >>> ((6 : Int32) &&& 31).toUInt32).toInt32)), (.ref ta)])) _
    refine XT.dup2 X7.here hx rfl (hb hby d7_30) rfl rfl rfl ?_
    show Steps p.tables e below (T7.setTop (mkF m 31 #[.val (.ref o0), .val (.ref o1), .val (.int p0), .val (.int i3), .val (.int (getI xs i3))] [(.int (((getI xs i3).toUInt32 >>> ((6 : Int32) &&& 31).toUInt32).toInt32)), (.ref ta), (.int (((getI xs i3).toUInt32 >>> ((6 : Int32) &&& 31).toUInt32).toInt32)), (.ref ta)])) _
    refine X7.laload hx (j := (((getI xs i3).toUInt32 >>> ((6 : Int32) &&& 31).toUInt32).toInt32)) (v := (.long (getJ ts (((getI xs i3).toUInt32 >>> ((6 : Int32) &&& 31).toUInt32).toInt32)))) (by rw [e7]; exact Ar8.1) (State.isArrayOf_alike hZ.alike Ar8.2.1) Ar8.2.2 hin8 hat8 (g := (mkF m 31 #[.val (.ref o0), .val (.ref o1), .val (.int p0), .val (.int i3), .val (.int (getI xs i3))] [(.int (((getI xs i3).toUInt32 >>> ((6 : Int32) &&& 31).toUInt32).toInt32)), (.ref ta), (.int (((getI xs i3).toUInt32 >>> ((6 : Int32) &&& 31).toUInt32).toInt32)), (.ref ta)])) rfl rfl (hb hby d7_31) _ ?_
    show Steps p.tables e below (T7.setTop (mkF m 32 #[.val (.ref o0), .val (.ref o1), .val (.int p0), .val (.int i3), .val (.int (getI xs i3))] [(.long (v7_1 ts xs i3)), (.int (((getI xs i3).toUInt32 >>> ((6 : Int32) &&& 31).toUInt32).toInt32)), (.ref ta)])) _
    refine XS.lconst X7.here hx rfl (hb hby d7_32) ?_
    show Steps p.tables e below (T7.setTop (mkF m 33 #[.val (.ref o0), .val (.ref o1), .val (.int p0), .val (.int i3), .val (.int (getI xs i3))] [(.long (1 : Int64)), (.long (v7_1 ts xs i3)), (.int (((getI xs i3).toUInt32 >>> ((6 : Int32) &&& 31).toUInt32).toInt32)), (.ref ta)])) _
    refine XS.iload X7.here hx rfl (hb hby d7_33) rfl ?_
    show Steps p.tables e below (T7.setTop (mkF m 35 #[.val (.ref o0), .val (.ref o1), .val (.int p0), .val (.int i3), .val (.int (getI xs i3))] [(.int (getI xs i3)), (.long (1 : Int64)), (.long (v7_1 ts xs i3)), (.int (((getI xs i3).toUInt32 >>> ((6 : Int32) &&& 31).toUInt32).toInt32)), (.ref ta)])) _
    refine XS.lshl X7.here hx rfl (hb hby d7_35) rfl ?_
    show Steps p.tables e below (T7.setTop (mkF m 36 #[.val (.ref o0), .val (.ref o1), .val (.int p0), .val (.int i3), .val (.int (getI xs i3))] [(.long ((1 : Int64) <<< ((getI xs i3) &&& 0x3f).toInt64)), (.long (v7_1 ts xs i3)), (.int (((getI xs i3).toUInt32 >>> ((6 : Int32) &&& 31).toUInt32).toInt32)), (.ref ta)])) _
    refine X7.ldc2Long hx hown (mvT hZ (hw _ (List.mem_of_getElem? (i := 60) rfl))) (g := (mkF m 36 #[.val (.ref o0), .val (.ref o1), .val (.int p0), .val (.int i3), .val (.int (getI xs i3))] [(.long ((1 : Int64) <<< ((getI xs i3) &&& 0x3f).toInt64)), (.long (v7_1 ts xs i3)), (.int (((getI xs i3).toUInt32 >>> ((6 : Int32) &&& 31).toUInt32).toInt32)), (.ref ta)])) rfl (hb hby d7_36) _ ?_
    show Steps p.tables e below (T7.setTop (mkF m 39 #[.val (.ref o0), .val (.ref o1), .val (.int p0), .val (.int i3), .val (.int (getI xs i3))] [(.long (-1 : Int64)), (.long ((1 : Int64) <<< ((getI xs i3) &&& 0x3f).toInt64)), (.long (v7_1 ts xs i3)), (.int (((getI xs i3).toUInt32 >>> ((6 : Int32) &&& 31).toUInt32).toInt32)), (.ref ta)])) _
    refine XS.lxor X7.here hx rfl (hb hby d7_39) rfl ?_
    show Steps p.tables e below (T7.setTop (mkF m 40 #[.val (.ref o0), .val (.ref o1), .val (.int p0), .val (.int i3), .val (.int (getI xs i3))] [(.long (((1 : Int64) <<< ((getI xs i3) &&& 0x3f).toInt64) ^^^ (-1 : Int64))), (.long (v7_1 ts xs i3)), (.int (((getI xs i3).toUInt32 >>> ((6 : Int32) &&& 31).toUInt32).toInt32)), (.ref ta)])) _
    refine XS.land X7.here hx rfl (hb hby d7_40) rfl ?_
    show Steps p.tables e below (T7.setTop (mkF m 41 #[.val (.ref o0), .val (.ref o1), .val (.int p0), .val (.int i3), .val (.int (getI xs i3))] [(.long ((v7_1 ts xs i3) &&& (((1 : Int64) <<< ((getI xs i3) &&& 0x3f).toInt64) ^^^ (-1 : Int64)))), (.int (((getI xs i3).toUInt32 >>> ((6 : Int32) &&& 31).toUInt32).toInt32)), (.ref ta)])) _
    refine st10 _ ?_
    show Steps p.tables e below (T10.setTop (mkF m 42 #[.val (.ref o0), .val (.ref o1), .val (.int p0), .val (.int i3), .val (.int (getI xs i3))] [])) _
    refine XS.aloadN X10.here hx rfl (hb hby d7_42) rfl rfl ?_
    show Steps p.tables e below (T10.setTop (mkF m 43 #[.val (.ref o0), .val (.ref o1), .val (.int p0), .val (.int i3), .val (.int (getI xs i3))] [(.ref o0)])) _
    refine XS.dup X10.here hx rfl (hb hby d7_43) rfl rfl ?_
    show Steps p.tables e below (T10.setTop (mkF m 44 #[.val (.ref o0), .val (.ref o1), .val (.int p0), .val (.int i3), .val (.int (getI xs i3))] [(.ref o0), (.ref o0)])) _
    refine st11 _ ?_
    show Steps p.tables e below (T11.setTop (mkF m 47 #[.val (.ref o0), .val (.ref o1), .val (.int p0), .val (.int i3), .val (.int (getI xs i3))] [(.int tc), (.ref o0)])) _
    refine XS.iconst X11.here hx rfl (hb hby d7_47) ?_
    show Steps p.tables e below (T11.setTop (mkF m 48 #[.val (.ref o0), .val (.ref o1), .val (.int p0), .val (.int i3), .val (.int (getI xs i3))] [(.int (1 : Int32)), (.int tc), (.ref o0)])) _
    refine XS.isub X11.here hx rfl (hb hby d7_48) rfl ?_
    show Steps p.tables e below (T11.setTop (mkF m 49 #[.val (.ref o0), .val (.ref o1), .val (.int p0), .val (.int i3), .val (.int (getI xs i3))] [(.int (tc - (1 : Int32))), (.ref o0)])) _
    refine st12 _ ?_
    show Steps p.tables e below (T12.setTop (mkF m 52 #[.val (.ref o0), .val (.ref o1), .val (.int p0), .val (.int i3), .val (.int (getI xs i3))] [])) _
    refine XS.iinc X12.here hx rfl (hb hby d7_52) rfl (l' := #[.val (.ref o0), .val (.ref o1), .val (.int p0), .val (.int (i3 + (1 : Int32))), .val (.int (getI xs i3))]) rfl ?_
    show Steps p.tables e below (T12.setTop (mkF m 55 #[.val (.ref o0), .val (.ref o1), .val (.int p0), .val (.int (i3 + (1 : Int32))), .val (.int (getI xs i3))] [])) _
    refine XS.goto X12.here hx rfl (pc0 := 55) (pc' := 2) rfl (hb hby d7_55) (by decide) (by decide) ?_
    show Steps p.tables e below (T12.setTop (mkF m 2 #[.val (.ref o0), .val (.ref o1), .val (.int p0), .val (.int (i3 + (1 : Int32))), .val (.int (getI xs i3))] [])) _
    exact k
set_option maxRecDepth 65536 in
set_option maxHeartbeats 40000000 in
theorem sg7e {p : Program} {l : Launch} {e : Env} {s : State} {m : MethodId} {args : Array Value} {below : List Frame} {meth : Method} {c : Code} {T0 : State} {locs : List Loc} {cells slots : Nat} {Z : State} {a0 : Array Value} {h0 : Heap} {n0 : Nat} (o0 : Addr) (o1 : Addr) (p0 : Int32) (i3 : Int32) (s4 : Slot) (nl : Int32) (nn : Int32) (ta : Addr) (tc : Int32) (bd : Int32) (ka : ClassId) (ts : List Int64) (kx : ClassId) (xs : List Int32)
    (X0 : Stand p l e ({ frames := 1, cells := 0, slots := 0, locals := 13 } : Room) s m args below meth c T0 locs cells slots) (hx : p.tables.exec = Jvm.exec) (hZ : Z.Warmed39 s.vm) (hw : ∀ d ∈ tables_1, d.before a0 Z = true) (hby : c.code = prog_27_method_3_code) (hml : c.maxLocals = 5) (hown : s.vm.findClass "com/example/knotwork/knotwork/generate/FreeNumbers" = some m.cls) (e0 : T0.heap = h0) (Z0 : n0 ≤ h0.size) (N0 : Fr n0 locs) (hcc : cells ≤ ({ frames := 1, cells := 0, slots := 0, locals := 13 } : Room).cells) (hss : slots ≤ ({ frames := 1, cells := 0, slots := 0, locals := 13 } : Room).slots) (E_o0 : Exa Z h0 o0 "com/example/knotwork/knotwork/generate/FreeNumbers") (F_taken_o0 : Fld Z h0 o0 "com/example/knotwork/knotwork/generate/FreeNumbers" "taken" "[J" (.ref ta)) (F_takenCount_o0 : Fld Z h0 o0 "com/example/knotwork/knotwork/generate/FreeNumbers" "takenCount" "I" (.int tc)) (F_bound_o0 : Fld Z h0 o0 "com/example/knotwork/knotwork/generate/FreeNumbers" "bound" "I" (.int bd)) (V_ta : La Z h0 ta ka nl ts) (V_o1 : Ia Z h0 o1 kx .int nn xs) (ne_o0_ta : o0 ≠ ta) (ne_o0_o1 : o0 ≠ o1) (ne_ta_o1 : ta ≠ o1) (hge : ¬ (i3 < p0)) :
    ∃ (T' : State) (locs' : List Loc), Stand p l e ({ frames := 1, cells := 0, slots := 0, locals := 13 } : Room) s m args below meth c T' locs' cells slots ∧ Fr n0 locs' ∧ Keep h0 T'.heap [] ∧ Fld Z T'.heap o0 "com/example/knotwork/knotwork/generate/FreeNumbers" "taken" "[J" (.ref ta) ∧ Fld Z T'.heap o0 "com/example/knotwork/knotwork/generate/FreeNumbers" "takenCount" "I" (.int tc) ∧ Fld Z T'.heap o0 "com/example/knotwork/knotwork/generate/FreeNumbers" "bound" "I" (.int bd) ∧ La Z T'.heap ta ka nl ts ∧ Ia Z T'.heap o1 kx .int nn xs ∧ ∀ t, Steps p.tables e below (T'.setTop (mkF m 58 #[.val (.ref o0), .val (.ref o1), .val (.int p0), .val (.int i3), s4] [])) t → Steps p.tables e below (T0.setTop (mkF m 2 #[.val (.ref o0), .val (.ref o1), .val (.int p0), .val (.int i3), s4] [])) t := by
  have pre0 : ∀ t, Steps p.tables e below (T0.setTop (mkF m 2 #[.val (.ref o0), .val (.ref o1), .val (.int p0), .val (.int i3), s4] [])) t → Steps p.tables e below (T0.setTop (mkF m 2 #[.val (.ref o0), .val (.ref o1), .val (.int p0), .val (.int i3), s4] [])) t := fun t k => k
  refine ⟨T0, _, X0, N0, (by rw [e0]; exact (Keep.refl h0 [])), (by rw [e0]; exact F_taken_o0), (by rw [e0]; exact F_takenCount_o0), (by rw [e0]; exact F_bound_o0), (by rw [e0]; exact V_ta), (by rw [e0]; exact V_o1), fun t k => pre0 t ?_⟩
  show Steps p.tables e below (T0.setTop (mkF m 2 #[.val (.ref o0), .val (.ref o1), .val (.int p0), .val (.int i3), s4] [])) _
  refine XS.iloadN X0.here hx rfl (hb hby d7_2) rfl ?_
  show Steps p.tables e below (T0.setTop (mkF m 3 #[.val (.ref o0), .val (.ref o1), .val (.int p0), .val (.int i3), s4] [(.int i3)])) _
  refine XS.iloadN X0.here hx rfl (hb hby d7_3) rfl ?_
  show Steps p.tables e below (T0.setTop (mkF m 4 #[.val (.ref o0), .val (.ref o1), .val (.int p0), .val (.int i3), s4] [(.int p0), (.int i3)])) _
  refine XS.icmpYes X0.here hx rfl (pc0 := 4) (pc' := 58) rfl (hb hby d7_4) rfl (flt (hge : ¬ (i3 < p0))).2.1 (by decide) (by decide) ?_
  show Steps p.tables e below (T0.setTop (mkF m 58 #[.val (.ref o0), .val (.ref o1), .val (.int p0), .val (.int i3), s4] [])) _
  exact k

/-- what the loop of 'free' leaves -/
def Pfree (ns : Nat → Nat) (i k : Nat) (ts : List Int64) (tc : Int32) (ts' : List Int64) (tc' : Int32) : Prop :=
  ts'.length = ts.length ∧ (∀ m, bit ts' m = (bit ts m && !((List.range' i k).any fun r => ns r == m))) ∧ (tc.toInt = (cntN (bit ts) 128 : Nat) → tc'.toInt = (cntN (bit ts') 128 : Nat))
theorem own_freebit (n : Nat) (h : n < 128) (ts : List Int64) (hl : n / 64 < ts.length) (xs : List Int32) (i : Int32) (hx : getI xs i = Int32.ofNat n) (m : Nat) : bit (gsg7t_ta i ts xs) m = (bit ts m && !(m == n)) := by
  obtain ⟨e1, e2, e3⟩ := own_idx ⟨n, h⟩
  have e2' : (((Int32.ofNat n).toUInt32 >>> ((6 : Int32) &&& 31).toUInt32).toInt32).toNatClampNeg = n / 64 := e2
  have e3' : ((1 : Int64) <<< ((Int32.ofNat n) &&& 0x3f).toInt64).toBitVec = BitVec.twoPow 64 (n % 64) := e3
  unfold gsg7t_ta v7_1
  rw [hx, own_isT n h]
  by_cases q : bit ts n = true
  · rw [if_pos q, if_neg (by decide)]
    unfold setJ
    rw [e2', own_setbit ts n hl]
    by_cases z : m / 64 = n / 64
    · rw [if_pos z, Int64.toBitVec_and, Int64.toBitVec_xor, e3', BitVec.getLsbD_and, BitVec.getLsbD_xor, BitVec.getLsbD_twoPow]
      have t1 : (getJ ts (((Int32.ofNat n).toUInt32 >>> ((6 : Int32) &&& 31).toUInt32).toInt32)).toBitVec.getLsbD (m % 64) = bit ts m := by
        unfold getJ bit; rw [e2', z]
      have t2 : (-1 : Int64).toBitVec.getLsbD (m % 64) = true := by
        show (BitVec.allOnes 64).getLsbD (m % 64) = true
        rw [BitVec.getLsbD_allOnes]; simp; omega
      rw [t1, t2]
      congr 1
      by_cases c : m = n
      · subst c; simp; omega
      · have c' : ¬ n % 64 = m % 64 := by omega
        simp [c, c']
    · rw [if_neg z]
      have : ¬ m = n := fun c => z (by rw [c])
      simp [this]
  · rw [if_neg q, if_pos rfl]
    by_cases c : m = n
    · subst c; simp at q; simp [q]
    · simp [c]
theorem own_freelen (i : Int32) (ts : List Int64) (xs : List Int32) : (gsg7t_ta i ts xs).length = ts.length := by
  unfold gsg7t_ta setJ; split <;> simp
theorem own_freetc (n : Nat) (h : n < 128) (ts : List Int64) (xs : List Int32) (i tc : Int32) (hx : getI xs i = Int32.ofNat n) : gsg7t_takenCount i tc ts xs = (if bit ts n then tc - 1 else tc) := by
  unfold gsg7t_takenCount
  rw [hx, own_isT n h]
  by_cases q : bit ts n = true
  · rw [if_pos q, if_pos q, if_neg (by decide)]
  · rw [if_neg q, if_neg q, if_pos rfl]
theorem own_freecnt (n : Nat) (h : n < 128) (ts : List Int64) (hl : n / 64 < ts.length) (xs : List Int32) (i tc : Int32) (hx : getI xs i = Int32.ofNat n) (ht : tc.toInt = (cntN (bit ts) 128 : Nat)) : (gsg7t_takenCount i tc ts xs).toInt = (cntN (bit (gsg7t_ta i ts xs)) 128 : Nat) := by
  rw [own_freetc n h ts xs i tc hx, own_cnt_congr (S := bit (gsg7t_ta i ts xs)) (S' := fun m => bit ts m && !(m == n)) 128 (fun m _ => own_freebit n h ts hl xs i hx m)]
  have b := own_cnt_le (bit ts) 128
  by_cases q : bit ts n = true
  · have e := own_cnt_del (bit ts) n q 128
    rw [if_pos h] at e
    rw [if_pos q, Int32.toInt_sub, ht]
    show Int.bmod (_ - 1) _ = _
    rw [Int.bmod_eq_of_le (by omega) (by omega)]; omega
  · have e : cntN (fun m => bit ts m && !(m == n)) 128 = cntN (bit ts) 128 := own_cnt_congr 128 fun m _ => by
      by_cases c : m = n
      · subst c; simp at q; simp [q]
      · simp [c]
    rw [if_neg q, ht, e]
theorem Pfree.zero (ns : Nat → Nat) (i : Nat) (ts : List Int64) (tc : Int32) : Pfree ns i 0 ts tc ts tc := ⟨rfl, fun m => by simp, fun h => h⟩
theorem Pfree.succ {ns : Nat → Nat} {i k n : Nat} {ts ts' : List Int64} {tc tc' : Int32} {xs : List Int32} {j : Int32} (hn : n = ns i) (h : n < 128) (hl : n / 64 < ts.length) (hx : getI xs j = Int32.ofNat n) (P : Pfree ns (i + 1) k (gsg7t_ta j ts xs) (gsg7t_takenCount j tc ts xs) ts' tc') : Pfree ns i (k + 1) ts tc ts' tc' := by
  obtain ⟨p1, p2, p3⟩ := P
  refine ⟨by rw [p1, own_freelen], fun m => ?_, fun ht => p3 (own_freecnt n h ts hl xs j tc hx ht)⟩
  rw [p2 m, own_freebit n h ts hl xs j hx m, List.range'_succ, List.any_cons, ← hn]
  by_cases c : m = n
  · subst c; simp
  · have c' : (n == m) = false := by simp; exact fun z => c z.symm
    have c2 : (m == n) = false := by simpa using c
    rw [c', c2]; simp
set_option maxRecDepth 65536 in
set_option maxHeartbeats 40000000 in
theorem lp7 {p : Program} {l : Launch} {e : Env} {s : State} {m : MethodId} {args : Array Value} {below : List Frame} {meth : Method} {c : Code} {cells slots : Nat} {Z : State} {a0 : Array Value} {n0 : Nat} (o0 o1 : Addr) (p0 nl nn : Int32) (ta : Addr) (bd : Int32) (ka kx : ClassId) (xs : List Int32)
    (hx : p.tables.exec = Jvm.exec) (hZ : Z.Warmed39 s.vm) (hw : ∀ d ∈ tables_1, d.before a0 Z = true) (hby : c.code = prog_27_method_3_code) (hml : c.maxLocals = 5) (hown : s.vm.findClass "com/example/knotwork/knotwork/generate/FreeNumbers" = some m.cls) (hcc : cells ≤ ({ frames := 1, cells := 0, slots := 0, locals := 13 } : Room).cells) (hss : slots ≤ ({ frames := 1, cells := 0, slots := 0, locals := 13 } : Room).slots)
    (g_o0 : n0 ≤ o0) (g_ta : n0 ≤ ta) (ne_o0_ta : o0 ≠ ta) (ne_o0_o1 : o0 ≠ o1) (ne_ta_o1 : ta ≠ o1) (N : Nat) (ns : Nat → Nat) (hN : p0 = Int32.ofNat N) (hN2 : N ≤ 128)
    (hel : ∀ i, i < N → Int32.ofNat i < nn ∧ getI xs (Int32.ofNat i) = Int32.ofNat (ns i) ∧ ns i < 128 ∧ ns i / 64 < nl.toNatClampNeg) :
    ∀ (k i : Nat), i + k = N → ∀ (T0 : State) (locs : List Loc) (h0 : Heap) (s4 : Slot) (ts : List Int64) (tc : Int32), Stand p l e ({ frames := 1, cells := 0, slots := 0, locals := 13 } : Room) s m args below meth c T0 locs cells slots → T0.heap = h0 → n0 ≤ h0.size → Fr n0 locs → One s4 → Exa Z h0 o0 "com/example/knotwork/knotwork/generate/FreeNumbers" →
      Fld Z h0 o0 "com/example/knotwork/knotwork/generate/FreeNumbers" "taken" "[J" (.ref ta) → Fld Z h0 o0 "com/example/knotwork/knotwork/generate/FreeNumbers" "takenCount" "I" (.int tc) → Fld Z h0 o0 "com/example/knotwork/knotwork/generate/FreeNumbers" "bound" "I" (.int bd) → La Z h0 ta ka nl ts → Ia Z h0 o1 kx .int nn xs →
      ∃ (T' : State) (locs' : List Loc) (s4' : Slot) (ts' : List Int64) (tc' : Int32), Stand p l e ({ frames := 1, cells := 0, slots := 0, locals := 13 } : Room) s m args below meth c T' locs' cells slots ∧ Fr n0 locs' ∧ Keep h0 T'.heap [o0, ta] ∧ Fld Z T'.heap o0 "com/example/knotwork/knotwork/generate/FreeNumbers" "taken" "[J" (.ref ta) ∧ Fld Z T'.heap o0 "com/example/knotwork/knotwork/generate/FreeNumbers" "takenCount" "I" (.int tc') ∧ Fld Z T'.heap o0 "com/example/knotwork/knotwork/generate/FreeNumbers" "bound" "I" (.int bd) ∧ La Z T'.heap ta ka nl ts' ∧ Ia Z T'.heap o1 kx .int nn xs ∧ Pfree ns i k ts tc ts' tc' ∧
        ∀ t, Steps p.tables e below (T'.setTop (mkF m 58 #[.val (.ref o0), .val (.ref o1), .val (.int p0), .val (.int p0), s4'] [])) t → Steps p.tables e below (T0.setTop (mkF m 2 #[.val (.ref o0), .val (.ref o1), .val (.int p0), .val (.int (Int32.ofNat i)), s4] [])) t := by
  intro k
  induction k with
  | zero =>
    intro i hi T0 locs h0 s4 ts tc X0 e0 Z0 N0 h4 E F1 F2 F3 V1 V2
    have hi' : i = N := by omega
    subst hi'
    obtain ⟨T', locs', X', N', K', f1, f2, f3, v1, v2, st⟩ := sg7e o0 o1 p0 (Int32.ofNat i) s4 nl nn ta tc bd ka ts kx xs X0 hx hZ hw hby hml hown e0 Z0 N0 hcc hss E F1 F2 F3 V1 V2 ne_o0_ta ne_o0_o1 ne_ta_o1 (by rw [hN]; exact Int32.lt_irrefl)
    refine ⟨T', locs', s4, ts, tc, X', N', own_keep_nil _ K', f1, f2, f3, v1, v2, Pfree.zero _ _ _ _, fun t kt => st t ?_⟩
    rw [← hN]; exact kt
  | succ k ih =>
    intro i hi T0 locs h0 s4 ts tc X0 e0 Z0 N0 h4 E F1 F2 F3 V1 V2
    obtain ⟨q1, q2, q3, q4⟩ := hel i (by omega)
    obtain ⟨T1, locs1, X1, N1, K1, f1, f2, f3, v1, v2, st⟩ := sg7t o0 o1 p0 (Int32.ofNat i) s4 nl nn ta tc bd ka ts kx xs X0 hx hZ hw hby hml hown e0 Z0 N0 hcc hss E g_o0 F1 F2 F3 V1 g_ta V2 ne_o0_ta ne_o0_o1 ne_ta_o1 (by rw [hN]; exact own_lt_of (by omega) (by omega)) ⟨own_nneg (by omega), q1⟩ (by rw [q2]; exact own_ixin q3 q4) h4
    obtain ⟨T', locs', s4', ts', tc', X', N', K', f1', f2', f3', v1', v2', P', st'⟩ := ih (i + 1) (by omega) T1 locs1 T1.heap (.val (.int (getI xs (Int32.ofNat i)))) (gsg7t_ta (Int32.ofNat i) ts xs) (gsg7t_takenCount (Int32.ofNat i) tc ts xs) X1 rfl (Nat.le_trans Z0 K1.1) N1 (One.val rfl) (E.keep K1) f1 f2 f3 v1 v2
    refine ⟨T', locs', s4', ts', tc', X', N', own_keep_tr K1 K', f1', f2', f3', v1', v2', Pfree.succ rfl q3 (by rw [V1.2]; exact q4) q2 P', fun t kt => st t ?_⟩
    rw [own_succ (by omega)]
    exact st' t kt

theorem d7_0 : decode prog_27_method_3_code 0 = .ok (.iconst 0, 1) := by decide +kernel
theorem d7_1 : decode prog_27_method_3_code 1 = .ok (.istore_n 3, 1) := by decide +kernel
theorem d7_58 : decode prog_27_method_3_code 58 = .ok (.return_, 1) := by decide +kernel
theorem pn_7 : plainName "com/example/knotwork/knotwork/generate/FreeNumbers" = true := by first | (simp [plainName, overriddenIn]; done) | decide +kernel
theorem ef_7 (m : MethodId) (x0 : Addr) (x1 : Addr) (x2 : Int32) : entryFrame m #[(.ref x0), (.ref x1), (.int x2)] 5 = mkF m 0 #[.val (.ref x0), .val (.ref x1), .val (.int x2), .unset, .unset] [] := by first | (simp [entryFrame, mkF, argsToLocals, Value.category]; done) | rfl
def Q7 (Z : State) (o0 : Addr) (o1 : Addr) (p0 : Int32) (nl : Int32) (nn : Int32) (N : Nat) (ns : Nat → Nat) (ta : Addr) (tc : Int32) (bd : Int32) (ka : ClassId) (ts : List Int64) (kx : ClassId) (xs : List Int32) (h0 : Heap) (n0 : Nat) (v : Option Value) (h : Heap) (L : List Loc) : Prop := v = none ∧ Fr n0 L ∧ Keep h0 h [o0, ta] ∧ Fld Z h o0 "com/example/knotwork/knotwork/generate/FreeNumbers" "taken" "[J" (.ref ta) ∧ Fld Z h o0 "com/example/knotwork/knotwork/generate/FreeNumbers" "bound" "I" (.int bd) ∧ ∃ (ts2 : List Int64) (tc2 : Int32), Fld Z h o0 "com/example/knotwork/knotwork/generate/FreeNumbers" "takenCount" "I" (.int tc2) ∧ La Z h ta ka nl ts2 ∧ Pfree ns 0 N ts tc ts2 tc2
set_option maxRecDepth 65536 in
set_option maxHeartbeats 40000000 in
theorem rm7 (l : Launch) (Z : State) (a0 : Array Value) (hw : ∀ d ∈ tables_1, d.before a0 Z = true) (ws : List Jvm.Cond) (o0 : Addr) (o1 : Addr) (p0 : Int32) (nl : Int32) (nn : Int32) (N : Nat) (ns : Nat → Nat) (ta : Addr) (tc : Int32) (bd : Int32) (ka : ClassId) (ts : List Int64) (kx : ClassId) (xs : List Int32) (h0 : Heap) (n0 : Nat) (Z0 : n0 ≤ h0.size) (E_o0 : Exa Z h0 o0 "com/example/knotwork/knotwork/generate/FreeNumbers") (g_o0 : n0 ≤ o0) (F_taken_o0 : Fld Z h0 o0 "com/example/knotwork/knotwork/generate/FreeNumbers" "taken" "[J" (.ref ta)) (F_takenCount_o0 : Fld Z h0 o0 "com/example/knotwork/knotwork/generate/FreeNumbers" "takenCount" "I" (.int tc)) (F_bound_o0 : Fld Z h0 o0 "com/example/knotwork/knotwork/generate/FreeNumbers" "bound" "I" (.int bd)) (V_ta : La Z h0 ta ka nl ts) (g_ta : n0 ≤ ta) (V_o1 : Ia Z h0 o1 kx .int nn xs) (ne_o0_ta : o0 ≠ ta) (ne_o0_o1 : o0 ≠ o1) (ne_ta_o1 : ta ≠ o1) (hN : p0 = Int32.ofNat N) (hN2 : N ≤ 128) (hel : ∀ i, i < N → Int32.ofNat i < nn ∧ getI xs (Int32.ofNat i) = Int32.ofNat (ns i) ∧ ns i < 128 ∧ ns i / 64 < nl.toNatClampNeg) :
    MetFree l (⟨"com/example/knotwork/knotwork/generate/FreeNumbers", "free", "([II)V"⟩ : MethodName) (head1 (Jvm.Cond.code (⟨"com/example/knotwork/knotwork/generate/FreeNumbers", "free", "([II)V"⟩ : MethodName) prog_27_method_3_code 5 none :: ws) ({ frames := 1, cells := 0, slots := 0, locals := 13 } : Room)) (fun a U => a = #[(.ref o0), (.ref o1), (.int p0)] ∧ Z.Warmed39 U.vm ∧ U.heap = h0) (fun _ _ _ _ _ => True) (fun _ U o U' => ∃ v L, o = .returned v ∧ Q7 Z o0 o1 p0 nl nn N ns ta tc bd ka ts kx xs h0 n0 v U'.heap L ∧ FrameEnd U o U' L ({ frames := 1, cells := 0, slots := 0, locals := 13 } : Room).cells ({ frames := 1, cells := 0, slots := 0, locals := 13 } : Room).slots) := by
  refine MetFree.of_bodySF (plainFor_of_name pn_7) hisR ?_
  intro p e s m args below meth c s₁ Bd hml0 hP hK
  obtain ⟨rfl, hZ, hh⟩ := hP
  have hx := Bd.exec
  have hby := Bd.bytes
  have hml : c.maxLocals = 5 := hml0
  have hown : s.vm.findClass "com/example/knotwork/knotwork/generate/FreeNumbers" = some m.cls := findClass_of_methodNamed Bd.named
  have hnm := (name_of_methodNamed Bd.named Bd.method).1
  have X0 : Stand p l e ({ frames := 1, cells := 0, slots := 0, locals := 13 } : Room) s m #[(.ref o0), (.ref o1), (.int p0)] below meth c s₁ [] 0 0 := Stand.of_body Bd
  have e0 : s₁.heap = h0 := by rw [← hh, Bd.state]; rfl
  have N0 := Fr.nil n0
  have hlk : meth.locks = false := by first | exact BodyLoose.notSynchronized Bd | exact Body.notSynchronized Bd
  have pre0 : ∀ t, Steps p.tables e below (s₁.setTop (mkF m 0 #[.val (.ref o0), .val (.ref o1), .val (.int p0), .unset, .unset] [])) t → Steps p.tables e below (s₁.setTop (entryFrame m #[(.ref o0), (.ref o1), (.int p0)] 5)) t := fun t k => castTop (ef_7 m o0 o1 p0) k
  obtain ⟨T1, L1, s41, ts1, tc1, X1, N1, Kq1, Fq1_0, Fq1_1, Fq1_2, Vq1_0, Vq1_1, P1, st1⟩ := lp7 o0 o1 p0 nl nn ta bd ka kx xs hx hZ hw hby hml hown (by decide) (by decide) g_o0 g_ta ne_o0_ta ne_o0_o1 ne_ta_o1 N ns hN hN2 hel N 0 (Nat.zero_add N) _ _ _ .unset ts tc X0 e0 Z0 N0 One.u (E_o0) (F_taken_o0) (F_takenCount_o0) (F_bound_o0) (V_ta) (V_o1)
  have Z1 : n0 ≤ T1.heap.size := Nat.le_trans Z0 Kq1.1
  have K1 : Keep h0 T1.heap [o0, ta] := ((Keep.refl h0 [o0, ta])).trans Kq1 (allS (Or.inl (List.mem_of_getElem? (i := 0) rfl)) (allS (Or.inl (List.mem_of_getElem? (i := 1) rfl)) all0))
  obtain ⟨fs, hr, hrun, hended, hW, hsame⟩ := X1.leave (v := none) (fun _ => rfl) hlk
  refine ⟨_, _, pre0 _ ?_, hrun, hended, _, _, rfl, ?_, ⟨_, rfl⟩, hW, hsame.mono (by decide) (by decide)⟩
  · show Steps p.tables e below (s₁.setTop (mkF m 0 #[.val (.ref o0), .val (.ref o1), .val (.int p0), .unset, .unset] [])) _
    refine XS.iconst X0.here hx rfl (hb hby d7_0) ?_
    show Steps p.tables e below (s₁.setTop (mkF m 1 #[.val (.ref o0), .val (.ref o1), .val (.int p0), .unset, .unset] [(.int (0 : Int32))])) _
    refine XS.istoreN X0.here hx rfl (hb hby d7_1) rfl (l' := #[.val (.ref o0), .val (.ref o1), .val (.int p0), .val (.int (0 : Int32)), .unset]) rfl ?_
    show Steps p.tables e below (s₁.setTop (mkF m 2 #[.val (.ref o0), .val (.ref o1), .val (.int p0), .val (.int (0 : Int32)), .unset] [])) _
    refine st1 _ ?_
    show Steps p.tables e below (T1.setTop (mkF m 58 #[.val (.ref o0), .val (.ref o1), .val (.int p0), .val (.int p0), s41] [])) _
    exact X1.returnOut hx Bd.returns (hb hby d7_58) hr
  · show Q7 Z o0 o1 p0 nl nn N ns ta tc bd ka ts kx xs h0 n0 _ T1.heap _
    exact ⟨rfl, N1, K1, Fq1_0, Fq1_2, ts1, tc1, Fq1_1, Vq1_0, P1⟩
theorem d10_157 : decode prog_27_method_4_code 157 = .ok (.lload 10, 2) := by decide +kernel
theorem d10_159 : decode prog_27_method_4_code 159 = .ok (.lconst 0, 1) := by decide +kernel
theorem d10_160 : decode prog_27_method_4_code 160 = .ok (.lcmp, 1) := by decide +kernel
theorem d10_161 : decode prog_27_method_4_code 161 = .ok (.ifCond .eq 47, 3) := by decide +kernel
theorem d10_164 : decode prog_27_method_4_code 164 = .ok (.iload 9, 2) := by decide +kernel
theorem d10_166 : decode prog_27_method_4_code 166 = .ok (.bipush 64, 2) := by decide +kernel
theorem d10_168 : decode prog_27_method_4_code 168 = .ok (.imul, 1) := by decide +kernel
theorem d10_169 : decode prog_27_method_4_code 169 = .ok (.lload 10, 2) := by decide +kernel
theorem d10_171 : decode prog_27_method_4_code 171 = .ok (.invokestatic 46, 3) := by decide +kernel
theorem d10_174 : decode prog_27_method_4_code 174 = .ok (.iadd, 1) := by decide +kernel
theorem d10_175 : decode prog_27_method_4_code 175 = .ok (.istore 12, 2) := by decide +kernel
theorem d10_177 : decode prog_27_method_4_code 177 = .ok (.iload 12, 2) := by decide +kernel
theorem d10_179 : decode prog_27_method_4_code 179 = .ok (.aload_n 0, 1) := by decide +kernel
theorem d10_180 : decode prog_27_method_4_code 180 = .ok (.getfield 7, 3) := by decide +kernel
theorem d10_183 : decode prog_27_method_4_code 183 = .ok (.if_icmp .ge 13, 3) := by decide +kernel
theorem d10_186 : decode prog_27_method_4_code 186 = .ok (.aload 4, 2) := by decide +kernel
theorem d10_188 : decode prog_27_method_4_code 188 = .ok (.iload 8, 2) := by decide +kernel
theorem d10_190 : decode prog_27_method_4_code 190 = .ok (.iinc 8 1, 3) := by decide +kernel
theorem d10_193 : decode prog_27_method_4_code 193 = .ok (.iload 12, 2) := by decide +kernel
theorem d10_195 : decode prog_27_method_4_code 195 = .ok (.iastore, 1) := by decide +kernel
theorem d10_196 : decode prog_27_method_4_code 196 = .ok (.lload 10, 2) := by decide +kernel
theorem d10_198 : decode prog_27_method_4_code 198 = .ok (.lload 10, 2) := by decide +kernel
theorem d10_200 : decode prog_27_method_4_code 200 = .ok (.lconst 1, 1) := by decide +kernel
theorem d10_201 : decode prog_27_method_4_code 201 = .ok (.lsub, 1) := by decide +kernel
theorem d10_202 : decode prog_27_method_4_code 202 = .ok (.land, 1) := by decide +kernel
theorem d10_203 : decode prog_27_method_4_code 203 = .ok (.lstore 10, 2) := by decide +kernel
theorem d10_205 : decode prog_27_method_4_code 205 = .ok (.goto (-48), 3) := by decide +kernel
def gsg157t_L8 (i8 : Int32) (i9 : Int32) (j10 : Int64) (bd : Int32) : Int32 := (if ((i9 * (64 : Int32)) + (f12 j10)) < bd then (i8 + (1 : Int32)) else i8)
def gsg157t_o2 (i8 : Int32) (i9 : Int32) (j10 : Int64) (bd : Int32) (ii : List Int32) : List Int32 := (if ((i9 * (64 : Int32)) + (f12 j10)) < bd then (setI ii i8 ((i9 * (64 : Int32)) + (f12 j10))) else ii)
set_option maxRecDepth 65536 in
set_option maxHeartbeats 40000000 in
theorem sg157t {p : Program} {l : Launch} {e : Env} {s : State} {m : MethodId} {args : Array Value} {below : List Frame} {meth : Method} {c : Code} {T0 : State} {locs : List Loc} {cells slots : Nat} {Z : State} {a0 : Array Value} {h0 : Heap} {n0 : Nat} (o0 : Addr) (o1 : Addr) (o2 : Addr) (o7 : Addr) (p0 : Int32) (i6 : Int32) (i8 : Int32) (i9 : Int32) (j10 : Int64) (s12 : Slot) (bd : Int32) (kc : ClassId) (ii : List Int32)
    (X0 : Stand p l e ({ frames := 2, cells := 1, slots := 0, locals := 29 } : Room) s m args below meth c T0 locs cells slots) (hx : p.tables.exec = Jvm.exec) (hZ : Z.Warmed39 s.vm) (hw : ∀ d ∈ tables_1, d.before a0 Z = true) (hby : c.code = prog_27_method_4_code) (hml : c.maxLocals = 13) (hown : s.vm.findClass "com/example/knotwork/knotwork/generate/FreeNumbers" = some m.cls) (e0 : T0.heap = h0) (Z0 : n0 ≤ h0.size) (N0 : Fr n0 locs) (hcc : cells ≤ ({ frames := 2, cells := 1, slots := 0, locals := 29 } : Room).cells) (hss : slots ≤ ({ frames := 2, cells := 1, slots := 0, locals := 29 } : Room).slots) (E_o0 : Exa Z h0 o0 "com/example/knotwork/knotwork/generate/FreeNumbers") (F_bound_o0 : Fld Z h0 o0 "com/example/knotwork/knotwork/generate/FreeNumbers" "bound" "I" (.int bd)) (V_o2 : Ia Z h0 o2 kc .int (129 : Int32) ii) (g_o2 : n0 ≤ o2) (ne_o0_o2 : o0 ≠ o2) (hne : ¬ ((lcmpW j10 (0 : Int64)) = (0 : Int32))) (hi8 : ¬ i8 < (0 : Int32) ∧ i8 < (129 : Int32)) (h12 : One s12) :
    ∃ (T' : State) (locs' : List Loc), Stand p l e ({ frames := 2, cells := 1, slots := 0, locals := 29 } : Room) s m args below meth c T' locs' cells slots ∧ Fr n0 locs' ∧ Keep h0 T'.heap [o2] ∧ Fld Z T'.heap o0 "com/example/knotwork/knotwork/generate/FreeNumbers" "bound" "I" (.int bd) ∧ Ia Z T'.heap o2 kc .int (129 : Int32) (gsg157t_o2 i8 i9 j10 bd ii) ∧ ∀ t, Steps p.tables e below (T'.setTop (mkF m 157 #[.val (.ref o0), .val (.int p0), .val .null, .val (.ref o1), .val (.ref o2), .val (.int (0 : Int32)), .val (.int i6), .val (.ref o7), .val (.int (gsg157t_L8 i8 i9 j10 bd)), .val (.int i9), .val (.long (j10 &&& (j10 - (1 : Int64)))), .second, .val (.int ((i9 * (64 : Int32)) + (f12 j10)))] [])) t → Steps p.tables e below (T0.setTop (mkF m 157 #[.val (.ref o0), .val (.int p0), .val .null, .val (.ref o1), .val (.ref o2), .val (.int (0 : Int32)), .val (.int i6), .val (.ref o7), .val (.int i8), .val (.int i9), .val (.long j10), .second, s12] [])) t := by
  have pre0 : ∀ t, Steps p.tables e below (T0.setTop (mkF m 157 #[.val (.ref o0), .val (.int p0), .val .null, .val (.ref o1), .val (.ref o2), .val (.int (0 : Int32)), .val (.int i6), .val (.ref o7), .val (.int i8), .val (.int i9), .val (.long j10), .second, s12] [])) t → Steps p.tables e below (T0.setTop (mkF m 157 #[.val (.ref o0), .val (.int p0), .val .null, .val (.ref o1), .val (.ref o2), .val (.int (0 : Int32)), .val (.int i6), .val (.ref o7), .val (.int i8), .val (.int i9), .val (.long j10), .second, s12] [])) t := fun t k => k
  obtain ⟨_, _, ⟨T1, L1, k1, n1⟩, -, X1, ⟨Lc1, hQ1, l1, y1, z1⟩, st1⟩ := Jvm.LawKit.callS X0 hx (y := (⟨"java/lang/Long", "numberOfTrailingZeros", "(J)I"⟩ : MethodName)) hown (mvT hZ (hw _ (List.mem_of_getElem? (i := 61) rfl))) (mvT hZ (hw _ (List.mem_of_getElem? (i := 62) rfl))) (mvT hZ (hw _ (List.mem_of_getElem? (i := 63) rfl))) (mvT hZ (hw _ (List.mem_of_getElem? (i := 64) rfl))) (by decide) (backOf (W := 1) (rm12 l Z a0 hw [] j10 h0 n0 Z0) hZ (hw _ (List.mem_of_getElem? (i := 64) rfl)) (hw _ (List.mem_of_getElem? (i := 63) rfl)) (by decide) (by decide)) (g := (mkF m 171 #[.val (.ref o0), .val (.int p0), .val .null, .val (.ref o1), .val (.ref o2), .val (.int (0 : Int32)), .val (.int i6), .val (.ref o7), .val (.int i8), .val (.int i9), .val (.long j10), .second, s12] [(.long j10), (.int (i9 * (64 : Int32)))])) rfl (by rw [hml]; rfl) (argsL := [(.long j10)]) (rest := [(.int (i9 * (64 : Int32)))]) (lenOf pd_4 rfl) rfl (by show 2 * 0 + _ ≤ _; exact Nat.le_of_eq rfl) (hb hby d10_171) (fun _ _ => ⟨rfl, e0, hcc, hss⟩)
  dsimp only [Pt.U, Pt.locs, Pt.cells, Pt.slots] at X1 l1 y1 z1 st1 hQ1
  rw [l1, y1, z1] at X1
  obtain ⟨rfl, N1q, e1⟩ := hQ1
  have N1 := Fr.app N0 N1q
  obtain ⟨T2, X2, e2, st2⟩ := getF X1 hx hZ hown (host := "") (Or.inl (hw _ (List.mem_of_getElem? (i := 23) rfl))) Via.refl e1 (F_bound_o0) (g := (mkF m 180 #[.val (.ref o0), .val (.int p0), .val .null, .val (.ref o1), .val (.ref o2), .val (.int (0 : Int32)), .val (.int i6), .val (.ref o7), .val (.int i8), .val (.int i9), .val (.long j10), .second, .val (.int ((i9 * (64 : Int32)) + (f12 j10)))] [(.ref o0), (.int ((i9 * (64 : Int32)) + (f12 j10)))])) rfl rfl (hb hby d10_180)
  have pre3 : ∀ t, Steps p.tables e below (T2.setTop (mkF m 183 #[.val (.ref o0), .val (.int p0), .val .null, .val (.ref o1), .val (.ref o2), .val (.int (0 : Int32)), .val (.int i6), .val (.ref o7), .val (.int i8), .val (.int i9), .val (.long j10), .second, .val (.int ((i9 * (64 : Int32)) + (f12 j10)))] [(.int bd), (.int ((i9 * (64 : Int32)) + (f12 j10)))])) t → Steps p.tables e below (T0.setTop (mkF m 157 #[.val (.ref o0), .val (.int p0), .val .null, .val (.ref o1), .val (.ref o2), .val (.int (0 : Int32)), .val (.int i6), .val (.ref o7), .val (.int i8), .val (.int i9), .val (.long j10), .second, s12] [])) t := fun t k => pre0 t (by
    show Steps p.tables e below (T0.setTop (mkF m 157 #[.val (.ref o0), .val (.int p0), .val .null, .val (.ref o1), .val (.ref o2), .val (.int (0 : Int32)), .val (.int i6), .val (.ref o7), .val (.int i8), .val (.int i9), .val (.long j10), .second, s12] [])) _
    refine XS.lload X0.here hx rfl (hb hby d10_157) rfl ?_
    show Steps p.tables e below (T0.setTop (mkF m 159 #[.val (.ref o0), .val (.int p0), .val .null, .val (.ref o1), .val (.ref o2), .val (.int (0 : Int32)), .val (.int i6), .val (.ref o7), .val (.int i8), .val (.int i9), .val (.long j10), .second, s12] [(.long j10)])) _
    refine XS.lconst X0.here hx rfl (hb hby d10_159) ?_
    show Steps p.tables e below (T0.setTop (mkF m 160 #[.val (.ref o0), .val (.int p0), .val .null, .val (.ref o1), .val (.ref o2), .val (.int (0 : Int32)), .val (.int i6), .val (.ref o7), .val (.int i8), .val (.int i9), .val (.long j10), .second, s12] [(.long (0 : Int64)), (.long j10)])) _
    refine XS.lcmp X0.here hx rfl (hb hby d10_160) rfl ?_
    show Steps p.tables e below (T0.setTop (mkF m 161 #[.val (.ref o0), .val (.int p0), .val .null, .val (.ref o1), .val (.ref o2), .val (.int (0 : Int32)), .val (.int i6), .val (.ref o7), .val (.int i8), .val (.int i9), .val (.long j10), .second, s12] [(.int (lcmpW j10 (0 : Int64)))])) _
    refine XS.ifNo X0.here hx rfl (hb hby d10_161) rfl ((if0 _ _).trans (feq (hne : ¬ ((lcmpW j10 (0 : Int64)) = (0 : Int32)))).1) ?_
    show Steps p.tables e below (T0.setTop (mkF m 164 #[.val (.ref o0), .val (.int p0), .val .null, .val (.ref o1), .val (.ref o2), .val (.int (0 : Int32)), .val (.int i6), .val (.ref o7), .val (.int i8), .val (.int i9), .val (.long j10), .second, s12] [])) _
    refine XS.iload X0.here hx rfl (hb hby d10_164) rfl ?_
    show Steps p.tables e below (T0.setTop (mkF m 166 #[.val (.ref o0), .val (.int p0), .val .null, .val (.ref o1), .val (.ref o2), .val (.int (0 : Int32)), .val (.int i6), .val (.ref o7), .val (.int i8), .val (.int i9), .val (.long j10), .second, s12] [(.int i9)])) _
    refine XS.bipush X0.here hx rfl (hb hby d10_166) ?_
    show Steps p.tables e below (T0.setTop (mkF m 168 #[.val (.ref o0), .val (.int p0), .val .null, .val (.ref o1), .val (.ref o2), .val (.int (0 : Int32)), .val (.int i6), .val (.ref o7), .val (.int i8), .val (.int i9), .val (.long j10), .second, s12] [(.int (64 : Int32)), (.int i9)])) _
    refine XS.imul X0.here hx rfl (hb hby d10_168) rfl ?_
    show Steps p.tables e below (T0.setTop (mkF m 169 #[.val (.ref o0), .val (.int p0), .val .null, .val (.ref o1), .val (.ref o2), .val (.int (0 : Int32)), .val (.int i6), .val (.ref o7), .val (.int i8), .val (.int i9), .val (.long j10), .second, s12] [(.int (i9 * (64 : Int32)))])) _
    refine XS.lload X0.here hx rfl (hb hby d10_169) rfl ?_
    show Steps p.tables e below (T0.setTop (mkF m 171 #[.val (.ref o0), .val (.int p0), .val .null, .val (.ref o1), .val (.ref o2), .val (.int (0 : Int32)), .val (.int i6), .val (.ref o7), .val (.int i8), .val (.int i9), .val (.long j10), .second, s12] [(.long j10), (.int (i9 * (64 : Int32)))])) _
    refine st1 _ ?_
    show Steps p.tables e below (T1.setTop (mkF m 174 #[.val (.ref o0), .val (.int p0), .val .null, .val (.ref o1), .val (.ref o2), .val (.int (0 : Int32)), .val (.int i6), .val (.ref o7), .val (.int i8), .val (.int i9), .val (.long j10), .second, s12] [(.int (f12 j10)), (.int (i9 * (64 : Int32)))])) _
    refine XS.iadd X1.here hx rfl (hb hby d10_174) rfl ?_
    show Steps p.tables e below (T1.setTop (mkF m 175 #[.val (.ref o0), .val (.int p0), .val .null, .val (.ref o1), .val (.ref o2), .val (.int (0 : Int32)), .val (.int i6), .val (.ref o7), .val (.int i8), .val (.int i9), .val (.long j10), .second, s12] [(.int ((i9 * (64 : Int32)) + (f12 j10)))])) _
    refine XS.istoreS X1.here hx rfl (hb hby d10_175) rfl rfl h12 ?_
    show Steps p.tables e below (T1.setTop (mkF m 177 #[.val (.ref o0), .val (.int p0), .val .null, .val (.ref o1), .val (.ref o2), .val (.int (0 : Int32)), .val (.int i6), .val (.ref o7), .val (.int i8), .val (.int i9), .val (.long j10), .second, .val (.int ((i9 * (64 : Int32)) + (f12 j10)))] [])) _
    refine XS.iload X1.here hx rfl (hb hby d10_177) rfl ?_
    show Steps p.tables e below (T1.setTop (mkF m 179 #[.val (.ref o0), .val (.int p0), .val .null, .val (.ref o1), .val (.ref o2), .val (.int (0 : Int32)), .val (.int i6), .val (.ref o7), .val (.int i8), .val (.int i9), .val (.long j10), .second, .val (.int ((i9 * (64 : Int32)) + (f12 j10)))] [(.int ((i9 * (64 : Int32)) + (f12 j10)))])) _
    refine XS.aloadN X1.here hx rfl (hb hby d10_179) rfl rfl ?_
    show Steps p.tables e below (T1.setTop (mkF m 180 #[.val (.ref o0), .val (.int p0), .val .null, .val (.ref o1), .val (.ref o2), .val (.int (0 : Int32)), .val (.int i6), .val (.ref o7), .val (.int i8), .val (.int i9), .val (.long j10), .second, .val (.int ((i9 * (64 : Int32)) + (f12 j10)))] [(.ref o0), (.int ((i9 * (64 : Int32)) + (f12 j10)))])) _
    refine st2 _ ?_
    show Steps p.tables e below (T2.setTop (mkF m 183 #[.val (.ref o0), .val (.int p0), .val .null, .val (.ref o1), .val (.ref o2), .val (.int (0 : Int32)), .val (.int i6), .val (.ref o7), .val (.int i8), .val (.int i9), .val (.long j10), .second, .val (.int ((i9 * (64 : Int32)) + (f12 j10)))] [(.int bd), (.int ((i9 * (64 : Int32)) + (f12 j10)))])) _
    exact k)
  by_cases hc183_4 : ((i9 * (64 : Int32)) + (f12 j10)) < bd
  · obtain ⟨cl5, Ar5, hin5, hat5⟩ := Ia.get (V_o2) (j := i8) hi8
    obtain ⟨T6, h6, X6, e6, W6, st6⟩ := stI X2 hx hZ e2 Ar5 (j := i8) hin5 (g := (mkF m 195 #[.val (.ref o0), .val (.int p0), .val .null, .val (.ref o1), .val (.ref o2), .val (.int (0 : Int32)), .val (.int i6), .val (.ref o7), .val (.int (i8 + (1 : Int32))), .val (.int i9), .val (.long j10), .second, .val (.int ((i9 * (64 : Int32)) + (f12 j10)))] [(.int ((i9 * (64 : Int32)) + (f12 j10))), (.int i8), (.ref o2)])) rfl rfl (hb hby d10_195)
    have Vw6 := Ia.set (V_o2) (j := i8) (x := ((i9 * (64 : Int32)) + (f12 j10))) hi8 rfl W6
    have N6 := Fr.snoc X6 N1 g_o2
    have Z6 : n0 ≤ h6.size := Nat.le_trans Z0 (Keep.of_wr W6).1
    have K6 : Keep h0 h6 [o2] := ((Keep.refl h0 [o2])).wr W6 (Or.inl (List.mem_of_getElem? (i := 0) rfl))
    have hg7 : (gsg157t_o2 i8 i9 j10 bd ii) = (setI ii i8 ((i9 * (64 : Int32)) + (f12 j10))) := by simp only [gsg157t_o2, if_pos hc183_4]
    have hg8 : (gsg157t_L8 i8 i9 j10 bd) = (i8 + (1 : Int32)) := by simp only [gsg157t_L8, if_pos hc183_4]
    refine ⟨T6, _, X6, N6, (by rw [e6]; exact K6), (by rw [e6]; exact (F_bound_o0.other W6 (Or.inl ne_o0_o2))), (by rw [e6, hg7]; exact Vw6), fun t k => pre3 t ?_⟩
    rw [hg8] at k
    show Steps p.tables e below (T2.setTop (mkF m 183 #[.val (.ref o0), .val (.int p0), .val .null, .val (.ref o1), .val (.ref o2), .val (.int (0 : Int32)), .val (.int i6), .val (.ref o7), .val (.int i8), .val (.int i9), .val (.long j10), .second, .val (.int ((i9 * (64 : Int32)) + (f12 j10)))] [(.int bd), (.int ((i9 * (64 : Int32)) + (f12 j10)))])) _
    refine XS.icmpNo X2.here hx rfl (hb hby d10_183) rfl (tlt hc183_4).2.1 ?_
    show Steps p.tables e below (T2.setTop (mkF m 186 #[.val (.ref o0), .val (.int p0), .val .null, .val (.ref o1), .val (.ref o2), .val (.int (0 : Int32)), .val (.int i6), .val (.ref o7), .val (.int i8), .val (.int i9), .val (.long j10), .second, .val (.int ((i9 * (64 : Int32)) + (f12 j10)))] [])) _
    refine XS.aload X2.here hx rfl (hb hby d10_186) rfl rfl ?_
    show Steps p.tables e below (T2.setTop (mkF m 188 #[.val (.ref o0), .val (.int p0), .val .null, .val (.ref o1), .val (.ref o2), .val (.int (0 : Int32)), .val (.int i6), .val (.ref o7), .val (.int i8), .val (.int i9), .val (.long j10), .second, .val (.int ((i9 * (64 : Int32)) + (f12 j10)))] [(.ref o2)])) _
    refine XS.iload X2.here hx rfl (hb hby d10_188) rfl ?_
    show Steps p.tables e below (T2.setTop (mkF m 190 #[.val (.ref o0), .val (.int p0), .val .null, .val (.ref o1), .val (.ref o2), .val (.int (0 : Int32)), .val (.int i6), .val (.ref o7), .val (.int i8), .val (.int i9), .val (.long j10), .second, .val (.int ((i9 * (64 : Int32)) + (f12 j10)))] [(.int i8), (.ref o2)])) _
    refine XS.iinc X2.here hx rfl (hb hby d10_190) rfl (l' := #[.val (.ref o0), .val (.int p0), .val .null, .val (.ref o1), .val (.ref o2), .val (.int (0 : Int32)), .val (.int i6), .val (.ref o7), .val (.int (i8 + (1 : Int32))), .val (.int i9), .val (.long j10), .second, .val (.int ((i9 * (64 : Int32)) + (f12 j10)))]) rfl ?_
    show Steps p.tables e below (T2.setTop (mkF m 193 #[.val (.ref o0), .val (.int p0), .val .null, .val (.ref o1), .val (.ref o2), .val (.int (0 : Int32)), .val (.int i6), .val (.ref o7), .val (.int (i8 + (1 : Int32))), .val (.int i9), .val (.long j10), .second, .val (.int ((i9 * (64 : Int32)) + (f12 j10)))] [(.int i8), (.ref o2)])) _
    refine XS.iload X2.here hx rfl (hb hby d10_193) rfl ?_
    show Steps p.tables e below (T2.setTop (mkF m 195 #[.val (.ref o0), .val (.int p0), .val .null, .val (.ref o1), .val (.ref o2), .val (.int (0 : Int32)), .val (.int i6), .val (.ref o7), .val (.int (i8 + (1 : Int32))), .val (.int i9), .val (.long j10), .second, .val (.int ((i9 * (64 : Int32)) + (f12 j10)))] [(.int ((i9 * (64 : Int32)) + (f12 j10))), (.int i8), (.ref o2)])) _
    refine st6 _ ?_
    show Steps p.tables e below (T6.setTop (mkF m 196 #[.val (.ref o0), .val (.int p0), .val .null, .val (.ref o1), .val (.ref o2), .val (.int (0 : Int32)), .val (.int i6), .val (.ref o7), .val (.int (i8 + (1 : Int32))), .val (.int i9), .val (.long j10), .second, .val (.int ((i9 * (64 : Int32)) + (f12 j10)))] [])) _
    refine XS.lload X6.here hx rfl (hb hby d10_196) rfl ?_
    show Steps p.tables e below (T6.setTop (mkF m 198 #[.val (.ref o0), .val (.int p0), .val .null, .val (.ref o1), .val (.ref o2), .val (.int (0 : Int32)), .val (.int i6), .val (.ref o7), .val (.int (i8 + (1 : Int32))), .val (.int i9), .val (.long j10), .second, .val (.int ((i9 * (64 : Int32)) + (f12 j10)))] [(.long j10)])) _
    refine XS.lload X6.here hx rfl (hb hby d10_198) rfl ?_
    show Steps p.tables e below (T6.setTop (mkF m 200 #[.val (.ref o0), .val (.int p0), .val .null, .val (.ref o1), .val (.ref o2), .val (.int (0 : Int32)), .val (.int i6), .val (.ref o7), .val (.int (i8 + (1 : Int32))), .val (.int i9), .val (.long j10), .second, .val (.int ((i9 * (64 : Int32)) + (f12 j10)))] [(.long j10), (.long j10)])) _
    refine XS.lconst X6.here hx rfl (hb hby d10_200) ?_
    show Steps p.tables e below (T6.setTop (mkF m 201 #[.val (.ref o0), .val (.int p0), .val .null, .val (.ref o1), .val (.ref o2), .val (.int (0 : Int32)), .val (.int i6), .val (.ref o7), .val (.int (i8 + (1 : Int32))), .val (.int i9), .val (.long j10), .second, .val (.int ((i9 * (64 : Int32)) + (f12 j10)))] [(.long (1 : Int64)), (.long j10), (.long j10)])) _
    refine XS.lsub X6.here hx rfl (hb hby d10_201) rfl ?_
    show Steps p.tables e below (T6.setTop (mkF m 202 #[.val (.ref o0), .val (.int p0), .val .null, .val (.ref o1), .val (.ref o2), .val (.int (0 : Int32)), .val (.int i6), .val (.ref o7), .val (.int (i8 + (1 : Int32))), .val (.int i9), .val (.long j10), .second, .val (.int ((i9 * (64 : Int32)) + (f12 j10)))] [(.long (j10 - (1 : Int64))), (.long j10)])) _
    refine XS.land X6.here hx rfl (hb hby d10_202) rfl ?_
    show Steps p.tables e below (T6.setTop (mkF m 203 #[.val (.ref o0), .val (.int p0), .val .null, .val (.ref o1), .val (.ref o2), .val (.int (0 : Int32)), .val (.int i6), .val (.ref o7), .val (.int (i8 + (1 : Int32))), .val (.int i9), .val (.long j10), .second, .val (.int ((i9 * (64 : Int32)) + (f12 j10)))] [(.long (j10 &&& (j10 - (1 : Int64))))])) _
    refine XS.lstore X6.here hx rfl (hb hby d10_203) rfl (l' := #[.val (.ref o0), .val (.int p0), .val .null, .val (.ref o1), .val (.ref o2), .val (.int (0 : Int32)), .val (.int i6), .val (.ref o7), .val (.int (i8 + (1 : Int32))), .val (.int i9), .val (.long (j10 &&& (j10 - (1 : Int64)))), .second, .val (.int ((i9 * (64 : Int32)) + (f12 j10)))]) rfl ?_
    show Steps p.tables e below (T6.setTop (mkF m 205 #[.val (.ref o0), .val (.int p0), .val .null, .val (.ref o1), .val (.ref o2), .val (.int (0 : Int32)), .val (.int i6), .val (.ref o7), .val (.int (i8 + (1 : Int32))), .val (.int i9), .val (.long (j10 &&& (j10 - (1 : Int64)))), .second, .val (.int ((i9 * (64 : Int32)) + (f12 j10)))] [])) _
    refine XS.goto X6.here hx rfl (pc0 := 205) (pc' := 157) rfl (hb hby d10_205) (by decide) (by decide) ?_
    show Steps p.tables e below (T6.setTop (mkF m 157 #[.val (.ref o0), .val (.int p0), .val .null, .val (.ref o1), .val (.ref o2), .val (.int (0 : Int32)), .val (.int i6), .val (.ref o7), .val (.int (i8 + (1 : Int32))), .val (.int i9), .val (.long (j10 &&& (j10 - (1 : Int64)))), .second, .val (.int ((i9 * (64 : Int32)) + (f12 j10)))] [])) _
    exact k
  · have hg9 : (gsg157t_o2 i8 i9 j10 bd ii) = ii := by simp only [gsg157t_o2, if_neg hc183_4]
    have hg10 : (gsg157t_L8 i8 i9 j10 bd) = i8 := by simp only [gsg157t_L8, if_neg hc183_4]
    refine ⟨T2, _, X2, N1, (by rw [e2]; exact (Keep.refl h0 [o2])), (by rw [e2]; exact F_bound_o0), (by rw [e2, hg9]; exact V_o2), fun t k => pre3 t ?_⟩
    rw [hg10] at k
    show Steps p.tables e below (T2.setTop (mkF m 183 #[.val (.ref o0), .val (.int p0), .val .null, .val (.ref o1), .val (.ref o2), .val (.int (0 : Int32)), .val (.int i6), .val (.ref o7), .val (.int i8), .val (.int i9), .val (.long j10), .second, .val (.int ((i9 * (64 : Int32)) + (f12 j10)))] [(.int bd), (.int ((i9 * (64 : Int32)) + (f12 j10)))])) _
    refine XS.icmpYes X2.here hx rfl (pc0 := 183) (pc' := 196) rfl (hb hby d10_183) rfl (flt hc183_4).2.1 (by decide) (by decide) ?_
    show Steps p.tables e below (T2.setTop (mkF m 196 #[.val (.ref o0), .val (.int p0), .val .null, .val (.ref o1), .val (.ref o2), .val (.int (0 : Int32)), .val (.int i6), .val (.ref o7), .val (.int i8), .val (.int i9), .val (.long j10), .second, .val (.int ((i9 * (64 : Int32)) + (f12 j10)))] [])) _
    refine XS.lload X2.here hx rfl (hb hby d10_196) rfl ?_
    show Steps p.tables e below (T2.setTop (mkF m 198 #[.val (.ref o0), .val (.int p0), .val .null, .val (.ref o1), .val (.ref o2), .val (.int (0 : Int32)), .val (.int i6), .val (.ref o7), .val (.int i8), .val (.int i9), .val (.long j10), .second, .val (.int ((i9 * (64 : Int32)) + (f12 j10)))] [(.long j10)])) _
    refine XS.lload X2.here hx rfl (hb hby d10_198) rfl ?_
    show Steps p.tables e below (T2.setTop (mkF m 200 #[.val (.ref o0), .val (.int p0), .val .null, .val (.ref o1), .val (.ref o2), .val (.int (0 : Int32)), .val (.int i6), .val (.ref o7), .val (.int i8), .val (.int i9), .val (.long j10), .second, .val (.int ((i9 * (64 : Int32)) + (f12 j10)))] [(.long j10), (.long j10)])) _
    refine XS.lconst X2.here hx rfl (hb hby d10_200) ?_
    show Steps p.tables e below (T2.setTop (mkF m 201 #[.val (.ref o0), .val (.int p0), .val .null, .val (.ref o1), .val (.ref o2), .val (.int (0 : Int32)), .val (.int i6), .val (.ref o7), .val (.int i8), .val (.int i9), .val (.long j10), .second, .val (.int ((i9 * (64 : Int32)) + (f12 j10)))] [(.long (1 : Int64)), (.long j10), (.long j10)])) _
    refine XS.lsub X2.here hx rfl (hb hby d10_201) rfl ?_
    show Steps p.tables e below (T2.setTop (mkF m 202 #[.val (.ref o0), .val (.int p0), .val .null, .val (.ref o1), .val (.ref o2), .val (.int (0 : Int32)), .val (.int i6), .val (.ref o7), .val (.int i8), .val (.int i9), .val (.long j10), .second, .val (.int ((i9 * (64 : Int32)) + (f12 j10)))] [(.long (j10 - (1 : Int64))), (.long j10)])) _
    refine XS.land X2.here hx rfl (hb hby d10_202) rfl ?_
    show Steps p.tables e below (T2.setTop (mkF m 203 #[.val (.ref o0), .val (.int p0), .val .null, .val (.ref o1), .val (.ref o2), .val (.int (0 : Int32)), .val (.int i6), .val (.ref o7), .val (.int i8), .val (.int i9), .val (.long j10), .second, .val (.int ((i9 * (64 : Int32)) + (f12 j10)))] [(.long (j10 &&& (j10 - (1 : Int64))))])) _
    refine XS.lstore X2.here hx rfl (hb hby d10_203) rfl (l' := #[.val (.ref o0), .val (.int p0), .val .null, .val (.ref o1), .val (.ref o2), .val (.int (0 : Int32)), .val (.int i6), .val (.ref o7), .val (.int i8), .val (.int i9), .val (.long (j10 &&& (j10 - (1 : Int64)))), .second, .val (.int ((i9 * (64 : Int32)) + (f12 j10)))]) rfl ?_
    show Steps p.tables e below (T2.setTop (mkF m 205 #[.val (.ref o0), .val (.int p0), .val .null, .val (.ref o1), .val (.ref o2), .val (.int (0 : Int32)), .val (.int i6), .val (.ref o7), .val (.int i8), .val (.int i9), .val (.long (j10 &&& (j10 - (1 : Int64)))), .second, .val (.int ((i9 * (64 : Int32)) + (f12 j10)))] [])) _
    refine XS.goto X2.here hx rfl (pc0 := 205) (pc' := 157) rfl (hb hby d10_205) (by decide) (by decide) ?_
    show Steps p.tables e below (T2.setTop (mkF m 157 #[.val (.ref o0), .val (.int p0), .val .null, .val (.ref o1), .val (.ref o2), .val (.int (0 : Int32)), .val (.int i6), .val (.ref o7), .val (.int i8), .val (.int i9), .val (.long (j10 &&& (j10 - (1 : Int64)))), .second, .val (.int ((i9 * (64 : Int32)) + (f12 j10)))] [])) _
    exact k
set_option maxRecDepth 65536 in
set_option maxHeartbeats 40000000 in
theorem sg157e {p : Program} {l : Launch} {e : Env} {s : State} {m : MethodId} {args : Array Value} {below : List Frame} {meth : Method} {c : Code} {T0 : State} {locs : List Loc} {cells slots : Nat} {Z : State} {a0 : Array Value} {h0 : Heap} {n0 : Nat} (o0 : Addr) (o1 : Addr) (o2 : Addr) (o7 : Addr) (p0 : Int32) (i6 : Int32) (i8 : Int32) (i9 : Int32) (j10 : Int64) (s12 : Slot) (bd : Int32) (kc : ClassId) (ii : List Int32)
    (X0 : Stand p l e ({ frames := 2, cells := 1, slots := 0, locals := 29 } : Room) s m args below meth c T0 locs cells slots) (hx : p.tables.exec = Jvm.exec) (hZ : Z.Warmed39 s.vm) (hw : ∀ d ∈ tables_1, d.before a0 Z = true) (hby : c.code = prog_27_method_4_code) (hml : c.maxLocals = 13) (hown : s.vm.findClass "com/example/knotwork/knotwork/generate/FreeNumbers" = some m.cls) (e0 : T0.heap = h0) (Z0 : n0 ≤ h0.size) (N0 : Fr n0 locs) (hcc : cells ≤ ({ frames := 2, cells := 1, slots := 0, locals := 29 } : Room).cells) (hss : slots ≤ ({ frames := 2, cells := 1, slots := 0, locals := 29 } : Room).slots) (E_o0 : Exa Z h0 o0 "com/example/knotwork/knotwork/generate/FreeNumbers") (F_bound_o0 : Fld Z h0 o0 "com/example/knotwork/knotwork/generate/FreeNumbers" "bound" "I" (.int bd)) (V_o2 : Ia Z h0 o2 kc .int (129 : Int32) ii) (ne_o0_o2 : o0 ≠ o2) (hz : (lcmpW j10 (0 : Int64)) = (0 : Int32)) :
    ∃ (T' : State) (locs' : List Loc), Stand p l e ({ frames := 2, cells := 1, slots := 0, locals := 29 } : Room) s m args below meth c T' locs' cells slots ∧ Fr n0 locs' ∧ Keep h0 T'.heap [] ∧ Fld Z T'.heap o0 "com/example/knotwork/knotwork/generate/FreeNumbers" "bound" "I" (.int bd) ∧ Ia Z T'.heap o2 kc .int (129 : Int32) ii ∧ ∀ t, Steps p.tables e below (T'.setTop (mkF m 208 #[.val (.ref o0), .val (.int p0), .val .null, .val (.ref o1), .val (.ref o2), .val (.int (0 : Int32)), .val (.int i6), .val (.ref o7), .val (.int i8), .val (.int i9), .val (.long j10), .second, s12] [])) t → Steps p.tables e below (T0.setTop (mkF m 157 #[.val (.ref o0), .val (.int p0), .val .null, .val (.ref o1), .val (.ref o2), .val (.int (0 : Int32)), .val (.int i6), .val (.ref o7), .val (.int i8), .val (.int i9), .val (.long j10), .second, s12] [])) t := by
  have pre0 : ∀ t, Steps p.tables e below (T0.setTop (mkF m 157 #[.val (.ref o0), .val (.int p0), .val .null, .val (.ref o1), .val (.ref o2), .val (.int (0 : Int32)), .val (.int i6), .val (.ref o7), .val (.int i8), .val (.int i9), .val (.long j10), .second, s12] [])) t → Steps p.tables e below (T0.setTop (mkF m 157 #[.val (.ref o0), .val (.int p0), .val .null, .val (.ref o1), .val (.ref o2), .val (.int (0 : Int32)), .val (.int i6), .val (.ref o7), .val (.int i8), .val (.int i9), .val (.long j10), .second, s12] [])) t := fun t k => k
  refine ⟨T0, _, X0, N0, (by rw [e0]; exact (Keep.refl h0 [])), (by rw [e0]; exact F_bound_o0), (by rw [e0]; exact V_o2), fun t k => pre0 t ?_⟩
  show Steps p.tables e below (T0.setTop (mkF m 157 #[.val (.ref o0), .val (.int p0), .val .null, .val (.ref o1), .val (.ref o2), .val (.int (0 : Int32)), .val (.int i6), .val (.ref o7), .val (.int i8), .val (.int i9), .val (.long j10), .second, s12] [])) _
  refine XS.lload X0.here hx rfl (hb hby d10_157) rfl ?_
  show Steps p.tables e below (T0.setTop (mkF m 159 #[.val (.ref o0), .val (.int p0), .val .null, .val (.ref o1), .val (.ref o2), .val (.int (0 : Int32)), .val (.int i6), .val (.ref o7), .val (.int i8), .val (.int i9), .val (.long j10), .second, s12] [(.long j10)])) _
  refine XS.lconst X0.here hx rfl (hb hby d10_159) ?_
  show Steps p.tables e below (T0.setTop (mkF m 160 #[.val (.ref o0), .val (.int p0), .val .null, .val (.ref o1), .val (.ref o2), .val (.int (0 : Int32)), .val (.int i6), .val (.ref o7), .val (.int i8), .val (.int i9), .val (.long j10), .second, s12] [(.long (0 : Int64)), (.long j10)])) _
  refine XS.lcmp X0.here hx rfl (hb hby d10_160) rfl ?_
  show Steps p.tables e below (T0.setTop (mkF m 161 #[.val (.ref o0), .val (.int p0), .val .null, .val (.ref o1), .val (.ref o2), .val (.int (0 : Int32)), .val (.int i6), .val (.ref o7), .val (.int i8), .val (.int i9), .val (.long j10), .second, s12] [(.int (lcmpW j10 (0 : Int64)))])) _
  refine XS.ifYes X0.here hx rfl (pc0 := 161) (pc' := 208) rfl (hb hby d10_161) rfl ((if0 _ _).trans (teq (hz : (lcmpW j10 (0 : Int64)) = (0 : Int32))).1) (by decide) (by decide) ?_
  show Steps p.tables e below (T0.setTop (mkF m 208 #[.val (.ref o0), .val (.int p0), .val .null, .val (.ref o1), .val (.ref o2), .val (.int (0 : Int32)), .val (.int i6), .val (.ref o7), .val (.int i8), .val (.int i9), .val (.long j10), .second, s12] [])) _
  exact k

def Sf (ts : List Int64) (B : Nat) : Nat → Bool := fun z => !bit ts z && decide (z < B)
theorem own_num : ∀ w : Fin 2, ∀ j : Fin 64, (Int32.ofNat w.val * (64 : Int32)) + Int32.ofNat j.val = Int32.ofNat (64 * w.val + j.val) := by decide +kernel
theorem own_zero (y : Int64) (h : ∀ i, i < 64 → y.toBitVec.getLsbD i = false) : y = 0 := by
  apply Int64.toBitVec_inj.mp
  apply BitVec.eq_of_getLsbD_eq
  intro i hi
  rw [h i hi]
  show false = (0#64).getLsbD i
  simp
theorem own_clr1 (y : Int64) (j : Nat) (h : Lo y.toBitVec j) (i : Nat) : (y &&& (y - (1 : Int64))).toBitVec.getLsbD i = (if i ≤ j then false else y.toBitVec.getLsbD i) := by
  rw [Int64.toBitVec_and, Int64.toBitVec_sub]
  exact own_clr y.toBitVec j h i
set_option maxRecDepth 65536 in
set_option maxHeartbeats 40000000 in
theorem lp157 {p : Program} {l : Launch} {e : Env} {s : State} {m : MethodId} {args : Array Value} {below : List Frame} {meth : Method} {c : Code} {cells slots : Nat} {Z : State} {a0 : Array Value} {n0 : Nat} (o0 o1 o2 o7 : Addr) (p0 i6 bd : Int32) (kc : ClassId)
    (hx : p.tables.exec = Jvm.exec) (hZ : Z.Warmed39 s.vm) (hw : ∀ d ∈ tables_1, d.before a0 Z = true) (hby : c.code = prog_27_method_4_code) (hml : c.maxLocals = 13) (hown : s.vm.findClass "com/example/knotwork/knotwork/generate/FreeNumbers" = some m.cls) (hcc : cells ≤ ({ frames := 2, cells := 1, slots := 0, locals := 29 } : Room).cells) (hss : slots ≤ ({ frames := 2, cells := 1, slots := 0, locals := 29 } : Room).slots)
    (g_o2 : n0 ≤ o2) (ne_o0_o2 : o0 ≠ o2) (B w : Nat) (hw2 : w < 2) (hB : bd = Int32.ofNat B) (hB2 : B ≤ 128) (ts : List Int64) :
    ∀ (k j : Nat), j + k = 64 → ∀ (T0 : State) (locs : List Loc) (h0 : Heap) (s12 : Slot) (j10 : Int64) (q : Nat) (ii : List Int32), Stand p l e ({ frames := 2, cells := 1, slots := 0, locals := 29 } : Room) s m args below meth c T0 locs cells slots → T0.heap = h0 → n0 ≤ h0.size → Fr n0 locs → One s12 → q ≤ 64 * w + j → (∀ i, i < 64 → j10.toBitVec.getLsbD i = (decide (j ≤ i) && !bit ts (64 * w + i))) → Exa Z h0 o0 "com/example/knotwork/knotwork/generate/FreeNumbers" →
      Fld Z h0 o0 "com/example/knotwork/knotwork/generate/FreeNumbers" "bound" "I" (.int bd) → Ia Z h0 o2 kc .int (129 : Int32) ii →
      ∃ (T' : State) (locs' : List Loc) (s12' : Slot), One s12' ∧ Stand p l e ({ frames := 2, cells := 1, slots := 0, locals := 29 } : Room) s m args below meth c T' locs' cells slots ∧ Fr n0 locs' ∧ Keep h0 T'.heap [o2] ∧ Ia Z T'.heap o2 kc .int (129 : Int32) (pushR (Sf ts B) k (64 * w + j) q ii).2 ∧
        ∀ t, Steps p.tables e below (T'.setTop (mkF m 208 #[.val (.ref o0), .val (.int p0), .val .null, .val (.ref o1), .val (.ref o2), .val (.int (0 : Int32)), .val (.int i6), .val (.ref o7), .val (.int (Int32.ofNat (pushR (Sf ts B) k (64 * w + j) q ii).1)), .val (.int (Int32.ofNat w)), .val (.long (0 : Int64)), .second, s12'] [])) t → Steps p.tables e below (T0.setTop (mkF m 157 #[.val (.ref o0), .val (.int p0), .val .null, .val (.ref o1), .val (.ref o2), .val (.int (0 : Int32)), .val (.int i6), .val (.ref o7), .val (.int (Int32.ofNat q)), .val (.int (Int32.ofNat w)), .val (.long j10), .second, s12] [])) t := by
  intro k
  induction k with
  | zero =>
    intro j hj T0 locs h0 s12 j10 q ii X0 e0 Z0 N0 h12 hq hbits E F V
    have hz : j10 = 0 := own_zero j10 fun i hi => by rw [hbits i hi]; simp; omega
    subst hz
    obtain ⟨T', locs', X', N', K', f, v, st⟩ := sg157e o0 o1 o2 o7 p0 i6 (Int32.ofNat q) (Int32.ofNat w) 0 s12 bd kc ii X0 hx hZ hw hby hml hown e0 Z0 N0 hcc hss E F V ne_o0_o2 ((lcW _ _).trans ((lc_eq _ _).mpr rfl))
    exact ⟨T', locs', s12, h12, X', N', own_keep_nil _ K', v, st⟩
  | succ k ih =>
    intro j hj T0 locs h0 s12 j10 q ii X0 e0 Z0 N0 h12 hq hbits E F V
    have hj64 : j < 64 := by omega
    by_cases hb0 : bit ts (64 * w + j) = true
    · -- the number is taken: nothing of the loop belongs to it
      have hS : ¬ Sf ts B (64 * w + j) = true := by simp [Sf, hb0]
      rw [pushR, if_neg hS]
      refine ih (j + 1) (by omega) T0 locs h0 s12 j10 q ii X0 e0 Z0 N0 h12 (by omega) (fun i hi => ?_) E F V
      rw [hbits i hi]
      by_cases hij : i = j
      · subst hij; simp [hb0]
      · congr 1; simp; omega
    · have hb1 : bit ts (64 * w + j) = false := by simpa using hb0
      have hLo : Lo j10.toBitVec j := ⟨hj64, fun i hi => by rw [hbits i (by omega)]; simp; omega, by rw [hbits j hj64, hb1]; simp⟩
      have hne : ¬ ((lcmpW j10 (0 : Int64)) = (0 : Int32)) := by
        rw [lcW, lc_eq]
        intro z
        exact own_lo_ext hLo (by rw [z]; rfl)
      have hntz : f12 j10 = Int32.ofNat j := own_n64 j10 j hLo
      have hnum : (Int32.ofNat w * (64 : Int32)) + (f12 j10) = Int32.ofNat (64 * w + j) := by rw [hntz]; exact own_num ⟨w, hw2⟩ ⟨j, hj64⟩
      have hq129 : ¬ Int32.ofNat q < (0 : Int32) ∧ Int32.ofNat q < (129 : Int32) := ⟨own_nneg (by omega), own_lt_of (n := 129) (by omega) (by omega)⟩
      obtain ⟨T1, locs1, X1, N1, K1, f, v, st⟩ := sg157t o0 o1 o2 o7 p0 i6 (Int32.ofNat q) (Int32.ofNat w) j10 s12 bd kc ii X0 hx hZ hw hby hml hown e0 Z0 N0 hcc hss E F V g_o2 ne_o0_o2 hne hq129 h12
      have hbits' : ∀ i, i < 64 → (j10 &&& (j10 - (1 : Int64))).toBitVec.getLsbD i = (decide (j + 1 ≤ i) && !bit ts (64 * w + i)) := fun i hi => by
        rw [own_clr1 j10 j hLo i]
        by_cases hij : i ≤ j
        · rw [if_pos hij]; simp; omega
        · rw [if_neg hij, hbits i hi]; congr 1; simp; omega
      unfold gsg157t_o2 at v
      unfold gsg157t_L8 at st
      rw [hnum] at v st
      by_cases hlt : 64 * w + j < B
      · have hS : Sf ts B (64 * w + j) = true := by simp [Sf, hb1, hlt]
        have hc : Int32.ofNat (64 * w + j) < bd := by rw [hB]; exact own_lt_of hlt (by omega)
        rw [if_pos hc] at v st
        rw [pushR, if_pos hS]
        have es : setI ii (Int32.ofNat q) (Int32.ofNat (64 * w + j)) = ii.set q (Int32.ofNat (64 * w + j)) := by
          unfold setI; rw [own_ofNat_clamp (by omega)]
        rw [es] at v
        rw [own_succ (by omega)] at st
        obtain ⟨T', locs', s12', h12', X', N', K', v', st'⟩ := ih (j + 1) (by omega) T1 locs1 T1.heap _ _ (q + 1) _ X1 rfl (Nat.le_trans Z0 K1.1) N1 (One.val (w := .int (Int32.ofNat (64 * w + j))) rfl) (by omega) hbits' (E.keep K1) f v
        exact ⟨T', locs', s12', h12', X', N', own_keep_tr K1 K', v', fun t kt => st t (st' t kt)⟩
      · have hS : ¬ Sf ts B (64 * w + j) = true := by simp [Sf, hlt]
        have hc : ¬ Int32.ofNat (64 * w + j) < bd := by rw [hB]; exact own_nlt_of (by omega) (by omega)
        rw [if_neg hc] at v st
        rw [pushR, if_neg hS]
        obtain ⟨T', locs', s12', h12', X', N', K', v', st'⟩ := ih (j + 1) (by omega) T1 locs1 T1.heap _ _ q _ X1 rfl (Nat.le_trans Z0 K1.1) N1 (One.val (w := .int (Int32.ofNat (64 * w + j))) rfl) (by omega) hbits' (E.keep K1) f v
        exact ⟨T', locs', s12', h12', X', N', own_keep_tr K1 K', v', fun t kt => st t (st' t kt)⟩

theorem d10_227 : decode prog_27_method_4_code 227 = .ok (.iload 9, 2) := by decide +kernel
theorem d10_229 : decode prog_27_method_4_code 229 = .ok (.iload 8, 2) := by decide +kernel
theorem d10_231 : decode prog_27_method_4_code 231 = .ok (.if_icmp .ge 18, 3) := by decide +kernel
theorem d10_234 : decode prog_27_method_4_code 234 = .ok (.aload_n 0, 1) := by decide +kernel
theorem d10_235 : decode prog_27_method_4_code 235 = .ok (.aload 4, 2) := by decide +kernel
theorem d10_237 : decode prog_27_method_4_code 237 = .ok (.iload 9, 2) := by decide +kernel
theorem d10_239 : decode prog_27_method_4_code 239 = .ok (.iaload, 1) := by decide +kernel
theorem d10_240 : decode prog_27_method_4_code 240 = .ok (.invokevirtual 36, 3) := by decide +kernel
theorem d10_243 : decode prog_27_method_4_code 243 = .ok (.iinc 9 1, 3) := by decide +kernel
theorem d10_246 : decode prog_27_method_4_code 246 = .ok (.goto (-19), 3) := by decide +kernel
set_option maxRecDepth 65536 in
set_option maxHeartbeats 40000000 in
theorem sg227t {p : Program} {l : Launch} {e : Env} {s : State} {m : MethodId} {args : Array Value} {below : List Frame} {meth : Method} {c : Code} {T0 : State} {locs : List Loc} {cells slots : Nat} {Z : State} {a0 : Array Value} {h0 : Heap} {n0 : Nat} (o0 : Addr) (o1 : Addr) (o2 : Addr) (o7 : Addr) (p0 : Int32) (i6 : Int32) (i8 : Int32) (i9 : Int32) (s10 : Slot) (s11 : Slot) (s12 : Slot) (nl : Int32) (ta : Addr) (tc : Int32) (bd : Int32) (ka : ClassId) (ts : List Int64) (kc : ClassId) (ii : List Int32)
    (X0 : Stand p l e ({ frames := 2, cells := 1, slots := 0, locals := 29 } : Room) s m args below meth c T0 locs cells slots) (hx : p.tables.exec = Jvm.exec) (hZ : Z.Warmed39 s.vm) (hw : ∀ d ∈ tables_1, d.before a0 Z = true) (hby : c.code = prog_27_method_4_code) (hml : c.maxLocals = 13) (hown : s.vm.findClass "com/example/knotwork/knotwork/generate/FreeNumbers" = some m.cls) (e0 : T0.heap = h0) (Z0 : n0 ≤ h0.size) (N0 : Fr n0 locs) (hcc : cells ≤ ({ frames := 2, cells := 1, slots := 0, locals := 29 } : Room).cells) (hss : slots ≤ ({ frames := 2, cells := 1, slots := 0, locals := 29 } : Room).slots) (E_o0 : Exa Z h0 o0 "com/example/knotwork/knotwork/generate/FreeNumbers") (g_o0 : n0 ≤ o0) (F_taken_o0 : Fld Z h0 o0 "com/example/knotwork/knotwork/generate/FreeNumbers" "taken" "[J" (.ref ta)) (F_takenCount_o0 : Fld Z h0 o0 "com/example/knotwork/knotwork/generate/FreeNumbers" "takenCount" "I" (.int tc)) (F_bound_o0 : Fld Z h0 o0 "com/example/knotwork/knotwork/generate/FreeNumbers" "bound" "I" (.int bd)) (V_ta : La Z h0 ta ka nl ts) (g_ta : n0 ≤ ta) (V_o2 : Ia Z h0 o2 kc .int (129 : Int32) ii) (ne_o0_ta : o0 ≠ ta) (ne_o0_o2 : o0 ≠ o2) (ne_ta_o2 : ta ≠ o2) (hlt : i9 < i8) (hi9 : ¬ i9 < (0 : Int32) ∧ i9 < (129 : Int32)) (hix : ¬ (((getI ii i9).toUInt32 >>> ((6 : Int32) &&& 31).toUInt32).toInt32) < (0 : Int32) ∧ (((getI ii i9).toUInt32 >>> ((6 : Int32) &&& 31).toUInt32).toInt32) < nl) :
    ∃ (T' : State) (locs' : List Loc), Stand p l e ({ frames := 2, cells := 1, slots := 0, locals := 29 } : Room) s m args below meth c T' locs' cells slots ∧ Fr n0 locs' ∧ Keep h0 T'.heap [o0, ta] ∧ Fld Z T'.heap o0 "com/example/knotwork/knotwork/generate/FreeNumbers" "taken" "[J" (.ref ta) ∧ Fld Z T'.heap o0 "com/example/knotwork/knotwork/generate/FreeNumbers" "takenCount" "I" (.int (g5_takenCount (getI ii i9) tc ts)) ∧ Fld Z T'.heap o0 "com/example/knotwork/knotwork/generate/FreeNumbers" "bound" "I" (.int bd) ∧ La Z T'.heap ta ka nl (g5_ta (getI ii i9) ts) ∧ Ia Z T'.heap o2 kc .int (129 : Int32) ii ∧ ∀ t, Steps p.tables e below (T'.setTop (mkF m 227 #[.val (.ref o0), .val (.int p0), .val .null, .val (.ref o1), .val (.ref o2), .val (.int (0 : Int32)), .val (.int i6), .val (.ref o7), .val (.int i8), .val (.int (i9 + (1 : Int32))), s10, s11, s12] [])) t → Steps p.tables e below (T0.setTop (mkF m 227 #[.val (.ref o0), .val (.int p0), .val .null, .val (.ref o1), .val (.ref o2), .val (.int (0 : Int32)), .val (.int i6), .val (.ref o7), .val (.int i8), .val (.int i9), s10, s11, s12] [])) t := by
  have pre0 : ∀ t, Steps p.tables e below (T0.setTop (mkF m 227 #[.val (.ref o0), .val (.int p0), .val .null, .val (.ref o1), .val (.ref o2), .val (.int (0 : Int32)), .val (.int i6), .val (.ref o7), .val (.int i8), .val (.int i9), s10, s11, s12] [])) t → Steps p.tables e below (T0.setTop (mkF m 227 #[.val (.ref o0), .val (.int p0), .val .null, .val (.ref o1), .val (.ref o2), .val (.int (0 : Int32)), .val (.int i6), .val (.ref o7), .val (.int i8), .val (.int i9), s10, s11, s12] [])) t := fun t k => k
  obtain ⟨cl1, Ar1, hin1, hat1⟩ := Ia.get (V_o2) (j := i9) hi9
  obtain ⟨cq2, kq2, q2a, q2b, q2c⟩ := isOf hZ e0 (E_o0)
  obtain ⟨_, _, ⟨T2, L2, k2, n2⟩, -, X2, ⟨Lc2, hQ2, l2, y2, z2⟩, st2⟩ := X0.virtualBack hx (y := (⟨"com/example/knotwork/knotwork/generate/FreeNumbers", "take", "(I)V"⟩ : MethodName)) (z := (⟨"com/example/knotwork/knotwork/generate/FreeNumbers", "take", "(I)V"⟩ : MethodName)) hown (mvT hZ (hw _ (List.mem_of_getElem? (i := 71) rfl))) (mvT hZ (hw _ (List.mem_of_getElem? (i := 31) rfl))) (notFace_of_selects (args := #[]) (mvT hZ (hw _ (List.mem_of_getElem? (i := 33) rfl)))) (mvT hZ (hw _ (List.mem_of_getElem? (i := 33) rfl))) (mvT hZ (hw _ (List.mem_of_getElem? (i := 32) rfl))) (by decide) (backOf (W := 0) (rm5 l Z a0 hw [] o0 (getI ii i9) nl ta tc bd ka ts h0 n0 Z0 (E_o0) g_o0 (F_taken_o0) (F_takenCount_o0) (F_bound_o0) (V_ta) g_ta (ne_o0_ta) hix) hZ (hw _ (List.mem_of_getElem? (i := 34) rfl)) (hw _ (List.mem_of_getElem? (i := 18) rfl)) (by decide) (by decide)) q2a q2c (g := (mkF m 240 #[.val (.ref o0), .val (.int p0), .val .null, .val (.ref o1), .val (.ref o2), .val (.int (0 : Int32)), .val (.int i6), .val (.ref o7), .val (.int i8), .val (.int i9), s10, s11, s12] [(.int (getI ii i9)), (.ref o0)])) rfl (by rw [hml]; rfl) (Steps.refl _) (argsL := [(.int (getI ii i9))]) (rest := []) (lenOf pd_5 rfl) rfl (by show 2 * 0 + _ ≤ _; exact Nat.le_of_eq rfl) (hb hby d10_240) (fun _ _ => ⟨rfl, e0, hcc, hss⟩)
  dsimp only [Pt.U, Pt.locs, Pt.cells, Pt.slots] at X2 l2 y2 z2 st2 hQ2
  rw [l2, y2, z2] at X2
  obtain ⟨rfl, N2q, Kq2, Fq2_0, Fq2_1, Fq2_2, Vq2_0⟩ := hQ2
  have N2 := Fr.app N0 N2q
  have Z2 : n0 ≤ T2.heap.size := Nat.le_trans Z0 Kq2.1
  have K2 : Keep h0 T2.heap [o0, ta] := ((Keep.refl h0 [o0, ta])).trans Kq2 (allS (Or.inl (List.mem_of_getElem? (i := 0) rfl)) (allS (Or.inl (List.mem_of_getElem? (i := 1) rfl)) all0))
  refine ⟨T2, _, X2, N2, (K2), (Fq2_0), (Fq2_1), (Fq2_2), (Vq2_0), ((V_o2.keep Kq2 (ninS (Ne.symm ne_o0_o2) (ninS (Ne.symm ne_ta_o2) nin0)))), fun t k => pre0 t ?_⟩
  show Steps p.tables e below (T0.setTop (mkF m 227 #[.val (.ref o0), .val (.int p0), .val .null, .val (.ref o1), .val (.ref o2), .val (.int (0 : Int32)), .val (.int i6), .val (.ref o7), .val (.int i8), .val (.int i9), s10, s11, s12] [])) _
  refine XS.iload X0.here hx rfl (hb hby d10_227) rfl ?_
  show Steps p.tables e below (T0.setTop (mkF m 229 #[.val (.ref o0), .val (.int p0), .val .null, .val (.ref o1), .val (.ref o2), .val (.int (0 : Int32)), .val (.int i6), .val (.ref o7), .val (.int i8), .val (.int i9), s10, s11, s12] [(.int i9)])) _
  refine XS.iload X0.here hx rfl (hb hby d10_229) rfl ?_
  show Steps p.tables e below (T0.setTop (mkF m 231 #[.val (.ref o0), .val (.int p0), .val .null, .val (.ref o1), .val (.ref o2), .val (.int (0 : Int32)), .val (.int i6), .val (.ref o7), .val (.int i8), .val (.int i9), s10, s11, s12] [(.int i8), (.int i9)])) _
  refine XS.icmpNo X0.here hx rfl (hb hby d10_231) rfl (tlt (hlt : i9 < i8)).2.1 ?_
  show Steps p.tables e below (T0.setTop (mkF m 234 #[.val (.ref o0), .val (.int p0), .val .null, .val (.ref o1), .val (.ref o2), .val (.int (0 : Int32)), .val (.int i6), .val (.ref o7), .val (.int i8), .val (.int i9), s10, s11, s12] [])) _
  refine XS.aloadN X0.here hx rfl (hb hby d10_234) rfl rfl ?_
  show Steps p.tables e below (T0.setTop (mkF m 235 #[.val (.ref o0), .val (.int p0), .val .null, .val (.ref o1), .val (.ref o2), .val (.int (0 : Int32)), .val (.int i6), .val (.ref o7), .val (.int i8), .val (.int i9), s10, s11, s12] [(.ref o0)])) _
  refine XS.aload X0.here hx rfl (hb hby d10_235) rfl rfl ?_
  show Steps p.tables e below (T0.setTop (mkF m 237 #[.val (.ref o0), .val (.int p0), .val .null, .val (.ref o1), .val (.ref o2), .val (.int (0 : Int32)), .val (.int i6), .val (.ref o7), .val (.int i8), .val (.int i9), s10, s11, s12] [(.ref o2), (.ref o0)])) _
  refine XS.iload X0.here hx rfl (hb hby d10_237) rfl ?_
  show Steps p.tables e below (T0.setTop (mkF m 239 #[.val (.ref o0), .val (.int p0), .val .null, .val (.ref o1), .val (.ref o2), .val (.int (0 : Int32)), .val (.int i6), .val (.ref o7), .val (.int i8), .val (.int i9), s10, s11, s12] [(.int i9), (.ref o2), (.ref o0)])) _
  refine X0.iaload hx (j := i9) (v := (.int (getI ii i9))) (by rw [e0]; exact Ar1.1) (State.isArrayOf_alike hZ.alike Ar1.2.1) Ar1.2.2 hin1 hat1 (g := (mkF m 239 #[.val (.ref o0), .val (.int p0), .val .null, .val (.ref o1), .val (.ref o2), .val (.int (0 : Int32)), .val (.int i6), .val (.ref o7), .val (.int i8), .val (.int i9), s10, s11, s12] [(.int i9), (.ref o2), (.ref o0)])) rfl rfl (hb hby d10_239) _ ?_
  show Steps p.tables e below (T0.setTop (mkF m 240 #[.val (.ref o0), .val (.int p0), .val .null, .val (.ref o1), .val (.ref o2), .val (.int (0 : Int32)), .val (.int i6), .val (.ref o7), .val (.int i8), .val (.int i9), s10, s11, s12] [(.int (getI ii i9)), (.ref o0)])) _
  refine st2.trans ?_
  show Steps p.tables e below (T2.setTop (mkF m 243 #[.val (.ref o0), .val (.int p0), .val .null, .val (.ref o1), .val (.ref o2), .val (.int (0 : Int32)), .val (.int i6), .val (.ref o7), .val (.int i8), .val (.int i9), s10, s11, s12] [])) _
  refine XS.iinc X2.here hx rfl (hb hby d10_243) rfl (l' := #[.val (.ref o0), .val (.int p0), .val .null, .val (.ref o1), .val (.ref o2), .val (.int (0 : Int32)), .val (.int i6), .val (.ref o7), .val (.int i8), .val (.int (i9 + (1 : Int32))), s10, s11, s12]) rfl ?_
  show Steps p.tables e below (T2.setTop (mkF m 246 #[.val (.ref o0), .val (.int p0), .val .null, .val (.ref o1), .val (.ref o2), .val (.int (0 : Int32)), .val (.int i6), .val (.ref o7), .val (.int i8), .val (.int (i9 + (1 : Int32))), s10, s11, s12] [])) _
  refine XS.goto X2.here hx rfl (pc0 := 246) (pc' := 227) rfl (hb hby d10_246) (by decide) (by decide) ?_
  show Steps p.tables e below (T2.setTop (mkF m 227 #[.val (.ref o0), .val (.int p0), .val .null, .val (.ref o1), .val (.ref o2), .val (.int (0 : Int32)), .val (.int i6), .val (.ref o7), .val (.int i8), .val (.int (i9 + (1 : Int32))), s10, s11, s12] [])) _
  exact k
set_option maxRecDepth 65536 in
set_option maxHeartbeats 40000000 in
theorem sg227e {p : Program} {l : Launch} {e : Env} {s : State} {m : MethodId} {args : Array Value} {below : List Frame} {meth : Method} {c : Code} {T0 : State} {locs : List Loc} {cells slots : Nat} {Z : State} {a0 : Array Value} {h0 : Heap} {n0 : Nat} (o0 : Addr) (o1 : Addr) (o2 : Addr) (o7 : Addr) (p0 : Int32) (i6 : Int32) (i8 : Int32) (i9 : Int32) (s10 : Slot) (s11 : Slot) (s12 : Slot) (nl : Int32) (ta : Addr) (tc : Int32) (bd : Int32) (ka : ClassId) (ts : List Int64) (kc : ClassId) (ii : List Int32)
    (X0 : Stand p l e ({ frames := 2, cells := 1, slots := 0, locals := 29 } : Room) s m args below meth c T0 locs cells slots) (hx : p.tables.exec = Jvm.exec) (hZ : Z.Warmed39 s.vm) (hw : ∀ d ∈ tables_1, d.before a0 Z = true) (hby : c.code = prog_27_method_4_code) (hml : c.maxLocals = 13) (hown : s.vm.findClass "com/example/knotwork/knotwork/generate/FreeNumbers" = some m.cls) (e0 : T0.heap = h0) (Z0 : n0 ≤ h0.size) (N0 : Fr n0 locs) (hcc : cells ≤ ({ frames := 2, cells := 1, slots := 0, locals := 29 } : Room).cells) (hss : slots ≤ ({ frames := 2, cells := 1, slots := 0, locals := 29 } : Room).slots) (E_o0 : Exa Z h0 o0 "com/example/knotwork/knotwork/generate/FreeNumbers") (F_taken_o0 : Fld Z h0 o0 "com/example/knotwork/knotwork/generate/FreeNumbers" "taken" "[J" (.ref ta)) (F_takenCount_o0 : Fld Z h0 o0 "com/example/knotwork/knotwork/generate/FreeNumbers" "takenCount" "I" (.int tc)) (F_bound_o0 : Fld Z h0 o0 "com/example/knotwork/knotwork/generate/FreeNumbers" "bound" "I" (.int bd)) (V_ta : La Z h0 ta ka nl ts) (V_o2 : Ia Z h0 o2 kc .int (129 : Int32) ii) (ne_o0_ta : o0 ≠ ta) (ne_o0_o2 : o0 ≠ o2) (ne_ta_o2 : ta ≠ o2) (hge : ¬ (i9 < i8)) :
    ∃ (T' : State) (locs' : List Loc), Stand p l e ({ frames := 2, cells := 1, slots := 0, locals := 29 } : Room) s m args below meth c T' locs' cells slots ∧ Fr n0 locs' ∧ Keep h0 T'.heap [] ∧ Fld Z T'.heap o0 "com/example/knotwork/knotwork/generate/FreeNumbers" "taken" "[J" (.ref ta) ∧ Fld Z T'.heap o0 "com/example/knotwork/knotwork/generate/FreeNumbers" "takenCount" "I" (.int tc) ∧ Fld Z T'.heap o0 "com/example/knotwork/knotwork/generate/FreeNumbers" "bound" "I" (.int bd) ∧ La Z T'.heap ta ka nl ts ∧ Ia Z T'.heap o2 kc .int (129 : Int32) ii ∧ ∀ t, Steps p.tables e below (T'.setTop (mkF m 249 #[.val (.ref o0), .val (.int p0), .val .null, .val (.ref o1), .val (.ref o2), .val (.int (0 : Int32)), .val (.int i6), .val (.ref o7), .val (.int i8), .val (.int i9), s10, s11, s12] [])) t → Steps p.tables e below (T0.setTop (mkF m 227 #[.val (.ref o0), .val (.int p0), .val .null, .val (.ref o1), .val (.ref o2), .val (.int (0 : Int32)), .val (.int i6), .val (.ref o7), .val (.int i8), .val (.int i9), s10, s11, s12] [])) t := by
  have pre0 : ∀ t, Steps p.tables e below (T0.setTop (mkF m 227 #[.val (.ref o0), .val (.int p0), .val .null, .val (.ref o1), .val (.ref o2), .val (.int (0 : Int32)), .val (.int i6), .val (.ref o7), .val (.int i8), .val (.int i9), s10, s11, s12] [])) t → Steps p.tables e below (T0.setTop (mkF m 227 #[.val (.ref o0), .val (.int p0), .val .null, .val (.ref o1), .val (.ref o2), .val (.int (0 : Int32)), .val (.int i6), .val (.ref o7), .val (.int i8), .val (.int i9), s10, s11, s12] [])) t := fun t k => k
  refine ⟨T0, _, X0, N0, (by rw [e0]; exact (Keep.refl h0 [])), (by rw [e0]; exact F_taken_o0), (by rw [e0]; exact F_takenCount_o0), (by rw [e0]; exact F_bound_o0), (by rw [e0]; exact V_ta), (by rw [e0]; exact V_o2), fun t k => pre0 t ?_⟩
  show Steps p.tables e below (T0.setTop (mkF m 227 #[.val (.ref o0), .val (.int p0), .val .null, .val (.ref o1), .val (.ref o2), .val (.int (0 : Int32)), .val (.int i6), .val (.ref o7), .val (.int i8), .val (.int i9), s10, s11, s12] [])) _
  refine XS.iload X0.here hx rfl (hb hby d10_227) rfl ?_
  show Steps p.tables e below (T0.setTop (mkF m 229 #[.val (.ref o0), .val (.int p0), .val .null, .val (.ref o1), .val (.ref o2), .val (.int (0 : Int32)), .val (.int i6), .val (.ref o7), .val (.int i8), .val (.int i9), s10, s11, s12] [(.int i9)])) _
  refine XS.iload X0.here hx rfl (hb hby d10_229) rfl ?_
  show Steps p.tables e below (T0.setTop (mkF m 231 #[.val (.ref o0), .val (.int p0), .val .null, .val (.ref o1), .val (.ref o2), .val (.int (0 : Int32)), .val (.int i6), .val (.ref o7), .val (.int i8), .val (.int i9), s10, s11, s12] [(.int i8), (.int i9)])) _
  refine XS.icmpYes X0.here hx rfl (pc0 := 231) (pc' := 249) rfl (hb hby d10_231) rfl (flt (hge : ¬ (i9 < i8))).2.1 (by decide) (by decide) ?_
  show Steps p.tables e below (T0.setTop (mkF m 249 #[.val (.ref o0), .val (.int p0), .val .null, .val (.ref o1), .val (.ref o2), .val (.int (0 : Int32)), .val (.int i6), .val (.ref o7), .val (.int i8), .val (.int i9), s10, s11, s12] [])) _
  exact k

set_option maxRecDepth 65536 in
set_option maxHeartbeats 40000000 in
theorem lp227 {p : Program} {l : Launch} {e : Env} {s : State} {m : MethodId} {args : Array Value} {below : List Frame} {meth : Method} {c : Code} {cells slots : Nat} {Z : State} {a0 : Array Value} {n0 : Nat} (o0 o1 o2 o7 : Addr) (p0 i6 bd nl : Int32) (ta : Addr) (s10 s11 s12 : Slot) (ka kc : ClassId) (ii : List Int32)
    (hx : p.tables.exec = Jvm.exec) (hZ : Z.Warmed39 s.vm) (hw : ∀ d ∈ tables_1, d.before a0 Z = true) (hby : c.code = prog_27_method_4_code) (hml : c.maxLocals = 13) (hown : s.vm.findClass "com/example/knotwork/knotwork/generate/FreeNumbers" = some m.cls) (hcc : cells ≤ ({ frames := 2, cells := 1, slots := 0, locals := 29 } : Room).cells) (hss : slots ≤ ({ frames := 2, cells := 1, slots := 0, locals := 29 } : Room).slots)
    (g_o0 : n0 ≤ o0) (g_ta : n0 ≤ ta) (ne_o0_ta : o0 ≠ ta) (ne_o0_o2 : o0 ≠ o2) (ne_ta_o2 : ta ≠ o2) (q : Nat) (hq : q ≤ 128)
    (hel : ∀ i, i < q → ∃ z, getI ii (Int32.ofNat i) = Int32.ofNat z ∧ z < 128 ∧ z / 64 < nl.toNatClampNeg) :
    ∀ (k i : Nat), i + k = q → ∀ (T0 : State) (locs : List Loc) (h0 : Heap) (ts : List Int64) (tc : Int32), Stand p l e ({ frames := 2, cells := 1, slots := 0, locals := 29 } : Room) s m args below meth c T0 locs cells slots → T0.heap = h0 → n0 ≤ h0.size → Fr n0 locs → Exa Z h0 o0 "com/example/knotwork/knotwork/generate/FreeNumbers" →
      Fld Z h0 o0 "com/example/knotwork/knotwork/generate/FreeNumbers" "taken" "[J" (.ref ta) → Fld Z h0 o0 "com/example/knotwork/knotwork/generate/FreeNumbers" "takenCount" "I" (.int tc) → Fld Z h0 o0 "com/example/knotwork/knotwork/generate/FreeNumbers" "bound" "I" (.int bd) → La Z h0 ta ka nl ts → Ia Z h0 o2 kc .int (129 : Int32) ii →
      ∃ (T' : State) (locs' : List Loc), Stand p l e ({ frames := 2, cells := 1, slots := 0, locals := 29 } : Room) s m args below meth c T' locs' cells slots ∧ Fr n0 locs' ∧ Keep h0 T'.heap [o0, ta] ∧ Ia Z T'.heap o2 kc .int (129 : Int32) ii ∧
        ∀ t, Steps p.tables e below (T'.setTop (mkF m 249 #[.val (.ref o0), .val (.int p0), .val .null, .val (.ref o1), .val (.ref o2), .val (.int (0 : Int32)), .val (.int i6), .val (.ref o7), .val (.int (Int32.ofNat q)), .val (.int (Int32.ofNat q)), s10, s11, s12] [])) t → Steps p.tables e below (T0.setTop (mkF m 227 #[.val (.ref o0), .val (.int p0), .val .null, .val (.ref o1), .val (.ref o2), .val (.int (0 : Int32)), .val (.int i6), .val (.ref o7), .val (.int (Int32.ofNat q)), .val (.int (Int32.ofNat i)), s10, s11, s12] [])) t := by
  intro k
  induction k with
  | zero =>
    intro i hi T0 locs h0 ts tc X0 e0 Z0 N0 E F1 F2 F3 V1 V2
    have hi' : i = q := by omega
    subst hi'
    obtain ⟨T', locs', X', N', K', f1, f2, f3, v1, v2, st⟩ := sg227e o0 o1 o2 o7 p0 i6 (Int32.ofNat i) (Int32.ofNat i) s10 s11 s12 nl ta tc bd ka ts kc ii X0 hx hZ hw hby hml hown e0 Z0 N0 hcc hss E F1 F2 F3 V1 V2 ne_o0_ta ne_o0_o2 ne_ta_o2 Int32.lt_irrefl
    exact ⟨T', locs', X', N', own_keep_nil _ K', v2, st⟩
  | succ k ih =>
    intro i hi T0 locs h0 ts tc X0 e0 Z0 N0 E F1 F2 F3 V1 V2
    obtain ⟨z, q2, q3, q4⟩ := hel i (by omega)
    obtain ⟨T1, locs1, X1, N1, K1, f1, f2, f3, v1, v2, st⟩ := sg227t o0 o1 o2 o7 p0 i6 (Int32.ofNat q) (Int32.ofNat i) s10 s11 s12 nl ta tc bd ka ts kc ii X0 hx hZ hw hby hml hown e0 Z0 N0 hcc hss E g_o0 F1 F2 F3 V1 g_ta V2 ne_o0_ta ne_o0_o2 ne_ta_o2 (own_lt_of (by omega) (by omega)) ⟨own_nneg (by omega), own_lt_of (n := 129) (by omega) (by omega)⟩ (by rw [q2]; exact own_ixin q3 q4)
    obtain ⟨T', locs', X', N', K', v2', st'⟩ := ih (i + 1) (by omega) T1 locs1 T1.heap _ _ X1 rfl (Nat.le_trans Z0 K1.1) N1 (E.keep K1) f1 f2 f3 v1 v2
    refine ⟨T', locs', X', N', own_keep_tr K1 K', v2', fun t kt => st t ?_⟩
    rw [own_succ (by omega)]
    exact st' t kt

theorem own_self_sub (x : Int32) : x - x = 0 := Int32.sub_self x
theorem own_len0 {bd tc p0 : Int32} (h : bd - tc = p0) : ¬ ((bd - tc) - p0) < (0 : Int32) ∧ ((bd - tc) - p0).toNatClampNeg ≤ 0 := by
  rw [h, own_self_sub]; decide
theorem own_len1 {bd tc p0 : Int32} (h : bd - tc = p0) : ¬ (0 : Int32) < ((bd - tc) - p0) := by
  rw [h, own_self_sub]; decide
theorem own_len2 {bd tc p0 : Int32} (h : bd - tc = p0) : ((bd - tc) - p0) = Int32.ofNat 0 := by
  rw [h, own_self_sub]; rfl
theorem own_cb {S : Nat → Bool} {B : Nat} (h : B ≤ 128) : cntN S B ≤ 128 := Nat.le_trans (own_cnt_le S B) h
theorem own_zn {bd tc p0 : Int32} {n : Nat} (h : bd - tc = p0) (hp : p0 = Int32.ofNat n) (hn : n ≤ 128) (hc : ¬ ((bd - tc) / (2 : Int32)) < p0) : n = 0 := by
  rw [h, hp, Int32.lt_iff_toInt_lt, Int32.toInt_div_of_ne_right _ _ (by decide), own_ofNat_toInt (by omega)] at hc
  have e : (2 : Int32).toInt = 2 := rfl
  rw [e, Int.tdiv_eq_ediv_of_nonneg (by omega)] at hc
  omega
theorem own_z0 {bd tc p0 : Int32} {n : Nat} (h : bd - tc = p0) (hp : p0 = Int32.ofNat n) (hn : n ≤ 128) (hc : ¬ ((bd - tc) / (2 : Int32)) < p0) : ¬ (0 : Int32) < p0 := by
  rw [hp, own_zn h hp hn hc]; decide
theorem own_nl0 {nl : Int32} {B : Nat} (h : nl = Int32.ofNat ((B + 63) / 64)) (hB : 1 ≤ B) (hB2 : B ≤ 128 := by assumption) : (0 : Int32) < nl := by
  rw [h]; exact own_lt_of (i := 0) (by omega) (by omega)
theorem own_nl2 {nl : Int32} {B : Nat} (h : nl = Int32.ofNat ((B + 63) / 64)) (hB2 : B ≤ 128) : ¬ (2 : Int32) < nl := by
  rw [h]; exact own_nlt_of (i := 2) (by omega) (by omega)
theorem own_hb (w : Nat) (hw : w < 2) (ts : List Int64) : ∀ i, i < 64 → ((getJ ts (Int32.ofNat w)) ^^^ (-1 : Int64)).toBitVec.getLsbD i = (decide (0 ≤ i) && !bit ts (64 * w + i)) := fun i hi => by
  unfold getJ bit
  rw [own_ofNat_clamp (by omega), show (64 * w + i) / 64 = w by omega, show (64 * w + i) % 64 = i by omega, Int64.toBitVec_xor, BitVec.getLsbD_xor]
  have t2 : (-1 : Int64).toBitVec.getLsbD i = true := by
    show (BitVec.allOnes 64).getLsbD i = true
    rw [BitVec.getLsbD_allOnes]; simp; omega
  rw [t2]; simp
theorem own_129 : (129 : Int32).toNatClampNeg = 129 := rfl
theorem own_q1 (S : Nat → Bool) (ii : List Int32) (h : ii.length = (129 : Int32).toNatClampNeg) : (pushR S 64 (64 * 0 + 0) 0 ii).1 ≤ 64 * 1 + 0 := by
  rw [own_129] at h
  have b := own_cnt_le S 64
  have e := (own_push S 64 0 ii (by rw [Nat.zero_add]; omega)).1
  have e' : (pushR S 64 (64 * 0 + 0) 0 ii).1 = cntN S (0 + 64) := e
  rw [e', Nat.zero_add]; exact b
theorem own_cnt_at (S : Nat → Bool) : ∀ n i, i < cntN S n → ∃ z, z < n ∧ S z = true ∧ cntN S z = i
  | 0, i, h => by simp [cntN] at h
  | n + 1, i, h => by
    by_cases q : i < cntN S n
    · obtain ⟨z, h1, h2, h3⟩ := own_cnt_at S n i q; exact ⟨z, by omega, h2, h3⟩
    · rw [cntN] at h
      by_cases c : S n = true
      · rw [if_pos c] at h; exact ⟨n, by omega, c, by omega⟩
      · rw [if_neg c] at h; omega
theorem own_two (S : Nat → Bool) (ii : List Int32) : pushR S 64 (64 * 1 + 0) (pushR S 64 (64 * 0 + 0) 0 ii).1 (pushR S 64 (64 * 0 + 0) 0 ii).2 = pushR S 128 0 0 ii := (own_push_add S 64 64 0 0 ii).symm
theorem own_idle (S : Nat → Bool) : ∀ (n y q : Nat) (l : List Int32), (∀ z, y ≤ z → S z = false) → pushR S n y q l = (q, l)
  | 0, _, _, _, _ => rfl
  | n + 1, y, q, l, h => by
    rw [pushR, if_neg (by rw [h y (Nat.le_refl _)]; decide)]
    exact own_idle S n (y + 1) q l fun z hz => h z (by omega)
theorem own_one {ts : List Int64} {B : Nat} (h : B ≤ 64) (ii : List Int32) : pushR (Sf ts B) 128 0 0 ii = pushR (Sf ts B) 64 (64 * 0 + 0) 0 ii := by
  have e := own_push_add (Sf ts B) 64 64 0 0 ii
  rw [own_idle _ 64 (0 + 64) _ _ (fun z hz => by simp [Sf]; omega)] at e
  exact e.trans (Prod.eta _)
theorem own_Bsmall {nl : Int32} {B : Nat} (hB1 : 1 ≤ B) (hB2 : B ≤ 128) (h : nl = Int32.ofNat ((B + 63) / 64)) (hc : ¬ (1 : Int32) < nl) : B ≤ 64 := by
  rw [h] at hc
  have q : ¬ 1 < (B + 63) / 64 := fun q => hc (own_lt_of (i := 1) q (by omega))
  omega
theorem own_Bbig {nl : Int32} {B : Nat} (hB1 : 1 ≤ B) (hB2 : B ≤ 128) (h : nl = Int32.ofNat ((B + 63) / 64)) (hc : (1 : Int32) < nl) : 64 < B := by
  rw [h, Int32.lt_iff_toInt_lt, own_ofNat_toInt (by omega)] at hc
  have e : (1 : Int32).toInt = 1 := rfl
  rw [e] at hc; omega
theorem own_elems {ts : List Int64} {B : Nat} {nl : Int32} {ii : List Int32} (hB2 : B ≤ 128) (hnl : nl = Int32.ofNat ((B + 63) / 64)) (hl : ii.length = (129 : Int32).toNatClampNeg) :
    (pushR (Sf ts B) 128 0 0 ii).1 ≤ 128 ∧ ∀ i, i < (pushR (Sf ts B) 128 0 0 ii).1 → ∃ z, getI (pushR (Sf ts B) 128 0 0 ii).2 (Int32.ofNat i) = Int32.ofNat z ∧ z < 128 ∧ z / 64 < nl.toNatClampNeg := by
  rw [own_129] at hl
  have b := own_cnt_le (Sf ts B) 128
  obtain ⟨e1, e2, e3, e4, e5⟩ := own_push (Sf ts B) 128 0 ii (by rw [Nat.zero_add]; omega)
  have e1' : (pushR (Sf ts B) 128 0 0 ii).1 = cntN (Sf ts B) 128 := by rw [Nat.zero_add] at e1; exact e1
  refine ⟨by rw [e1']; exact b, fun i hi => ?_⟩
  rw [e1'] at hi
  obtain ⟨z, h1, h2, h3⟩ := own_cnt_at (Sf ts B) 128 i hi
  have hzB : z < B := by simp [Sf] at h2; exact h2.2
  refine ⟨z, ?_, by omega, ?_⟩
  · unfold getI
    rw [own_ofNat_clamp (by omega), ← h3]
    exact e4 z (Nat.zero_le _) (by omega) h2
  · rw [hnl, own_ofNat_clamp (by omega)]; omega
theorem own_el1 {ts : List Int64} {B : Nat} {nl : Int32} {ii : List Int32} (hB1 : 1 ≤ B) (hB2 : B ≤ 128) (hnl : nl = Int32.ofNat ((B + 63) / 64)) (hl : ii.length = (129 : Int32).toNatClampNeg) (hc : ¬ (1 : Int32) < nl) :
    (pushR (Sf ts B) 64 (64 * 0 + 0) 0 ii).1 ≤ 128 ∧ ∀ i, i < (pushR (Sf ts B) 64 (64 * 0 + 0) 0 ii).1 → ∃ z, getI (pushR (Sf ts B) 64 (64 * 0 + 0) 0 ii).2 (Int32.ofNat i) = Int32.ofNat z ∧ z < 128 ∧ z / 64 < nl.toNatClampNeg := by
  rw [← own_one (own_Bsmall hB1 hB2 hnl hc)]; exact own_elems hB2 hnl hl
theorem own_el2 {ts : List Int64} {B : Nat} {nl : Int32} {ii : List Int32} (hB1 : 1 ≤ B) (hB2 : B ≤ 128) (hnl : nl = Int32.ofNat ((B + 63) / 64)) (hl : ii.length = (129 : Int32).toNatClampNeg) (hc : (1 : Int32) < nl) :
    (pushR (Sf ts B) 64 (64 * 1 + 0) (pushR (Sf ts B) 64 (64 * 0 + 0) 0 ii).1 (pushR (Sf ts B) 64 (64 * 0 + 0) 0 ii).2).1 ≤ 128 ∧ ∀ i, i < (pushR (Sf ts B) 64 (64 * 1 + 0) (pushR (Sf ts B) 64 (64 * 0 + 0) 0 ii).1 (pushR (Sf ts B) 64 (64 * 0 + 0) 0 ii).2).1 → ∃ z, getI (pushR (Sf ts B) 64 (64 * 1 + 0) (pushR (Sf ts B) 64 (64 * 0 + 0) 0 ii).1 (pushR (Sf ts B) 64 (64 * 0 + 0) 0 ii).2).2 (Int32.ofNat i) = Int32.ofNat z ∧ z < 128 ∧ z / 64 < nl.toNatClampNeg := by
  rw [own_two]; exact own_elems hB2 hnl hl
theorem own_fin0 {ts : List Int64} {B : Nat} {bd tc p0 : Int32} {ii : List Int32} (hB2 : B ≤ 128) (htc : bd - tc = p0) (hp0 : p0 = Int32.ofNat (cntN (Sf ts B) B)) (hc : ¬ ((bd - tc) / (2 : Int32)) < p0) : (pushR (Sf ts B) 128 0 0 ii).2 = ii := by
  have z := own_zn htc hp0 (own_cb hB2) hc
  rw [own_idle _ 128 0 0 ii]
  intro y _
  cases q : Sf ts B y with
  | false => rfl
  | true =>
    have hy : y < B := by simp [Sf] at q; exact q.2
    have := own_cnt_lt (Sf ts B) hy q
    omega
theorem own_fin1 {ts : List Int64} {B : Nat} {nl : Int32} {ii : List Int32} (hB1 : 1 ≤ B) (hB2 : B ≤ 128) (hnl : nl = Int32.ofNat ((B + 63) / 64)) (hc : ¬ (1 : Int32) < nl) : (pushR (Sf ts B) 128 0 0 ii).2 = (pushR (Sf ts B) 64 (64 * 0 + 0) 0 ii).2 := by
  rw [own_one (own_Bsmall hB1 hB2 hnl hc)]
theorem own_fin2 {ts : List Int64} {B : Nat} {nl : Int32} {ii : List Int32} (hB1 : 1 ≤ B) (hB2 : B ≤ 128) (hnl : nl = Int32.ofNat ((B + 63) / 64)) (hc : (1 : Int32) < nl) : (pushR (Sf ts B) 128 0 0 ii).2 = (pushR (Sf ts B) 64 (64 * 1 + 0) (pushR (Sf ts B) 64 (64 * 0 + 0) 0 ii).1 (pushR (Sf ts B) 64 (64 * 0 + 0) 0 ii).2).2 := by
  rw [own_two]

theorem d10_0 : decode prog_27_method_4_code 0 = .ok (.aload_n 0, 1) := by decide +kernel
theorem d10_1 : decode prog_27_method_4_code 1 = .ok (.getfield 7, 3) := by decide +kernel
theorem d10_4 : decode prog_27_method_4_code 4 = .ok (.aload_n 0, 1) := by decide +kernel
theorem d10_5 : decode prog_27_method_4_code 5 = .ok (.getfield 25, 3) := by decide +kernel
theorem d10_8 : decode prog_27_method_4_code 8 = .ok (.isub, 1) := by decide +kernel
theorem d10_9 : decode prog_27_method_4_code 9 = .ok (.istore 6, 2) := by decide +kernel
theorem d10_11 : decode prog_27_method_4_code 11 = .ok (.iload_n 1, 1) := by decide +kernel
theorem d10_12 : decode prog_27_method_4_code 12 = .ok (.iload 6, 2) := by decide +kernel
theorem d10_14 : decode prog_27_method_4_code 14 = .ok (.iconst 2, 1) := by decide +kernel
theorem d10_15 : decode prog_27_method_4_code 15 = .ok (.idiv, 1) := by decide +kernel
theorem d10_16 : decode prog_27_method_4_code 16 = .ok (.if_icmp .gt 54, 3) := by decide +kernel
theorem d10_19 : decode prog_27_method_4_code 19 = .ok (.iconst 0, 1) := by decide +kernel
theorem d10_20 : decode prog_27_method_4_code 20 = .ok (.istore 7, 2) := by decide +kernel
theorem d10_22 : decode prog_27_method_4_code 22 = .ok (.iload 7, 2) := by decide +kernel
theorem d10_24 : decode prog_27_method_4_code 24 = .ok (.iload_n 1, 1) := by decide +kernel
theorem d10_25 : decode prog_27_method_4_code 25 = .ok (.if_icmp .ge 42, 3) := by decide +kernel
theorem d10_67 : decode prog_27_method_4_code 67 = .ok (.goto 182, 3) := by decide +kernel
theorem d10_70 : decode prog_27_method_4_code 70 = .ok (.iload 6, 2) := by decide +kernel
theorem d10_72 : decode prog_27_method_4_code 72 = .ok (.iload_n 1, 1) := by decide +kernel
theorem d10_73 : decode prog_27_method_4_code 73 = .ok (.isub, 1) := by decide +kernel
theorem d10_74 : decode prog_27_method_4_code 74 = .ok (.newarray .int, 2) := by decide +kernel
theorem d10_76 : decode prog_27_method_4_code 76 = .ok (.astore 7, 2) := by decide +kernel
theorem d10_78 : decode prog_27_method_4_code 78 = .ok (.iconst 0, 1) := by decide +kernel
theorem d10_79 : decode prog_27_method_4_code 79 = .ok (.istore 8, 2) := by decide +kernel
theorem d10_81 : decode prog_27_method_4_code 81 = .ok (.iload 8, 2) := by decide +kernel
theorem d10_83 : decode prog_27_method_4_code 83 = .ok (.aload 7, 2) := by decide +kernel
theorem d10_85 : decode prog_27_method_4_code 85 = .ok (.arraylength, 1) := by decide +kernel
theorem d10_86 : decode prog_27_method_4_code 86 = .ok (.if_icmp .ge 41, 3) := by decide +kernel
theorem d10_127 : decode prog_27_method_4_code 127 = .ok (.iload 5, 2) := by decide +kernel
theorem d10_129 : decode prog_27_method_4_code 129 = .ok (.istore 8, 2) := by decide +kernel
theorem d10_131 : decode prog_27_method_4_code 131 = .ok (.iconst 0, 1) := by decide +kernel
theorem d10_132 : decode prog_27_method_4_code 132 = .ok (.istore 9, 2) := by decide +kernel
theorem d10_134 : decode prog_27_method_4_code 134 = .ok (.iload 9, 2) := by decide +kernel
theorem d10_136 : decode prog_27_method_4_code 136 = .ok (.aload_n 0, 1) := by decide +kernel
theorem d10_137 : decode prog_27_method_4_code 137 = .ok (.getfield 17, 3) := by decide +kernel
theorem d10_140 : decode prog_27_method_4_code 140 = .ok (.arraylength, 1) := by decide +kernel
theorem d10_141 : decode prog_27_method_4_code 141 = .ok (.if_icmp .ge 73, 3) := by decide +kernel
theorem d10_144 : decode prog_27_method_4_code 144 = .ok (.aload_n 0, 1) := by decide +kernel
theorem d10_145 : decode prog_27_method_4_code 145 = .ok (.getfield 17, 3) := by decide +kernel
theorem d10_148 : decode prog_27_method_4_code 148 = .ok (.iload 9, 2) := by decide +kernel
theorem d10_150 : decode prog_27_method_4_code 150 = .ok (.laload, 1) := by decide +kernel
theorem d10_151 : decode prog_27_method_4_code 151 = .ok (.ldc2_w 28, 3) := by decide +kernel
theorem d10_154 : decode prog_27_method_4_code 154 = .ok (.lxor, 1) := by decide +kernel
theorem d10_155 : decode prog_27_method_4_code 155 = .ok (.lstore 10, 2) := by decide +kernel
theorem d10_208 : decode prog_27_method_4_code 208 = .ok (.iinc 9 1, 3) := by decide +kernel
theorem d10_211 : decode prog_27_method_4_code 211 = .ok (.goto (-77), 3) := by decide +kernel
theorem d10_214 : decode prog_27_method_4_code 214 = .ok (.aload_n 0, 1) := by decide +kernel
theorem d10_215 : decode prog_27_method_4_code 215 = .ok (.aload 7, 2) := by decide +kernel
theorem d10_217 : decode prog_27_method_4_code 217 = .ok (.aload 7, 2) := by decide +kernel
theorem d10_219 : decode prog_27_method_4_code 219 = .ok (.arraylength, 1) := by decide +kernel
theorem d10_220 : decode prog_27_method_4_code 220 = .ok (.invokevirtual 52, 3) := by decide +kernel
theorem d10_223 : decode prog_27_method_4_code 223 = .ok (.iload 5, 2) := by decide +kernel
theorem d10_225 : decode prog_27_method_4_code 225 = .ok (.istore 9, 2) := by decide +kernel
theorem d10_249 : decode prog_27_method_4_code 249 = .ok (.return_, 1) := by decide +kernel
theorem pn_10 : plainName "com/example/knotwork/knotwork/generate/FreeNumbers" = true := by first | (simp [plainName, overriddenIn]; done) | decide +kernel
theorem ef_10 (m : MethodId) (x0 : Addr) (x1 : Int32) (x3 : Addr) (x4 : Addr) (x5 : Int32) : entryFrame m #[(.ref x0), (.int x1), .null, (.ref x3), (.ref x4), (.int x5)] 13 = mkF m 0 #[.val (.ref x0), .val (.int x1), .val .null, .val (.ref x3), .val (.ref x4), .val (.int x5), .unset, .unset, .unset, .unset, .unset, .unset, .unset] [] := by first | (simp [entryFrame, mkF, argsToLocals, Value.category]; done) | rfl
def Q10 (Z : State) (o0 : Addr) (p0 : Int32) (o1 : Addr) (o2 : Addr) (nl : Int32) (B : Nat) (ta : Addr) (tc : Int32) (bd : Int32) (ka : ClassId) (ts : List Int64) (kc : ClassId) (ii : List Int32) (h0 : Heap) (n0 : Nat) (v : Option Value) (h : Heap) (L : List Loc) : Prop := v = none ∧ Fr n0 L ∧ Keep h0 h [o0, ta, o2] ∧ Ia Z h o2 kc .int (129 : Int32) (pushR (Sf ts B) 128 0 0 ii).2
set_option maxRecDepth 65536 in
set_option maxHeartbeats 40000000 in
theorem rm10 (l : Launch) (Z : State) (a0 : Array Value) (hw : ∀ d ∈ tables_1, d.before a0 Z = true) (ws : List Jvm.Cond) (o0 : Addr) (p0 : Int32) (o1 : Addr) (o2 : Addr) (nl : Int32) (B : Nat) (ta : Addr) (tc : Int32) (bd : Int32) (ka : ClassId) (ts : List Int64) (kc : ClassId) (ii : List Int32) (h0 : Heap) (n0 : Nat) (Z0 : n0 ≤ h0.size) (E_o0 : Exa Z h0 o0 "com/example/knotwork/knotwork/generate/FreeNumbers") (g_o0 : n0 ≤ o0) (F_taken_o0 : Fld Z h0 o0 "com/example/knotwork/knotwork/generate/FreeNumbers" "taken" "[J" (.ref ta)) (F_takenCount_o0 : Fld Z h0 o0 "com/example/knotwork/knotwork/generate/FreeNumbers" "takenCount" "I" (.int tc)) (F_bound_o0 : Fld Z h0 o0 "com/example/knotwork/knotwork/generate/FreeNumbers" "bound" "I" (.int bd)) (V_ta : La Z h0 ta ka nl ts) (g_ta : n0 ≤ ta) (V_o2 : Ia Z h0 o2 kc .int (129 : Int32) ii) (g_o2 : n0 ≤ o2) (ne_o0_ta : o0 ≠ ta) (ne_o0_o2 : o0 ≠ o2) (ne_ta_o2 : ta ≠ o2) (hB : bd = Int32.ofNat B) (hB1 : 1 ≤ B) (hB2 : B ≤ 128) (hnl : nl = Int32.ofNat ((B + 63) / 64)) (htc : bd - tc = p0) (hp0 : p0 = Int32.ofNat (cntN (Sf ts B) B)) :
    MetFree l (⟨"com/example/knotwork/knotwork/generate/FreeNumbers", "takeDrawn", "(ILjava/util/function/IntSupplier;Lcom/example/knotwork/knotwork/generate/SeededRandom;[II)V"⟩ : MethodName) (head1 (Jvm.Cond.code (⟨"com/example/knotwork/knotwork/generate/FreeNumbers", "takeDrawn", "(ILjava/util/function/IntSupplier;Lcom/example/knotwork/knotwork/generate/SeededRandom;[II)V"⟩ : MethodName) prog_27_method_4_code 13 none :: ws) ({ frames := 2, cells := 1, slots := 0, locals := 29 } : Room)) (fun a U => a = #[(.ref o0), (.int p0), .null, (.ref o1), (.ref o2), (.int (0 : Int32))] ∧ Z.Warmed39 U.vm ∧ U.heap = h0) (fun _ _ _ _ _ => True) (fun _ U o U' => ∃ v L, o = .returned v ∧ Q10 Z o0 p0 o1 o2 nl B ta tc bd ka ts kc ii h0 n0 v U'.heap L ∧ FrameEnd U o U' L ({ frames := 2, cells := 1, slots := 0, locals := 29 } : Room).cells ({ frames := 2, cells := 1, slots := 0, locals := 29 } : Room).slots) := by
  refine MetFree.of_bodySF (plainFor_of_name pn_10) hisR ?_
  intro p e s m args below meth c s₁ Bd hml0 hP hK
  obtain ⟨rfl, hZ, hh⟩ := hP
  have hx := Bd.exec
  have hby := Bd.bytes
  have hml : c.maxLocals = 13 := hml0
  have hown : s.vm.findClass "com/example/knotwork/knotwork/generate/FreeNumbers" = some m.cls := findClass_of_methodNamed Bd.named
  have hnm := (name_of_methodNamed Bd.named Bd.method).1
  have X0 : Stand p l e ({ frames := 2, cells := 1, slots := 0, locals := 29 } : Room) s m #[(.ref o0), (.int p0), .null, (.ref o1), (.ref o2), (.int (0 : Int32))] below meth c s₁ [] 0 0 := Stand.of_body Bd
  have e0 : s₁.heap = h0 := by rw [← hh, Bd.state]; rfl
  have N0 := Fr.nil n0
  have hlk : meth.locks = false := by first | exact BodyLoose.notSynchronized Bd | exact Body.notSynchronized Bd
  have pre0 : ∀ t, Steps p.tables e below (s₁.setTop (mkF m 0 #[.val (.ref o0), .val (.int p0), .val .null, .val (.ref o1), .val (.ref o2), .val (.int (0 : Int32)), .unset, .unset, .unset, .unset, .unset, .unset, .unset] [])) t → Steps p.tables e below (s₁.setTop (entryFrame m #[(.ref o0), (.int p0), .null, (.ref o1), (.ref o2), (.int (0 : Int32))] 13)) t := fun t k => castTop (ef_10 m o0 p0 o1 o2 (0 : Int32)) k
  obtain ⟨T1, X1, e1, st1⟩ := getF X0 hx hZ hown (host := "") (Or.inl (hw _ (List.mem_of_getElem? (i := 23) rfl))) Via.refl e0 (F_bound_o0) (g := (mkF m 1 #[.val (.ref o0), .val (.int p0), .val .null, .val (.ref o1), .val (.ref o2), .val (.int (0 : Int32)), .unset, .unset, .unset, .unset, .unset, .unset, .unset] [(.ref o0)])) rfl rfl (hb hby d10_1)
  obtain ⟨T2, X2, e2, st2⟩ := getF X1 hx hZ hown (host := "") (Or.inl (hw _ (List.mem_of_getElem? (i := 39) rfl))) Via.refl e1 (F_takenCount_o0) (g := (mkF m 5 #[.val (.ref o0), .val (.int p0), .val .null, .val (.ref o1), .val (.ref o2), .val (.int (0 : Int32)), .unset, .unset, .unset, .unset, .unset, .unset, .unset] [(.ref o0), (.int bd)])) rfl rfl (hb hby d10_5)
  have pre3 : ∀ t, Steps p.tables e below (T2.setTop (mkF m 16 #[.val (.ref o0), .val (.int p0), .val .null, .val (.ref o1), .val (.ref o2), .val (.int (0 : Int32)), .val (.int (bd - tc)), .unset, .unset, .unset, .unset, .unset, .unset] [(.int ((bd - tc) / (2 : Int32))), (.int p0)])) t → Steps p.tables e below (s₁.setTop (entryFrame m #[(.ref o0), (.int p0), .null, (.ref o1), (.ref o2), (.int (0 : Int32))] 13)) t := fun t k => pre0 t (by
    show Steps p.tables e below (s₁.setTop (mkF m 0 #[.val (.ref o0), .val (.int p0), .val .null, .val (.ref o1), .val (.ref o2), .val (.int (0 : Int32)), .unset, .unset, .unset, .unset, .unset, .unset, .unset] [])) _
    refine XS.aloadN X0.here hx rfl (hb hby d10_0) rfl rfl ?_
    show Steps p.tables e below (s₁.setTop (mkF m 1 #[.val (.ref o0), .val (.int p0), .val .null, .val (.ref o1), .val (.ref o2), .val (.int (0 : Int32)), .unset, .unset, .unset, .unset, .unset, .unset, .unset] [(.ref o0)])) _
    refine st1 _ ?_
    show Steps p.tables e below (T1.setTop (mkF m 4 #[.val (.ref o0), .val (.int p0), .val .null, .val (.ref o1), .val (.ref o2), .val (.int (0 : Int32)), .unset, .unset, .unset, .unset, .unset, .unset, .unset] [(.int bd)])) _
    refine XS.aloadN X1.here hx rfl (hb hby d10_4) rfl rfl ?_
    show Steps p.tables e below (T1.setTop (mkF m 5 #[.val (.ref o0), .val (.int p0), .val .null, .val (.ref o1), .val (.ref o2), .val (.int (0 : Int32)), .unset, .unset, .unset, .unset, .unset, .unset, .unset] [(.ref o0), (.int bd)])) _
    refine st2 _ ?_
    show Steps p.tables e below (T2.setTop (mkF m 8 #[.val (.ref o0), .val (.int p0), .val .null, .val (.ref o1), .val (.ref o2), .val (.int (0 : Int32)), .unset, .unset, .unset, .unset, .unset, .unset, .unset] [(.int tc), (.int bd)])) _
    refine XS.isub X2.here hx rfl (hb hby d10_8) rfl ?_
    show Steps p.tables e below (T2.setTop (mkF m 9 #[.val (.ref o0), .val (.int p0), .val .null, .val (.ref o1), .val (.ref o2), .val (.int (0 : Int32)), .unset, .unset, .unset, .unset, .unset, .unset, .unset] [(.int (bd - tc))])) _
    refine XS.istore X2.here hx rfl (hb hby d10_9) rfl (l' := #[.val (.ref o0), .val (.int p0), .val .null, .val (.ref o1), .val (.ref o2), .val (.int (0 : Int32)), .val (.int (bd - tc)), .unset, .unset, .unset, .unset, .unset, .unset]) rfl ?_
    show Steps p.tables e below (T2.setTop (mkF m 11 #[.val (.ref o0), .val (.int p0), .val .null, .val (.ref o1), .val (.ref o2), .val (.int (0 : Int32)), .val (.int (bd - tc)), .unset, .unset, .unset, .unset, .unset, .unset] [])) _
    refine XS.iloadN X2.here hx rfl (hb hby d10_11) rfl ?_
    show Steps p.tables e below (T2.setTop (mkF m 12 #[.val (.ref o0), .val (.int p0), .val .null, .val (.ref o1), .val (.ref o2), .val (.int (0 : Int32)), .val (.int (bd - tc)), .unset, .unset, .unset, .unset, .unset, .unset] [(.int p0)])) _
    refine XS.iload X2.here hx rfl (hb hby d10_12) rfl ?_
    show Steps p.tables e below (T2.setTop (mkF m 14 #[.val (.ref o0), .val (.int p0), .val .null, .val (.ref o1), .val (.ref o2), .val (.int (0 : Int32)), .val (.int (bd - tc)), .unset, .unset, .unset, .unset, .unset, .unset] [(.int (bd - tc)), (.int p0)])) _
    refine XS.iconst X2.here hx rfl (hb hby d10_14) ?_
    show Steps p.tables e below (T2.setTop (mkF m 15 #[.val (.ref o0), .val (.int p0), .val .null, .val (.ref o1), .val (.ref o2), .val (.int (0 : Int32)), .val (.int (bd - tc)), .unset, .unset, .unset, .unset, .unset, .unset] [(.int (2 : Int32)), (.int (bd - tc)), (.int p0)])) _
    refine XS.idiv X2.here hx rfl (hb hby d10_15) rfl (by decide) ?_
    show Steps p.tables e below (T2.setTop (mkF m 16 #[.val (.ref o0), .val (.int p0), .val .null, .val (.ref o1), .val (.ref o2), .val (.int (0 : Int32)), .val (.int (bd - tc)), .unset, .unset, .unset, .unset, .unset, .unset] [(.int ((bd - tc) / (2 : Int32))), (.int p0)])) _
    exact k)
  by_cases hc16_4 : ((bd - tc) / (2 : Int32)) < p0
  · obtain ⟨T5, h5, k5, X5, e5, E5, A5, st5⟩ := newP X2 hx hZ (hw _ (List.mem_of_getElem? (i := 4) rfl)) e2 (g := (mkF m 74 #[.val (.ref o0), .val (.int p0), .val .null, .val (.ref o1), .val (.ref o2), .val (.int (0 : Int32)), .val (.int (bd - tc)), .unset, .unset, .unset, .unset, .unset, .unset] [(.int ((bd - tc) - p0))])) rfl (hb hby d10_74) rfl (own_len0 htc).1 (cap := 0) (own_len0 htc).2 (by decide) (by decide) (by decide)
    obtain ⟨b5, g5⟩ : ∃ z, z = h0.size := ⟨_, rfl⟩
    rw [← g5] at A5 st5
    have g_b5 : n0 ≤ b5 := Nat.le_trans Z0 (Nat.le_of_eq g5.symm)
    have sz_b5 : h0.size ≤ b5 := Nat.le_trans ((Keep.refl h0 [o0, ta, o2])).1 (Nat.le_of_eq g5.symm)
    have ne_o0_b5 : o0 ≠ b5 := Nat.ne_of_lt (Nat.lt_of_lt_of_le (E_o0).lt (Nat.le_of_eq g5.symm))
    have ne_ta_b5 : ta ≠ b5 := Nat.ne_of_lt (Nat.lt_of_lt_of_le (V_ta).lt (Nat.le_of_eq g5.symm))
    have ne_o2_b5 : o2 ≠ b5 := Nat.ne_of_lt (Nat.lt_of_lt_of_le (V_o2).lt (Nat.le_of_eq g5.symm))
    have Z5 : n0 ≤ h5.size := Nat.le_trans Z0 E5.1
    have K5 : Keep h0 h5 [o0, ta, o2] := ((Keep.refl h0 [o0, ta, o2])).ext E5
    have V_b5 := Ia.new A5 (own_len0 htc).1 rfl
    obtain ⟨cl6, Ar6, hn6⟩ := Ia.size (V_b5)
    obtain ⟨T7, X7, e7, st7⟩ := getF X5 hx hZ hown (host := "") (Or.inl (hw _ (List.mem_of_getElem? (i := 28) rfl))) Via.refl e5 ((F_taken_o0.ext E5)) (g := (mkF m 137 #[.val (.ref o0), .val (.int p0), .val .null, .val (.ref o1), .val (.ref o2), .val (.int (0 : Int32)), .val (.int (bd - tc)), .val (.ref b5), .val (.int (0 : Int32)), .val (.int (0 : Int32)), .unset, .unset, .unset] [(.ref o0), (.int (0 : Int32))])) rfl rfl (hb hby d10_137)
    obtain ⟨cl8, Ar8, hn8⟩ := La.size ((V_ta.ext E5))
    obtain ⟨T9, X9, e9, st9⟩ := getF X7 hx hZ hown (host := "") (Or.inl (hw _ (List.mem_of_getElem? (i := 28) rfl))) Via.refl e7 ((F_taken_o0.ext E5)) (g := (mkF m 145 #[.val (.ref o0), .val (.int p0), .val .null, .val (.ref o1), .val (.ref o2), .val (.int (0 : Int32)), .val (.int (bd - tc)), .val (.ref b5), .val (.int (0 : Int32)), .val (.int (0 : Int32)), .unset, .unset, .unset] [(.ref o0)])) rfl rfl (hb hby d10_145)
    obtain ⟨cl10, Ar10, hin10, hat10⟩ := La.get ((V_ta.ext E5)) (j := (0 : Int32)) ⟨by decide, own_nl0 hnl hB1⟩
    obtain ⟨T11, L11, s12_11, h12_11, X11, N11, Kq11, Vq11, st11⟩ := lp157 o0 o1 o2 b5 p0 (bd - tc) bd kc hx hZ hw hby hml hown (by decide) (by decide) g_o2 ne_o0_o2 B 0 (by decide) hB hB2 ts 64 0 rfl _ _ _ .unset ((getJ ts (0 : Int32)) ^^^ (-1 : Int64)) 0 ii X9 e9 Z5 N0 One.u (Nat.zero_le _) (own_hb 0 (by decide) ts) ((E_o0.ext E5)) ((F_bound_o0.ext E5)) ((V_o2.ext E5))
    have Z11 : n0 ≤ T11.heap.size := Nat.le_trans Z5 Kq11.1
    have K11 : Keep h0 T11.heap [o0, ta, o2] := (K5).trans Kq11 (allS (Or.inl (List.mem_of_getElem? (i := 2) rfl)) all0)
    obtain ⟨T12, X12, e12, st12⟩ := getF X11 hx hZ hown (host := "") (Or.inl (hw _ (List.mem_of_getElem? (i := 28) rfl))) Via.refl rfl (((F_taken_o0.ext E5).keep Kq11 (ninS ne_o0_o2 nin0))) (g := (mkF m 137 #[.val (.ref o0), .val (.int p0), .val .null, .val (.ref o1), .val (.ref o2), .val (.int (0 : Int32)), .val (.int (bd - tc)), .val (.ref b5), .val (.int (Int32.ofNat (pushR (Sf ts B) 64 (64 * 0 + 0) 0 ii).1)), .val (.int (1 : Int32)), .val (.long (0 : Int64)), .second, s12_11] [(.ref o0), (.int (1 : Int32))])) rfl rfl (hb hby d10_137)
    obtain ⟨cl13, Ar13, hn13⟩ := La.size (((V_ta.ext E5).keep Kq11 (ninS ne_ta_o2 nin0)))
    have pre14 : ∀ t, Steps p.tables e below (T12.setTop (mkF m 141 #[.val (.ref o0), .val (.int p0), .val .null, .val (.ref o1), .val (.ref o2), .val (.int (0 : Int32)), .val (.int (bd - tc)), .val (.ref b5), .val (.int (Int32.ofNat (pushR (Sf ts B) 64 (64 * 0 + 0) 0 ii).1)), .val (.int (1 : Int32)), .val (.long (0 : Int64)), .second, s12_11] [(.int nl), (.int (1 : Int32))])) t → Steps p.tables e below (s₁.setTop (entryFrame m #[(.ref o0), (.int p0), .null, (.ref o1), (.ref o2), (.int (0 : Int32))] 13)) t := fun t k => pre3 t (by
      show Steps p.tables e below (T2.setTop (mkF m 16 #[.val (.ref o0), .val (.int p0), .val .null, .val (.ref o1), .val (.ref o2), .val (.int (0 : Int32)), .val (.int (bd - tc)), .unset, .unset, .unset, .unset, .unset, .unset] [(.int ((bd - tc) / (2 : Int32))), (.int p0)])) _
      refine XS.icmpYes X2.here hx rfl (pc0 := 16) (pc' := 70) rfl (hb hby d10_16) rfl (tlt hc16_4).2.2.1 (by decide) (by decide) ?_
      show Steps p.tables e below (T2.setTop (mkF m 70 #[.val (.ref o0), .val (.int p0), .val .null, .val (.ref o1), .val (.ref o2), .val (.int (0 : Int32)), .val (.int (bd - tc)), .unset, .unset, .unset, .unset, .unset, .unset] [])) _
      refine XS.iload X2.here hx rfl (hb hby d10_70) rfl ?_
      show Steps p.tables e below (T2.setTop (mkF m 72 #[.val (.ref o0), .val (.int p0), .val .null, .val (.ref o1), .val (.ref o2), .val (.int (0 : Int32)), .val (.int (bd - tc)), .unset, .unset, .unset, .unset, .unset, .unset] [(.int (bd - tc))])) _
      refine XS.iloadN X2.here hx rfl (hb hby d10_72) rfl ?_
      show Steps p.tables e below (T2.setTop (mkF m 73 #[.val (.ref o0), .val (.int p0), .val .null, .val (.ref o1), .val (.ref o2), .val (.int (0 : Int32)), .val (.int (bd - tc)), .unset, .unset, .unset, .unset, .unset, .unset] [(.int p0), (.int (bd - tc))])) _
      refine XS.isub X2.here hx rfl (hb hby d10_73) rfl ?_
      show Steps p.tables e below (T2.setTop (mkF m 74 #[.val (.ref o0), .val (.int p0), .val .null, .val (.ref o1), .val (.ref o2), .val (.int (0 : Int32)), .val (.int (bd - tc)), .unset, .unset, .unset, .unset, .unset, .unset] [(.int ((bd - tc) - p0))])) _
      refine st5 _ ?_
      show Steps p.tables e below (T5.setTop (mkF m 76 #[.val (.ref o0), .val (.int p0), .val .null, .val (.ref o1), .val (.ref o2), .val (.int (0 : Int32)), .val (.int (bd - tc)), .unset, .unset, .unset, .unset, .unset, .unset] [(.ref b5)])) _
      refine XS.astore X5.here hx rfl (hb hby d10_76) rfl rfl (l' := #[.val (.ref o0), .val (.int p0), .val .null, .val (.ref o1), .val (.ref o2), .val (.int (0 : Int32)), .val (.int (bd - tc)), .val (.ref b5), .unset, .unset, .unset, .unset, .unset]) rfl ?_
      show Steps p.tables e below (T5.setTop (mkF m 78 #[.val (.ref o0), .val (.int p0), .val .null, .val (.ref o1), .val (.ref o2), .val (.int (0 : Int32)), .val (.int (bd - tc)), .val (.ref b5), .unset, .unset, .unset, .unset, .unset] [])) _
      refine XS.iconst X5.here hx rfl (hb hby d10_78) ?_
      show Steps p.tables e below (T5.setTop (mkF m 79 #[.val (.ref o0), .val (.int p0), .val .null, .val (.ref o1), .val (.ref o2), .val (.int (0 : Int32)), .val (.int (bd - tc)), .val (.ref b5), .unset, .unset, .unset, .unset, .unset] [(.int (0 : Int32))])) _
      refine XS.istore X5.here hx rfl (hb hby d10_79) rfl (l' := #[.val (.ref o0), .val (.int p0), .val .null, .val (.ref o1), .val (.ref o2), .val (.int (0 : Int32)), .val (.int (bd - tc)), .val (.ref b5), .val (.int (0 : Int32)), .unset, .unset, .unset, .unset]) rfl ?_
      show Steps p.tables e below (T5.setTop (mkF m 81 #[.val (.ref o0), .val (.int p0), .val .null, .val (.ref o1), .val (.ref o2), .val (.int (0 : Int32)), .val (.int (bd - tc)), .val (.ref b5), .val (.int (0 : Int32)), .unset, .unset, .unset, .unset] [])) _
      refine XS.iload X5.here hx rfl (hb hby d10_81) rfl ?_
      show Steps p.tables e below (T5.setTop (mkF m 83 #[.val (.ref o0), .val (.int p0), .val .null, .val (.ref o1), .val (.ref o2), .val (.int (0 : Int32)), .val (.int (bd - tc)), .val (.ref b5), .val (.int (0 : Int32)), .unset, .unset, .unset, .unset] [(.int (0 : Int32))])) _
      refine XS.aload X5.here hx rfl (hb hby d10_83) rfl rfl ?_
      show Steps p.tables e below (T5.setTop (mkF m 85 #[.val (.ref o0), .val (.int p0), .val .null, .val (.ref o1), .val (.ref o2), .val (.int (0 : Int32)), .val (.int (bd - tc)), .val (.ref b5), .val (.int (0 : Int32)), .unset, .unset, .unset, .unset] [(.ref b5), (.int (0 : Int32))])) _
      refine X5.arraylength hx (by rw [e5]; exact Ar6.1) (State.isArrayOf_alike hZ.alike Ar6.2.1) (g := (mkF m 85 #[.val (.ref o0), .val (.int p0), .val .null, .val (.ref o1), .val (.ref o2), .val (.int (0 : Int32)), .val (.int (bd - tc)), .val (.ref b5), .val (.int (0 : Int32)), .unset, .unset, .unset, .unset] [(.ref b5), (.int (0 : Int32))])) rfl rfl (hb hby d10_85) _ ?_
      rw [hn6]
      show Steps p.tables e below (T5.setTop (mkF m 86 #[.val (.ref o0), .val (.int p0), .val .null, .val (.ref o1), .val (.ref o2), .val (.int (0 : Int32)), .val (.int (bd - tc)), .val (.ref b5), .val (.int (0 : Int32)), .unset, .unset, .unset, .unset] [(.int ((bd - tc) - p0)), (.int (0 : Int32))])) _
      refine XS.icmpYes X5.here hx rfl (pc0 := 86) (pc' := 127) rfl (hb hby d10_86) rfl (flt (own_len1 htc : ¬ ((0 : Int32) < ((bd - tc) - p0)))).2.1 (by decide) (by decide) ?_
      show Steps p.tables e below (T5.setTop (mkF m 127 #[.val (.ref o0), .val (.int p0), .val .null, .val (.ref o1), .val (.ref o2), .val (.int (0 : Int32)), .val (.int (bd - tc)), .val (.ref b5), .val (.int (0 : Int32)), .unset, .unset, .unset, .unset] [])) _
      refine XS.iload X5.here hx rfl (hb hby d10_127) rfl ?_
      show Steps p.tables e below (T5.setTop (mkF m 129 #[.val (.ref o0), .val (.int p0), .val .null, .val (.ref o1), .val (.ref o2), .val (.int (0 : Int32)), .val (.int (bd - tc)), .val (.ref b5), .val (.int (0 : Int32)), .unset, .unset, .unset, .unset] [(.int (0 : Int32))])) _
      refine XS.istore X5.here hx rfl (hb hby d10_129) rfl (l' := #[.val (.ref o0), .val (.int p0), .val .null, .val (.ref o1), .val (.ref o2), .val (.int (0 : Int32)), .val (.int (bd - tc)), .val (.ref b5), .val (.int (0 : Int32)), .unset, .unset, .unset, .unset]) rfl ?_
      show Steps p.tables e below (T5.setTop (mkF m 131 #[.val (.ref o0), .val (.int p0), .val .null, .val (.ref o1), .val (.ref o2), .val (.int (0 : Int32)), .val (.int (bd - tc)), .val (.ref b5), .val (.int (0 : Int32)), .unset, .unset, .unset, .unset] [])) _
      refine XS.iconst X5.here hx rfl (hb hby d10_131) ?_
      show Steps p.tables e below (T5.setTop (mkF m 132 #[.val (.ref o0), .val (.int p0), .val .null, .val (.ref o1), .val (.ref o2), .val (.int (0 : Int32)), .val (.int (bd - tc)), .val (.ref b5), .val (.int (0 : Int32)), .unset, .unset, .unset, .unset] [(.int (0 : Int32))])) _
      refine XS.istore X5.here hx rfl (hb hby d10_132) rfl (l' := #[.val (.ref o0), .val (.int p0), .val .null, .val (.ref o1), .val (.ref o2), .val (.int (0 : Int32)), .val (.int (bd - tc)), .val (.ref b5), .val (.int (0 : Int32)), .val (.int (0 : Int32)), .unset, .unset, .unset]) rfl ?_
      show Steps p.tables e below (T5.setTop (mkF m 134 #[.val (.ref o0), .val (.int p0), .val .null, .val (.ref o1), .val (.ref o2), .val (.int (0 : Int32)), .val (.int (bd - tc)), .val (.ref b5), .val (.int (0 : Int32)), .val (.int (0 : Int32)), .unset, .unset, .unset] [])) _
      refine XS.iload X5.here hx rfl (hb hby d10_134) rfl ?_
      show Steps p.tables e below (T5.setTop (mkF m 136 #[.val (.ref o0), .val (.int p0), .val .null, .val (.ref o1), .val (.ref o2), .val (.int (0 : Int32)), .val (.int (bd - tc)), .val (.ref b5), .val (.int (0 : Int32)), .val (.int (0 : Int32)), .unset, .unset, .unset] [(.int (0 : Int32))])) _
      refine XS.aloadN X5.here hx rfl (hb hby d10_136) rfl rfl ?_
      show Steps p.tables e below (T5.setTop (mkF m 137 #[.val (.ref o0), .val (.int p0), .val .null, .val (.ref o1), .val (.ref o2), .val (.int (0 : Int32)), .val (.int (bd - tc)), .val (.ref b5), .val (.int (0 : Int32)), .val (.int (0 : Int32)), .unset, .unset, .unset] [(.ref o0), (.int (0 : Int32))])) _
      refine st7 _ ?_
      show Steps p.tables e below (T7.setTop (mkF m 140 #[.val (.ref o0), .val (.int p0), .val .null, .val (.ref o1), .val (.ref o2), .val (.int (0 : Int32)), .val (.int (bd - tc)), .val (.ref b5), .val (.int (0 : Int32)), .val (.int (0 : Int32)), .unset, .unset, .unset] [(.ref ta), (.int (0 : Int32))])) _
      refine X7.arraylength hx (by rw [e7]; exact Ar8.1) (State.isArrayOf_alike hZ.alike Ar8.2.1) (g := (mkF m 140 #[.val (.ref o0), .val (.int p0), .val .null, .val (.ref o1), .val (.ref o2), .val (.int (0 : Int32)), .val (.int (bd - tc)), .val (.ref b5), .val (.int (0 : Int32)), .val (.int (0 : Int32)), .unset, .unset, .unset] [(.ref ta), (.int (0 : Int32))])) rfl rfl (hb hby d10_140) _ ?_
      rw [hn8]
      show Steps p.tables e below (T7.setTop (mkF m 141 #[.val (.ref o0), .val (.int p0), .val .null, .val (.ref o1), .val (.ref o2), .val (.int (0 : Int32)), .val (.int (bd - tc)), .val (.ref b5), .val (.int (0 : Int32)), .val (.int (0 : Int32)), .unset, .unset, .unset] [(.int nl), (.int (0 : Int32))])) _
      refine XS.icmpNo X7.here hx rfl (hb hby d10_141) rfl (tlt (own_nl0 hnl hB1 : (0 : Int32) < nl)).2.1 ?_
      show Steps p.tables e below (T7.setTop (mkF m 144 #[.val (.ref o0), .val (.int p0), .val .null, .val (.ref o1), .val (.ref o2), .val (.int (0 : Int32)), .val (.int (bd - tc)), .val (.ref b5), .val (.int (0 : Int32)), .val (.int (0 : Int32)), .unset, .unset, .unset] [])) _
      refine XS.aloadN X7.here hx rfl (hb hby d10_144) rfl rfl ?_
      show Steps p.tables e below (T7.setTop (mkF m 145 #[.val (.ref o0), .val (.int p0), .val .null, .val (.ref o1), .val (.ref o2), .val (.int (0 : Int32)), .val (.int (bd - tc)), .val (.ref b5), .val (.int (0 : Int32)), .val (.int (0 : Int32)), .unset, .unset, .unset] [(.ref o0)])) _
      refine st9 _ ?_
      show Steps p.tables e below (T9.setTop (mkF m 148 #[.val (.ref o0), .val (.int p0), .val .null, .val (.ref o1), .val (.ref o2), .val (.int (0 : Int32)), .val (.int (bd - tc)), .val (.ref b5), .val (.int (0 : Int32)), .val (.int (0 : Int32)), .unset, .unset, .unset] [(.ref ta)])) _
      refine XS.iload X9.here hx rfl (hb hby d10_148) rfl ?_
      show Steps p.tables e below (T9.setTop (mkF m 150 #[.val (.ref o0), .val (.int p0), .val .null, .val (.ref o1), .val (.ref o2), .val (.int (0 : Int32)), .val (.int (bd - tc)), .val (.ref b5), .val (.int (0 : Int32)), .val (.int (0 : Int32)), .unset, .unset, .unset] [(.int (0 : Int32)), (.ref ta)])) _
      refine X9.laload hx (j := (0 : Int32)) (v := (.long (getJ ts (0 : Int32)))) (by rw [e9]; exact Ar10.1) (State.isArrayOf_alike hZ.alike Ar10.2.1) Ar10.2.2 hin10 hat10 (g := (mkF m 150 #[.val (.ref o0), .val (.int p0), .val .null, .val (.ref o1), .val (.ref o2), .val (.int (0 : Int32)), .val (.int (bd - tc)), .val (.ref b5), .val (.int (0 : Int32)), .val (.int (0 : Int32)), .unset, .unset, .unset] [(.int (0 : Int32)), (.ref ta)])) rfl rfl (hb hby d10_150) _ ?_
      show Steps p.tables e below (T9.setTop (mkF m 151 #[.val (.ref o0), .val (.int p0), .val .null, .val (.ref o1), .val (.ref o2), .val (.int (0 : Int32)), .val (.int (bd - tc)), .val (.ref b5), .val (.int (0 : Int32)), .val (.int (0 : Int32)), .unset, .unset, .unset] [(.long (getJ ts (0 : Int32)))])) _
      refine X9.ldc2Long hx hown (mvT hZ (hw _ (List.mem_of_getElem? (i := 60) rfl))) (g := (mkF m 151 #[.val (.ref o0), .val (.int p0), .val .null, .val (.ref o1), .val (.ref o2), .val (.int (0 : Int32)), .val (.int (bd - tc)), .val (.ref b5), .val (.int (0 : Int32)), .val (.int (0 : Int32)), .unset, .unset, .unset] [(.long (getJ ts (0 : Int32)))])) rfl (hb hby d10_151) _ ?_
      show Steps p.tables e below (T9.setTop (mkF m 154 #[.val (.ref o0), .val (.int p0), .val .null, .val (.ref o1), .val (.ref o2), .val (.int (0 : Int32)), .val (.int (bd - tc)), .val (.ref b5), .val (.int (0 : Int32)), .val (.int (0 : Int32)), .unset, .unset, .unset] [(.long (-1 : Int64)), (.long (getJ ts (0 : Int32)))])) _
      refine XS.lxor X9.here hx rfl (hb hby d10_154) rfl ?_
      show Steps p.tables e below (T9.setTop (mkF m 155 #[.val (.ref o0), .val (.int p0), .val .null, .val (.ref o1), .val (.ref o2), .val (.int (0 : Int32)), .val (.int (bd - tc)), .val (.ref b5), .val (.int (0 : Int32)), .val (.int (0 : Int32)), .unset, .unset, .unset] [(.long ((getJ ts (0 : Int32)) ^^^ (-1 : Int64)))])) _
      refine XS.lstore X9.here hx rfl (hb hby d10_155) rfl (l' := #[.val (.ref o0), .val (.int p0), .val .null, .val (.ref o1), .val (.ref o2), .val (.int (0 : Int32)), .val (.int (bd - tc)), .val (.ref b5), .val (.int (0 : Int32)), .val (.int (0 : Int32)), .val (.long ((getJ ts (0 : Int32)) ^^^ (-1 : Int64))), .second, .unset]) rfl ?_
      show Steps p.tables e below (T9.setTop (mkF m 157 #[.val (.ref o0), .val (.int p0), .val .null, .val (.ref o1), .val (.ref o2), .val (.int (0 : Int32)), .val (.int (bd - tc)), .val (.ref b5), .val (.int (0 : Int32)), .val (.int (0 : Int32)), .val (.long ((getJ ts (0 : Int32)) ^^^ (-1 : Int64))), .second, .unset] [])) _
      refine st11 _ ?_
      show Steps p.tables e below (T11.setTop (mkF m 208 #[.val (.ref o0), .val (.int p0), .val .null, .val (.ref o1), .val (.ref o2), .val (.int (0 : Int32)), .val (.int (bd - tc)), .val (.ref b5), .val (.int (Int32.ofNat (pushR (Sf ts B) 64 (64 * 0 + 0) 0 ii).1)), .val (.int (0 : Int32)), .val (.long (0 : Int64)), .second, s12_11] [])) _
      refine XS.iinc X11.here hx rfl (hb hby d10_208) rfl (l' := #[.val (.ref o0), .val (.int p0), .val .null, .val (.ref o1), .val (.ref o2), .val (.int (0 : Int32)), .val (.int (bd - tc)), .val (.ref b5), .val (.int (Int32.ofNat (pushR (Sf ts B) 64 (64 * 0 + 0) 0 ii).1)), .val (.int (1 : Int32)), .val (.long (0 : Int64)), .second, s12_11]) rfl ?_
      show Steps p.tables e below (T11.setTop (mkF m 211 #[.val (.ref o0), .val (.int p0), .val .null, .val (.ref o1), .val (.ref o2), .val (.int (0 : Int32)), .val (.int (bd - tc)), .val (.ref b5), .val (.int (Int32.ofNat (pushR (Sf ts B) 64 (64 * 0 + 0) 0 ii).1)), .val (.int (1 : Int32)), .val (.long (0 : Int64)), .second, s12_11] [])) _
      refine XS.goto X11.here hx rfl (pc0 := 211) (pc' := 134) rfl (hb hby d10_211) (by decide) (by decide) ?_
      show Steps p.tables e below (T11.setTop (mkF m 134 #[.val (.ref o0), .val (.int p0), .val .null, .val (.ref o1), .val (.ref o2), .val (.int (0 : Int32)), .val (.int (bd - tc)), .val (.ref b5), .val (.int (Int32.ofNat (pushR (Sf ts B) 64 (64 * 0 + 0) 0 ii).1)), .val (.int (1 : Int32)), .val (.long (0 : Int64)), .second, s12_11] [])) _
      refine XS.iload X11.here hx rfl (hb hby d10_134) rfl ?_
      show Steps p.tables e below (T11.setTop (mkF m 136 #[.val (.ref o0), .val (.int p0), .val .null, .val (.ref o1), .val (.ref o2), .val (.int (0 : Int32)), .val (.int (bd - tc)), .val (.ref b5), .val (.int (Int32.ofNat (pushR (Sf ts B) 64 (64 * 0 + 0) 0 ii).1)), .val (.int (1 : Int32)), .val (.long (0 : Int64)), .second, s12_11] [(.int (1 : Int32))])) _
      refine XS.aloadN X11.here hx rfl (hb hby d10_136) rfl rfl ?_
      show Steps p.tables e below (T11.setTop (mkF m 137 #[.val (.ref o0), .val (.int p0), .val .null, .val (.ref o1), .val (.ref o2), .val (.int (0 : Int32)), .val (.int (bd - tc)), .val (.ref b5), .val (.int (Int32.ofNat (pushR (Sf ts B) 64 (64 * 0 + 0) 0 ii).1)), .val (.int (1 : Int32)), .val (.long (0 : Int64)), .second, s12_11] [(.ref o0), (.int (1 : Int32))])) _
      refine st12 _ ?_
      show Steps p.tables e below (T12.setTop (mkF m 140 #[.val (.ref o0), .val (.int p0), .val .null, .val (.ref o1), .val (.ref o2), .val (.int (0 : Int32)), .val (.int (bd - tc)), .val (.ref b5), .val (.int (Int32.ofNat (pushR (Sf ts B) 64 (64 * 0 + 0) 0 ii).1)), .val (.int (1 : Int32)), .val (.long (0 : Int64)), .second, s12_11] [(.ref ta), (.int (1 : Int32))])) _
      refine X12.arraylength hx (by rw [e12]; exact Ar13.1) (State.isArrayOf_alike hZ.alike Ar13.2.1) (g := (mkF m 140 #[.val (.ref o0), .val (.int p0), .val .null, .val (.ref o1), .val (.ref o2), .val (.int (0 : Int32)), .val (.int (bd - tc)), .val (.ref b5), .val (.int (Int32.ofNat (pushR (Sf ts B) 64 (64 * 0 + 0) 0 ii).1)), .val (.int (1 : Int32)), .val (.long (0 : Int64)), .second, s12_11] [(.ref ta), (.int (1 : Int32))])) rfl rfl (hb hby d10_140) _ ?_
      rw [hn13]
      show Steps p.tables e below (T12.setTop (mkF m 141 #[.val (.ref o0), .val (.int p0), .val .null, .val (.ref o1), .val (.ref o2), .val (.int (0 : Int32)), .val (.int (bd - tc)), .val (.ref b5), .val (.int (Int32.ofNat (pushR (Sf ts B) 64 (64 * 0 + 0) 0 ii).1)), .val (.int (1 : Int32)), .val (.long (0 : Int64)), .second, s12_11] [(.int nl), (.int (1 : Int32))])) _
      exact k)
    by_cases hc141_15 : (1 : Int32) < nl
    · obtain ⟨T16, X16, e16, st16⟩ := getF X12 hx hZ hown (host := "") (Or.inl (hw _ (List.mem_of_getElem? (i := 28) rfl))) Via.refl e12 (((F_taken_o0.ext E5).keep Kq11 (ninS ne_o0_o2 nin0))) (g := (mkF m 145 #[.val (.ref o0), .val (.int p0), .val .null, .val (.ref o1), .val (.ref o2), .val (.int (0 : Int32)), .val (.int (bd - tc)), .val (.ref b5), .val (.int (Int32.ofNat (pushR (Sf ts B) 64 (64 * 0 + 0) 0 ii).1)), .val (.int (1 : Int32)), .val (.long (0 : Int64)), .second, s12_11] [(.ref o0)])) rfl rfl (hb hby d10_145)
      obtain ⟨cl17, Ar17, hin17, hat17⟩ := La.get (((V_ta.ext E5).keep Kq11 (ninS ne_ta_o2 nin0))) (j := (1 : Int32)) ⟨by decide, hc141_15⟩
      obtain ⟨T18, L18, s12_18, h12_18, X18, N18, Kq18, Vq18, st18⟩ := lp157 o0 o1 o2 b5 p0 (bd - tc) bd kc hx hZ hw hby hml hown (by decide) (by decide) g_o2 ne_o0_o2 B 1 (by decide) hB hB2 ts 64 0 rfl _ _ _ s12_11 ((getJ ts (1 : Int32)) ^^^ (-1 : Int64)) (pushR (Sf ts B) 64 (64 * 0 + 0) 0 ii).1 ((pushR (Sf ts B) 64 (64 * 0 + 0) 0 ii).2) X16 e16 Z11 N11 h12_11 (own_q1 _ _ V_o2.2) (own_hb 1 (by decide) ts) (((E_o0.ext E5).keep Kq11)) (((F_bound_o0.ext E5).keep Kq11 (ninS ne_o0_o2 nin0))) (Vq11)
      have Z18 : n0 ≤ T18.heap.size := Nat.le_trans Z11 Kq18.1
      have K18 : Keep h0 T18.heap [o0, ta, o2] := (K11).trans Kq18 (allS (Or.inl (List.mem_of_getElem? (i := 2) rfl)) all0)
      obtain ⟨T19, X19, e19, st19⟩ := getF X18 hx hZ hown (host := "") (Or.inl (hw _ (List.mem_of_getElem? (i := 28) rfl))) Via.refl rfl ((((F_taken_o0.ext E5).keep Kq11 (ninS ne_o0_o2 nin0)).keep Kq18 (ninS ne_o0_o2 nin0))) (g := (mkF m 137 #[.val (.ref o0), .val (.int p0), .val .null, .val (.ref o1), .val (.ref o2), .val (.int (0 : Int32)), .val (.int (bd - tc)), .val (.ref b5), .val (.int (Int32.ofNat (pushR (Sf ts B) 64 (64 * 1 + 0) (pushR (Sf ts B) 64 (64 * 0 + 0) 0 ii).1 ((pushR (Sf ts B) 64 (64 * 0 + 0) 0 ii).2)).1)), .val (.int (2 : Int32)), .val (.long (0 : Int64)), .second, s12_18] [(.ref o0), (.int (2 : Int32))])) rfl rfl (hb hby d10_137)
      obtain ⟨cl20, Ar20, hn20⟩ := La.size ((((V_ta.ext E5).keep Kq11 (ninS ne_ta_o2 nin0)).keep Kq18 (ninS ne_ta_o2 nin0)))
      obtain ⟨cl21, Ar21, hn21⟩ := Ia.size (((V_b5.keep Kq11 (ninS (Ne.symm ne_o2_b5) nin0)).keep Kq18 (ninS (Ne.symm ne_o2_b5) nin0)))
      obtain ⟨cq22, kq22, q22a, q22b, q22c⟩ := isOf hZ e19 ((((E_o0.ext E5).keep Kq11).keep Kq18))
      obtain ⟨_, _, ⟨T22, L22, k22, n22⟩, -, X22, ⟨Lc22, hQ22, l22, y22, z22⟩, st22⟩ := X19.virtualBack hx (y := (⟨"com/example/knotwork/knotwork/generate/FreeNumbers", "free", "([II)V"⟩ : MethodName)) (z := (⟨"com/example/knotwork/knotwork/generate/FreeNumbers", "free", "([II)V"⟩ : MethodName)) hown (mvT hZ (hw _ (List.mem_of_getElem? (i := 70) rfl))) (mvT hZ (hw _ (List.mem_of_getElem? (i := 42) rfl))) (notFace_of_selects (args := #[]) (mvT hZ (hw _ (List.mem_of_getElem? (i := 44) rfl)))) (mvT hZ (hw _ (List.mem_of_getElem? (i := 44) rfl))) (mvT hZ (hw _ (List.mem_of_getElem? (i := 43) rfl))) (by decide) (backOf (W := 0) (rm7 l Z a0 hw [] o0 b5 ((bd - tc) - p0) nl ((bd - tc) - p0) 0 (fun _ => 0) ta tc bd ka ts k5 (List.replicate ((bd - tc) - p0).toNatClampNeg 0) T18.heap n0 Z18 ((((E_o0.ext E5).keep Kq11).keep Kq18)) g_o0 ((((F_taken_o0.ext E5).keep Kq11 (ninS ne_o0_o2 nin0)).keep Kq18 (ninS ne_o0_o2 nin0))) ((((F_takenCount_o0.ext E5).keep Kq11 (ninS ne_o0_o2 nin0)).keep Kq18 (ninS ne_o0_o2 nin0))) ((((F_bound_o0.ext E5).keep Kq11 (ninS ne_o0_o2 nin0)).keep Kq18 (ninS ne_o0_o2 nin0))) ((((V_ta.ext E5).keep Kq11 (ninS ne_ta_o2 nin0)).keep Kq18 (ninS ne_ta_o2 nin0))) g_ta (((V_b5.keep Kq11 (ninS (Ne.symm ne_o2_b5) nin0)).keep Kq18 (ninS (Ne.symm ne_o2_b5) nin0))) (ne_o0_ta) (ne_o0_b5) (ne_ta_b5) (own_len2 htc) (by decide) (fun i hi => absurd hi (Nat.not_lt_zero i))) hZ (hw _ (List.mem_of_getElem? (i := 45) rfl)) (hw _ (List.mem_of_getElem? (i := 18) rfl)) (by decide) (by decide)) q22a q22c (g := (mkF m 220 #[.val (.ref o0), .val (.int p0), .val .null, .val (.ref o1), .val (.ref o2), .val (.int (0 : Int32)), .val (.int (bd - tc)), .val (.ref b5), .val (.int (Int32.ofNat (pushR (Sf ts B) 64 (64 * 1 + 0) (pushR (Sf ts B) 64 (64 * 0 + 0) 0 ii).1 ((pushR (Sf ts B) 64 (64 * 0 + 0) 0 ii).2)).1)), .val (.int (2 : Int32)), .val (.long (0 : Int64)), .second, s12_18] [(.int ((bd - tc) - p0)), (.ref b5), (.ref o0)])) rfl (by rw [hml]; rfl) (Steps.refl _) (argsL := [(.ref b5), (.int ((bd - tc) - p0))]) (rest := []) (lenOf pd_6 rfl) rfl (by show 2 * 0 + _ ≤ _; exact Nat.le_of_eq rfl) (hb hby d10_220) (fun _ _ => ⟨rfl, e19, (by decide : 1 + 0 ≤ _), (by decide : 0 + 0 ≤ _)⟩)
      dsimp only [Pt.U, Pt.locs, Pt.cells, Pt.slots] at X22 l22 y22 z22 st22 hQ22
      rw [l22, y22, z22] at X22
      obtain ⟨rfl, N22q, Kq22, Fq22_0, Fq22_2, ts22, tc22, Fq22_1, Vq22, Pq22⟩ := hQ22
      have N22 := Fr.app N18 N22q
      have Z22 : n0 ≤ T22.heap.size := Nat.le_trans Z18 Kq22.1
      have K22 : Keep h0 T22.heap [o0, ta, o2] := (K18).trans Kq22 (allS (Or.inl (List.mem_of_getElem? (i := 0) rfl)) (allS (Or.inl (List.mem_of_getElem? (i := 1) rfl)) all0))
      obtain ⟨T23, L23, X23, N23, Kq23, Vq23, st23⟩ := lp227 o0 o1 o2 b5 p0 (bd - tc) bd nl ta (.val (.long (0 : Int64))) .second s12_18 ka kc ((pushR (Sf ts B) 64 (64 * 1 + 0) (pushR (Sf ts B) 64 (64 * 0 + 0) 0 ii).1 ((pushR (Sf ts B) 64 (64 * 0 + 0) 0 ii).2)).2) hx hZ hw hby hml hown (by decide) (by decide) g_o0 g_ta ne_o0_ta ne_o0_o2 ne_ta_o2 ((pushR (Sf ts B) 64 (64 * 1 + 0) (pushR (Sf ts B) 64 (64 * 0 + 0) 0 ii).1 ((pushR (Sf ts B) 64 (64 * 0 + 0) 0 ii).2)).1) (own_el2 hB1 hB2 hnl V_o2.2 hc141_15).1 (own_el2 hB1 hB2 hnl V_o2.2 hc141_15).2 ((pushR (Sf ts B) 64 (64 * 1 + 0) (pushR (Sf ts B) 64 (64 * 0 + 0) 0 ii).1 ((pushR (Sf ts B) 64 (64 * 0 + 0) 0 ii).2)).1) 0 (Nat.zero_add _) _ _ _ ts22 tc22 X22 rfl Z22 N22 (((((E_o0.ext E5).keep Kq11).keep Kq18).keep Kq22)) (Fq22_0) (Fq22_1) (Fq22_2) (Vq22) ((Vq18.keep Kq22 (ninS (Ne.symm ne_o0_o2) (ninS (Ne.symm ne_ta_o2) nin0))))
      have Z23 : n0 ≤ T23.heap.size := Nat.le_trans Z22 Kq23.1
      have K23 : Keep h0 T23.heap [o0, ta, o2] := (K22).trans Kq23 (allS (Or.inl (List.mem_of_getElem? (i := 0) rfl)) (allS (Or.inl (List.mem_of_getElem? (i := 1) rfl)) all0))
      obtain ⟨fs, hr, hrun, hended, hW, hsame⟩ := X23.leave (v := none) (fun _ => rfl) hlk
      refine ⟨_, _, pre14 _ ?_, hrun, hended, _, _, rfl, ?_, ⟨_, rfl⟩, hW, hsame.mono (by decide) (by decide)⟩
      · show Steps p.tables e below (T12.setTop (mkF m 141 #[.val (.ref o0), .val (.int p0), .val .null, .val (.ref o1), .val (.ref o2), .val (.int (0 : Int32)), .val (.int (bd - tc)), .val (.ref b5), .val (.int (Int32.ofNat (pushR (Sf ts B) 64 (64 * 0 + 0) 0 ii).1)), .val (.int (1 : Int32)), .val (.long (0 : Int64)), .second, s12_11] [(.int nl), (.int (1 : Int32))])) _
        refine XS.icmpNo X12.here hx rfl (hb hby d10_141) rfl (tlt hc141_15).2.1 ?_
        show Steps p.tables e below (T12.setTop (mkF m 144 #[.val (.ref o0), .val (.int p0), .val .null, .val (.ref o1), .val (.ref o2), .val (.int (0 : Int32)), .val (.int (bd - tc)), .val (.ref b5), .val (.int (Int32.ofNat (pushR (Sf ts B) 64 (64 * 0 + 0) 0 ii).1)), .val (.int (1 : Int32)), .val (.long (0 : Int64)), .second, s12_11] [])) _
        refine XS.aloadN X12.here hx rfl (hb hby d10_144) rfl rfl ?_
        show Steps p.tables e below (T12.setTop (mkF m 145 #[.val (.ref o0), .val (.int p0), .val .null, .val (.ref o1), .val (.ref o2), .val (.int (0 : Int32)), .val (.int (bd - tc)), .val (.ref b5), .val (.int (Int32.ofNat (pushR (Sf ts B) 64 (64 * 0 + 0) 0 ii).1)), .val (.int (1 : Int32)), .val (.long (0 : Int64)), .second, s12_11] [(.ref o0)])) _
        refine st16 _ ?_
        show Steps p.tables e below (T16.setTop (mkF m 148 #[.val (.ref o0), .val (.int p0), .val .null, .val (.ref o1), .val (.ref o2), .val (.int (0 : Int32)), .val (.int (bd - tc)), .val (.ref b5), .val (.int (Int32.ofNat (pushR (Sf ts B) 64 (64 * 0 + 0) 0 ii).1)), .val (.int (1 : Int32)), .val (.long (0 : Int64)), .second, s12_11] [(.ref ta)])) _
        refine XS.iload X16.here hx rfl (hb hby d10_148) rfl ?_
        show Steps p.tables e below (T16.setTop (mkF m 150 #[.val (.ref o0), .val (.int p0), .val .null, .val (.ref o1), .val (.ref o2), .val (.int (0 : Int32)), .val (.int (bd - tc)), .val (.ref b5), .val (.int (Int32.ofNat (pushR (Sf ts B) 64 (64 * 0 + 0) 0 ii).1)), .val (.int (1 : Int32)), .val (.long (0 : Int64)), .second, s12_11] [(.int (1 : Int32)), (.ref ta)])) _
        refine X16.laload hx (j := (1 : Int32)) (v := (.long (getJ ts (1 : Int32)))) (by rw [e16]; exact Ar17.1) (State.isArrayOf_alike hZ.alike Ar17.2.1) Ar17.2.2 hin17 hat17 (g := (mkF m 150 #[.val (.ref o0), .val (.int p0), .val .null, .val (.ref o1), .val (.ref o2), .val (.int (0 : Int32)), .val (.int (bd - tc)), .val (.ref b5), .val (.int (Int32.ofNat (pushR (Sf ts B) 64 (64 * 0 + 0) 0 ii).1)), .val (.int (1 : Int32)), .val (.long (0 : Int64)), .second, s12_11] [(.int (1 : Int32)), (.ref ta)])) rfl rfl (hb hby d10_150) _ ?_
        show Steps p.tables e below (T16.setTop (mkF m 151 #[.val (.ref o0), .val (.int p0), .val .null, .val (.ref o1), .val (.ref o2), .val (.int (0 : Int32)), .val (.int (bd - tc)), .val (.ref b5), .val (.int (Int32.ofNat (pushR (Sf ts B) 64 (64 * 0 + 0) 0 ii).1)), .val (.int (1 : Int32)), .val (.long (0 : Int64)), .second, s12_11] [(.long (getJ ts (1 : Int32)))])) _
        refine X16.ldc2Long hx hown (mvT hZ (hw _ (List.mem_of_getElem? (i := 60) rfl))) (g := (mkF m 151 #[.val (.ref o0), .val (.int p0), .val .null, .val (.ref o1), .val (.ref o2), .val (.int (0 : Int32)), .val (.int (bd - tc)), .val (.ref b5), .val (.int (Int32.ofNat (pushR (Sf ts B) 64 (64 * 0 + 0) 0 ii).1)), .val (.int (1 : Int32)), .val (.long (0 : Int64)), .second, s12_11] [(.long (getJ ts (1 : Int32)))])) rfl (hb hby d10_151) _ ?_
        show Steps p.tables e below (T16.setTop (mkF m 154 #[.val (.ref o0), .val (.int p0), .val .null, .val (.ref o1), .val (.ref o2), .val (.int (0 : Int32)), .val (.int (bd - tc)), .val (.ref b5), .val (.int (Int32.ofNat (pushR (Sf ts B) 64 (64 * 0 + 0) 0 ii).1)), .val (.int (1 : Int32)), .val (.long (0 : Int64)), .second, s12_11] [(.long (-1 : Int64)), (.long (getJ ts (1 : Int32)))])) _
        refine XS.lxor X16.here hx rfl (hb hby d10_154) rfl ?_
        show Steps p.tables e below (T16.setTop (mkF m 155 #[.val (.ref o0), .val (.int p0), .val .null, .val (.ref o1), .val (.ref o2), .val (.int (0 : Int32)), .val (.int (bd - tc)), .val (.ref b5), .val (.int (Int32.ofNat (pushR (Sf ts B) 64 (64 * 0 + 0) 0 ii).1)), .val (.int (1 : Int32)), .val (.long (0 : Int64)), .second, s12_11] [(.long ((getJ ts (1 : Int32)) ^^^ (-1 : Int64)))])) _
        refine XS.lstore X16.here hx rfl (hb hby d10_155) rfl (l' := #[.val (.ref o0), .val (.int p0), .val .null, .val (.ref o1), .val (.ref o2), .val (.int (0 : Int32)), .val (.int (bd - tc)), .val (.ref b5), .val (.int (Int32.ofNat (pushR (Sf ts B) 64 (64 * 0 + 0) 0 ii).1)), .val (.int (1 : Int32)), .val (.long ((getJ ts (1 : Int32)) ^^^ (-1 : Int64))), .second, s12_11]) rfl ?_
        show Steps p.tables e below (T16.setTop (mkF m 157 #[.val (.ref o0), .val (.int p0), .val .null, .val (.ref o1), .val (.ref o2), .val (.int (0 : Int32)), .val (.int (bd - tc)), .val (.ref b5), .val (.int (Int32.ofNat (pushR (Sf ts B) 64 (64 * 0 + 0) 0 ii).1)), .val (.int (1 : Int32)), .val (.long ((getJ ts (1 : Int32)) ^^^ (-1 : Int64))), .second, s12_11] [])) _
        refine st18 _ ?_
        show Steps p.tables e below (T18.setTop (mkF m 208 #[.val (.ref o0), .val (.int p0), .val .null, .val (.ref o1), .val (.ref o2), .val (.int (0 : Int32)), .val (.int (bd - tc)), .val (.ref b5), .val (.int (Int32.ofNat (pushR (Sf ts B) 64 (64 * 1 + 0) (pushR (Sf ts B) 64 (64 * 0 + 0) 0 ii).1 ((pushR (Sf ts B) 64 (64 * 0 + 0) 0 ii).2)).1)), .val (.int (1 : Int32)), .val (.long (0 : Int64)), .second, s12_18] [])) _
        refine XS.iinc X18.here hx rfl (hb hby d10_208) rfl (l' := #[.val (.ref o0), .val (.int p0), .val .null, .val (.ref o1), .val (.ref o2), .val (.int (0 : Int32)), .val (.int (bd - tc)), .val (.ref b5), .val (.int (Int32.ofNat (pushR (Sf ts B) 64 (64 * 1 + 0) (pushR (Sf ts B) 64 (64 * 0 + 0) 0 ii).1 ((pushR (Sf ts B) 64 (64 * 0 + 0) 0 ii).2)).1)), .val (.int (2 : Int32)), .val (.long (0 : Int64)), .second, s12_18]) rfl ?_
        show Steps p.tables e below (T18.setTop (mkF m 211 #[.val (.ref o0), .val (.int p0), .val .null, .val (.ref o1), .val (.ref o2), .val (.int (0 : Int32)), .val (.int (bd - tc)), .val (.ref b5), .val (.int (Int32.ofNat (pushR (Sf ts B) 64 (64 * 1 + 0) (pushR (Sf ts B) 64 (64 * 0 + 0) 0 ii).1 ((pushR (Sf ts B) 64 (64 * 0 + 0) 0 ii).2)).1)), .val (.int (2 : Int32)), .val (.long (0 : Int64)), .second, s12_18] [])) _
        refine XS.goto X18.here hx rfl (pc0 := 211) (pc' := 134) rfl (hb hby d10_211) (by decide) (by decide) ?_
        show Steps p.tables e below (T18.setTop (mkF m 134 #[.val (.ref o0), .val (.int p0), .val .null, .val (.ref o1), .val (.ref o2), .val (.int (0 : Int32)), .val (.int (bd - tc)), .val (.ref b5), .val (.int (Int32.ofNat (pushR (Sf ts B) 64 (64 * 1 + 0) (pushR (Sf ts B) 64 (64 * 0 + 0) 0 ii).1 ((pushR (Sf ts B) 64 (64 * 0 + 0) 0 ii).2)).1)), .val (.int (2 : Int32)), .val (.long (0 : Int64)), .second, s12_18] [])) _
        refine XS.iload X18.here hx rfl (hb hby d10_134) rfl ?_
        show Steps p.tables e below (T18.setTop (mkF m 136 #[.val (.ref o0), .val (.int p0), .val .null, .val (.ref o1), .val (.ref o2), .val (.int (0 : Int32)), .val (.int (bd - tc)), .val (.ref b5), .val (.int (Int32.ofNat (pushR (Sf ts B) 64 (64 * 1 + 0) (pushR (Sf ts B) 64 (64 * 0 + 0) 0 ii).1 ((pushR (Sf ts B) 64 (64 * 0 + 0) 0 ii).2)).1)), .val (.int (2 : Int32)), .val (.long (0 : Int64)), .second, s12_18] [(.int (2 : Int32))])) _
        refine XS.aloadN X18.here hx rfl (hb hby d10_136) rfl rfl ?_
        show Steps p.tables e below (T18.setTop (mkF m 137 #[.val (.ref o0), .val (.int p0), .val .null, .val (.ref o1), .val (.ref o2), .val (.int (0 : Int32)), .val (.int (bd - tc)), .val (.ref b5), .val (.int (Int32.ofNat (pushR (Sf ts B) 64 (64 * 1 + 0) (pushR (Sf ts B) 64 (64 * 0 + 0) 0 ii).1 ((pushR (Sf ts B) 64 (64 * 0 + 0) 0 ii).2)).1)), .val (.int (2 : Int32)), .val (.long (0 : Int64)), .second, s12_18] [(.ref o0), (.int (2 : Int32))])) _
        refine st19 _ ?_
        show Steps p.tables e below (T19.setTop (mkF m 140 #[.val (.ref o0), .val (.int p0), .val .null, .val (.ref o1), .val (.ref o2), .val (.int (0 : Int32)), .val (.int (bd - tc)), .val (.ref b5), .val (.int (Int32.ofNat (pushR (Sf ts B) 64 (64 * 1 + 0) (pushR (Sf ts B) 64 (64 * 0 + 0) 0 ii).1 ((pushR (Sf ts B) 64 (64 * 0 + 0) 0 ii).2)).1)), .val (.int (2 : Int32)), .val (.long (0 : Int64)), .second, s12_18] [(.ref ta), (.int (2 : Int32))])) _
        refine X19.arraylength hx (by rw [e19]; exact Ar20.1) (State.isArrayOf_alike hZ.alike Ar20.2.1) (g := (mkF m 140 #[.val (.ref o0), .val (.int p0), .val .null, .val (.ref o1), .val (.ref o2), .val (.int (0 : Int32)), .val (.int (bd - tc)), .val (.ref b5), .val (.int (Int32.ofNat (pushR (Sf ts B) 64 (64 * 1 + 0) (pushR (Sf ts B) 64 (64 * 0 + 0) 0 ii).1 ((pushR (Sf ts B) 64 (64 * 0 + 0) 0 ii).2)).1)), .val (.int (2 : Int32)), .val (.long (0 : Int64)), .second, s12_18] [(.ref ta), (.int (2 : Int32))])) rfl rfl (hb hby d10_140) _ ?_
        rw [hn20]
        show Steps p.tables e below (T19.setTop (mkF m 141 #[.val (.ref o0), .val (.int p0), .val .null, .val (.ref o1), .val (.ref o2), .val (.int (0 : Int32)), .val (.int (bd - tc)), .val (.ref b5), .val (.int (Int32.ofNat (pushR (Sf ts B) 64 (64 * 1 + 0) (pushR (Sf ts B) 64 (64 * 0 + 0) 0 ii).1 ((pushR (Sf ts B) 64 (64 * 0 + 0) 0 ii).2)).1)), .val (.int (2 : Int32)), .val (.long (0 : Int64)), .second, s12_18] [(.int nl), (.int (2 : Int32))])) _
        refine XS.icmpYes X19.here hx rfl (pc0 := 141) (pc' := 214) rfl (hb hby d10_141) rfl (flt (own_nl2 hnl hB2 : ¬ ((2 : Int32) < nl))).2.1 (by decide) (by decide) ?_
        show Steps p.tables e below (T19.setTop (mkF m 214 #[.val (.ref o0), .val (.int p0), .val .null, .val (.ref o1), .val (.ref o2), .val (.int (0 : Int32)), .val (.int (bd - tc)), .val (.ref b5), .val (.int (Int32.ofNat (pushR (Sf ts B) 64 (64 * 1 + 0) (pushR (Sf ts B) 64 (64 * 0 + 0) 0 ii).1 ((pushR (Sf ts B) 64 (64 * 0 + 0) 0 ii).2)).1)), .val (.int (2 : Int32)), .val (.long (0 : Int64)), .second, s12_18] [])) _
        refine XS.aloadN X19.here hx rfl (hb hby d10_214) rfl rfl ?_
        show Steps p.tables e below (T19.setTop (mkF m 215 #[.val (.ref o0), .val (.int p0), .val .null, .val (.ref o1), .val (.ref o2), .val (.int (0 : Int32)), .val (.int (bd - tc)), .val (.ref b5), .val (.int (Int32.ofNat (pushR (Sf ts B) 64 (64 * 1 + 0) (pushR (Sf ts B) 64 (64 * 0 + 0) 0 ii).1 ((pushR (Sf ts B) 64 (64 * 0 + 0) 0 ii).2)).1)), .val (.int (2 : Int32)), .val (.long (0 : Int64)), .second, s12_18] [(.ref o0)])) _
        refine XS.aload X19.here hx rfl (hb hby d10_215) rfl rfl ?_
        show Steps p.tables e below (T19.setTop (mkF m 217 #[.val (.ref o0), .val (.int p0), .val .null, .val (.ref o1), .val (.ref o2), .val (.int (0 : Int32)), .val (.int (bd - tc)), .val (.ref b5), .val (.int (Int32.ofNat (pushR (Sf ts B) 64 (64 * 1 + 0) (pushR (Sf ts B) 64 (64 * 0 + 0) 0 ii).1 ((pushR (Sf ts B) 64 (64 * 0 + 0) 0 ii).2)).1)), .val (.int (2 : Int32)), .val (.long (0 : Int64)), .second, s12_18] [(.ref b5), (.ref o0)])) _
        refine XS.aload X19.here hx rfl (hb hby d10_217) rfl rfl ?_
        show Steps p.tables e below (T19.setTop (mkF m 219 #[.val (.ref o0), .val (.int p0), .val .null, .val (.ref o1), .val (.ref o2), .val (.int (0 : Int32)), .val (.int (bd - tc)), .val (.ref b5), .val (.int (Int32.ofNat (pushR (Sf ts B) 64 (64 * 1 + 0) (pushR (Sf ts B) 64 (64 * 0 + 0) 0 ii).1 ((pushR (Sf ts B) 64 (64 * 0 + 0) 0 ii).2)).1)), .val (.int (2 : Int32)), .val (.long (0 : Int64)), .second, s12_18] [(.ref b5), (.ref b5), (.ref o0)])) _
        refine X19.arraylength hx (by rw [e19]; exact Ar21.1) (State.isArrayOf_alike hZ.alike Ar21.2.1) (g := (mkF m 219 #[.val (.ref o0), .val (.int p0), .val .null, .val (.ref o1), .val (.ref o2), .val (.int (0 : Int32)), .val (.int (bd - tc)), .val (.ref b5), .val (.int (Int32.ofNat (pushR (Sf ts B) 64 (64 * 1 + 0) (pushR (Sf ts B) 64 (64 * 0 + 0) 0 ii).1 ((pushR (Sf ts B) 64 (64 * 0 + 0) 0 ii).2)).1)), .val (.int (2 : Int32)), .val (.long (0 : Int64)), .second, s12_18] [(.ref b5), (.ref b5), (.ref o0)])) rfl rfl (hb hby d10_219) _ ?_
        rw [hn21]
        show Steps p.tables e below (T19.setTop (mkF m 220 #[.val (.ref o0), .val (.int p0), .val .null, .val (.ref o1), .val (.ref o2), .val (.int (0 : Int32)), .val (.int (bd - tc)), .val (.ref b5), .val (.int (Int32.ofNat (pushR (Sf ts B) 64 (64 * 1 + 0) (pushR (Sf ts B) 64 (64 * 0 + 0) 0 ii).1 ((pushR (Sf ts B) 64 (64 * 0 + 0) 0 ii).2)).1)), .val (.int (2 : Int32)), .val (.long (0 : Int64)), .second, s12_18] [(.int ((bd - tc) - p0)), (.ref b5), (.ref o0)])) _
        refine st22.trans ?_
        show Steps p.tables e below (T22.setTop (mkF m 223 #[.val (.ref o0), .val (.int p0), .val .null, .val (.ref o1), .val (.ref o2), .val (.int (0 : Int32)), .val (.int (bd - tc)), .val (.ref b5), .val (.int (Int32.ofNat (pushR (Sf ts B) 64 (64 * 1 + 0) (pushR (Sf ts B) 64 (64 * 0 + 0) 0 ii).1 ((pushR (Sf ts B) 64 (64 * 0 + 0) 0 ii).2)).1)), .val (.int (2 : Int32)), .val (.long (0 : Int64)), .second, s12_18] [])) _
        refine XS.iload X22.here hx rfl (hb hby d10_223) rfl ?_
        show Steps p.tables e below (T22.setTop (mkF m 225 #[.val (.ref o0), .val (.int p0), .val .null, .val (.ref o1), .val (.ref o2), .val (.int (0 : Int32)), .val (.int (bd - tc)), .val (.ref b5), .val (.int (Int32.ofNat (pushR (Sf ts B) 64 (64 * 1 + 0) (pushR (Sf ts B) 64 (64 * 0 + 0) 0 ii).1 ((pushR (Sf ts B) 64 (64 * 0 + 0) 0 ii).2)).1)), .val (.int (2 : Int32)), .val (.long (0 : Int64)), .second, s12_18] [(.int (0 : Int32))])) _
        refine XS.istore X22.here hx rfl (hb hby d10_225) rfl (l' := #[.val (.ref o0), .val (.int p0), .val .null, .val (.ref o1), .val (.ref o2), .val (.int (0 : Int32)), .val (.int (bd - tc)), .val (.ref b5), .val (.int (Int32.ofNat (pushR (Sf ts B) 64 (64 * 1 + 0) (pushR (Sf ts B) 64 (64 * 0 + 0) 0 ii).1 ((pushR (Sf ts B) 64 (64 * 0 + 0) 0 ii).2)).1)), .val (.int (0 : Int32)), .val (.long (0 : Int64)), .second, s12_18]) rfl ?_
        show Steps p.tables e below (T22.setTop (mkF m 227 #[.val (.ref o0), .val (.int p0), .val .null, .val (.ref o1), .val (.ref o2), .val (.int (0 : Int32)), .val (.int (bd - tc)), .val (.ref b5), .val (.int (Int32.ofNat (pushR (Sf ts B) 64 (64 * 1 + 0) (pushR (Sf ts B) 64 (64 * 0 + 0) 0 ii).1 ((pushR (Sf ts B) 64 (64 * 0 + 0) 0 ii).2)).1)), .val (.int (0 : Int32)), .val (.long (0 : Int64)), .second, s12_18] [])) _
        refine st23 _ ?_
        show Steps p.tables e below (T23.setTop (mkF m 249 #[.val (.ref o0), .val (.int p0), .val .null, .val (.ref o1), .val (.ref o2), .val (.int (0 : Int32)), .val (.int (bd - tc)), .val (.ref b5), .val (.int (Int32.ofNat (pushR (Sf ts B) 64 (64 * 1 + 0) (pushR (Sf ts B) 64 (64 * 0 + 0) 0 ii).1 ((pushR (Sf ts B) 64 (64 * 0 + 0) 0 ii).2)).1)), .val (.int (Int32.ofNat (pushR (Sf ts B) 64 (64 * 1 + 0) (pushR (Sf ts B) 64 (64 * 0 + 0) 0 ii).1 ((pushR (Sf ts B) 64 (64 * 0 + 0) 0 ii).2)).1)), .val (.long (0 : Int64)), .second, s12_18] [])) _
        exact X23.returnOut hx Bd.returns (hb hby d10_249) hr
      · show Q10 Z o0 p0 o1 o2 nl B ta tc bd ka ts kc ii h0 n0 _ T23.heap _
        exact ⟨rfl, N23, K23, (by rw [own_fin2 hB1 hB2 hnl hc141_15]; exact Vq23)⟩
    · obtain ⟨cl24, Ar24, hn24⟩ := Ia.size ((V_b5.keep Kq11 (ninS (Ne.symm ne_o2_b5) nin0)))
      obtain ⟨cq25, kq25, q25a, q25b, q25c⟩ := isOf hZ e12 (((E_o0.ext E5).keep Kq11))
      obtain ⟨_, _, ⟨T25, L25, k25, n25⟩, -, X25, ⟨Lc25, hQ25, l25, y25, z25⟩, st25⟩ := X12.virtualBack hx (y := (⟨"com/example/knotwork/knotwork/generate/FreeNumbers", "free", "([II)V"⟩ : MethodName)) (z := (⟨"com/example/knotwork/knotwork/generate/FreeNumbers", "free", "([II)V"⟩ : MethodName)) hown (mvT hZ (hw _ (List.mem_of_getElem? (i := 70) rfl))) (mvT hZ (hw _ (List.mem_of_getElem? (i := 42) rfl))) (notFace_of_selects (args := #[]) (mvT hZ (hw _ (List.mem_of_getElem? (i := 44) rfl)))) (mvT hZ (hw _ (List.mem_of_getElem? (i := 44) rfl))) (mvT hZ (hw _ (List.mem_of_getElem? (i := 43) rfl))) (by decide) (backOf (W := 0) (rm7 l Z a0 hw [] o0 b5 ((bd - tc) - p0) nl ((bd - tc) - p0) 0 (fun _ => 0) ta tc bd ka ts k5 (List.replicate ((bd - tc) - p0).toNatClampNeg 0) T11.heap n0 Z11 (((E_o0.ext E5).keep Kq11)) g_o0 (((F_taken_o0.ext E5).keep Kq11 (ninS ne_o0_o2 nin0))) (((F_takenCount_o0.ext E5).keep Kq11 (ninS ne_o0_o2 nin0))) (((F_bound_o0.ext E5).keep Kq11 (ninS ne_o0_o2 nin0))) (((V_ta.ext E5).keep Kq11 (ninS ne_ta_o2 nin0))) g_ta ((V_b5.keep Kq11 (ninS (Ne.symm ne_o2_b5) nin0))) (ne_o0_ta) (ne_o0_b5) (ne_ta_b5) (own_len2 htc) (by decide) (fun i hi => absurd hi (Nat.not_lt_zero i))) hZ (hw _ (List.mem_of_getElem? (i := 45) rfl)) (hw _ (List.mem_of_getElem? (i := 18) rfl)) (by decide) (by decide)) q25a q25c (g := (mkF m 220 #[.val (.ref o0), .val (.int p0), .val .null, .val (.ref o1), .val (.ref o2), .val (.int (0 : Int32)), .val (.int (bd - tc)), .val (.ref b5), .val (.int (Int32.ofNat (pushR (Sf ts B) 64 (64 * 0 + 0) 0 ii).1)), .val (.int (1 : Int32)), .val (.long (0 : Int64)), .second, s12_11] [(.int ((bd - tc) - p0)), (.ref b5), (.ref o0)])) rfl (by rw [hml]; rfl) (Steps.refl _) (argsL := [(.ref b5), (.int ((bd - tc) - p0))]) (rest := []) (lenOf pd_6 rfl) rfl (by show 2 * 0 + _ ≤ _; exact Nat.le_of_eq rfl) (hb hby d10_220) (fun _ _ => ⟨rfl, e12, (by decide : 1 + 0 ≤ _), (by decide : 0 + 0 ≤ _)⟩)
      dsimp only [Pt.U, Pt.locs, Pt.cells, Pt.slots] at X25 l25 y25 z25 st25 hQ25
      rw [l25, y25, z25] at X25
      obtain ⟨rfl, N25q, Kq25, Fq25_0, Fq25_2, ts25, tc25, Fq25_1, Vq25, Pq25⟩ := hQ25
      have N25 := Fr.app N11 N25q
      have Z25 : n0 ≤ T25.heap.size := Nat.le_trans Z11 Kq25.1
      have K25 : Keep h0 T25.heap [o0, ta, o2] := (K11).trans Kq25 (allS (Or.inl (List.mem_of_getElem? (i := 0) rfl)) (allS (Or.inl (List.mem_of_getElem? (i := 1) rfl)) all0))
      obtain ⟨T26, L26, X26, N26, Kq26, Vq26, st26⟩ := lp227 o0 o1 o2 b5 p0 (bd - tc) bd nl ta (.val (.long (0 : Int64))) .second s12_11 ka kc ((pushR (Sf ts B) 64 (64 * 0 + 0) 0 ii).2) hx hZ hw hby hml hown (by decide) (by decide) g_o0 g_ta ne_o0_ta ne_o0_o2 ne_ta_o2 ((pushR (Sf ts B) 64 (64 * 0 + 0) 0 ii).1) (own_el1 hB1 hB2 hnl V_o2.2 hc141_15).1 (own_el1 hB1 hB2 hnl V_o2.2 hc141_15).2 ((pushR (Sf ts B) 64 (64 * 0 + 0) 0 ii).1) 0 (Nat.zero_add _) _ _ _ ts25 tc25 X25 rfl Z25 N25 ((((E_o0.ext E5).keep Kq11).keep Kq25)) (Fq25_0) (Fq25_1) (Fq25_2) (Vq25) ((Vq11.keep Kq25 (ninS (Ne.symm ne_o0_o2) (ninS (Ne.symm ne_ta_o2) nin0))))
      have Z26 : n0 ≤ T26.heap.size := Nat.le_trans Z25 Kq26.1
      have K26 : Keep h0 T26.heap [o0, ta, o2] := (K25).trans Kq26 (allS (Or.inl (List.mem_of_getElem? (i := 0) rfl)) (allS (Or.inl (List.mem_of_getElem? (i := 1) rfl)) all0))
      obtain ⟨fs, hr, hrun, hended, hW, hsame⟩ := X26.leave (v := none) (fun _ => rfl) hlk
      refine ⟨_, _, pre14 _ ?_, hrun, hended, _, _, rfl, ?_, ⟨_, rfl⟩, hW, hsame.mono (by decide) (by decide)⟩
      · show Steps p.tables e below (T12.setTop (mkF m 141 #[.val (.ref o0), .val (.int p0), .val .null, .val (.ref o1), .val (.ref o2), .val (.int (0 : Int32)), .val (.int (bd - tc)), .val (.ref b5), .val (.int (Int32.ofNat (pushR (Sf ts B) 64 (64 * 0 + 0) 0 ii).1)), .val (.int (1 : Int32)), .val (.long (0 : Int64)), .second, s12_11] [(.int nl), (.int (1 : Int32))])) _
        refine XS.icmpYes X12.here hx rfl (pc0 := 141) (pc' := 214) rfl (hb hby d10_141) rfl (flt hc141_15).2.1 (by decide) (by decide) ?_
        show Steps p.tables e below (T12.setTop (mkF m 214 #[.val (.ref o0), .val (.int p0), .val .null, .val (.ref o1), .val (.ref o2), .val (.int (0 : Int32)), .val (.int (bd - tc)), .val (.ref b5), .val (.int (Int32.ofNat (pushR (Sf ts B) 64 (64 * 0 + 0) 0 ii).1)), .val (.int (1 : Int32)), .val (.long (0 : Int64)), .second, s12_11] [])) _
        refine XS.aloadN X12.here hx rfl (hb hby d10_214) rfl rfl ?_
        show Steps p.tables e below (T12.setTop (mkF m 215 #[.val (.ref o0), .val (.int p0), .val .null, .val (.ref o1), .val (.ref o2), .val (.int (0 : Int32)), .val (.int (bd - tc)), .val (.ref b5), .val (.int (Int32.ofNat (pushR (Sf ts B) 64 (64 * 0 + 0) 0 ii).1)), .val (.int (1 : Int32)), .val (.long (0 : Int64)), .second, s12_11] [(.ref o0)])) _
        refine XS.aload X12.here hx rfl (hb hby d10_215) rfl rfl ?_
        show Steps p.tables e below (T12.setTop (mkF m 217 #[.val (.ref o0), .val (.int p0), .val .null, .val (.ref o1), .val (.ref o2), .val (.int (0 : Int32)), .val (.int (bd - tc)), .val (.ref b5), .val (.int (Int32.ofNat (pushR (Sf ts B) 64 (64 * 0 + 0) 0 ii).1)), .val (.int (1 : Int32)), .val (.long (0 : Int64)), .second, s12_11] [(.ref b5), (.ref o0)])) _
        refine XS.aload X12.here hx rfl (hb hby d10_217) rfl rfl ?_
        show Steps p.tables e below (T12.setTop (mkF m 219 #[.val (.ref o0), .val (.int p0), .val .null, .val (.ref o1), .val (.ref o2), .val (.int (0 : Int32)), .val (.int (bd - tc)), .val (.ref b5), .val (.int (Int32.ofNat (pushR (Sf ts B) 64 (64 * 0 + 0) 0 ii).1)), .val (.int (1 : Int32)), .val (.long (0 : Int64)), .second, s12_11] [(.ref b5), (.ref b5), (.ref o0)])) _
        refine X12.arraylength hx (by rw [e12]; exact Ar24.1) (State.isArrayOf_alike hZ.alike Ar24.2.1) (g := (mkF m 219 #[.val (.ref o0), .val (.int p0), .val .null, .val (.ref o1), .val (.ref o2), .val (.int (0 : Int32)), .val (.int (bd - tc)), .val (.ref b5), .val (.int (Int32.ofNat (pushR (Sf ts B) 64 (64 * 0 + 0) 0 ii).1)), .val (.int (1 : Int32)), .val (.long (0 : Int64)), .second, s12_11] [(.ref b5), (.ref b5), (.ref o0)])) rfl rfl (hb hby d10_219) _ ?_
        rw [hn24]
        show Steps p.tables e below (T12.setTop (mkF m 220 #[.val (.ref o0), .val (.int p0), .val .null, .val (.ref o1), .val (.ref o2), .val (.int (0 : Int32)), .val (.int (bd - tc)), .val (.ref b5), .val (.int (Int32.ofNat (pushR (Sf ts B) 64 (64 * 0 + 0) 0 ii).1)), .val (.int (1 : Int32)), .val (.long (0 : Int64)), .second, s12_11] [(.int ((bd - tc) - p0)), (.ref b5), (.ref o0)])) _
        refine st25.trans ?_
        show Steps p.tables e below (T25.setTop (mkF m 223 #[.val (.ref o0), .val (.int p0), .val .null, .val (.ref o1), .val (.ref o2), .val (.int (0 : Int32)), .val (.int (bd - tc)), .val (.ref b5), .val (.int (Int32.ofNat (pushR (Sf ts B) 64 (64 * 0 + 0) 0 ii).1)), .val (.int (1 : Int32)), .val (.long (0 : Int64)), .second, s12_11] [])) _
        refine XS.iload X25.here hx rfl (hb hby d10_223) rfl ?_
        show Steps p.tables e below (T25.setTop (mkF m 225 #[.val (.ref o0), .val (.int p0), .val .null, .val (.ref o1), .val (.ref o2), .val (.int (0 : Int32)), .val (.int (bd - tc)), .val (.ref b5), .val (.int (Int32.ofNat (pushR (Sf ts B) 64 (64 * 0 + 0) 0 ii).1)), .val (.int (1 : Int32)), .val (.long (0 : Int64)), .second, s12_11] [(.int (0 : Int32))])) _
        refine XS.istore X25.here hx rfl (hb hby d10_225) rfl (l' := #[.val (.ref o0), .val (.int p0), .val .null, .val (.ref o1), .val (.ref o2), .val (.int (0 : Int32)), .val (.int (bd - tc)), .val (.ref b5), .val (.int (Int32.ofNat (pushR (Sf ts B) 64 (64 * 0 + 0) 0 ii).1)), .val (.int (0 : Int32)), .val (.long (0 : Int64)), .second, s12_11]) rfl ?_
        show Steps p.tables e below (T25.setTop (mkF m 227 #[.val (.ref o0), .val (.int p0), .val .null, .val (.ref o1), .val (.ref o2), .val (.int (0 : Int32)), .val (.int (bd - tc)), .val (.ref b5), .val (.int (Int32.ofNat (pushR (Sf ts B) 64 (64 * 0 + 0) 0 ii).1)), .val (.int (0 : Int32)), .val (.long (0 : Int64)), .second, s12_11] [])) _
        refine st26 _ ?_
        show Steps p.tables e below (T26.setTop (mkF m 249 #[.val (.ref o0), .val (.int p0), .val .null, .val (.ref o1), .val (.ref o2), .val (.int (0 : Int32)), .val (.int (bd - tc)), .val (.ref b5), .val (.int (Int32.ofNat (pushR (Sf ts B) 64 (64 * 0 + 0) 0 ii).1)), .val (.int (Int32.ofNat (pushR (Sf ts B) 64 (64 * 0 + 0) 0 ii).1)), .val (.long (0 : Int64)), .second, s12_11] [])) _
        exact X26.returnOut hx Bd.returns (hb hby d10_249) hr
      · show Q10 Z o0 p0 o1 o2 nl B ta tc bd ka ts kc ii h0 n0 _ T26.heap _
        exact ⟨rfl, N26, K26, (by rw [own_fin1 hB1 hB2 hnl hc141_15]; exact Vq26)⟩
  · obtain ⟨fs, hr, hrun, hended, hW, hsame⟩ := X2.leave (v := none) (fun _ => rfl) hlk
    refine ⟨_, _, pre3 _ ?_, hrun, hended, _, _, rfl, ?_, ⟨_, rfl⟩, hW, hsame.mono (by decide) (by decide)⟩
    · show Steps p.tables e below (T2.setTop (mkF m 16 #[.val (.ref o0), .val (.int p0), .val .null, .val (.ref o1), .val (.ref o2), .val (.int (0 : Int32)), .val (.int (bd - tc)), .unset, .unset, .unset, .unset, .unset, .unset] [(.int ((bd - tc) / (2 : Int32))), (.int p0)])) _
      refine XS.icmpNo X2.here hx rfl (hb hby d10_16) rfl (flt hc16_4).2.2.1 ?_
      show Steps p.tables e below (T2.setTop (mkF m 19 #[.val (.ref o0), .val (.int p0), .val .null, .val (.ref o1), .val (.ref o2), .val (.int (0 : Int32)), .val (.int (bd - tc)), .unset, .unset, .unset, .unset, .unset, .unset] [])) _
      refine XS.iconst X2.here hx rfl (hb hby d10_19) ?_
      show Steps p.tables e below (T2.setTop (mkF m 20 #[.val (.ref o0), .val (.int p0), .val .null, .val (.ref o1), .val (.ref o2), .val (.int (0 : Int32)), .val (.int (bd - tc)), .unset, .unset, .unset, .unset, .unset, .unset] [(.int (0 : Int32))])) _
      refine XS.istore X2.here hx rfl (hb hby d10_20) rfl (l' := #[.val (.ref o0), .val (.int p0), .val .null, .val (.ref o1), .val (.ref o2), .val (.int (0 : Int32)), .val (.int (bd - tc)), .val (.int (0 : Int32)), .unset, .unset, .unset, .unset, .unset]) rfl ?_
      show Steps p.tables e below (T2.setTop (mkF m 22 #[.val (.ref o0), .val (.int p0), .val .null, .val (.ref o1), .val (.ref o2), .val (.int (0 : Int32)), .val (.int (bd - tc)), .val (.int (0 : Int32)), .unset, .unset, .unset, .unset, .unset] [])) _
      refine XS.iload X2.here hx rfl (hb hby d10_22) rfl ?_
      show Steps p.tables e below (T2.setTop (mkF m 24 #[.val (.ref o0), .val (.int p0), .val .null, .val (.ref o1), .val (.ref o2), .val (.int (0 : Int32)), .val (.int (bd - tc)), .val (.int (0 : Int32)), .unset, .unset, .unset, .unset, .unset] [(.int (0 : Int32))])) _
      refine XS.iloadN X2.here hx rfl (hb hby d10_24) rfl ?_
      show Steps p.tables e below (T2.setTop (mkF m 25 #[.val (.ref o0), .val (.int p0), .val .null, .val (.ref o1), .val (.ref o2), .val (.int (0 : Int32)), .val (.int (bd - tc)), .val (.int (0 : Int32)), .unset, .unset, .unset, .unset, .unset] [(.int p0), (.int (0 : Int32))])) _
      refine XS.icmpYes X2.here hx rfl (pc0 := 25) (pc' := 67) rfl (hb hby d10_25) rfl (flt (own_z0 htc hp0 (own_cb hB2) hc16_4 : ¬ ((0 : Int32) < p0))).2.1 (by decide) (by decide) ?_
      show Steps p.tables e below (T2.setTop (mkF m 67 #[.val (.ref o0), .val (.int p0), .val .null, .val (.ref o1), .val (.ref o2), .val (.int (0 : Int32)), .val (.int (bd - tc)), .val (.int (0 : Int32)), .unset, .unset, .unset, .unset, .unset] [])) _
      refine XS.goto X2.here hx rfl (pc0 := 67) (pc' := 249) rfl (hb hby d10_67) (by decide) (by decide) ?_
      show Steps p.tables e below (T2.setTop (mkF m 249 #[.val (.ref o0), .val (.int p0), .val .null, .val (.ref o1), .val (.ref o2), .val (.int (0 : Int32)), .val (.int (bd - tc)), .val (.int (0 : Int32)), .unset, .unset, .unset, .unset, .unset] [])) _
      exact X2.returnOut hx Bd.returns (hb hby d10_249) hr
    · show Q10 Z o0 p0 o1 o2 nl B ta tc bd ka ts kc ii h0 n0 _ T2.heap _
      rw [e2]
      exact ⟨rfl, N0, (Keep.refl h0 [o0, ta, o2]), (by rw [own_fin0 hB2 htc hp0 hc16_4]; exact V_o2)⟩
theorem pn_0 : plainName "com/example/knotwork/knotwork/generate/FreeNumbersFreePinLaw" = true := by first | (simp [plainName, overriddenIn]; done) | decide +kernel
theorem ef_0 (m : MethodId) (x0 : Int32) (x1 : Int32) (x2 : Int32) (x3 : Int32) (x4 : Int64) : entryFrame m #[(.int x0), (.int x1), (.int x2), (.int x3), (.long x4)] maxLocals = mkF m 0 #[.val (.int x0), .val (.int x1), .val (.int x2), .val (.int x3), .val (.long x4), .second, .unset, .unset, .unset, .unset, .unset, .unset, .unset, .unset, .unset, .unset, .unset, .unset, .unset, .unset, .unset, .unset, .unset] [] := by first | (simp [entryFrame, mkF, argsToLocals, Value.category, maxLocals]; done) | rfl
def v0_1 (p0 : Int32) : Int32 := ((1 : Int32) + (p0 &&& (127 : Int32)))
def v0_2 (p1 : Int32) (p0 : Int32) : Int32 := ((p1 &&& (255 : Int32)) % (v0_1 p0))
def v0_3 (p1 : Int32) (p0 : Int32) : Int32 := ((((p1.toUInt32 >>> ((8 : Int32) &&& 31).toUInt32).toInt32) &&& (255 : Int32)) % (v0_1 p0))
def v0_4 (p1 : Int32) (p0 : Int32) : Int32 := ((((p1.toUInt32 >>> ((16 : Int32) &&& 31).toUInt32).toInt32) &&& (255 : Int32)) % (v0_1 p0))
def v0_5 (p2 : Int32) (p1 : Int32) (p0 : Int32) (p3 : Int32) : Int32 := (f1 (p2 &&& (3 : Int32)) (v0_2 p1 p0) (v0_3 p1 p0) (v0_4 p1 p0) ((p3 &&& (255 : Int32)) % (v0_1 p0)))
def v0_6 (p2 : Int32) (p1 : Int32) (p0 : Int32) (p3 : Int32) : Int32 := (f1 (((p2.toUInt32 >>> ((2 : Int32) &&& 31).toUInt32).toInt32) &&& (3 : Int32)) (v0_2 p1 p0) (v0_3 p1 p0) (v0_4 p1 p0) ((((p3.toUInt32 >>> ((8 : Int32) &&& 31).toUInt32).toInt32) &&& (255 : Int32)) % (v0_1 p0)))
def v0_7 (p2 : Int32) (p1 : Int32) (p0 : Int32) (p3 : Int32) : Int32 := (f1 (((p2.toUInt32 >>> ((4 : Int32) &&& 31).toUInt32).toInt32) &&& (3 : Int32)) (v0_2 p1 p0) (v0_3 p1 p0) (v0_4 p1 p0) ((((p3.toUInt32 >>> ((16 : Int32) &&& 31).toUInt32).toInt32) &&& (255 : Int32)) % (v0_1 p0)))
def v0_8 (p2 : Int32) (p1 : Int32) (p0 : Int32) (p3 : Int32) : Int32 := (f1 (((p2.toUInt32 >>> ((6 : Int32) &&& 31).toUInt32).toInt32) &&& (3 : Int32)) (v0_2 p1 p0) (v0_3 p1 p0) (v0_4 p1 p0) ((((p3.toUInt32 >>> ((24 : Int32) &&& 31).toUInt32).toInt32) &&& (255 : Int32)) % (v0_1 p0)))
def v0_9 (p2 : Int32) : Int32 := ((((p2.toUInt32 >>> ((8 : Int32) &&& 31).toUInt32).toInt32) &&& (7 : Int32)) % (5 : Int32))
def w0_10 (p2 : Int32) (p1 : Int32) (p0 : Int32) (p3 : Int32) : List Int32 := (setI (List.replicate (4 : Int32).toNatClampNeg 0) (0 : Int32) (v0_5 p2 p1 p0 p3))
def w0_11 (p2 : Int32) (p1 : Int32) (p0 : Int32) (p3 : Int32) : List Int32 := (setI (w0_10 p2 p1 p0 p3) (1 : Int32) (v0_6 p2 p1 p0 p3))
def w0_12 (p2 : Int32) (p1 : Int32) (p0 : Int32) (p3 : Int32) : List Int32 := (setI (w0_11 p2 p1 p0 p3) (2 : Int32) (v0_7 p2 p1 p0 p3))
def w0_13 (p2 : Int32) (p1 : Int32) (p0 : Int32) (p3 : Int32) : List Int32 := (setI (w0_12 p2 p1 p0 p3) (3 : Int32) (v0_8 p2 p1 p0 p3))
def w0_14 (p1 : Int32) (p0 : Int32) : List Int32 := (setI (List.replicate (3 : Int32).toNatClampNeg 0) (0 : Int32) (v0_2 p1 p0))
def w0_15 (p1 : Int32) (p0 : Int32) : List Int32 := (setI (w0_14 p1 p0) (1 : Int32) (v0_3 p1 p0))
def w0_16 (p1 : Int32) (p0 : Int32) : List Int32 := (setI (w0_15 p1 p0) (2 : Int32) (v0_4 p1 p0))
def w0_17 (p0 : Int32) : List Int64 := (List.replicate (((((v0_1 p0).toInt64) + (63 : Int64)) / (64 : Int64)).toInt32).toNatClampNeg 0)
def w0_18 (p1 : Int32) (p0 : Int32) : List Int64 := (g5_ta (v0_2 p1 p0) (w0_17 p0))
def w0_19 (p1 : Int32) (p0 : Int32) : List Int64 := (g5_ta (v0_3 p1 p0) (w0_18 p1 p0))
def w0_20 (p1 : Int32) (p0 : Int32) : List Int64 := (g5_ta (v0_4 p1 p0) (w0_19 p1 p0))
def v0_21 (p0 : Int32) (p2 : Int32) (p1 : Int32) (p3 : Int32) : Int32 := (f8 (v0_1 p0) (v0_9 p2) (w0_16 p1 p0) (w0_13 p2 p1 p0 p3))
def v0_22 (p0 : Int32) (p2 : Int32) (p1 : Int32) (p3 : Int32) : Int32 := ((v0_1 p0) - (v0_21 p0 p2 p1 p3))
def v0_23 (p0 : Int32) : Int32 := ((v0_1 p0) - (1 : Int32))
def v0_24 (p0 : Int32) (p2 : Int32) (p1 : Int32) (p3 : Int32) : Int32 := (f9 (v0_23 p0) (v0_9 p2) (w0_16 p1 p0) (w0_13 p2 p1 p0 p3))
def v0_25 (p0 : Int32) (p2 : Int32) (p1 : Int32) (p3 : Int32) : Int32 := (if (v0_24 p0 p2 p1 p3) = (0 : Int32) then (v0_23 p0) else ((v0_23 p0) + (-1 : Int32)))
theorem own_inj {a b : Nat} (ha : a < 2147483648) (hb : b < 2147483648) : (Int32.ofNat a = Int32.ofNat b) ↔ a = b := by
  constructor
  · intro h
    have q : (Int32.ofNat a).toInt = (Int32.ofNat b).toInt := by rw [h]
    rw [own_ofNat_toInt ha, own_ofNat_toInt hb] at q; omega
  · intro h; rw [h]
theorem own_nat {x : Int32} (h : 0 ≤ x.toInt) : x = Int32.ofNat x.toNatClampNeg := by
  apply Int32.toInt_inj.mp
  have hx := x.toInt_lt
  rw [own_ofNat_toInt (by simp only [Int32.toNatClampNeg]; omega)]
  simp only [Int32.toNatClampNeg]; omega
/-- the numbers that are taken -/
def own_T (na nb nc N : Nat) (ns : Nat → Nat) : Nat → Bool := fun m => ((m == na) || (m == nb) || (m == nc)) && !((List.range' 0 N).any fun r => ns r == m)
def Hy (na nb nc N : Nat) (ns : Nat → Nat) (B : Nat) (tt ff : List Int32) (len : Int32) : Prop :=
  (1 ≤ B ∧ B ≤ 128) ∧ (na < B ∧ nb < B ∧ nc < B) ∧ N ≤ 4 ∧ (∀ k, k < 4 → ns k < B ∧ getI ff (Int32.ofNat k) = Int32.ofNat (ns k)) ∧ (getI tt (0 : Int32) = Int32.ofNat na ∧ getI tt (1 : Int32) = Int32.ofNat nb ∧ getI tt (2 : Int32) = Int32.ofNat nc) ∧ len = Int32.ofNat N
section OwnLaw
variable {na nb nc N B : Nat} {ns : Nat → Nat} {tt ff : List Int32} {len : Int32}
theorem own_v91 (H : Hy na nb nc N ns B tt ff len) (z : Nat) (hz : z < 2147483648) : v9_1 (Int32.ofNat z) tt = (if ((z == na) || (z == nb) || (z == nc)) then 1 else 0) := by
  obtain ⟨⟨b1, b2⟩, ⟨h1, h2, h3⟩, hN, hk, ⟨t0, t1, t2⟩, hl⟩ := H
  unfold v9_1
  rw [t0, t1, t2]
  simp only [own_inj hz (show na < 2147483648 by omega), own_inj hz (show nb < 2147483648 by omega), own_inj hz (show nc < 2147483648 by omega)]
  by_cases c1 : z = na
  · simp [c1]
  · by_cases c2 : z = nb
    · simp [c2]
    · by_cases c3 : z = nc
      · simp [c3]
      · simp [c1, c2, c3]
theorem own_klt {k N : Nat} (hk : k < 5) (hN : N ≤ 4) : (Int32.ofNat k < Int32.ofNat N) ↔ k < N := by
  rw [Int32.lt_iff_toInt_lt, own_ofNat_toInt (by omega), own_ofNat_toInt (by omega)]; omega
theorem own_v92 (H : Hy na nb nc N ns B tt ff len) (z : Nat) (hz : z < 2147483648) : v9_2 len (Int32.ofNat z) ff = (if ((List.range' 0 N).any fun r => ns r == z) then 1 else 0) := by
  obtain ⟨⟨b1, b2⟩, ⟨h1, h2, h3⟩, hN, hk, ⟨t0, t1, t2⟩, hl⟩ := H
  have k0 := hk 0 (by omega); have k1 := hk 1 (by omega); have k2 := hk 2 (by omega); have k3 := hk 3 (by omega)
  have f0 : getI ff (0 : Int32) = Int32.ofNat (ns 0) := k0.2
  have f1 : getI ff (1 : Int32) = Int32.ofNat (ns 1) := k1.2
  have f2 : getI ff (2 : Int32) = Int32.ofNat (ns 2) := k2.2
  have f3 : getI ff (3 : Int32) = Int32.ofNat (ns 3) := k3.2
  have g0 : ((0 : Int32) < Int32.ofNat N) ↔ 0 < N := own_klt (k := 0) (by omega) hN
  have g1 : ((1 : Int32) < Int32.ofNat N) ↔ 1 < N := own_klt (k := 1) (by omega) hN
  have g2 : ((2 : Int32) < Int32.ofNat N) ↔ 2 < N := own_klt (k := 2) (by omega) hN
  have g3 : ((3 : Int32) < Int32.ofNat N) ↔ 3 < N := own_klt (k := 3) (by omega) hN
  unfold v9_2
  rw [f0, f1, f2, f3, hl]
  simp only [g0, g1, g2, g3, own_inj hz (show ns 0 < 2147483648 by omega), own_inj hz (show ns 1 < 2147483648 by omega), own_inj hz (show ns 2 < 2147483648 by omega), own_inj hz (show ns 3 < 2147483648 by omega)]
  have hc : N = 0 ∨ N = 1 ∨ N = 2 ∨ N = 3 ∨ N = 4 := by omega
  have e : ∀ k, (ns k == z) = decide (z = ns k) := fun k => by
    by_cases q : z = ns k
    · simp [q]
    · have q' : ¬ ns k = z := fun w => q w.symm
      simp [q, q']
  rcases hc with rfl | rfl | rfl | rfl | rfl
  · rfl
  · show (if 0 < 1 then _ else _) = _
    simp only [List.range'_succ, List.range'_zero, List.any_cons, List.any_nil, e]
    by_cases q0 : z = ns 0
    · simp [q0]
    · simp [q0]
  · simp only [List.range'_succ, List.range'_zero, List.any_cons, List.any_nil, e]
    by_cases q0 : z = ns 0
    · simp [q0]
    · by_cases q1 : z = ns 1
      · simp [q1]
      · simp [q0, q1]
  · simp only [List.range'_succ, List.range'_zero, List.any_cons, List.any_nil, e]
    by_cases q0 : z = ns 0
    · simp [q0]
    · by_cases q1 : z = ns 1
      · simp [q1]
      · by_cases q2 : z = ns 2
        · simp [q2]
        · simp [q0, q1, q2]
  · simp only [List.range'_succ, List.range'_zero, List.any_cons, List.any_nil, e]
    by_cases q0 : z = ns 0
    · simp [q0]
    · by_cases q1 : z = ns 1
      · simp [q1]
      · by_cases q2 : z = ns 2
        · simp [q2]
        · by_cases q3 : z = ns 3
          · simp [q3]
          · simp [q0, q1, q2, q3]
theorem own_f9 (H : Hy na nb nc N ns B tt ff len) (z : Nat) (hz : z < 2147483648) : f9 (Int32.ofNat z) len tt ff = (if own_T na nb nc N ns z then 1 else 0) := by
  unfold f9 own_T
  rw [own_v91 H z hz, own_v92 H z hz]
  cases ((z == na) || (z == nb) || (z == nc)) <;> cases ((List.range' 0 N).any fun r => ns r == z) <;> decide
def own_R (na nb nc N : Nat) (ns : Nat → Nat) (x : Nat) : Nat :=
  (if own_T na nb nc N ns na = true ∧ na < x then 1 else 0) + (if own_T na nb nc N ns nb = true ∧ ¬ nb = na ∧ nb < x then 1 else 0) + (if own_T na nb nc N ns nc = true ∧ ¬ nc = na ∧ ¬ nc = nb ∧ nc < x then 1 else 0)
theorem own_Tin {na nb nc N : Nat} {ns : Nat → Nat} {x : Nat} (h : own_T na nb nc N ns x = true) : x = na ∨ x = nb ∨ x = nc := by
  simp only [own_T, Bool.and_eq_true, Bool.or_eq_true, beq_iff_eq] at h
  omega
theorem own_cnt3 (na nb nc N : Nat) (ns : Nat → Nat) : ∀ x, cntN (own_T na nb nc N ns) x = own_R na nb nc N ns x
  | 0 => by simp [cntN, own_R]
  | x + 1 => by
    rw [cntN, own_cnt3 na nb nc N ns x]
    unfold own_R
    by_cases hT : own_T na nb nc N ns x = true
    · rw [if_pos hT]
      rcases own_Tin hT with rfl | rfl | rfl
      · rw [if_neg (show ¬ (own_T x nb nc N ns x = true ∧ x < x) by omega), if_pos (show own_T x nb nc N ns x = true ∧ x < x + 1 from ⟨hT, by omega⟩)]
        have e1 : (own_T x nb nc N ns nb = true ∧ ¬ nb = x ∧ nb < x + 1) ↔ (own_T x nb nc N ns nb = true ∧ ¬ nb = x ∧ nb < x) := by constructor <;> (intro ⟨a, b, c⟩; exact ⟨a, b, by omega⟩)
        have e2 : (own_T x nb nc N ns nc = true ∧ ¬ nc = x ∧ ¬ nc = nb ∧ nc < x + 1) ↔ (own_T x nb nc N ns nc = true ∧ ¬ nc = x ∧ ¬ nc = nb ∧ nc < x) := by constructor <;> (intro ⟨a, b, c, d⟩; exact ⟨a, b, c, by omega⟩)
        simp only [e1, e2]; omega
      · by_cases q : x = na
        · subst q
          rw [if_neg (show ¬ (own_T x x nc N ns x = true ∧ x < x) by omega), if_pos (show own_T x x nc N ns x = true ∧ x < x + 1 from ⟨hT, by omega⟩)]
          have e1 : ¬ (own_T x x nc N ns x = true ∧ ¬ x = x ∧ x < x + 1) := fun h => h.2.1 rfl
          have e1' : ¬ (own_T x x nc N ns x = true ∧ ¬ x = x ∧ x < x) := fun h => h.2.1 rfl
          have e2 : (own_T x x nc N ns nc = true ∧ ¬ nc = x ∧ ¬ nc = x ∧ nc < x + 1) ↔ (own_T x x nc N ns nc = true ∧ ¬ nc = x ∧ ¬ nc = x ∧ nc < x) := by constructor <;> (intro ⟨a, b, c, d⟩; exact ⟨a, b, c, by omega⟩)
          rw [if_neg e1, if_neg e1']; simp only [e2]; omega
        · have e1 : (own_T na x nc N ns na = true ∧ na < x + 1) ↔ (own_T na x nc N ns na = true ∧ na < x) := by constructor <;> (intro ⟨a, b⟩; exact ⟨a, by omega⟩)
          have e2 : (own_T na x nc N ns nc = true ∧ ¬ nc = na ∧ ¬ nc = x ∧ nc < x + 1) ↔ (own_T na x nc N ns nc = true ∧ ¬ nc = na ∧ ¬ nc = x ∧ nc < x) := by constructor <;> (intro ⟨a, b, c, d⟩; exact ⟨a, b, c, by omega⟩)
          have p1 : own_T na x nc N ns x = true ∧ ¬ x = na ∧ x < x + 1 := ⟨hT, q, by omega⟩
          have p2 : ¬ (own_T na x nc N ns x = true ∧ ¬ x = na ∧ x < x) := fun h => by omega
          simp only [e1, e2]; rw [if_pos p1, if_neg p2]; omega
      · by_cases q : x = na
        · subst q
          rw [if_neg (show ¬ (own_T x nb x N ns x = true ∧ x < x) by omega), if_pos (show own_T x nb x N ns x = true ∧ x < x + 1 from ⟨hT, by omega⟩)]
          have e1 : (own_T x nb x N ns nb = true ∧ ¬ nb = x ∧ nb < x + 1) ↔ (own_T x nb x N ns nb = true ∧ ¬ nb = x ∧ nb < x) := by constructor <;> (intro ⟨a, b, c⟩; exact ⟨a, b, by omega⟩)
          have e2 : ¬ (own_T x nb x N ns x = true ∧ ¬ x = x ∧ ¬ x = nb ∧ x < x + 1) := fun h => h.2.1 rfl
          have e2' : ¬ (own_T x nb x N ns x = true ∧ ¬ x = x ∧ ¬ x = nb ∧ x < x) := fun h => h.2.1 rfl
          rw [if_neg e2, if_neg e2']; simp only [e1]; omega
        · have e1 : (own_T na nb x N ns na = true ∧ na < x + 1) ↔ (own_T na nb x N ns na = true ∧ na < x) := by constructor <;> (intro ⟨a, b⟩; exact ⟨a, by omega⟩)
          by_cases q2 : x = nb
          · subst q2
            have p1 : own_T na x x N ns x = true ∧ ¬ x = na ∧ x < x + 1 := ⟨hT, q, by omega⟩
            have p2 : ¬ (own_T na x x N ns x = true ∧ ¬ x = na ∧ x < x) := fun h => by omega
            have e2 : ¬ (own_T na x x N ns x = true ∧ ¬ x = na ∧ ¬ x = x ∧ x < x + 1) := fun h => h.2.2.1 rfl
            have e2' : ¬ (own_T na x x N ns x = true ∧ ¬ x = na ∧ ¬ x = x ∧ x < x) := fun h => h.2.2.1 rfl
            rw [if_neg e2, if_neg e2', if_pos p1, if_neg p2]; simp only [e1] <;> try omega
          · have e2 : (own_T na nb x N ns nb = true ∧ ¬ nb = na ∧ nb < x + 1) ↔ (own_T na nb x N ns nb = true ∧ ¬ nb = na ∧ nb < x) := by constructor <;> (intro ⟨a, b, c⟩; exact ⟨a, b, by omega⟩)
            have p1 : own_T na nb x N ns x = true ∧ ¬ x = na ∧ ¬ x = nb ∧ x < x + 1 := ⟨hT, q, q2, by omega⟩
            have p2 : ¬ (own_T na nb x N ns x = true ∧ ¬ x = na ∧ ¬ x = nb ∧ x < x) := fun h => by omega
            simp only [e1, e2]; rw [if_pos p1, if_neg p2] <;> try omega
    · rw [if_neg hT]
      have e1 : (own_T na nb nc N ns na = true ∧ na < x + 1) ↔ (own_T na nb nc N ns na = true ∧ na < x) := by
        constructor
        · intro ⟨a, b⟩
          have : na ≠ x := fun w => hT (w ▸ a)
          exact ⟨a, by omega⟩
        · intro ⟨a, b⟩; exact ⟨a, by omega⟩
      have e2 : (own_T na nb nc N ns nb = true ∧ ¬ nb = na ∧ nb < x + 1) ↔ (own_T na nb nc N ns nb = true ∧ ¬ nb = na ∧ nb < x) := by
        constructor
        · intro ⟨a, b, c⟩
          have : nb ≠ x := fun w => hT (w ▸ a)
          exact ⟨a, b, by omega⟩
        · intro ⟨a, b, c⟩; exact ⟨a, b, by omega⟩
      have e3 : (own_T na nb nc N ns nc = true ∧ ¬ nc = na ∧ ¬ nc = nb ∧ nc < x + 1) ↔ (own_T na nb nc N ns nc = true ∧ ¬ nc = na ∧ ¬ nc = nb ∧ nc < x) := by
        constructor
        · intro ⟨a, b, c, d⟩
          have : nc ≠ x := fun w => hT (w ▸ a)
          exact ⟨a, b, c, by omega⟩
        · intro ⟨a, b, c, d⟩; exact ⟨a, b, c, by omega⟩
      simp only [e1, e2, e3]; rfl
theorem own_f8 (H : Hy na nb nc N ns B tt ff len) (x : Nat) (hx : x ≤ 128) : f8 (Int32.ofNat x) len tt ff = Int32.ofNat (cntN (own_T na nb nc N ns) x) := by
  rw [own_cnt3]
  have H' := H
  obtain ⟨⟨b1, b2⟩, ⟨h1, h2, h3⟩, hN, hk, ⟨t0, t1, t2⟩, hl⟩ := H
  have l1 : (Int32.ofNat na < Int32.ofNat x) ↔ na < x := by rw [Int32.lt_iff_toInt_lt, own_ofNat_toInt (by omega), own_ofNat_toInt (by omega)]; omega
  have l2 : (Int32.ofNat nb < Int32.ofNat x) ↔ nb < x := by rw [Int32.lt_iff_toInt_lt, own_ofNat_toInt (by omega), own_ofNat_toInt (by omega)]; omega
  have l3 : (Int32.ofNat nc < Int32.ofNat x) ↔ nc < x := by rw [Int32.lt_iff_toInt_lt, own_ofNat_toInt (by omega), own_ofNat_toInt (by omega)]; omega
  have i1 : (Int32.ofNat nb = Int32.ofNat na) ↔ nb = na := own_inj (by omega) (by omega)
  have i2 : (Int32.ofNat nc = Int32.ofNat na) ↔ nc = na := own_inj (by omega) (by omega)
  have i3 : (Int32.ofNat nc = Int32.ofNat nb) ↔ nc = nb := own_inj (by omega) (by omega)
  have n1 : ¬ (1 : Int32) = (0 : Int32) := by decide
  have s1 : v8_1 tt len ff (Int32.ofNat x) = Int32.ofNat (if own_T na nb nc N ns na = true ∧ na < x then 1 else 0) := by
    unfold v8_1
    rw [t0, own_f9 H' na (by omega)]
    simp only [l1]
    cases own_T na nb nc N ns na with
    | false => rfl
    | true =>
      rw [if_pos rfl, if_neg n1]
      by_cases q : na < x
      · rw [if_pos q, if_pos ⟨rfl, q⟩]; rfl
      · rw [if_neg q, if_neg (fun w => q w.2)]; rfl
  have r1 : (if own_T na nb nc N ns na = true ∧ na < x then 1 else 0) ≤ 1 := by split <;> omega
  have s2 : v8_2 tt len ff (Int32.ofNat x) = Int32.ofNat ((if own_T na nb nc N ns na = true ∧ na < x then 1 else 0) + (if own_T na nb nc N ns nb = true ∧ ¬ nb = na ∧ nb < x then 1 else 0)) := by
    unfold v8_2
    rw [s1, t0, t1, own_f9 H' nb (by omega)]
    simp only [l2, i1]
    generalize (if own_T na nb nc N ns na = true ∧ na < x then 1 else 0) = r at r1 ⊢
    cases own_T na nb nc N ns nb with
    | false => simp
    | true =>
      rw [if_pos rfl, if_neg n1]
      by_cases q : nb = na
      · rw [if_pos q, if_neg (fun w => w.2.1 q), Nat.add_zero]
      · rw [if_neg q]
        by_cases q2 : nb < x
        · rw [if_pos q2, if_pos ⟨rfl, q, q2⟩]; exact own_succ (by omega)
        · rw [if_neg q2, if_neg (fun w => q2 w.2.2), Nat.add_zero]
  have r2 : (if own_T na nb nc N ns na = true ∧ na < x then 1 else 0) + (if own_T na nb nc N ns nb = true ∧ ¬ nb = na ∧ nb < x then 1 else 0) ≤ 2 := by split <;> split <;> omega
  unfold f8 v8_3 own_R
  rw [s2, t0, t1, t2, own_f9 H' nc (by omega)]
  simp only [l3, i2, i3]
  generalize (if own_T na nb nc N ns na = true ∧ na < x then 1 else 0) + (if own_T na nb nc N ns nb = true ∧ ¬ nb = na ∧ nb < x then 1 else 0) = r at r2 ⊢
  cases own_T na nb nc N ns nc with
  | false => simp
  | true =>
    rw [if_pos rfl, if_neg n1]
    by_cases q : nc = na
    · rw [if_pos q, if_neg (fun w => w.2.1 q), Nat.add_zero]
    · rw [if_neg q]
      by_cases q3 : nc = nb
      · rw [if_pos q3, if_neg (fun w => w.2.2.1 q3), Nat.add_zero]
      · rw [if_neg q3]
        by_cases q2 : nc < x
        · rw [if_pos q2, if_pos ⟨rfl, q, q3, q2⟩]; exact own_succ (by omega)
        · rw [if_neg q2, if_neg (fun w => q2 w.2.2.2), Nat.add_zero]
/-- the free numbers -/
def own_FS (na nb nc N : Nat) (ns : Nat → Nat) (B : Nat) : Nat → Bool := fun z => !own_T na nb nc N ns z && decide (z < B)
theorem own_idxeq (H : Hy na nb nc N ns B tt ff len) (x : Nat) (hx : x ≤ B) : Int32.ofNat x - f8 (Int32.ofNat x) len tt ff = Int32.ofNat (cntN (own_FS na nb nc N ns B) x) := by
  have b := H.1
  rw [own_f8 H x (by omega)]
  have e := own_cnt_compl (own_T na nb nc N ns) B x hx
  have e' : cntN (own_FS na nb nc N ns B) x + cntN (own_T na nb nc N ns) x = x := e
  apply Int32.toInt_inj.mp
  rw [Int32.toInt_sub, own_ofNat_toInt (by omega), own_ofNat_toInt (by omega), own_ofNat_toInt (by omega), Int.bmod_eq_of_le (by omega) (by omega)]
  omega
def own_fill (S : Nat → Bool) : List Int32 := (pushR S 128 0 0 (List.replicate (129 : Int32).toNatClampNeg 0)).2
theorem own_fillspec (S : Nat → Bool) : (∀ z, z < 128 → S z = true → getI (own_fill S) (Int32.ofNat (cntN S z)) = Int32.ofNat z) ∧ (∀ i, cntN S 128 ≤ i → i < 2147483648 → getI (own_fill S) (Int32.ofNat i) = 0) := by
  have b := own_cnt_le S 128
  obtain ⟨e1, e2, e3, e4, e5⟩ := own_push S 128 0 (List.replicate (129 : Int32).toNatClampNeg 0) (by rw [Nat.zero_add, List.length_replicate, own_129]; omega)
  constructor
  · intro z hz hs
    have c := own_cnt_le S z
    unfold getI own_fill
    rw [own_ofNat_clamp (by omega)]
    exact e4 z (Nat.zero_le _) (by omega) hs
  · intro i hi hi2
    unfold getI own_fill
    rw [own_ofNat_clamp hi2]
    have := e5 i (by rw [Nat.zero_add]; exact hi)
    rw [show (pushR S 128 0 0 (List.replicate (129 : Int32).toNatClampNeg 0)).2.getD i 0 = (List.replicate (129 : Int32).toNatClampNeg 0).getD i 0 from this]
    rw [List.getD_eq_getElem?_getD, List.getElem?_replicate]
    split <;> rfl
theorem own_B128 (na nb nc N : Nat) (ns : Nat → Nat) (B : Nat) (h : B ≤ 128) : cntN (own_FS na nb nc N ns B) 128 = cntN (own_FS na nb nc N ns B) B := by
  have := own_cnt_beyond (own_T na nb nc N ns) B (128 - B)
  rw [show B + (128 - B) = 128 by omega] at this
  exact this
theorem own_f11 (H : Hy na nb nc N ns B tt ff len) (x : Nat) (hx : x < B) (fc : Int32) (hfc : fc = Int32.ofNat (cntN (own_FS na nb nc N ns B) B)) : f11 (Int32.ofNat x) len fc tt ff (own_fill (own_FS na nb nc N ns B)) = 1 := by
  have b := H.1
  obtain ⟨s1, s2⟩ := own_fillspec (own_FS na nb nc N ns B)
  unfold f11 v11_1 v11_2
  rw [own_idxeq H x (by omega), own_f9 H x (by omega), hfc]
  have c1 := own_cnt_le (own_FS na nb nc N ns B) x
  have c2 := own_cnt_le (own_FS na nb nc N ns B) B
  have lt : (Int32.ofNat (cntN (own_FS na nb nc N ns B) x) < Int32.ofNat (cntN (own_FS na nb nc N ns B) B)) ↔ cntN (own_FS na nb nc N ns B) x < cntN (own_FS na nb nc N ns B) B := by
    rw [Int32.lt_iff_toInt_lt, own_ofNat_toInt (by omega), own_ofNat_toInt (by omega)]; omega
  simp only [lt]
  cases hT : own_T na nb nc N ns x with
  | false =>
    have hS : own_FS na nb nc N ns B x = true := by simp [own_FS, hT, hx]
    rw [if_pos (own_cnt_lt _ hx hS), s1 x (by omega) hS, if_pos rfl]
    decide
  | true =>
    have hS : own_FS na nb nc N ns B x = false := by simp [own_FS, hT]
    by_cases hc : cntN (own_FS na nb nc N ns B) x < cntN (own_FS na nb nc N ns B) B
    · obtain ⟨z, z1, z2, z3⟩ := own_cnt_at _ B _ hc
      have ne : ¬ Int32.ofNat z = Int32.ofNat x := fun w => by
        have : z = x := (own_inj (by omega) (by omega)).mp w
        rw [this, hS] at z2; cases z2
      rw [if_pos hc, ← z3, s1 z (by omega) z2, if_neg ne]
      decide
    · rw [if_neg hc]; decide
/-- the greatest free number stands at the end -/
theorem own_top (H : Hy na nb nc N ns B tt ff len) (z : Nat) (hz : z < B) (hS : own_T na nb nc N ns z = false) (hup : ∀ y, z < y → y < B → own_T na nb nc N ns y = true) :
    getI (own_fill (own_FS na nb nc N ns B)) (Int32.ofNat (cntN (own_FS na nb nc N ns B) B) - 1) = Int32.ofNat z := by
  have b := H.1
  have hS' : own_FS na nb nc N ns B z = true := by simp [own_FS, hS, hz]
  have e : ∀ k, z + 1 + k ≤ B → cntN (own_FS na nb nc N ns B) (z + 1 + k) = cntN (own_FS na nb nc N ns B) z + 1 := by
    intro k
    induction k with
    | zero => intro _; rw [Nat.add_zero, cntN, if_pos hS']
    | succ k ih =>
      intro hk
      have hn : ¬ own_FS na nb nc N ns B (z + 1 + k) = true := by
        have := hup (z + 1 + k) (by omega) (by omega)
        simp [own_FS, this]
      rw [← Nat.add_assoc, cntN, ih (by omega), if_neg hn]
  have e' := e (B - (z + 1)) (by omega)
  rw [show z + 1 + (B - (z + 1)) = B by omega] at e'
  have c := own_cnt_le (own_FS na nb nc N ns B) z
  have e2 : Int32.ofNat (cntN (own_FS na nb nc N ns B) B) - 1 = Int32.ofNat (cntN (own_FS na nb nc N ns B) z) := by
    rw [e', ← own_succ (by omega)]
    exact Int32.add_sub_cancel _ _
  rw [e2]
  exact (own_fillspec _).1 z (by omega) hS'
theorem own_none (H : Hy na nb nc N ns B tt ff len) (hall : ∀ y, y < B → own_T na nb nc N ns y = true) : cntN (own_FS na nb nc N ns B) B = 0 := by
  have e := own_cnt_congr (S := own_FS na nb nc N ns B) (S' := fun _ => false) B (fun m hm => by simp [own_FS, hall m hm])
  rw [e]
  have : ∀ n, cntN (fun _ => false) n = 0 := by
    intro n; induction n with
    | zero => rfl
    | succ n ih => rw [cntN, ih]; rfl
  exact this B
theorem own_four {na nb nc N : Nat} {ns : Nat → Nat} {w x y z : Nat} (h1 : own_T na nb nc N ns w = true) (h2 : own_T na nb nc N ns x = true) (h3 : own_T na nb nc N ns y = true) (h4 : own_T na nb nc N ns z = true) (d1 : w ≠ x) (d2 : w ≠ y) (d3 : w ≠ z) (d4 : x ≠ y) (d5 : x ≠ z) (d6 : y ≠ z) : False := by
  have a := own_Tin h1; have b := own_Tin h2; have c := own_Tin h3; have d := own_Tin h4
  omega
end OwnLaw
/-! the law's own numbers -/
theorem own_bnd (p0 : Int32) : 1 ≤ (v0_1 p0).toInt ∧ (v0_1 p0).toInt ≤ 128 := by
  unfold v0_1
  have h := c_mask p0 127 7 (by decide) (by decide)
  have e2 : ((2 ^ 7 : Nat) : Int) = 128 := rfl
  rw [e2] at h
  have e1 : (1 : Int32).toInt = 1 := rfl
  rw [Int32.toInt_add, e1, Int.bmod_eq_of_le (by omega) (by omega)]
  omega
theorem own_bnz (p0 : Int32) : v0_1 p0 ≠ 0 := fun q => by
  have h := own_bnd p0
  rw [q] at h
  have : (0 : Int32).toInt = 0 := rfl
  omega
def own_B (p0 : Int32) : Nat := (v0_1 p0).toNatClampNeg
theorem own_hB (p0 : Int32) : v0_1 p0 = Int32.ofNat (own_B p0) := own_nat (by have := own_bnd p0; omega)
theorem own_hB1 (p0 : Int32) : 1 ≤ own_B p0 := by have := own_bnd p0; simp only [own_B, Int32.toNatClampNeg]; omega
theorem own_hB2 (p0 : Int32) : own_B p0 ≤ 128 := by have := own_bnd p0; simp only [own_B, Int32.toNatClampNeg]; omega
theorem own_NLall : ∀ n : Fin 129, (((((Int32.ofNat n.val).toInt64) + (63 : Int64)) / (64 : Int64)).toInt32) = Int32.ofNat ((n.val + 63) / 64) := by decide +kernel
theorem own_hnl (p0 : Int32) : (((((v0_1 p0).toInt64) + (63 : Int64)) / (64 : Int64)).toInt32) = Int32.ofNat ((own_B p0 + 63) / 64) := by
  have b := own_hB2 p0
  rw [own_hB p0]
  exact own_NLall ⟨own_B p0, by omega⟩
theorem own_nl (p0 : Int32) : ¬ (((((v0_1 p0).toInt64) + (63 : Int64)) / (64 : Int64)).toInt32) < (0 : Int32) ∧ (((((v0_1 p0).toInt64) + (63 : Int64)) / (64 : Int64)).toInt32).toNatClampNeg ≤ 2 := by
  have b := own_hB2 p0
  rw [own_hnl p0]
  exact ⟨own_nneg (by omega), by rw [own_ofNat_clamp (by omega)]; omega⟩
/-- a number below the bound -/
def rng (p0 x : Int32) : Prop := 0 ≤ x.toInt ∧ x.toInt < (v0_1 p0).toInt
theorem own_rem (p0 x : Int32) (h : 0 ≤ x.toInt) : rng p0 (x % v0_1 p0) := by
  have b := own_bnd p0
  unfold rng
  rw [Int32.toInt_mod, Int.tmod_eq_emod_of_nonneg h]
  exact ⟨Int.emod_nonneg _ (by omega), Int.emod_lt_of_pos _ (by omega)⟩
theorem own_255 (x : Int32) : 0 ≤ (x &&& (255 : Int32)).toInt := by
  rw [c_mask x 255 8 (by decide) (by decide)]; exact Int.emod_nonneg _ (by decide)
theorem own_ra (p1 p0 : Int32) : rng p0 (v0_2 p1 p0) := own_rem p0 _ (own_255 _)
theorem own_rb (p1 p0 : Int32) : rng p0 (v0_3 p1 p0) := own_rem p0 _ (own_255 _)
theorem own_rc (p1 p0 : Int32) : rng p0 (v0_4 p1 p0) := own_rem p0 _ (own_255 _)
theorem own_pick {p0 s a b c r : Int32} (ha : rng p0 a) (hb : rng p0 b) (hc : rng p0 c) (hr : rng p0 r) : rng p0 (f1 s a b c r) := by
  unfold f1
  by_cases h1 : s = (0 : Int32)
  · rw [if_pos h1]; exact ha
  · rw [if_neg h1]
    by_cases h2 : s = (1 : Int32)
    · rw [if_pos h2]; exact hb
    · rw [if_neg h2]
      by_cases h3 : s = (2 : Int32)
      · rw [if_pos h3]; exact hc
      · rw [if_neg h3]; exact hr
theorem own_rd (p0 p1 p2 p3 : Int32) : rng p0 (v0_5 p2 p1 p0 p3) := own_pick (own_ra p1 p0) (own_rb p1 p0) (own_rc p1 p0) (own_rem p0 _ (own_255 _))
theorem own_re (p0 p1 p2 p3 : Int32) : rng p0 (v0_6 p2 p1 p0 p3) := own_pick (own_ra p1 p0) (own_rb p1 p0) (own_rc p1 p0) (own_rem p0 _ (own_255 _))
theorem own_rf (p0 p1 p2 p3 : Int32) : rng p0 (v0_7 p2 p1 p0 p3) := own_pick (own_ra p1 p0) (own_rb p1 p0) (own_rc p1 p0) (own_rem p0 _ (own_255 _))
theorem own_rg (p0 p1 p2 p3 : Int32) : rng p0 (v0_8 p2 p1 p0 p3) := own_pick (own_ra p1 p0) (own_rb p1 p0) (own_rc p1 p0) (own_rem p0 _ (own_255 _))
theorem own_rnat {p0 x : Int32} (h : rng p0 x) : x = Int32.ofNat x.toNatClampNeg ∧ x.toNatClampNeg < own_B p0 := by
  refine ⟨own_nat h.1, ?_⟩
  have := own_bnd p0; unfold rng at h; simp only [own_B, Int32.toNatClampNeg]; omega
theorem own_ix {p0 x : Int32} (h : rng p0 x) : ¬ ((x.toUInt32 >>> ((6 : Int32) &&& 31).toUInt32).toInt32) < (0 : Int32) ∧ ((x.toUInt32 >>> ((6 : Int32) &&& 31).toUInt32).toInt32) < (((((v0_1 p0).toInt64) + (63 : Int64)) / (64 : Int64)).toInt32) := by
  obtain ⟨e, l⟩ := own_rnat h
  have b := own_hB2 p0
  rw [e]
  exact own_ixin (by omega) (by rw [own_hnl p0, own_ofNat_clamp (by omega)]; omega)
theorem own_len5 (p2 : Int32) : 0 ≤ (v0_9 p2).toInt ∧ (v0_9 p2).toInt ≤ 4 := by
  unfold v0_9
  generalize ((p2.toUInt32 >>> ((8 : Int32) &&& 31).toUInt32).toInt32) = y
  have h := c_mask y 7 3 (by decide) (by decide)
  have e2 : ((2 ^ 3 : Nat) : Int) = 8 := rfl
  rw [e2] at h
  have e5 : (5 : Int32).toInt = 5 := rfl
  rw [Int32.toInt_mod, e5, Int.tmod_eq_emod_of_nonneg (by omega)]
  omega
def own_N (p2 : Int32) : Nat := (v0_9 p2).toNatClampNeg
theorem own_hN (p2 : Int32) : v0_9 p2 = Int32.ofNat (own_N p2) := own_nat (own_len5 p2).1
theorem own_N4 (p2 : Int32) : own_N p2 ≤ 4 := by have := own_len5 p2; simp only [own_N, Int32.toNatClampNeg]; omega
theorem own_hN2 (p2 : Int32) : own_N p2 ≤ 128 := Nat.le_trans (own_N4 p2) (by decide)
def own_ns (p0 p1 p2 p3 : Int32) : Nat → Nat := fun i => (getI (w0_13 p2 p1 p0 p3) (Int32.ofNat i)).toNatClampNeg
theorem own_xs (p0 p1 p2 p3 : Int32) (i : Nat) (hi : i < 4) : rng p0 (getI (w0_13 p2 p1 p0 p3) (Int32.ofNat i)) := by
  have : i = 0 ∨ i = 1 ∨ i = 2 ∨ i = 3 := by omega
  rcases this with rfl | rfl | rfl | rfl
  · exact own_rd p0 p1 p2 p3
  · exact own_re p0 p1 p2 p3
  · exact own_rf p0 p1 p2 p3
  · exact own_rg p0 p1 p2 p3
theorem own_hel (p0 p1 p2 p3 : Int32) : ∀ i, i < own_N p2 → Int32.ofNat i < (4 : Int32) ∧ getI (w0_13 p2 p1 p0 p3) (Int32.ofNat i) = Int32.ofNat (own_ns p0 p1 p2 p3 i) ∧ own_ns p0 p1 p2 p3 i < 128 ∧ own_ns p0 p1 p2 p3 i / 64 < (((((v0_1 p0).toInt64) + (63 : Int64)) / (64 : Int64)).toInt32).toNatClampNeg := fun i hi => by
  have b := own_hB2 p0; have n4 := own_N4 p2
  obtain ⟨e, l⟩ := own_rnat (own_xs p0 p1 p2 p3 i (by omega))
  have l' : own_ns p0 p1 p2 p3 i < own_B p0 := l
  refine ⟨own_lt_of (n := 4) (by omega) (by omega), e, by omega, ?_⟩
  rw [own_hnl p0, own_ofNat_clamp (by omega)]; omega
def own_na (p1 p0 : Int32) : Nat := (v0_2 p1 p0).toNatClampNeg
def own_nb (p1 p0 : Int32) : Nat := (v0_3 p1 p0).toNatClampNeg
def own_nc (p1 p0 : Int32) : Nat := (v0_4 p1 p0).toNatClampNeg
theorem own_Hy (p0 p1 p2 p3 : Int32) : Hy (own_na p1 p0) (own_nb p1 p0) (own_nc p1 p0) (own_N p2) (own_ns p0 p1 p2 p3) (own_B p0) (w0_16 p1 p0) (w0_13 p2 p1 p0 p3) (v0_9 p2) :=
  ⟨⟨own_hB1 p0, own_hB2 p0⟩, ⟨(own_rnat (own_ra p1 p0)).2, (own_rnat (own_rb p1 p0)).2, (own_rnat (own_rc p1 p0)).2⟩, own_N4 p2, fun k hk => ⟨(own_rnat (own_xs p0 p1 p2 p3 k hk)).2, (own_rnat (own_xs p0 p1 p2 p3 k hk)).1⟩,
    ⟨(own_rnat (own_ra p1 p0)).1, (own_rnat (own_rb p1 p0)).1, (own_rnat (own_rc p1 p0)).1⟩, own_hN p2⟩
def own_TT (p0 p1 p2 p3 : Int32) : Nat → Bool := own_T (own_na p1 p0) (own_nb p1 p0) (own_nc p1 p0) (own_N p2) (own_ns p0 p1 p2 p3)
def own_S (p0 p1 p2 p3 : Int32) : Nat → Bool := own_FS (own_na p1 p0) (own_nb p1 p0) (own_nc p1 p0) (own_N p2) (own_ns p0 p1 p2 p3) (own_B p0)
def own_into (p0 p1 p2 p3 : Int32) : List Int32 := own_fill (own_S p0 p1 p2 p3)
theorem own_len17 (p0 : Int32) : (w0_17 p0).length = (own_B p0 + 63) / 64 := by
  have b := own_hB2 p0
  unfold w0_17
  rw [List.length_replicate, own_hnl p0, own_ofNat_clamp (by omega)]
theorem own_bit17 (p0 : Int32) (m : Nat) : bit (w0_17 p0) m = false := by
  unfold bit w0_17
  rw [List.getD_eq_getElem?_getD, List.getElem?_replicate]
  split <;> exact BitVec.getLsbD_zero
theorem own_tctake {n : Nat} (h : n < 128) {ts : List Int64} (hl : n / 64 < ts.length) {tc : Int32} (ht : tc.toInt = (cntN (bit ts) 128 : Nat)) : (g5_takenCount (Int32.ofNat n) tc ts).toInt = (cntN (bit (g5_ta (Int32.ofNat n) ts)) 128 : Nat) := by
  rw [own_taketc n h ts tc, own_cnt_congr (S := bit (g5_ta (Int32.ofNat n) ts)) (S' := fun m => bit ts m || m == n) 128 (fun m _ => own_takebit n h ts hl m)]
  have b := own_cnt_le (bit ts) 128
  by_cases q : bit ts n = true
  · have e : cntN (fun m => bit ts m || m == n) 128 = cntN (bit ts) 128 := own_cnt_congr 128 fun m _ => by
      by_cases c : m = n
      · subst c; simp [q]
      · simp [c]
    rw [if_pos q, ht, e]
  · have q' : bit ts n = false := by simpa using q
    have e := own_cnt_add (bit ts) n q' 128
    rw [if_pos h] at e
    rw [if_neg q, Int32.toInt_add, ht, e]
    show Int.bmod (_ + 1) _ = _
    rw [Int.bmod_eq_of_le (by omega) (by omega)]; omega
theorem own_state (p0 p1 p2 p3 : Int32) {ts' : List Int64} {tc' : Int32} (P : Pfree (own_ns p0 p1 p2 p3) 0 (own_N p2) (w0_20 p1 p0) (g5_takenCount (v0_4 p1 p0) (g5_takenCount (v0_3 p1 p0) (g5_takenCount (v0_2 p1 p0) (0 : Int32) (w0_17 p0)) (w0_18 p1 p0)) (w0_19 p1 p0)) ts' tc') :
    (∀ m, bit ts' m = own_TT p0 p1 p2 p3 m) ∧ tc'.toInt = (cntN (own_TT p0 p1 p2 p3) 128 : Nat) := by
  have b := own_hB2 p0; have b1 := own_hB1 p0
  obtain ⟨ea, la⟩ := own_rnat (own_ra p1 p0); obtain ⟨eb, lb⟩ := own_rnat (own_rb p1 p0); obtain ⟨ec, lc⟩ := own_rnat (own_rc p1 p0)
  have ea' : v0_2 p1 p0 = Int32.ofNat (own_na p1 p0) := ea
  have eb' : v0_3 p1 p0 = Int32.ofNat (own_nb p1 p0) := eb
  have ec' : v0_4 p1 p0 = Int32.ofNat (own_nc p1 p0) := ec
  have la' : own_na p1 p0 < own_B p0 := la
  have lb' : own_nb p1 p0 < own_B p0 := lb
  have lc' : own_nc p1 p0 < own_B p0 := lc
  have n17 := own_len17 p0
  have n18 : (w0_18 p1 p0).length = (own_B p0 + 63) / 64 := (own_takelen _ _).trans n17
  have n19 : (w0_19 p1 p0).length = (own_B p0 + 63) / 64 := (own_takelen _ _).trans n18
  have b18 : ∀ m, bit (w0_18 p1 p0) m = (m == own_na p1 p0) := fun m => by
    unfold w0_18; rw [ea', own_takebit _ (by omega) _ (by rw [n17]; omega) m, own_bit17]; rfl
  have b19 : ∀ m, bit (w0_19 p1 p0) m = ((m == own_na p1 p0) || (m == own_nb p1 p0)) := fun m => by
    unfold w0_19; rw [eb', own_takebit _ (by omega) _ (by rw [n18]; omega) m, b18]
  have b20 : ∀ m, bit (w0_20 p1 p0) m = ((m == own_na p1 p0) || (m == own_nb p1 p0) || (m == own_nc p1 p0)) := fun m => by
    unfold w0_20; rw [ec', own_takebit _ (by omega) _ (by rw [n19]; omega) m, b19]
  have z17 : cntN (bit (w0_17 p0)) 128 = 0 := by
    have := own_none (na := 0) (nb := 0) (nc := 0) (N := 0) (ns := fun _ => 0) (B := 1) (tt := [0, 0, 0]) (ff := [0, 0, 0, 0]) (len := 0) ⟨⟨by decide, by decide⟩, ⟨by decide, by decide, by decide⟩, by decide, by decide, ⟨rfl, rfl, rfl⟩, rfl⟩ (by decide)
    have e := own_cnt_congr (S := bit (w0_17 p0)) (S' := fun _ => false) 128 (fun m _ => own_bit17 p0 m)
    have : ∀ n, cntN (fun _ => false) n = 0 := by
      intro n; induction n with
      | zero => rfl
      | succ n ih => rw [cntN, ih]; rfl
    rw [e]; exact this 128
  have t0 : (0 : Int32).toInt = (cntN (bit (w0_17 p0)) 128 : Nat) := by rw [z17]; rfl
  have t1 : (g5_takenCount (v0_2 p1 p0) (0 : Int32) (w0_17 p0)).toInt = (cntN (bit (w0_18 p1 p0)) 128 : Nat) := by
    unfold w0_18; rw [ea']; exact own_tctake (by omega) (by rw [n17]; omega) t0
  have t2 : (g5_takenCount (v0_3 p1 p0) (g5_takenCount (v0_2 p1 p0) (0 : Int32) (w0_17 p0)) (w0_18 p1 p0)).toInt = (cntN (bit (w0_19 p1 p0)) 128 : Nat) := by
    generalize g5_takenCount (v0_2 p1 p0) (0 : Int32) (w0_17 p0) = tc1 at t1 ⊢
    unfold w0_19; rw [eb']; exact own_tctake (by omega) (by rw [n18]; omega) t1
  have t3 : (g5_takenCount (v0_4 p1 p0) (g5_takenCount (v0_3 p1 p0) (g5_takenCount (v0_2 p1 p0) (0 : Int32) (w0_17 p0)) (w0_18 p1 p0)) (w0_19 p1 p0)).toInt = (cntN (bit (w0_20 p1 p0)) 128 : Nat) := by
    generalize g5_takenCount (v0_3 p1 p0) (g5_takenCount (v0_2 p1 p0) (0 : Int32) (w0_17 p0)) (w0_18 p1 p0) = tc2 at t2 ⊢
    unfold w0_20; rw [ec']; exact own_tctake (by omega) (by rw [n19]; omega) t2
  obtain ⟨P1, P2, P3⟩ := P
  have hb : ∀ m, bit ts' m = own_TT p0 p1 p2 p3 m := fun m => by rw [P2 m, b20 m]; rfl
  refine ⟨hb, ?_⟩
  rw [P3 t3]
  rw [own_cnt_congr (S := bit ts') (S' := own_TT p0 p1 p2 p3) 128 (fun m _ => hb m)]
theorem own_Sf (p0 p1 p2 p3 : Int32) {ts' : List Int64} {tc' : Int32} (P : Pfree (own_ns p0 p1 p2 p3) 0 (own_N p2) (w0_20 p1 p0) (g5_takenCount (v0_4 p1 p0) (g5_takenCount (v0_3 p1 p0) (g5_takenCount (v0_2 p1 p0) (0 : Int32) (w0_17 p0)) (w0_18 p1 p0)) (w0_19 p1 p0)) ts' tc') : Sf ts' (own_B p0) = own_S p0 p1 p2 p3 := by
  funext z
  have := (own_state p0 p1 p2 p3 P).1 z
  simp only [Sf, own_S, own_FS, this]; rfl
theorem own_fc (p0 p1 p2 p3 : Int32) : v0_22 p0 p2 p1 p3 = Int32.ofNat (cntN (own_S p0 p1 p2 p3) (own_B p0)) := by
  have e := own_idxeq (own_Hy p0 p1 p2 p3) (own_B p0) (Nat.le_refl _)
  unfold v0_22 v0_21
  rw [own_hB p0]; exact e
theorem own_hp0 (p0 p1 p2 p3 : Int32) {ts' : List Int64} {tc' : Int32} (P : Pfree (own_ns p0 p1 p2 p3) 0 (own_N p2) (w0_20 p1 p0) (g5_takenCount (v0_4 p1 p0) (g5_takenCount (v0_3 p1 p0) (g5_takenCount (v0_2 p1 p0) (0 : Int32) (w0_17 p0)) (w0_18 p1 p0)) (w0_19 p1 p0)) ts' tc') : v0_22 p0 p2 p1 p3 = Int32.ofNat (cntN (Sf ts' (own_B p0)) (own_B p0)) := by
  rw [own_Sf p0 p1 p2 p3 P]; exact own_fc p0 p1 p2 p3
theorem own_htc (p0 p1 p2 p3 : Int32) {ts' : List Int64} {tc' : Int32} (P : Pfree (own_ns p0 p1 p2 p3) 0 (own_N p2) (w0_20 p1 p0) (g5_takenCount (v0_4 p1 p0) (g5_takenCount (v0_3 p1 p0) (g5_takenCount (v0_2 p1 p0) (0 : Int32) (w0_17 p0)) (w0_18 p1 p0)) (w0_19 p1 p0)) ts' tc') : (v0_1 p0) - tc' = v0_22 p0 p2 p1 p3 := by
  have b := own_hB2 p0
  have ht := (own_state p0 p1 p2 p3 P).2
  have e := own_cnt_compl (own_TT p0 p1 p2 p3) (own_B p0) (own_B p0) (Nat.le_refl _)
  have e' : cntN (own_S p0 p1 p2 p3) (own_B p0) + cntN (own_TT p0 p1 p2 p3) (own_B p0) = own_B p0 := e
  have e128 : cntN (own_TT p0 p1 p2 p3) 128 = cntN (own_TT p0 p1 p2 p3) (own_B p0) := by
    have hH := own_Hy p0 p1 p2 p3
    have q : ∀ k, cntN (own_TT p0 p1 p2 p3) (own_B p0 + k) = cntN (own_TT p0 p1 p2 p3) (own_B p0) := by
      intro k
      induction k with
      | zero => rfl
      | succ k ih =>
        have hn : ¬ own_TT p0 p1 p2 p3 (own_B p0 + k) = true := by
          intro w
          have w' := own_Tin w
          have := hH.2.1
          omega
        rw [← Nat.add_assoc, cntN, ih, if_neg hn]
        try rfl
    have := q (128 - own_B p0)
    rw [show own_B p0 + (128 - own_B p0) = 128 by omega] at this; exact this
  rw [own_fc p0 p1 p2 p3, own_hB p0]
  apply Int32.toInt_inj.mp
  rw [Int32.toInt_sub, own_ofNat_toInt (by omega), own_ofNat_toInt (by omega), ht, e128, Int.bmod_eq_of_le (by omega) (by omega)]
  omega
theorem own_hid {p0 p1 p2 p3 x : Int32} (h : rng p0 x) : ¬ (x - (f8 x (v0_9 p2) (w0_16 p1 p0) (w0_13 p2 p1 p0 p3))) < (0 : Int32) ∧ (x - (f8 x (v0_9 p2) (w0_16 p1 p0) (w0_13 p2 p1 p0 p3))) < (129 : Int32) := by
  obtain ⟨e, l⟩ := own_rnat h
  have b := own_hB2 p0
  have q := own_idxeq (own_Hy p0 p1 p2 p3) x.toNatClampNeg (by omega)
  rw [← e] at q
  rw [q]
  have c := own_cnt_le (own_FS (own_na p1 p0) (own_nb p1 p0) (own_nc p1 p0) (own_N p2) (own_ns p0 p1 p2 p3) (own_B p0)) x.toNatClampNeg
  exact ⟨own_nneg (by omega), own_lt_of (n := 129) (by omega) (by omega)⟩
theorem own_last0 (p0 : Int32) : ¬ ((v0_23 p0) < (0 : Int32)) := by
  have b := own_bnd p0
  unfold v0_23
  have e1 : (1 : Int32).toInt = 1 := rfl
  rw [Int32.lt_iff_toInt_lt, Int32.toInt_sub, e1, Int.bmod_eq_of_le (by omega) (by omega)]
  show ¬ _ < (0 : Int); omega
theorem own_fcb (p0 p1 p2 p3 : Int32) : cntN (own_S p0 p1 p2 p3) (own_B p0) ≤ 128 := Nat.le_trans (own_cnt_le _ _) (own_hB2 p0)
theorem own_fc0 (p0 p1 p2 p3 : Int32) : ¬ (v0_22 p0 p2 p1 p3) < (0 : Int32) ∧ (v0_22 p0 p2 p1 p3) < (129 : Int32) := by
  have b := own_fcb p0 p1 p2 p3
  rw [own_fc p0 p1 p2 p3]
  exact ⟨own_nneg (by omega), own_lt_of (n := 129) (by omega) (by omega)⟩
theorem own_fc1 (p0 p1 p2 p3 : Int32) (h : ¬ (v0_22 p0 p2 p1 p3) = (0 : Int32)) : ¬ ((v0_22 p0 p2 p1 p3) - (1 : Int32)) < (0 : Int32) ∧ ((v0_22 p0 p2 p1 p3) - (1 : Int32)) < (129 : Int32) := by
  have b := own_fcb p0 p1 p2 p3
  rw [own_fc p0 p1 p2 p3] at h ⊢
  have nz : cntN (own_S p0 p1 p2 p3) (own_B p0) ≠ 0 := fun q => h (by rw [q]; rfl)
  obtain ⟨k, hk⟩ : ∃ k, cntN (own_S p0 p1 p2 p3) (own_B p0) = k + 1 := ⟨_, (Nat.succ_pred_eq_of_ne_zero nz).symm⟩
  rw [hk, ← own_succ (by omega)]
  have e : Int32.ofNat k + 1 - 1 = Int32.ofNat k := Int32.add_sub_cancel _ _
  rw [e]
  exact ⟨own_nneg (by omega), own_lt_of (n := 129) (by omega) (by omega)⟩


def v0_26 (p1 : Int32) (p0 : Int32) (p2 : Int32) (p3 : Int32) : Int32 := (f11 (v0_2 p1 p0) (v0_9 p2) (v0_22 p0 p2 p1 p3) (w0_16 p1 p0) (w0_13 p2 p1 p0 p3) (own_into p0 p1 p2 p3))
def v0_27 (p1 : Int32) (p0 : Int32) (p2 : Int32) (p3 : Int32) : Int32 := (f11 (v0_3 p1 p0) (v0_9 p2) (v0_22 p0 p2 p1 p3) (w0_16 p1 p0) (w0_13 p2 p1 p0 p3) (own_into p0 p1 p2 p3))
def v0_28 (p1 : Int32) (p0 : Int32) (p2 : Int32) (p3 : Int32) : Int32 := (f11 (v0_4 p1 p0) (v0_9 p2) (v0_22 p0 p2 p1 p3) (w0_16 p1 p0) (w0_13 p2 p1 p0 p3) (own_into p0 p1 p2 p3))
def v0_29 (p2 : Int32) (p1 : Int32) (p0 : Int32) (p3 : Int32) : Int32 := (f11 (v0_5 p2 p1 p0 p3) (v0_9 p2) (v0_22 p0 p2 p1 p3) (w0_16 p1 p0) (w0_13 p2 p1 p0 p3) (own_into p0 p1 p2 p3))
def v0_30 (p2 : Int32) (p1 : Int32) (p0 : Int32) (p3 : Int32) : Int32 := (f11 (v0_6 p2 p1 p0 p3) (v0_9 p2) (v0_22 p0 p2 p1 p3) (w0_16 p1 p0) (w0_13 p2 p1 p0 p3) (own_into p0 p1 p2 p3))
def v0_31 (p2 : Int32) (p1 : Int32) (p0 : Int32) (p3 : Int32) : Int32 := (f11 (v0_7 p2 p1 p0 p3) (v0_9 p2) (v0_22 p0 p2 p1 p3) (w0_16 p1 p0) (w0_13 p2 p1 p0 p3) (own_into p0 p1 p2 p3))
def v0_32 (p2 : Int32) (p1 : Int32) (p0 : Int32) (p3 : Int32) : Int32 := (f11 (v0_8 p2 p1 p0 p3) (v0_9 p2) (v0_22 p0 p2 p1 p3) (w0_16 p1 p0) (w0_13 p2 p1 p0 p3) (own_into p0 p1 p2 p3))
def v0_33 (p0 : Int32) (p1 : Int32) (p2 : Int32) (p3 : Int32) : Int32 := (getI (own_into p0 p1 p2 p3) ((v0_22 p0 p2 p1 p3) - (1 : Int32)))
def v0_34 (p0 : Int32) (p1 : Int32) (p2 : Int32) (p3 : Int32) : Int32 := (getI (own_into p0 p1 p2 p3) (v0_22 p0 p2 p1 p3))
def v0_35 (p0 : Int32) (p2 : Int32) (p1 : Int32) (p3 : Int32) : Int32 := (f9 (v0_25 p0 p2 p1 p3) (v0_9 p2) (w0_16 p1 p0) (w0_13 p2 p1 p0 p3))
def v0_36 (p0 : Int32) (p2 : Int32) (p1 : Int32) (p3 : Int32) : Int32 := (if (v0_35 p0 p2 p1 p3) = (0 : Int32) then (v0_25 p0 p2 p1 p3) else ((v0_25 p0 p2 p1 p3) + (-1 : Int32)))
def v0_37 (p0 : Int32) (p2 : Int32) (p1 : Int32) (p3 : Int32) : Int32 := (f9 (v0_36 p0 p2 p1 p3) (v0_9 p2) (w0_16 p1 p0) (w0_13 p2 p1 p0 p3))
def v0_38 (p0 : Int32) (p2 : Int32) (p1 : Int32) (p3 : Int32) : Int32 := (if (v0_37 p0 p2 p1 p3) = (0 : Int32) then (v0_36 p0 p2 p1 p3) else ((v0_36 p0 p2 p1 p3) + (-1 : Int32)))
def f0 (p0 : Int32) (p1 : Int32) (p2 : Int32) (p3 : Int32) (q0 : Int64) : Int32 := (if (v0_25 p0 p2 p1 p3) < (0 : Int32) then (if (v0_26 p1 p0 p2 p3) = (0 : Int32) then (0 : Int32) else (if (v0_27 p1 p0 p2 p3) = (0 : Int32) then (0 : Int32) else (if (v0_28 p1 p0 p2 p3) = (0 : Int32) then (0 : Int32) else (if (v0_29 p2 p1 p0 p3) = (0 : Int32) then (0 : Int32) else (if (v0_30 p2 p1 p0 p3) = (0 : Int32) then (0 : Int32) else (if (v0_31 p2 p1 p0 p3) = (0 : Int32) then (0 : Int32) else (if (v0_32 p2 p1 p0 p3) = (0 : Int32) then (0 : Int32) else (if (v0_22 p0 p2 p1 p3) = (0 : Int32) then (1 : Int32) else (if (v0_33 p0 p1 p2 p3) = (v0_25 p0 p2 p1 p3) then (if (v0_34 p0 p1 p2 p3) = (0 : Int32) then (1 : Int32) else (0 : Int32)) else (0 : Int32)))))))))) else (if (v0_36 p0 p2 p1 p3) < (0 : Int32) then (if (v0_26 p1 p0 p2 p3) = (0 : Int32) then (0 : Int32) else (if (v0_27 p1 p0 p2 p3) = (0 : Int32) then (0 : Int32) else (if (v0_28 p1 p0 p2 p3) = (0 : Int32) then (0 : Int32) else (if (v0_29 p2 p1 p0 p3) = (0 : Int32) then (0 : Int32) else (if (v0_30 p2 p1 p0 p3) = (0 : Int32) then (0 : Int32) else (if (v0_31 p2 p1 p0 p3) = (0 : Int32) then (0 : Int32) else (if (v0_32 p2 p1 p0 p3) = (0 : Int32) then (0 : Int32) else (if (v0_22 p0 p2 p1 p3) = (0 : Int32) then (1 : Int32) else (if (v0_33 p0 p1 p2 p3) = (v0_36 p0 p2 p1 p3) then (if (v0_34 p0 p1 p2 p3) = (0 : Int32) then (1 : Int32) else (0 : Int32)) else (0 : Int32)))))))))) else (if (v0_26 p1 p0 p2 p3) = (0 : Int32) then (0 : Int32) else (if (v0_27 p1 p0 p2 p3) = (0 : Int32) then (0 : Int32) else (if (v0_28 p1 p0 p2 p3) = (0 : Int32) then (0 : Int32) else (if (v0_29 p2 p1 p0 p3) = (0 : Int32) then (0 : Int32) else (if (v0_30 p2 p1 p0 p3) = (0 : Int32) then (0 : Int32) else (if (v0_31 p2 p1 p0 p3) = (0 : Int32) then (0 : Int32) else (if (v0_32 p2 p1 p0 p3) = (0 : Int32) then (0 : Int32) else (if (v0_22 p0 p2 p1 p3) = (0 : Int32) then (1 : Int32) else (if (v0_33 p0 p1 p2 p3) = (v0_38 p0 p2 p1 p3) then (if (v0_34 p0 p1 p2 p3) = (0 : Int32) then (1 : Int32) else (0 : Int32)) else (0 : Int32))))))))))))
def Q0 (Z : State) (p0 : Int32) (p1 : Int32) (p2 : Int32) (p3 : Int32) (q0 : Int64)  (h0 : Heap) (n0 : Nat) (v : Option Value) (h : Heap) (L : List Loc) : Prop := v = some (.int (f0 p0 p1 p2 p3 q0)) ∧ Fr n0 L
set_option maxRecDepth 65536 in
set_option maxHeartbeats 40000000 in
theorem rm0 (l : Launch) (Z : State) (a0 : Array Value) (hw : ∀ d ∈ tables_1, d.before a0 Z = true) (ws : List Jvm.Cond) (p0 : Int32) (p1 : Int32) (p2 : Int32) (p3 : Int32) (q0 : Int64)  (h0 : Heap) (n0 : Nat) (Z0 : n0 ≤ h0.size)   :
    MetFree l x (head1 (Jvm.Cond.code x code maxLocals ret :: ws) room_1) (fun a U => a = #[(.int p0), (.int p1), (.int p2), (.int p3), (.long q0)] ∧ Z.Warmed39 U.vm ∧ U.heap = h0) (fun _ _ _ _ _ => True) (fun _ U o U' => ∃ v L, o = .returned v ∧ Q0 Z p0 p1 p2 p3 q0 h0 n0 v U'.heap L ∧ FrameEnd U o U' L room_1.cells room_1.slots) := by
  refine MetFree.of_bodySF (plainFor_of_name pn_0) hisR ?_
  intro p e s m args below meth c s₁ Bd hml0 hP hK
  obtain ⟨rfl, hZ, hh⟩ := hP
  have hx := Bd.exec
  have hby := Bd.bytes
  have hml : c.maxLocals = 23 := hml0
  have hown : s.vm.findClass "com/example/knotwork/knotwork/generate/FreeNumbersFreePinLaw" = some m.cls := findClass_of_methodNamed Bd.named
  have hnm := (name_of_methodNamed Bd.named Bd.method).1
  have X0 : Stand p l e room_1 s m #[(.int p0), (.int p1), (.int p2), (.int p3), (.long q0)] below meth c s₁ [] 0 0 := Stand.of_body Bd
  have e0 : s₁.heap = h0 := by rw [← hh, Bd.state]; rfl
  have N0 := Fr.nil n0
  have hlk : meth.locks = false := by first | exact BodyLoose.notSynchronized Bd | exact Body.notSynchronized Bd
  have pre0 : ∀ t, Steps p.tables e below (s₁.setTop (mkF m 0 #[.val (.int p0), .val (.int p1), .val (.int p2), .val (.int p3), .val (.long q0), .second, .unset, .unset, .unset, .unset, .unset, .unset, .unset, .unset, .unset, .unset, .unset, .unset, .unset, .unset, .unset, .unset, .unset] [])) t → Steps p.tables e below (s₁.setTop (entryFrame m #[(.int p0), (.int p1), (.int p2), (.int p3), (.long q0)] maxLocals)) t := fun t k => castTop (ef_0 m p0 p1 p2 p3 q0) k
  obtain ⟨_, _, ⟨T1, L1, k1, n1⟩, -, X1, ⟨Lc1, hQ1, l1, y1, z1⟩, st1⟩ := Jvm.LawKit.callS X0 hx (y := (⟨"com/example/knotwork/knotwork/generate/FreeNumbersFreePinLaw", "pick", "(IIIII)I"⟩ : MethodName)) hown (mvT hZ (hw _ (List.mem_of_getElem? (i := 0) rfl))) (mvT hZ (hw _ (List.mem_of_getElem? (i := 1) rfl))) (mvT hZ (hw _ (List.mem_of_getElem? (i := 2) rfl))) (mvT hZ (hw _ (List.mem_of_getElem? (i := 3) rfl))) (by decide) (backOf (W := 0) (rm1 l Z a0 hw [] (p2 &&& (3 : Int32)) (v0_2 p1 p0) (v0_3 p1 p0) (v0_4 p1 p0) ((p3 &&& (255 : Int32)) % (v0_1 p0)) h0 n0 Z0) hZ (hw _ (List.mem_of_getElem? (i := 3) rfl)) (hw _ (List.mem_of_getElem? (i := 2) rfl)) (by decide) (by decide)) (g := (mkF m 61 #[.val (.int p0), .val (.int p1), .val (.int p2), .val (.int p3), .val (.long q0), .second, .val (.int (v0_1 p0)), .val (.int (v0_2 p1 p0)), .val (.int (v0_3 p1 p0)), .val (.int (v0_4 p1 p0)), .unset, .unset, .unset, .unset, .unset, .unset, .unset, .unset, .unset, .unset, .unset, .unset, .unset] [(.int ((p3 &&& (255 : Int32)) % (v0_1 p0))), (.int (v0_4 p1 p0)), (.int (v0_3 p1 p0)), (.int (v0_2 p1 p0)), (.int (p2 &&& (3 : Int32)))])) rfl (by rw [hml]; rfl) (argsL := [(.int (p2 &&& (3 : Int32))), (.int (v0_2 p1 p0)), (.int (v0_3 p1 p0)), (.int (v0_4 p1 p0)), (.int ((p3 &&& (255 : Int32)) % (v0_1 p0)))]) (rest := []) (lenOf pd_7 rfl) rfl (by show 2 * 0 + _ ≤ _; exact Nat.le_of_eq rfl) (hb hby at_61) (fun _ _ => ⟨rfl, e0, (by decide : 0 + 0 ≤ _), (by decide : 0 + 0 ≤ _)⟩)
  dsimp only [Pt.U, Pt.locs, Pt.cells, Pt.slots] at X1 l1 y1 z1 st1 hQ1
  rw [l1, y1, z1] at X1
  obtain ⟨rfl, N1q, e1⟩ := hQ1
  have N1 := Fr.app N0 N1q
  obtain ⟨_, _, ⟨T2, L2, k2, n2⟩, -, X2, ⟨Lc2, hQ2, l2, y2, z2⟩, st2⟩ := Jvm.LawKit.callS X1 hx (y := (⟨"com/example/knotwork/knotwork/generate/FreeNumbersFreePinLaw", "pick", "(IIIII)I"⟩ : MethodName)) hown (mvT hZ (hw _ (List.mem_of_getElem? (i := 0) rfl))) (mvT hZ (hw _ (List.mem_of_getElem? (i := 1) rfl))) (mvT hZ (hw _ (List.mem_of_getElem? (i := 2) rfl))) (mvT hZ (hw _ (List.mem_of_getElem? (i := 3) rfl))) (by decide) (backOf (W := 0) (rm1 l Z a0 hw [] (((p2.toUInt32 >>> ((2 : Int32) &&& 31).toUInt32).toInt32) &&& (3 : Int32)) (v0_2 p1 p0) (v0_3 p1 p0) (v0_4 p1 p0) ((((p3.toUInt32 >>> ((8 : Int32) &&& 31).toUInt32).toInt32) &&& (255 : Int32)) % (v0_1 p0)) h0 n0 Z0) hZ (hw _ (List.mem_of_getElem? (i := 3) rfl)) (hw _ (List.mem_of_getElem? (i := 2) rfl)) (by decide) (by decide)) (g := (mkF m 88 #[.val (.int p0), .val (.int p1), .val (.int p2), .val (.int p3), .val (.long q0), .second, .val (.int (v0_1 p0)), .val (.int (v0_2 p1 p0)), .val (.int (v0_3 p1 p0)), .val (.int (v0_4 p1 p0)), .val (.int (v0_5 p2 p1 p0 p3)), .unset, .unset, .unset, .unset, .unset, .unset, .unset, .unset, .unset, .unset, .unset, .unset] [(.int ((((p3.toUInt32 >>> ((8 : Int32) &&& 31).toUInt32).toInt32) &&& (255 : Int32)) % (v0_1 p0))), (.int (v0_4 p1 p0)), (.int (v0_3 p1 p0)), (.int (v0_2 p1 p0)), (.int (((p2.toUInt32 >>> ((2 : Int32) &&& 31).toUInt32).toInt32) &&& (3 : Int32)))])) rfl (by rw [hml]; rfl) (argsL := [(.int (((p2.toUInt32 >>> ((2 : Int32) &&& 31).toUInt32).toInt32) &&& (3 : Int32))), (.int (v0_2 p1 p0)), (.int (v0_3 p1 p0)), (.int (v0_4 p1 p0)), (.int ((((p3.toUInt32 >>> ((8 : Int32) &&& 31).toUInt32).toInt32) &&& (255 : Int32)) % (v0_1 p0)))]) (rest := []) (lenOf pd_7 rfl) rfl (by show 2 * 0 + _ ≤ _; exact Nat.le_of_eq rfl) (hb hby at_88) (fun _ _ => ⟨rfl, e1, (by decide : 0 + 0 ≤ _), (by decide : 0 + 0 ≤ _)⟩)
  dsimp only [Pt.U, Pt.locs, Pt.cells, Pt.slots] at X2 l2 y2 z2 st2 hQ2
  rw [l2, y2, z2] at X2
  obtain ⟨rfl, N2q, e2⟩ := hQ2
  have N2 := Fr.app N1 N2q
  obtain ⟨_, _, ⟨T3, L3, k3, n3⟩, -, X3, ⟨Lc3, hQ3, l3, y3, z3⟩, st3⟩ := Jvm.LawKit.callS X2 hx (y := (⟨"com/example/knotwork/knotwork/generate/FreeNumbersFreePinLaw", "pick", "(IIIII)I"⟩ : MethodName)) hown (mvT hZ (hw _ (List.mem_of_getElem? (i := 0) rfl))) (mvT hZ (hw _ (List.mem_of_getElem? (i := 1) rfl))) (mvT hZ (hw _ (List.mem_of_getElem? (i := 2) rfl))) (mvT hZ (hw _ (List.mem_of_getElem? (i := 3) rfl))) (by decide) (backOf (W := 0) (rm1 l Z a0 hw [] (((p2.toUInt32 >>> ((4 : Int32) &&& 31).toUInt32).toInt32) &&& (3 : Int32)) (v0_2 p1 p0) (v0_3 p1 p0) (v0_4 p1 p0) ((((p3.toUInt32 >>> ((16 : Int32) &&& 31).toUInt32).toInt32) &&& (255 : Int32)) % (v0_1 p0)) h0 n0 Z0) hZ (hw _ (List.mem_of_getElem? (i := 3) rfl)) (hw _ (List.mem_of_getElem? (i := 2) rfl)) (by decide) (by decide)) (g := (mkF m 115 #[.val (.int p0), .val (.int p1), .val (.int p2), .val (.int p3), .val (.long q0), .second, .val (.int (v0_1 p0)), .val (.int (v0_2 p1 p0)), .val (.int (v0_3 p1 p0)), .val (.int (v0_4 p1 p0)), .val (.int (v0_5 p2 p1 p0 p3)), .val (.int (v0_6 p2 p1 p0 p3)), .unset, .unset, .unset, .unset, .unset, .unset, .unset, .unset, .unset, .unset, .unset] [(.int ((((p3.toUInt32 >>> ((16 : Int32) &&& 31).toUInt32).toInt32) &&& (255 : Int32)) % (v0_1 p0))), (.int (v0_4 p1 p0)), (.int (v0_3 p1 p0)), (.int (v0_2 p1 p0)), (.int (((p2.toUInt32 >>> ((4 : Int32) &&& 31).toUInt32).toInt32) &&& (3 : Int32)))])) rfl (by rw [hml]; rfl) (argsL := [(.int (((p2.toUInt32 >>> ((4 : Int32) &&& 31).toUInt32).toInt32) &&& (3 : Int32))), (.int (v0_2 p1 p0)), (.int (v0_3 p1 p0)), (.int (v0_4 p1 p0)), (.int ((((p3.toUInt32 >>> ((16 : Int32) &&& 31).toUInt32).toInt32) &&& (255 : Int32)) % (v0_1 p0)))]) (rest := []) (lenOf pd_7 rfl) rfl (by show 2 * 0 + _ ≤ _; exact Nat.le_of_eq rfl) (hb hby at_115) (fun _ _ => ⟨rfl, e2, (by decide : 0 + 0 ≤ _), (by decide : 0 + 0 ≤ _)⟩)
  dsimp only [Pt.U, Pt.locs, Pt.cells, Pt.slots] at X3 l3 y3 z3 st3 hQ3
  rw [l3, y3, z3] at X3
  obtain ⟨rfl, N3q, e3⟩ := hQ3
  have N3 := Fr.app N2 N3q
  obtain ⟨_, _, ⟨T4, L4, k4, n4⟩, -, X4, ⟨Lc4, hQ4, l4, y4, z4⟩, st4⟩ := Jvm.LawKit.callS X3 hx (y := (⟨"com/example/knotwork/knotwork/generate/FreeNumbersFreePinLaw", "pick", "(IIIII)I"⟩ : MethodName)) hown (mvT hZ (hw _ (List.mem_of_getElem? (i := 0) rfl))) (mvT hZ (hw _ (List.mem_of_getElem? (i := 1) rfl))) (mvT hZ (hw _ (List.mem_of_getElem? (i := 2) rfl))) (mvT hZ (hw _ (List.mem_of_getElem? (i := 3) rfl))) (by decide) (backOf (W := 0) (rm1 l Z a0 hw [] (((p2.toUInt32 >>> ((6 : Int32) &&& 31).toUInt32).toInt32) &&& (3 : Int32)) (v0_2 p1 p0) (v0_3 p1 p0) (v0_4 p1 p0) ((((p3.toUInt32 >>> ((24 : Int32) &&& 31).toUInt32).toInt32) &&& (255 : Int32)) % (v0_1 p0)) h0 n0 Z0) hZ (hw _ (List.mem_of_getElem? (i := 3) rfl)) (hw _ (List.mem_of_getElem? (i := 2) rfl)) (by decide) (by decide)) (g := (mkF m 143 #[.val (.int p0), .val (.int p1), .val (.int p2), .val (.int p3), .val (.long q0), .second, .val (.int (v0_1 p0)), .val (.int (v0_2 p1 p0)), .val (.int (v0_3 p1 p0)), .val (.int (v0_4 p1 p0)), .val (.int (v0_5 p2 p1 p0 p3)), .val (.int (v0_6 p2 p1 p0 p3)), .val (.int (v0_7 p2 p1 p0 p3)), .unset, .unset, .unset, .unset, .unset, .unset, .unset, .unset, .unset, .unset] [(.int ((((p3.toUInt32 >>> ((24 : Int32) &&& 31).toUInt32).toInt32) &&& (255 : Int32)) % (v0_1 p0))), (.int (v0_4 p1 p0)), (.int (v0_3 p1 p0)), (.int (v0_2 p1 p0)), (.int (((p2.toUInt32 >>> ((6 : Int32) &&& 31).toUInt32).toInt32) &&& (3 : Int32)))])) rfl (by rw [hml]; rfl) (argsL := [(.int (((p2.toUInt32 >>> ((6 : Int32) &&& 31).toUInt32).toInt32) &&& (3 : Int32))), (.int (v0_2 p1 p0)), (.int (v0_3 p1 p0)), (.int (v0_4 p1 p0)), (.int ((((p3.toUInt32 >>> ((24 : Int32) &&& 31).toUInt32).toInt32) &&& (255 : Int32)) % (v0_1 p0)))]) (rest := []) (lenOf pd_7 rfl) rfl (by show 2 * 0 + _ ≤ _; exact Nat.le_of_eq rfl) (hb hby at_143) (fun _ _ => ⟨rfl, e3, (by decide : 0 + 0 ≤ _), (by decide : 0 + 0 ≤ _)⟩)
  dsimp only [Pt.U, Pt.locs, Pt.cells, Pt.slots] at X4 l4 y4 z4 st4 hQ4
  rw [l4, y4, z4] at X4
  obtain ⟨rfl, N4q, e4⟩ := hQ4
  have N4 := Fr.app N3 N4q
  obtain ⟨T5, h5, k5, X5, e5, E5, A5, st5⟩ := newP X4 hx hZ (hw _ (List.mem_of_getElem? (i := 4) rfl)) e4 (g := (mkF m 160 #[.val (.int p0), .val (.int p1), .val (.int p2), .val (.int p3), .val (.long q0), .second, .val (.int (v0_1 p0)), .val (.int (v0_2 p1 p0)), .val (.int (v0_3 p1 p0)), .val (.int (v0_4 p1 p0)), .val (.int (v0_5 p2 p1 p0 p3)), .val (.int (v0_6 p2 p1 p0 p3)), .val (.int (v0_7 p2 p1 p0 p3)), .val (.int (v0_8 p2 p1 p0 p3)), .val (.int (v0_9 p2)), .unset, .unset, .unset, .unset, .unset, .unset, .unset, .unset] [(.int (4 : Int32))])) rfl (hb hby at_160) rfl (by decide) (cap := 4) (by decide) (by decide) (by decide) (by decide)
  obtain ⟨b5, g5⟩ : ∃ z, z = h0.size := ⟨_, rfl⟩
  rw [← g5] at A5 st5
  have g_b5 : n0 ≤ b5 := Nat.le_trans Z0 (Nat.le_of_eq g5.symm)
  have sz_b5 : h0.size ≤ b5 := Nat.le_trans ((Keep.refl h0 [])).1 (Nat.le_of_eq g5.symm)
  have Z5 : n0 ≤ h5.size := Nat.le_trans Z0 E5.1
  have K5 : Keep h0 h5 [] := ((Keep.refl h0 [])).ext E5
  have V_b5 := Ia.new A5 (by decide) rfl
  obtain ⟨cl6, Ar6, hin6, hat6⟩ := Ia.get (V_b5) (j := (0 : Int32)) ⟨by decide, by decide⟩
  obtain ⟨T7, h7, X7, e7, W7, st7⟩ := stI X5 hx hZ e5 Ar6 (j := (0 : Int32)) hin6 (g := (mkF m 166 #[.val (.int p0), .val (.int p1), .val (.int p2), .val (.int p3), .val (.long q0), .second, .val (.int (v0_1 p0)), .val (.int (v0_2 p1 p0)), .val (.int (v0_3 p1 p0)), .val (.int (v0_4 p1 p0)), .val (.int (v0_5 p2 p1 p0 p3)), .val (.int (v0_6 p2 p1 p0 p3)), .val (.int (v0_7 p2 p1 p0 p3)), .val (.int (v0_8 p2 p1 p0 p3)), .val (.int (v0_9 p2)), .unset, .unset, .unset, .unset, .unset, .unset, .unset, .unset] [(.int (v0_5 p2 p1 p0 p3)), (.int (0 : Int32)), (.ref b5), (.ref b5)])) rfl rfl (hb hby at_166)
  have Vw7 := Ia.set (V_b5) (j := (0 : Int32)) (x := (v0_5 p2 p1 p0 p3)) ⟨by decide, by decide⟩ rfl W7
  have N7 := Fr.snoc X7 N4 g_b5
  have Z7 : n0 ≤ h7.size := Nat.le_trans Z5 (Keep.of_wr W7).1
  have K7 : Keep h0 h7 [] := (K5).wr W7 (Or.inr sz_b5)
  obtain ⟨cl8, Ar8, hin8, hat8⟩ := Ia.get (Vw7) (j := (1 : Int32)) ⟨by decide, by decide⟩
  obtain ⟨T9, h9, X9, e9, W9, st9⟩ := stI X7 hx hZ e7 Ar8 (j := (1 : Int32)) hin8 (g := (mkF m 171 #[.val (.int p0), .val (.int p1), .val (.int p2), .val (.int p3), .val (.long q0), .second, .val (.int (v0_1 p0)), .val (.int (v0_2 p1 p0)), .val (.int (v0_3 p1 p0)), .val (.int (v0_4 p1 p0)), .val (.int (v0_5 p2 p1 p0 p3)), .val (.int (v0_6 p2 p1 p0 p3)), .val (.int (v0_7 p2 p1 p0 p3)), .val (.int (v0_8 p2 p1 p0 p3)), .val (.int (v0_9 p2)), .unset, .unset, .unset, .unset, .unset, .unset, .unset, .unset] [(.int (v0_6 p2 p1 p0 p3)), (.int (1 : Int32)), (.ref b5), (.ref b5)])) rfl rfl (hb hby at_171)
  have Vw9 := Ia.set (Vw7) (j := (1 : Int32)) (x := (v0_6 p2 p1 p0 p3)) ⟨by decide, by decide⟩ rfl W9
  have N9 := Fr.snoc X9 N7 g_b5
  have Z9 : n0 ≤ h9.size := Nat.le_trans Z7 (Keep.of_wr W9).1
  have K9 : Keep h0 h9 [] := (K7).wr W9 (Or.inr sz_b5)
  obtain ⟨cl10, Ar10, hin10, hat10⟩ := Ia.get (Vw9) (j := (2 : Int32)) ⟨by decide, by decide⟩
  obtain ⟨T11, h11, X11, e11, W11, st11⟩ := stI X9 hx hZ e9 Ar10 (j := (2 : Int32)) hin10 (g := (mkF m 176 #[.val (.int p0), .val (.int p1), .val (.int p2), .val (.int p3), .val (.long q0), .second, .val (.int (v0_1 p0)), .val (.int (v0_2 p1 p0)), .val (.int (v0_3 p1 p0)), .val (.int (v0_4 p1 p0)), .val (.int (v0_5 p2 p1 p0 p3)), .val (.int (v0_6 p2 p1 p0 p3)), .val (.int (v0_7 p2 p1 p0 p3)), .val (.int (v0_8 p2 p1 p0 p3)), .val (.int (v0_9 p2)), .unset, .unset, .unset, .unset, .unset, .unset, .unset, .unset] [(.int (v0_7 p2 p1 p0 p3)), (.int (2 : Int32)), (.ref b5), (.ref b5)])) rfl rfl (hb hby at_176)
  have Vw11 := Ia.set (Vw9) (j := (2 : Int32)) (x := (v0_7 p2 p1 p0 p3)) ⟨by decide, by decide⟩ rfl W11
  have N11 := Fr.snoc X11 N9 g_b5
  have Z11 : n0 ≤ h11.size := Nat.le_trans Z9 (Keep.of_wr W11).1
  have K11 : Keep h0 h11 [] := (K9).wr W11 (Or.inr sz_b5)
  obtain ⟨cl12, Ar12, hin12, hat12⟩ := Ia.get (Vw11) (j := (3 : Int32)) ⟨by decide, by decide⟩
  obtain ⟨T13, h13, X13, e13, W13, st13⟩ := stI X11 hx hZ e11 Ar12 (j := (3 : Int32)) hin12 (g := (mkF m 181 #[.val (.int p0), .val (.int p1), .val (.int p2), .val (.int p3), .val (.long q0), .second, .val (.int (v0_1 p0)), .val (.int (v0_2 p1 p0)), .val (.int (v0_3 p1 p0)), .val (.int (v0_4 p1 p0)), .val (.int (v0_5 p2 p1 p0 p3)), .val (.int (v0_6 p2 p1 p0 p3)), .val (.int (v0_7 p2 p1 p0 p3)), .val (.int (v0_8 p2 p1 p0 p3)), .val (.int (v0_9 p2)), .unset, .unset, .unset, .unset, .unset, .unset, .unset, .unset] [(.int (v0_8 p2 p1 p0 p3)), (.int (3 : Int32)), (.ref b5), (.ref b5)])) rfl rfl (hb hby at_181)
  have Vw13 := Ia.set (Vw11) (j := (3 : Int32)) (x := (v0_8 p2 p1 p0 p3)) ⟨by decide, by decide⟩ rfl W13
  have N13 := Fr.snoc X13 N11 g_b5
  have Z13 : n0 ≤ h13.size := Nat.le_trans Z11 (Keep.of_wr W13).1
  have K13 : Keep h0 h13 [] := (K11).wr W13 (Or.inr sz_b5)
  obtain ⟨T14, h14, k14, X14, e14, E14, A14, st14⟩ := newP X13 hx hZ (hw _ (List.mem_of_getElem? (i := 4) rfl)) e13 (g := (mkF m 185 #[.val (.int p0), .val (.int p1), .val (.int p2), .val (.int p3), .val (.long q0), .second, .val (.int (v0_1 p0)), .val (.int (v0_2 p1 p0)), .val (.int (v0_3 p1 p0)), .val (.int (v0_4 p1 p0)), .val (.int (v0_5 p2 p1 p0 p3)), .val (.int (v0_6 p2 p1 p0 p3)), .val (.int (v0_7 p2 p1 p0 p3)), .val (.int (v0_8 p2 p1 p0 p3)), .val (.int (v0_9 p2)), .val (.ref b5), .unset, .unset, .unset, .unset, .unset, .unset, .unset] [(.int (3 : Int32))])) rfl (hb hby at_185) rfl (by decide) (cap := 3) (by decide) (by decide) (by decide) (by decide)
  obtain ⟨b14, g14⟩ : ∃ z, z = h13.size := ⟨_, rfl⟩
  rw [← g14] at A14 st14
  have g_b14 : n0 ≤ b14 := Nat.le_trans Z13 (Nat.le_of_eq g14.symm)
  have sz_b14 : h0.size ≤ b14 := Nat.le_trans (K13).1 (Nat.le_of_eq g14.symm)
  have ne_b5_b14 : b5 ≠ b14 := Nat.ne_of_lt (Nat.lt_of_lt_of_le (Vw13).lt (Nat.le_of_eq g14.symm))
  have Z14 : n0 ≤ h14.size := Nat.le_trans Z13 E14.1
  have K14 : Keep h0 h14 [] := (K13).ext E14
  have V_b14 := Ia.new A14 (by decide) rfl
  obtain ⟨cl15, Ar15, hin15, hat15⟩ := Ia.get (V_b14) (j := (0 : Int32)) ⟨by decide, by decide⟩
  obtain ⟨T16, h16, X16, e16, W16, st16⟩ := stI X14 hx hZ e14 Ar15 (j := (0 : Int32)) hin15 (g := (mkF m 191 #[.val (.int p0), .val (.int p1), .val (.int p2), .val (.int p3), .val (.long q0), .second, .val (.int (v0_1 p0)), .val (.int (v0_2 p1 p0)), .val (.int (v0_3 p1 p0)), .val (.int (v0_4 p1 p0)), .val (.int (v0_5 p2 p1 p0 p3)), .val (.int (v0_6 p2 p1 p0 p3)), .val (.int (v0_7 p2 p1 p0 p3)), .val (.int (v0_8 p2 p1 p0 p3)), .val (.int (v0_9 p2)), .val (.ref b5), .unset, .unset, .unset, .unset, .unset, .unset, .unset] [(.int (v0_2 p1 p0)), (.int (0 : Int32)), (.ref b14), (.ref b14)])) rfl rfl (hb hby at_191)
  have Vw16 := Ia.set (V_b14) (j := (0 : Int32)) (x := (v0_2 p1 p0)) ⟨by decide, by decide⟩ rfl W16
  have N16 := Fr.snoc X16 N13 g_b14
  have Z16 : n0 ≤ h16.size := Nat.le_trans Z14 (Keep.of_wr W16).1
  have K16 : Keep h0 h16 [] := (K14).wr W16 (Or.inr sz_b14)
  obtain ⟨cl17, Ar17, hin17, hat17⟩ := Ia.get (Vw16) (j := (1 : Int32)) ⟨by decide, by decide⟩
  obtain ⟨T18, h18, X18, e18, W18, st18⟩ := stI X16 hx hZ e16 Ar17 (j := (1 : Int32)) hin17 (g := (mkF m 196 #[.val (.int p0), .val (.int p1), .val (.int p2), .val (.int p3), .val (.long q0), .second, .val (.int (v0_1 p0)), .val (.int (v0_2 p1 p0)), .val (.int (v0_3 p1 p0)), .val (.int (v0_4 p1 p0)), .val (.int (v0_5 p2 p1 p0 p3)), .val (.int (v0_6 p2 p1 p0 p3)), .val (.int (v0_7 p2 p1 p0 p3)), .val (.int (v0_8 p2 p1 p0 p3)), .val (.int (v0_9 p2)), .val (.ref b5), .unset, .unset, .unset, .unset, .unset, .unset, .unset] [(.int (v0_3 p1 p0)), (.int (1 : Int32)), (.ref b14), (.ref b14)])) rfl rfl (hb hby at_196)
  have Vw18 := Ia.set (Vw16) (j := (1 : Int32)) (x := (v0_3 p1 p0)) ⟨by decide, by decide⟩ rfl W18
  have N18 := Fr.snoc X18 N16 g_b14
  have Z18 : n0 ≤ h18.size := Nat.le_trans Z16 (Keep.of_wr W18).1
  have K18 : Keep h0 h18 [] := (K16).wr W18 (Or.inr sz_b14)
  obtain ⟨cl19, Ar19, hin19, hat19⟩ := Ia.get (Vw18) (j := (2 : Int32)) ⟨by decide, by decide⟩
  obtain ⟨T20, h20, X20, e20, W20, st20⟩ := stI X18 hx hZ e18 Ar19 (j := (2 : Int32)) hin19 (g := (mkF m 201 #[.val (.int p0), .val (.int p1), .val (.int p2), .val (.int p3), .val (.long q0), .second, .val (.int (v0_1 p0)), .val (.int (v0_2 p1 p0)), .val (.int (v0_3 p1 p0)), .val (.int (v0_4 p1 p0)), .val (.int (v0_5 p2 p1 p0 p3)), .val (.int (v0_6 p2 p1 p0 p3)), .val (.int (v0_7 p2 p1 p0 p3)), .val (.int (v0_8 p2 p1 p0 p3)), .val (.int (v0_9 p2)), .val (.ref b5), .unset, .unset, .unset, .unset, .unset, .unset, .unset] [(.int (v0_4 p1 p0)), (.int (2 : Int32)), (.ref b14), (.ref b14)])) rfl rfl (hb hby at_201)
  have Vw20 := Ia.set (Vw18) (j := (2 : Int32)) (x := (v0_4 p1 p0)) ⟨by decide, by decide⟩ rfl W20
  have N20 := Fr.snoc X20 N18 g_b14
  have Z20 : n0 ≤ h20.size := Nat.le_trans Z18 (Keep.of_wr W20).1
  have K20 : Keep h0 h20 [] := (K18).wr W20 (Or.inr sz_b14)
  obtain ⟨T21, h21, k21, X21, e21, E21, A21, st21⟩ := newP X20 hx hZ (hw _ (List.mem_of_getElem? (i := 4) rfl)) e20 (g := (mkF m 205 #[.val (.int p0), .val (.int p1), .val (.int p2), .val (.int p3), .val (.long q0), .second, .val (.int (v0_1 p0)), .val (.int (v0_2 p1 p0)), .val (.int (v0_3 p1 p0)), .val (.int (v0_4 p1 p0)), .val (.int (v0_5 p2 p1 p0 p3)), .val (.int (v0_6 p2 p1 p0 p3)), .val (.int (v0_7 p2 p1 p0 p3)), .val (.int (v0_8 p2 p1 p0 p3)), .val (.int (v0_9 p2)), .val (.ref b5), .val (.ref b14), .unset, .unset, .unset, .unset, .unset, .unset] [(.int (4 : Int32))])) rfl (hb hby at_205) rfl (by decide) (cap := 4) (by decide) (by decide) (by decide) (by decide)
  obtain ⟨b21, g21⟩ : ∃ z, z = h20.size := ⟨_, rfl⟩
  rw [← g21] at A21 st21
  have g_b21 : n0 ≤ b21 := Nat.le_trans Z20 (Nat.le_of_eq g21.symm)
  have sz_b21 : h0.size ≤ b21 := Nat.le_trans (K20).1 (Nat.le_of_eq g21.symm)
  have M22 := ((((Vw13.ext E14).other W16 ne_b5_b14).other W18 ne_b5_b14).other W20 ne_b5_b14)
  have ne_b5_b21 : b5 ≠ b21 := Nat.ne_of_lt (Nat.lt_of_lt_of_le (M22).lt (Nat.le_of_eq g21.symm))
  have ne_b14_b21 : b14 ≠ b21 := Nat.ne_of_lt (Nat.lt_of_lt_of_le (Vw20).lt (Nat.le_of_eq g21.symm))
  have Z21 : n0 ≤ h21.size := Nat.le_trans Z20 E21.1
  have K21 : Keep h0 h21 [] := (K20).ext E21
  have V_b21 := Ia.new A21 (by decide) rfl
  obtain ⟨cl23, Ar23, hin23, hat23⟩ := Ia.get (V_b21) (j := (0 : Int32)) ⟨by decide, by decide⟩
  obtain ⟨T24, h24, X24, e24, W24, st24⟩ := stI X21 hx hZ e21 Ar23 (j := (0 : Int32)) hin23 (g := (mkF m 211 #[.val (.int p0), .val (.int p1), .val (.int p2), .val (.int p3), .val (.long q0), .second, .val (.int (v0_1 p0)), .val (.int (v0_2 p1 p0)), .val (.int (v0_3 p1 p0)), .val (.int (v0_4 p1 p0)), .val (.int (v0_5 p2 p1 p0 p3)), .val (.int (v0_6 p2 p1 p0 p3)), .val (.int (v0_7 p2 p1 p0 p3)), .val (.int (v0_8 p2 p1 p0 p3)), .val (.int (v0_9 p2)), .val (.ref b5), .val (.ref b14), .unset, .unset, .unset, .unset, .unset, .unset] [(.int (v0_5 p2 p1 p0 p3)), (.int (0 : Int32)), (.ref b21), (.ref b21)])) rfl rfl (hb hby at_211)
  have Vw24 := Ia.set (V_b21) (j := (0 : Int32)) (x := (v0_5 p2 p1 p0 p3)) ⟨by decide, by decide⟩ rfl W24
  have N24 := Fr.snoc X24 N20 g_b21
  have Z24 : n0 ≤ h24.size := Nat.le_trans Z21 (Keep.of_wr W24).1
  have K24 : Keep h0 h24 [] := (K21).wr W24 (Or.inr sz_b21)
  obtain ⟨cl25, Ar25, hin25, hat25⟩ := Ia.get (Vw24) (j := (1 : Int32)) ⟨by decide, by decide⟩
  obtain ⟨T26, h26, X26, e26, W26, st26⟩ := stI X24 hx hZ e24 Ar25 (j := (1 : Int32)) hin25 (g := (mkF m 216 #[.val (.int p0), .val (.int p1), .val (.int p2), .val (.int p3), .val (.long q0), .second, .val (.int (v0_1 p0)), .val (.int (v0_2 p1 p0)), .val (.int (v0_3 p1 p0)), .val (.int (v0_4 p1 p0)), .val (.int (v0_5 p2 p1 p0 p3)), .val (.int (v0_6 p2 p1 p0 p3)), .val (.int (v0_7 p2 p1 p0 p3)), .val (.int (v0_8 p2 p1 p0 p3)), .val (.int (v0_9 p2)), .val (.ref b5), .val (.ref b14), .unset, .unset, .unset, .unset, .unset, .unset] [(.int (v0_6 p2 p1 p0 p3)), (.int (1 : Int32)), (.ref b21), (.ref b21)])) rfl rfl (hb hby at_216)
  have Vw26 := Ia.set (Vw24) (j := (1 : Int32)) (x := (v0_6 p2 p1 p0 p3)) ⟨by decide, by decide⟩ rfl W26
  have N26 := Fr.snoc X26 N24 g_b21
  have Z26 : n0 ≤ h26.size := Nat.le_trans Z24 (Keep.of_wr W26).1
  have K26 : Keep h0 h26 [] := (K24).wr W26 (Or.inr sz_b21)
  obtain ⟨cl27, Ar27, hin27, hat27⟩ := Ia.get (Vw26) (j := (2 : Int32)) ⟨by decide, by decide⟩
  obtain ⟨T28, h28, X28, e28, W28, st28⟩ := stI X26 hx hZ e26 Ar27 (j := (2 : Int32)) hin27 (g := (mkF m 221 #[.val (.int p0), .val (.int p1), .val (.int p2), .val (.int p3), .val (.long q0), .second, .val (.int (v0_1 p0)), .val (.int (v0_2 p1 p0)), .val (.int (v0_3 p1 p0)), .val (.int (v0_4 p1 p0)), .val (.int (v0_5 p2 p1 p0 p3)), .val (.int (v0_6 p2 p1 p0 p3)), .val (.int (v0_7 p2 p1 p0 p3)), .val (.int (v0_8 p2 p1 p0 p3)), .val (.int (v0_9 p2)), .val (.ref b5), .val (.ref b14), .unset, .unset, .unset, .unset, .unset, .unset] [(.int (v0_7 p2 p1 p0 p3)), (.int (2 : Int32)), (.ref b21), (.ref b21)])) rfl rfl (hb hby at_221)
  have Vw28 := Ia.set (Vw26) (j := (2 : Int32)) (x := (v0_7 p2 p1 p0 p3)) ⟨by decide, by decide⟩ rfl W28
  have N28 := Fr.snoc X28 N26 g_b21
  have Z28 : n0 ≤ h28.size := Nat.le_trans Z26 (Keep.of_wr W28).1
  have K28 : Keep h0 h28 [] := (K26).wr W28 (Or.inr sz_b21)
  obtain ⟨cl29, Ar29, hin29, hat29⟩ := Ia.get (Vw28) (j := (3 : Int32)) ⟨by decide, by decide⟩
  obtain ⟨T30, h30, X30, e30, W30, st30⟩ := stI X28 hx hZ e28 Ar29 (j := (3 : Int32)) hin29 (g := (mkF m 226 #[.val (.int p0), .val (.int p1), .val (.int p2), .val (.int p3), .val (.long q0), .second, .val (.int (v0_1 p0)), .val (.int (v0_2 p1 p0)), .val (.int (v0_3 p1 p0)), .val (.int (v0_4 p1 p0)), .val (.int (v0_5 p2 p1 p0 p3)), .val (.int (v0_6 p2 p1 p0 p3)), .val (.int (v0_7 p2 p1 p0 p3)), .val (.int (v0_8 p2 p1 p0 p3)), .val (.int (v0_9 p2)), .val (.ref b5), .val (.ref b14), .unset, .unset, .unset, .unset, .unset, .unset] [(.int (v0_8 p2 p1 p0 p3)), (.int (3 : Int32)), (.ref b21), (.ref b21)])) rfl rfl (hb hby at_226)
  have Vw30 := Ia.set (Vw28) (j := (3 : Int32)) (x := (v0_8 p2 p1 p0 p3)) ⟨by decide, by decide⟩ rfl W30
  have N30 := Fr.snoc X30 N28 g_b21
  have Z30 : n0 ≤ h30.size := Nat.le_trans Z28 (Keep.of_wr W30).1
  have K30 : Keep h0 h30 [] := (K28).wr W30 (Or.inr sz_b21)
  obtain ⟨T31, h31, k31, X31, e31, E31, A31, st31⟩ := newP X30 hx hZ (hw _ (List.mem_of_getElem? (i := 4) rfl)) e30 (g := (mkF m 232 #[.val (.int p0), .val (.int p1), .val (.int p2), .val (.int p3), .val (.long q0), .second, .val (.int (v0_1 p0)), .val (.int (v0_2 p1 p0)), .val (.int (v0_3 p1 p0)), .val (.int (v0_4 p1 p0)), .val (.int (v0_5 p2 p1 p0 p3)), .val (.int (v0_6 p2 p1 p0 p3)), .val (.int (v0_7 p2 p1 p0 p3)), .val (.int (v0_8 p2 p1 p0 p3)), .val (.int (v0_9 p2)), .val (.ref b5), .val (.ref b14), .val (.ref b21), .unset, .unset, .unset, .unset, .unset] [(.int (129 : Int32))])) rfl (hb hby at_232) rfl (by decide) (cap := 129) (by decide) (by decide) (by decide) (by decide)
  obtain ⟨b31, g31⟩ : ∃ z, z = h30.size := ⟨_, rfl⟩
  rw [← g31] at A31 st31
  have g_b31 : n0 ≤ b31 := Nat.le_trans Z30 (Nat.le_of_eq g31.symm)
  have sz_b31 : h0.size ≤ b31 := Nat.le_trans (K30).1 (Nat.le_of_eq g31.symm)
  have M32 := (((((M22.ext E21).other W24 ne_b5_b21).other W26 ne_b5_b21).other W28 ne_b5_b21).other W30 ne_b5_b21)
  have ne_b5_b31 : b5 ≠ b31 := Nat.ne_of_lt (Nat.lt_of_lt_of_le (M32).lt (Nat.le_of_eq g31.symm))
  have M33 := (((((Vw20.ext E21).other W24 ne_b14_b21).other W26 ne_b14_b21).other W28 ne_b14_b21).other W30 ne_b14_b21)
  have ne_b14_b31 : b14 ≠ b31 := Nat.ne_of_lt (Nat.lt_of_lt_of_le (M33).lt (Nat.le_of_eq g31.symm))
  have ne_b21_b31 : b21 ≠ b31 := Nat.ne_of_lt (Nat.lt_of_lt_of_le (Vw30).lt (Nat.le_of_eq g31.symm))
  have Z31 : n0 ≤ h31.size := Nat.le_trans Z30 E31.1
  have K31 : Keep h0 h31 [] := (K30).ext E31
  have V_b31 := Ia.new A31 (by decide) rfl
  obtain ⟨T34, h34, X34, e34, E34, A34, D34, -, st34⟩ := newO X31 hx hZ hown (hw _ (List.mem_of_getElem? (i := 5) rfl)) (hw _ (List.mem_of_getElem? (i := 6) rfl)) (hw _ (List.mem_of_getElem? (i := 7) rfl)) e31 (g := (mkF m 236 #[.val (.int p0), .val (.int p1), .val (.int p2), .val (.int p3), .val (.long q0), .second, .val (.int (v0_1 p0)), .val (.int (v0_2 p1 p0)), .val (.int (v0_3 p1 p0)), .val (.int (v0_4 p1 p0)), .val (.int (v0_5 p2 p1 p0 p3)), .val (.int (v0_6 p2 p1 p0 p3)), .val (.int (v0_7 p2 p1 p0 p3)), .val (.int (v0_8 p2 p1 p0 p3)), .val (.int (v0_9 p2)), .val (.ref b5), .val (.ref b14), .val (.ref b21), .val (.ref b31), .unset, .unset, .unset, .unset] [])) rfl (hb hby at_236) (by decide) (by decide)
  obtain ⟨b34, g34⟩ : ∃ z, z = h31.size := ⟨_, rfl⟩
  rw [← g34] at A34 D34 st34
  have g_b34 : n0 ≤ b34 := Nat.le_trans Z31 (Nat.le_of_eq g34.symm)
  have sz_b34 : h0.size ≤ b34 := Nat.le_trans (K31).1 (Nat.le_of_eq g34.symm)
  have ne_b5_b34 : b5 ≠ b34 := Nat.ne_of_lt (Nat.lt_of_lt_of_le ((M32.ext E31)).lt (Nat.le_of_eq g34.symm))
  have ne_b14_b34 : b14 ≠ b34 := Nat.ne_of_lt (Nat.lt_of_lt_of_le ((M33.ext E31)).lt (Nat.le_of_eq g34.symm))
  have ne_b21_b34 : b21 ≠ b34 := Nat.ne_of_lt (Nat.lt_of_lt_of_le ((Vw30.ext E31)).lt (Nat.le_of_eq g34.symm))
  have ne_b31_b34 : b31 ≠ b34 := Nat.ne_of_lt (Nat.lt_of_lt_of_le (V_b31).lt (Nat.le_of_eq g34.symm))
  have Z34 : n0 ≤ h34.size := Nat.le_trans Z31 E34.1
  have K34 : Keep h0 h34 [] := (K31).ext E34
  have F_state_b34 : Fld Z h34 b34 "com/example/knotwork/knotwork/generate/SeededRandom" "state" "J" (.long (0 : Int64)) := D34 (Or.inl (hw _ (List.mem_of_getElem? (i := 15) rfl))) (ty := .long) (by decide)
  obtain ⟨_, _, ⟨T35, L35, k35, n35⟩, -, X35, ⟨Lc35, hQ35, l35, y35, z35⟩, st35⟩ := X34.specialBack hx (y := (⟨"com/example/knotwork/knotwork/generate/SeededRandom", "<init>", "(J)V"⟩ : MethodName)) rfl hown (mvT hZ (hw _ (List.mem_of_getElem? (i := 8) rfl))) (mvT hZ (hw _ (List.mem_of_getElem? (i := 9) rfl))) (mvT hZ (hw _ (List.mem_of_getElem? (i := 10) rfl))) (by decide) (backOf (W := 1) (rm2 l Z a0 hw [] b34 q0 (.long (0 : Int64)) h34 n0 Z34 (A34) g_b34 (F_state_b34)) hZ (hw _ (List.mem_of_getElem? (i := 10) rfl)) (hw _ (List.mem_of_getElem? (i := 7) rfl)) (by decide) (by decide)) (g := (mkF m 242 #[.val (.int p0), .val (.int p1), .val (.int p2), .val (.int p3), .val (.long q0), .second, .val (.int (v0_1 p0)), .val (.int (v0_2 p1 p0)), .val (.int (v0_3 p1 p0)), .val (.int (v0_4 p1 p0)), .val (.int (v0_5 p2 p1 p0 p3)), .val (.int (v0_6 p2 p1 p0 p3)), .val (.int (v0_7 p2 p1 p0 p3)), .val (.int (v0_8 p2 p1 p0 p3)), .val (.int (v0_9 p2)), .val (.ref b5), .val (.ref b14), .val (.ref b21), .val (.ref b31), .unset, .unset, .unset, .unset] [(.long q0), (.ref b34), (.ref b34)])) rfl (by rw [hml]; rfl) (Steps.refl _) (a := b34) (argsL := [(.long q0)]) (rest := [(.ref b34)]) (lenOf pd_8 rfl) rfl (by show 2 * 0 + _ ≤ _; exact Nat.le_of_eq rfl) (hb hby at_242) (fun _ _ => ⟨rfl, e34, (by decide : 5 + 0 ≤ _), (by decide : 141 + 0 ≤ _)⟩)
  dsimp only [Pt.U, Pt.locs, Pt.cells, Pt.slots] at X35 l35 y35 z35 st35 hQ35
  rw [l35, y35, z35] at X35
  obtain ⟨rfl, N35q, Kq35, Fq35⟩ := hQ35
  have N35 := Fr.app N30 N35q
  have Z35 : n0 ≤ T35.heap.size := Nat.le_trans Z34 Kq35.1
  have K35 : Keep h0 T35.heap [] := (K34).trans Kq35 (allS (Or.inr sz_b34) all0)
  obtain ⟨T36, h36, X36, e36, E36, A36, D36, -, st36⟩ := newO X35 hx hZ hown (hw _ (List.mem_of_getElem? (i := 16) rfl)) (hw _ (List.mem_of_getElem? (i := 17) rfl)) (hw _ (List.mem_of_getElem? (i := 18) rfl)) rfl (g := (mkF m 247 #[.val (.int p0), .val (.int p1), .val (.int p2), .val (.int p3), .val (.long q0), .second, .val (.int (v0_1 p0)), .val (.int (v0_2 p1 p0)), .val (.int (v0_3 p1 p0)), .val (.int (v0_4 p1 p0)), .val (.int (v0_5 p2 p1 p0 p3)), .val (.int (v0_6 p2 p1 p0 p3)), .val (.int (v0_7 p2 p1 p0 p3)), .val (.int (v0_8 p2 p1 p0 p3)), .val (.int (v0_9 p2)), .val (.ref b5), .val (.ref b14), .val (.ref b21), .val (.ref b31), .val (.ref b34), .unset, .unset, .unset] [])) rfl (hb hby at_247) (by decide) (by decide)
  obtain ⟨b36, g36⟩ : ∃ z, z = T35.heap.size := ⟨_, rfl⟩
  rw [← g36] at A36 D36 st36
  have g_b36 : n0 ≤ b36 := Nat.le_trans Z35 (Nat.le_of_eq g36.symm)
  have sz_b36 : h0.size ≤ b36 := Nat.le_trans (K35).1 (Nat.le_of_eq g36.symm)
  have M37 := (((M32.ext E31).ext E34).keep Kq35 (ninS ne_b5_b34 nin0))
  have ne_b5_b36 : b5 ≠ b36 := Nat.ne_of_lt (Nat.lt_of_lt_of_le (M37).lt (Nat.le_of_eq g36.symm))
  have M38 := (((M33.ext E31).ext E34).keep Kq35 (ninS ne_b14_b34 nin0))
  have ne_b14_b36 : b14 ≠ b36 := Nat.ne_of_lt (Nat.lt_of_lt_of_le (M38).lt (Nat.le_of_eq g36.symm))
  have M39 := (((Vw30.ext E31).ext E34).keep Kq35 (ninS ne_b21_b34 nin0))
  have ne_b21_b36 : b21 ≠ b36 := Nat.ne_of_lt (Nat.lt_of_lt_of_le (M39).lt (Nat.le_of_eq g36.symm))
  have ne_b31_b36 : b31 ≠ b36 := Nat.ne_of_lt (Nat.lt_of_lt_of_le (((V_b31.ext E34).keep Kq35 (ninS ne_b31_b34 nin0))).lt (Nat.le_of_eq g36.symm))
  have ne_b34_b36 : b34 ≠ b36 := Nat.ne_of_lt (Nat.lt_of_lt_of_le ((A34.keep Kq35)).lt (Nat.le_of_eq g36.symm))
  have Z36 : n0 ≤ h36.size := Nat.le_trans Z35 E36.1
  have K36 : Keep h0 h36 [] := (K35).ext E36
  have F_bound_b36 : Fld Z h36 b36 "com/example/knotwork/knotwork/generate/FreeNumbers" "bound" "I" (.int (0 : Int32)) := D36 (Or.inr (hw _ (List.mem_of_getElem? (i := 24) rfl))) (ty := .int) (by decide)
  have F_taken_b36 : Fld Z h36 b36 "com/example/knotwork/knotwork/generate/FreeNumbers" "taken" "[J" .null := D36 (Or.inr (hw _ (List.mem_of_getElem? (i := 29) rfl))) (ty := (.array .long)) (by decide)
  have F_takenCount_b36 : Fld Z h36 b36 "com/example/knotwork/knotwork/generate/FreeNumbers" "takenCount" "I" (.int (0 : Int32)) := D36 (Or.inl (hw _ (List.mem_of_getElem? (i := 40) rfl))) (ty := .int) (by decide)
  obtain ⟨_, _, ⟨T40, L40, k40, n40⟩, -, X40, ⟨Lc40, hQ40, l40, y40, z40⟩, st40⟩ := X36.specialBack hx (y := (⟨"com/example/knotwork/knotwork/generate/FreeNumbers", "<init>", "(I)V"⟩ : MethodName)) rfl hown (mvT hZ (hw _ (List.mem_of_getElem? (i := 19) rfl))) (mvT hZ (hw _ (List.mem_of_getElem? (i := 20) rfl))) (mvT hZ (hw _ (List.mem_of_getElem? (i := 21) rfl))) (by decide) (backOf (W := 1) (rm4 l Z a0 hw [] b36 (v0_1 p0) (.int (0 : Int32)) .null (.int (0 : Int32)) h36 n0 Z36 (A36) g_b36 (F_bound_b36) (F_taken_b36) (F_takenCount_b36) (own_nl p0).1 (own_nl p0).2) hZ (hw _ (List.mem_of_getElem? (i := 21) rfl)) (hw _ (List.mem_of_getElem? (i := 18) rfl)) (by decide) (by decide)) (g := (mkF m 253 #[.val (.int p0), .val (.int p1), .val (.int p2), .val (.int p3), .val (.long q0), .second, .val (.int (v0_1 p0)), .val (.int (v0_2 p1 p0)), .val (.int (v0_3 p1 p0)), .val (.int (v0_4 p1 p0)), .val (.int (v0_5 p2 p1 p0 p3)), .val (.int (v0_6 p2 p1 p0 p3)), .val (.int (v0_7 p2 p1 p0 p3)), .val (.int (v0_8 p2 p1 p0 p3)), .val (.int (v0_9 p2)), .val (.ref b5), .val (.ref b14), .val (.ref b21), .val (.ref b31), .val (.ref b34), .unset, .unset, .unset] [(.int (v0_1 p0)), (.ref b36), (.ref b36)])) rfl (by rw [hml]; rfl) (Steps.refl _) (a := b36) (argsL := [(.int (v0_1 p0))]) (rest := [(.ref b36)]) (lenOf pd_5 rfl) rfl (by show 2 * 0 + _ ≤ _; exact Nat.le_of_eq rfl) (hb hby at_253) (fun _ _ => ⟨rfl, e36, (by decide : 6 + 1 ≤ _), (by decide : 144 + 2 ≤ _)⟩)
  dsimp only [Pt.U, Pt.locs, Pt.cells, Pt.slots] at X40 l40 y40 z40 st40 hQ40
  rw [l40, y40, z40] at X40
  obtain ⟨rfl, N40q, ta, ka, g_ta, z_ta, ne_t, Kq40, Fq40_0, Fq40_1, Fq40_2, Vq40⟩ := hQ40
  have N40 := Fr.app N35 N40q
  have sz_ta : h0.size ≤ ta := Nat.le_trans (K36).1 z_ta
  have ne_b5_ta : b5 ≠ ta := Nat.ne_of_lt (Nat.lt_of_lt_of_le ((M37.ext E36)).lt z_ta)
  have ne_b14_ta : b14 ≠ ta := Nat.ne_of_lt (Nat.lt_of_lt_of_le ((M38.ext E36)).lt z_ta)
  have ne_b21_ta : b21 ≠ ta := Nat.ne_of_lt (Nat.lt_of_lt_of_le ((M39.ext E36)).lt z_ta)
  have M41 := (((V_b31.ext E34).keep Kq35 (ninS ne_b31_b34 nin0)).ext E36)
  have ne_b31_ta : b31 ≠ ta := Nat.ne_of_lt (Nat.lt_of_lt_of_le (M41).lt z_ta)
  have ne_b34_ta : b34 ≠ ta := Nat.ne_of_lt (Nat.lt_of_lt_of_le (((A34.keep Kq35).ext E36)).lt z_ta)
  have Z40 : n0 ≤ T40.heap.size := Nat.le_trans Z36 Kq40.1
  have K40 : Keep h0 T40.heap [] := (K36).trans Kq40 (allS (Or.inr sz_b36) all0)
  obtain ⟨cq42, kq42, q42a, q42b, q42c⟩ := isOf hZ rfl ((A36.keep Kq40))
  obtain ⟨_, _, ⟨T42, L42, k42, n42⟩, -, X42, ⟨Lc42, hQ42, l42, y42, z42⟩, st42⟩ := X40.virtualBack hx (y := (⟨"com/example/knotwork/knotwork/generate/FreeNumbers", "take", "(I)V"⟩ : MethodName)) (z := (⟨"com/example/knotwork/knotwork/generate/FreeNumbers", "take", "(I)V"⟩ : MethodName)) hown (mvT hZ (hw _ (List.mem_of_getElem? (i := 30) rfl))) (mvT hZ (hw _ (List.mem_of_getElem? (i := 31) rfl))) (notFace_of_selects (args := #[]) (mvT hZ (hw _ (List.mem_of_getElem? (i := 33) rfl)))) (mvT hZ (hw _ (List.mem_of_getElem? (i := 33) rfl))) (mvT hZ (hw _ (List.mem_of_getElem? (i := 32) rfl))) (by decide) (backOf (W := 0) (rm5 l Z a0 hw [] b36 (v0_2 p1 p0) (((((v0_1 p0).toInt64) + (63 : Int64)) / (64 : Int64)).toInt32) ta (0 : Int32) (v0_1 p0) ka (w0_17 p0) T40.heap n0 Z40 ((A36.keep Kq40)) g_b36 (Fq40_1) (Fq40_2) (Fq40_0) (Vq40) g_ta (ne_t) (own_ix (own_ra p1 p0))) hZ (hw _ (List.mem_of_getElem? (i := 34) rfl)) (hw _ (List.mem_of_getElem? (i := 18) rfl)) (by decide) (by decide)) q42a q42c (g := (mkF m 262 #[.val (.int p0), .val (.int p1), .val (.int p2), .val (.int p3), .val (.long q0), .second, .val (.int (v0_1 p0)), .val (.int (v0_2 p1 p0)), .val (.int (v0_3 p1 p0)), .val (.int (v0_4 p1 p0)), .val (.int (v0_5 p2 p1 p0 p3)), .val (.int (v0_6 p2 p1 p0 p3)), .val (.int (v0_7 p2 p1 p0 p3)), .val (.int (v0_8 p2 p1 p0 p3)), .val (.int (v0_9 p2)), .val (.ref b5), .val (.ref b14), .val (.ref b21), .val (.ref b31), .val (.ref b34), .val (.ref b36), .unset, .unset] [(.int (v0_2 p1 p0)), (.ref b36)])) rfl (by rw [hml]; rfl) (Steps.refl _) (argsL := [(.int (v0_2 p1 p0))]) (rest := []) (lenOf pd_5 rfl) rfl (by show 2 * 0 + _ ≤ _; exact Nat.le_of_eq rfl) (hb hby at_262) (fun _ _ => ⟨rfl, rfl, (by decide : 7 + 0 ≤ _), (by decide : 146 + 0 ≤ _)⟩)
  dsimp only [Pt.U, Pt.locs, Pt.cells, Pt.slots] at X42 l42 y42 z42 st42 hQ42
  rw [l42, y42, z42] at X42
  obtain ⟨rfl, N42q, Kq42, Fq42_0, Fq42_1, Fq42_2, Vq42_0⟩ := hQ42
  have N42 := Fr.app N40 N42q
  have Z42 : n0 ≤ T42.heap.size := Nat.le_trans Z40 Kq42.1
  have K42 : Keep h0 T42.heap [] := (K40).trans Kq42 (allS (Or.inr sz_b36) (allS (Or.inr sz_ta) all0))
  obtain ⟨cq43, kq43, q43a, q43b, q43c⟩ := isOf hZ rfl (((A36.keep Kq40).keep Kq42))
  obtain ⟨_, _, ⟨T43, L43, k43, n43⟩, -, X43, ⟨Lc43, hQ43, l43, y43, z43⟩, st43⟩ := X42.virtualBack hx (y := (⟨"com/example/knotwork/knotwork/generate/FreeNumbers", "take", "(I)V"⟩ : MethodName)) (z := (⟨"com/example/knotwork/knotwork/generate/FreeNumbers", "take", "(I)V"⟩ : MethodName)) hown (mvT hZ (hw _ (List.mem_of_getElem? (i := 30) rfl))) (mvT hZ (hw _ (List.mem_of_getElem? (i := 31) rfl))) (notFace_of_selects (args := #[]) (mvT hZ (hw _ (List.mem_of_getElem? (i := 33) rfl)))) (mvT hZ (hw _ (List.mem_of_getElem? (i := 33) rfl))) (mvT hZ (hw _ (List.mem_of_getElem? (i := 32) rfl))) (by decide) (backOf (W := 0) (rm5 l Z a0 hw [] b36 (v0_3 p1 p0) (((((v0_1 p0).toInt64) + (63 : Int64)) / (64 : Int64)).toInt32) ta (g5_takenCount (v0_2 p1 p0) (0 : Int32) (w0_17 p0)) (v0_1 p0) ka (w0_18 p1 p0) T42.heap n0 Z42 (((A36.keep Kq40).keep Kq42)) g_b36 (Fq42_0) (Fq42_1) (Fq42_2) (Vq42_0) g_ta (ne_t) (own_ix (own_rb p1 p0))) hZ (hw _ (List.mem_of_getElem? (i := 34) rfl)) (hw _ (List.mem_of_getElem? (i := 18) rfl)) (by decide) (by decide)) q43a q43c (g := (mkF m 269 #[.val (.int p0), .val (.int p1), .val (.int p2), .val (.int p3), .val (.long q0), .second, .val (.int (v0_1 p0)), .val (.int (v0_2 p1 p0)), .val (.int (v0_3 p1 p0)), .val (.int (v0_4 p1 p0)), .val (.int (v0_5 p2 p1 p0 p3)), .val (.int (v0_6 p2 p1 p0 p3)), .val (.int (v0_7 p2 p1 p0 p3)), .val (.int (v0_8 p2 p1 p0 p3)), .val (.int (v0_9 p2)), .val (.ref b5), .val (.ref b14), .val (.ref b21), .val (.ref b31), .val (.ref b34), .val (.ref b36), .unset, .unset] [(.int (v0_3 p1 p0)), (.ref b36)])) rfl (by rw [hml]; rfl) (Steps.refl _) (argsL := [(.int (v0_3 p1 p0))]) (rest := []) (lenOf pd_5 rfl) rfl (by show 2 * 0 + _ ≤ _; exact Nat.le_of_eq rfl) (hb hby at_269) (fun _ _ => ⟨rfl, rfl, (by decide : 7 + 0 ≤ _), (by decide : 146 + 0 ≤ _)⟩)
  dsimp only [Pt.U, Pt.locs, Pt.cells, Pt.slots] at X43 l43 y43 z43 st43 hQ43
  rw [l43, y43, z43] at X43
  obtain ⟨rfl, N43q, Kq43, Fq43_0, Fq43_1, Fq43_2, Vq43_0⟩ := hQ43
  have N43 := Fr.app N42 N43q
  have Z43 : n0 ≤ T43.heap.size := Nat.le_trans Z42 Kq43.1
  have K43 : Keep h0 T43.heap [] := (K42).trans Kq43 (allS (Or.inr sz_b36) (allS (Or.inr sz_ta) all0))
  have M44 := (((A36.keep Kq40).keep Kq42).keep Kq43)
  obtain ⟨cq45, kq45, q45a, q45b, q45c⟩ := isOf hZ rfl (M44)
  obtain ⟨_, _, ⟨T45, L45, k45, n45⟩, -, X45, ⟨Lc45, hQ45, l45, y45, z45⟩, st45⟩ := X43.virtualBack hx (y := (⟨"com/example/knotwork/knotwork/generate/FreeNumbers", "take", "(I)V"⟩ : MethodName)) (z := (⟨"com/example/knotwork/knotwork/generate/FreeNumbers", "take", "(I)V"⟩ : MethodName)) hown (mvT hZ (hw _ (List.mem_of_getElem? (i := 30) rfl))) (mvT hZ (hw _ (List.mem_of_getElem? (i := 31) rfl))) (notFace_of_selects (args := #[]) (mvT hZ (hw _ (List.mem_of_getElem? (i := 33) rfl)))) (mvT hZ (hw _ (List.mem_of_getElem? (i := 33) rfl))) (mvT hZ (hw _ (List.mem_of_getElem? (i := 32) rfl))) (by decide) (backOf (W := 0) (rm5 l Z a0 hw [] b36 (v0_4 p1 p0) (((((v0_1 p0).toInt64) + (63 : Int64)) / (64 : Int64)).toInt32) ta (g5_takenCount (v0_3 p1 p0) (g5_takenCount (v0_2 p1 p0) (0 : Int32) (w0_17 p0)) (w0_18 p1 p0)) (v0_1 p0) ka (w0_19 p1 p0) T43.heap n0 Z43 (M44) g_b36 (Fq43_0) (Fq43_1) (Fq43_2) (Vq43_0) g_ta (ne_t) (own_ix (own_rc p1 p0))) hZ (hw _ (List.mem_of_getElem? (i := 34) rfl)) (hw _ (List.mem_of_getElem? (i := 18) rfl)) (by decide) (by decide)) q45a q45c (g := (mkF m 276 #[.val (.int p0), .val (.int p1), .val (.int p2), .val (.int p3), .val (.long q0), .second, .val (.int (v0_1 p0)), .val (.int (v0_2 p1 p0)), .val (.int (v0_3 p1 p0)), .val (.int (v0_4 p1 p0)), .val (.int (v0_5 p2 p1 p0 p3)), .val (.int (v0_6 p2 p1 p0 p3)), .val (.int (v0_7 p2 p1 p0 p3)), .val (.int (v0_8 p2 p1 p0 p3)), .val (.int (v0_9 p2)), .val (.ref b5), .val (.ref b14), .val (.ref b21), .val (.ref b31), .val (.ref b34), .val (.ref b36), .unset, .unset] [(.int (v0_4 p1 p0)), (.ref b36)])) rfl (by rw [hml]; rfl) (Steps.refl _) (argsL := [(.int (v0_4 p1 p0))]) (rest := []) (lenOf pd_5 rfl) rfl (by show 2 * 0 + _ ≤ _; exact Nat.le_of_eq rfl) (hb hby at_276) (fun _ _ => ⟨rfl, rfl, (by decide : 7 + 0 ≤ _), (by decide : 146 + 0 ≤ _)⟩)
  dsimp only [Pt.U, Pt.locs, Pt.cells, Pt.slots] at X45 l45 y45 z45 st45 hQ45
  rw [l45, y45, z45] at X45
  obtain ⟨rfl, N45q, Kq45, Fq45_0, Fq45_1, Fq45_2, Vq45_0⟩ := hQ45
  have N45 := Fr.app N43 N45q
  have Z45 : n0 ≤ T45.heap.size := Nat.le_trans Z43 Kq45.1
  have K45 : Keep h0 T45.heap [] := (K43).trans Kq45 (allS (Or.inr sz_b36) (allS (Or.inr sz_ta) all0))
  have M46 := (((((M37.ext E36).keep Kq40 (ninS ne_b5_b36 nin0)).keep Kq42 (ninS ne_b5_b36 (ninS ne_b5_ta nin0))).keep Kq43 (ninS ne_b5_b36 (ninS ne_b5_ta nin0))).keep Kq45 (ninS ne_b5_b36 (ninS ne_b5_ta nin0)))
  obtain ⟨cq47, kq47, q47a, q47b, q47c⟩ := isOf hZ rfl ((M44.keep Kq45))
  obtain ⟨_, _, ⟨T47, L47, k47, n47⟩, -, X47, ⟨Lc47, hQ47, l47, y47, z47⟩, st47⟩ := X45.virtualBack hx (y := (⟨"com/example/knotwork/knotwork/generate/FreeNumbers", "free", "([II)V"⟩ : MethodName)) (z := (⟨"com/example/knotwork/knotwork/generate/FreeNumbers", "free", "([II)V"⟩ : MethodName)) hown (mvT hZ (hw _ (List.mem_of_getElem? (i := 41) rfl))) (mvT hZ (hw _ (List.mem_of_getElem? (i := 42) rfl))) (notFace_of_selects (args := #[]) (mvT hZ (hw _ (List.mem_of_getElem? (i := 44) rfl)))) (mvT hZ (hw _ (List.mem_of_getElem? (i := 44) rfl))) (mvT hZ (hw _ (List.mem_of_getElem? (i := 43) rfl))) (by decide) (backOf (W := 0) (rm7 l Z a0 hw [] b36 b5 (v0_9 p2) (((((v0_1 p0).toInt64) + (63 : Int64)) / (64 : Int64)).toInt32) (4 : Int32) (own_N p2) (own_ns p0 p1 p2 p3) ta (g5_takenCount (v0_4 p1 p0) (g5_takenCount (v0_3 p1 p0) (g5_takenCount (v0_2 p1 p0) (0 : Int32) (w0_17 p0)) (w0_18 p1 p0)) (w0_19 p1 p0)) (v0_1 p0) ka (w0_20 p1 p0) k5 (w0_13 p2 p1 p0 p3) T45.heap n0 Z45 ((M44.keep Kq45)) g_b36 (Fq45_0) (Fq45_1) (Fq45_2) (Vq45_0) g_ta (M46) (ne_t) ((Ne.symm ne_b5_b36)) ((Ne.symm ne_b5_ta)) (own_hN p2) (own_hN2 p2) (own_hel p0 p1 p2 p3)) hZ (hw _ (List.mem_of_getElem? (i := 45) rfl)) (hw _ (List.mem_of_getElem? (i := 18) rfl)) (by decide) (by decide)) q47a q47c (g := (mkF m 285 #[.val (.int p0), .val (.int p1), .val (.int p2), .val (.int p3), .val (.long q0), .second, .val (.int (v0_1 p0)), .val (.int (v0_2 p1 p0)), .val (.int (v0_3 p1 p0)), .val (.int (v0_4 p1 p0)), .val (.int (v0_5 p2 p1 p0 p3)), .val (.int (v0_6 p2 p1 p0 p3)), .val (.int (v0_7 p2 p1 p0 p3)), .val (.int (v0_8 p2 p1 p0 p3)), .val (.int (v0_9 p2)), .val (.ref b5), .val (.ref b14), .val (.ref b21), .val (.ref b31), .val (.ref b34), .val (.ref b36), .unset, .unset] [(.int (v0_9 p2)), (.ref b5), (.ref b36)])) rfl (by rw [hml]; rfl) (Steps.refl _) (argsL := [(.ref b5), (.int (v0_9 p2))]) (rest := []) (lenOf pd_6 rfl) rfl (by show 2 * 0 + _ ≤ _; exact Nat.le_of_eq rfl) (hb hby at_285) (fun _ _ => ⟨rfl, rfl, (by decide : 7 + 0 ≤ _), (by decide : 146 + 0 ≤ _)⟩)
  dsimp only [Pt.U, Pt.locs, Pt.cells, Pt.slots] at X47 l47 y47 z47 st47 hQ47
  rw [l47, y47, z47] at X47
  obtain ⟨rfl, N47q, Kq47, Fq47_0, Fq47_2, ts47, tc47, Fq47_1, Vq47, Pq47⟩ := hQ47
  have N47 := Fr.app N45 N47q
  have Z47 : n0 ≤ T47.heap.size := Nat.le_trans Z45 Kq47.1
  have K47 : Keep h0 T47.heap [] := (K45).trans Kq47 (allS (Or.inr sz_b36) (allS (Or.inr sz_ta) all0))
  have M48 := ((((((M38.ext E36).keep Kq40 (ninS ne_b14_b36 nin0)).keep Kq42 (ninS ne_b14_b36 (ninS ne_b14_ta nin0))).keep Kq43 (ninS ne_b14_b36 (ninS ne_b14_ta nin0))).keep Kq45 (ninS ne_b14_b36 (ninS ne_b14_ta nin0))).keep Kq47 (ninS ne_b14_b36 (ninS ne_b14_ta nin0)))
  have M49 := ((((((M39.ext E36).keep Kq40 (ninS ne_b21_b36 nin0)).keep Kq42 (ninS ne_b21_b36 (ninS ne_b21_ta nin0))).keep Kq43 (ninS ne_b21_b36 (ninS ne_b21_ta nin0))).keep Kq45 (ninS ne_b21_b36 (ninS ne_b21_ta nin0))).keep Kq47 (ninS ne_b21_b36 (ninS ne_b21_ta nin0)))
  obtain ⟨_, _, ⟨T50, L50, k50, n50⟩, -, X50, ⟨Lc50, hQ50, l50, y50, z50⟩, st50⟩ := Jvm.LawKit.callS X47 hx (y := (⟨"com/example/knotwork/knotwork/generate/FreeNumbersFreePinLaw", "below", "(I[I[II)I"⟩ : MethodName)) hown (mvT hZ (hw _ (List.mem_of_getElem? (i := 46) rfl))) (mvT hZ (hw _ (List.mem_of_getElem? (i := 47) rfl))) (mvT hZ (hw _ (List.mem_of_getElem? (i := 2) rfl))) (mvT hZ (hw _ (List.mem_of_getElem? (i := 48) rfl))) (by decide) (backOf (W := 1) (rm8 l Z a0 hw [] (v0_1 p0) b14 b21 (v0_9 p2) k14 (w0_16 p1 p0) k21 (w0_13 p2 p1 p0 p3) T47.heap n0 Z47 (M48) (M49)) hZ (hw _ (List.mem_of_getElem? (i := 48) rfl)) (hw _ (List.mem_of_getElem? (i := 2) rfl)) (by decide) (by decide)) (g := (mkF m 298 #[.val (.int p0), .val (.int p1), .val (.int p2), .val (.int p3), .val (.long q0), .second, .val (.int (v0_1 p0)), .val (.int (v0_2 p1 p0)), .val (.int (v0_3 p1 p0)), .val (.int (v0_4 p1 p0)), .val (.int (v0_5 p2 p1 p0 p3)), .val (.int (v0_6 p2 p1 p0 p3)), .val (.int (v0_7 p2 p1 p0 p3)), .val (.int (v0_8 p2 p1 p0 p3)), .val (.int (v0_9 p2)), .val (.ref b5), .val (.ref b14), .val (.ref b21), .val (.ref b31), .val (.ref b34), .val (.ref b36), .unset, .unset] [(.int (v0_9 p2)), (.ref b21), (.ref b14), (.int (v0_1 p0)), (.int (v0_1 p0))])) rfl (by rw [hml]; rfl) (argsL := [(.int (v0_1 p0)), (.ref b14), (.ref b21), (.int (v0_9 p2))]) (rest := [(.int (v0_1 p0))]) (lenOf pd_3 rfl) rfl (by show 2 * 0 + _ ≤ _; exact Nat.le_of_eq rfl) (hb hby at_298) (fun _ _ => ⟨rfl, rfl, (by decide : 7 + 0 ≤ _), (by decide : 146 + 0 ≤ _)⟩)
  dsimp only [Pt.U, Pt.locs, Pt.cells, Pt.slots] at X50 l50 y50 z50 st50 hQ50
  rw [l50, y50, z50] at X50
  obtain ⟨rfl, N50q, e50⟩ := hQ50
  have N50 := Fr.app N47 N50q
  have M51 := (((((M41.keep Kq40 (ninS ne_b31_b36 nin0)).keep Kq42 (ninS ne_b31_b36 (ninS ne_b31_ta nin0))).keep Kq43 (ninS ne_b31_b36 (ninS ne_b31_ta nin0))).keep Kq45 (ninS ne_b31_b36 (ninS ne_b31_ta nin0))).keep Kq47 (ninS ne_b31_b36 (ninS ne_b31_ta nin0)))
  obtain ⟨cq52, kq52, q52a, q52b, q52c⟩ := isOf hZ e50 (((M44.keep Kq45).keep Kq47))
  obtain ⟨_, _, ⟨T52, L52, k52, n52⟩, -, X52, ⟨Lc52, hQ52, l52, y52, z52⟩, st52⟩ := X50.virtualBack hx (y := (⟨"com/example/knotwork/knotwork/generate/FreeNumbers", "takeDrawn", "(ILjava/util/function/IntSupplier;Lcom/example/knotwork/knotwork/generate/SeededRandom;[II)V"⟩ : MethodName)) (z := (⟨"com/example/knotwork/knotwork/generate/FreeNumbers", "takeDrawn", "(ILjava/util/function/IntSupplier;Lcom/example/knotwork/knotwork/generate/SeededRandom;[II)V"⟩ : MethodName)) hown (mvT hZ (hw _ (List.mem_of_getElem? (i := 52) rfl))) (mvT hZ (hw _ (List.mem_of_getElem? (i := 53) rfl))) (notFace_of_selects (args := #[]) (mvT hZ (hw _ (List.mem_of_getElem? (i := 55) rfl)))) (mvT hZ (hw _ (List.mem_of_getElem? (i := 55) rfl))) (mvT hZ (hw _ (List.mem_of_getElem? (i := 54) rfl))) (by decide) (backOf (W := 0) (rm10 l Z a0 hw [] b36 (v0_22 p0 p2 p1 p3) b34 b31 (((((v0_1 p0).toInt64) + (63 : Int64)) / (64 : Int64)).toInt32) (own_B p0) ta tc47 (v0_1 p0) ka ts47 k31 (List.replicate (129 : Int32).toNatClampNeg 0) T47.heap n0 Z47 (((M44.keep Kq45).keep Kq47)) g_b36 (Fq47_0) (Fq47_1) (Fq47_2) (Vq47) g_ta (M51) g_b31 (ne_t) ((Ne.symm ne_b31_b36)) ((Ne.symm ne_b31_ta)) (own_hB p0) (own_hB1 p0) (own_hB2 p0) (own_hnl p0) (own_htc p0 p1 p2 p3 Pq47) (own_hp0 p0 p1 p2 p3 Pq47)) hZ (hw _ (List.mem_of_getElem? (i := 56) rfl)) (hw _ (List.mem_of_getElem? (i := 18) rfl)) (by decide) (by decide)) q52a q52c (g := (mkF m 314 #[.val (.int p0), .val (.int p1), .val (.int p2), .val (.int p3), .val (.long q0), .second, .val (.int (v0_1 p0)), .val (.int (v0_2 p1 p0)), .val (.int (v0_3 p1 p0)), .val (.int (v0_4 p1 p0)), .val (.int (v0_5 p2 p1 p0 p3)), .val (.int (v0_6 p2 p1 p0 p3)), .val (.int (v0_7 p2 p1 p0 p3)), .val (.int (v0_8 p2 p1 p0 p3)), .val (.int (v0_9 p2)), .val (.ref b5), .val (.ref b14), .val (.ref b21), .val (.ref b31), .val (.ref b34), .val (.ref b36), .val (.int (v0_22 p0 p2 p1 p3)), .unset] [(.int (0 : Int32)), (.ref b31), (.ref b34), .null, (.int (v0_22 p0 p2 p1 p3)), (.ref b36)])) rfl (by rw [hml]; rfl) (Steps.refl _) (argsL := [(.int (v0_22 p0 p2 p1 p3)), .null, (.ref b34), (.ref b31), (.int (0 : Int32))]) (rest := []) (lenOf pd_9 rfl) rfl (by show 2 * 0 + _ ≤ _; exact Nat.le_of_eq rfl) (hb hby at_314) (fun _ _ => ⟨rfl, e50, (by decide : 7 + 1 ≤ _), (by decide : 146 + 0 ≤ _)⟩)
  dsimp only [Pt.U, Pt.locs, Pt.cells, Pt.slots] at X52 l52 y52 z52 st52 hQ52
  rw [l52, y52, z52] at X52
  obtain ⟨rfl, N52q, Kq52, Vq52⟩ := hQ52
  have N52 := Fr.app N50 N52q
  have Z52 : n0 ≤ T52.heap.size := Nat.le_trans Z47 Kq52.1
  have K52 : Keep h0 T52.heap [] := (K47).trans Kq52 (allS (Or.inr sz_b36) (allS (Or.inr sz_ta) (allS (Or.inr sz_b31) all0)))
  have Vr52 : Ia Z T52.heap b31 k31 .int (129 : Int32) (own_into p0 p1 p2 p3) := by rw [own_into, own_fill, ← own_Sf p0 p1 p2 p3 Pq47]; exact Vq52
  obtain ⟨_, _, ⟨T53, L53, k53, n53⟩, -, X53, ⟨Lc53, hQ53, l53, y53, z53⟩, st53⟩ := Jvm.LawKit.callS X52 hx (y := (⟨"com/example/knotwork/knotwork/generate/FreeNumbersFreePinLaw", "inT", "(I[I[II)Z"⟩ : MethodName)) hown (mvT hZ (hw _ (List.mem_of_getElem? (i := 49) rfl))) (mvT hZ (hw _ (List.mem_of_getElem? (i := 50) rfl))) (mvT hZ (hw _ (List.mem_of_getElem? (i := 2) rfl))) (mvT hZ (hw _ (List.mem_of_getElem? (i := 51) rfl))) (by decide) (backOf (W := 0) (rm9 l Z a0 hw [] (v0_23 p0) b14 b21 (v0_9 p2) k14 (w0_16 p1 p0) k21 (w0_13 p2 p1 p0 p3) T52.heap n0 Z52 ((M48.keep Kq52 (ninS ne_b14_b36 (ninS ne_b14_ta (ninS ne_b14_b31 nin0))))) ((M49.keep Kq52 (ninS ne_b21_b36 (ninS ne_b21_ta (ninS ne_b21_b31 nin0)))))) hZ (hw _ (List.mem_of_getElem? (i := 51) rfl)) (hw _ (List.mem_of_getElem? (i := 2) rfl)) (by decide) (by decide)) (g := (mkF m 336 #[.val (.int p0), .val (.int p1), .val (.int p2), .val (.int p3), .val (.long q0), .second, .val (.int (v0_1 p0)), .val (.int (v0_2 p1 p0)), .val (.int (v0_3 p1 p0)), .val (.int (v0_4 p1 p0)), .val (.int (v0_5 p2 p1 p0 p3)), .val (.int (v0_6 p2 p1 p0 p3)), .val (.int (v0_7 p2 p1 p0 p3)), .val (.int (v0_8 p2 p1 p0 p3)), .val (.int (v0_9 p2)), .val (.ref b5), .val (.ref b14), .val (.ref b21), .val (.ref b31), .val (.ref b34), .val (.ref b36), .val (.int (v0_22 p0 p2 p1 p3)), .val (.int (v0_23 p0))] [(.int (v0_9 p2)), (.ref b21), (.ref b14), (.int (v0_23 p0))])) rfl (by rw [hml]; rfl) (argsL := [(.int (v0_23 p0)), (.ref b14), (.ref b21), (.int (v0_9 p2))]) (rest := []) (lenOf pd_2 rfl) rfl (by show 2 * 0 + _ ≤ _; exact Nat.le_of_eq rfl) (hb hby at_336) (fun _ _ => ⟨rfl, rfl, (by decide : 8 + 0 ≤ _), (by decide : 146 + 0 ≤ _)⟩)
  dsimp only [Pt.U, Pt.locs, Pt.cells, Pt.slots] at X53 l53 y53 z53 st53 hQ53
  rw [l53, y53, z53] at X53
  obtain ⟨rfl, N53q, e53⟩ := hQ53
  have N53 := Fr.app N52 N53q
  have pre54 : ∀ t, Steps p.tables e below (T53.setTop (mkF m 339 #[.val (.int p0), .val (.int p1), .val (.int p2), .val (.int p3), .val (.long q0), .second, .val (.int (v0_1 p0)), .val (.int (v0_2 p1 p0)), .val (.int (v0_3 p1 p0)), .val (.int (v0_4 p1 p0)), .val (.int (v0_5 p2 p1 p0 p3)), .val (.int (v0_6 p2 p1 p0 p3)), .val (.int (v0_7 p2 p1 p0 p3)), .val (.int (v0_8 p2 p1 p0 p3)), .val (.int (v0_9 p2)), .val (.ref b5), .val (.ref b14), .val (.ref b21), .val (.ref b31), .val (.ref b34), .val (.ref b36), .val (.int (v0_22 p0 p2 p1 p3)), .val (.int (v0_23 p0))] [(.int (v0_24 p0 p2 p1 p3))])) t → Steps p.tables e below (s₁.setTop (entryFrame m #[(.int p0), (.int p1), (.int p2), (.int p3), (.long q0)] maxLocals)) t := fun t k => pre0 t (by
    show Steps p.tables e below (s₁.setTop (mkF m 0 #[.val (.int p0), .val (.int p1), .val (.int p2), .val (.int p3), .val (.long q0), .second, .unset, .unset, .unset, .unset, .unset, .unset, .unset, .unset, .unset, .unset, .unset, .unset, .unset, .unset, .unset, .unset, .unset] [])) _
    refine XS.iconst X0.here hx rfl (hb hby at_0) ?_
    refine XS.iloadN X0.here hx rfl (hb hby at_1) rfl ?_
    refine XS.bipush X0.here hx rfl (hb hby at_2) ?_
    refine XS.iand X0.here hx rfl (hb hby at_4) rfl ?_
    show Steps p.tables e below (s₁.setTop (mkF m 5 #[.val (.int p0), .val (.int p1), .val (.int p2), .val (.int p3), .val (.long q0), .second, .unset, .unset, .unset, .unset, .unset, .unset, .unset, .unset, .unset, .unset, .unset, .unset, .unset, .unset, .unset, .unset, .unset] [(.int (p0 &&& (127 : Int32))), (.int (1 : Int32))])) _
    refine XS.iadd X0.here hx rfl (hb hby at_5) rfl ?_
    refine XS.istore X0.here hx rfl (hb hby at_6) rfl (l' := #[.val (.int p0), .val (.int p1), .val (.int p2), .val (.int p3), .val (.long q0), .second, .val (.int ((1 : Int32) + (p0 &&& (127 : Int32)))), .unset, .unset, .unset, .unset, .unset, .unset, .unset, .unset, .unset, .unset, .unset, .unset, .unset, .unset, .unset, .unset]) rfl ?_
    refine XS.iloadN X0.here hx rfl (hb hby at_8) rfl ?_
    refine XS.sipush X0.here hx rfl (hb hby at_9) ?_
    show Steps p.tables e below (s₁.setTop (mkF m 12 #[.val (.int p0), .val (.int p1), .val (.int p2), .val (.int p3), .val (.long q0), .second, .val (.int (v0_1 p0)), .unset, .unset, .unset, .unset, .unset, .unset, .unset, .unset, .unset, .unset, .unset, .unset, .unset, .unset, .unset, .unset] [(.int (255 : Int32)), (.int p1)])) _
    refine XS.iand X0.here hx rfl (hb hby at_12) rfl ?_
    refine XS.iload X0.here hx rfl (hb hby at_13) rfl ?_
    refine XS.irem X0.here hx rfl (hb hby at_15) rfl (own_bnz p0) ?_
    rw [irem_eq_mod]
    refine XS.istore X0.here hx rfl (hb hby at_16) rfl (l' := #[.val (.int p0), .val (.int p1), .val (.int p2), .val (.int p3), .val (.long q0), .second, .val (.int (v0_1 p0)), .val (.int ((p1 &&& (255 : Int32)) % (v0_1 p0))), .unset, .unset, .unset, .unset, .unset, .unset, .unset, .unset, .unset, .unset, .unset, .unset, .unset, .unset, .unset]) rfl ?_
    show Steps p.tables e below (s₁.setTop (mkF m 18 #[.val (.int p0), .val (.int p1), .val (.int p2), .val (.int p3), .val (.long q0), .second, .val (.int (v0_1 p0)), .val (.int (v0_2 p1 p0)), .unset, .unset, .unset, .unset, .unset, .unset, .unset, .unset, .unset, .unset, .unset, .unset, .unset, .unset, .unset] [])) _
    refine XS.iloadN X0.here hx rfl (hb hby at_18) rfl ?_
    refine XS.bipush X0.here hx rfl (hb hby at_19) ?_
    refine XS.iushr X0.here hx rfl (hb hby at_21) rfl ?_
    refine XS.sipush X0.here hx rfl (hb hby at_22) ?_
    show Steps p.tables e below (s₁.setTop (mkF m 25 #[.val (.int p0), .val (.int p1), .val (.int p2), .val (.int p3), .val (.long q0), .second, .val (.int (v0_1 p0)), .val (.int (v0_2 p1 p0)), .unset, .unset, .unset, .unset, .unset, .unset, .unset, .unset, .unset, .unset, .unset, .unset, .unset, .unset, .unset] [(.int (255 : Int32)), (.int ((p1.toUInt32 >>> ((8 : Int32) &&& 31).toUInt32).toInt32))])) _
    refine XS.iand X0.here hx rfl (hb hby at_25) rfl ?_
    refine XS.iload X0.here hx rfl (hb hby at_26) rfl ?_
    refine XS.irem X0.here hx rfl (hb hby at_28) rfl (own_bnz p0) ?_
    rw [irem_eq_mod]
    refine XS.istore X0.here hx rfl (hb hby at_29) rfl (l' := #[.val (.int p0), .val (.int p1), .val (.int p2), .val (.int p3), .val (.long q0), .second, .val (.int (v0_1 p0)), .val (.int (v0_2 p1 p0)), .val (.int ((((p1.toUInt32 >>> ((8 : Int32) &&& 31).toUInt32).toInt32) &&& (255 : Int32)) % (v0_1 p0))), .unset, .unset, .unset, .unset, .unset, .unset, .unset, .unset, .unset, .unset, .unset, .unset, .unset, .unset]) rfl ?_
    show Steps p.tables e below (s₁.setTop (mkF m 31 #[.val (.int p0), .val (.int p1), .val (.int p2), .val (.int p3), .val (.long q0), .second, .val (.int (v0_1 p0)), .val (.int (v0_2 p1 p0)), .val (.int (v0_3 p1 p0)), .unset, .unset, .unset, .unset, .unset, .unset, .unset, .unset, .unset, .unset, .unset, .unset, .unset, .unset] [])) _
    refine XS.iloadN X0.here hx rfl (hb hby at_31) rfl ?_
    refine XS.bipush X0.here hx rfl (hb hby at_32) ?_
    refine XS.iushr X0.here hx rfl (hb hby at_34) rfl ?_
    refine XS.sipush X0.here hx rfl (hb hby at_35) ?_
    show Steps p.tables e below (s₁.setTop (mkF m 38 #[.val (.int p0), .val (.int p1), .val (.int p2), .val (.int p3), .val (.long q0), .second, .val (.int (v0_1 p0)), .val (.int (v0_2 p1 p0)), .val (.int (v0_3 p1 p0)), .unset, .unset, .unset, .unset, .unset, .unset, .unset, .unset, .unset, .unset, .unset, .unset, .unset, .unset] [(.int (255 : Int32)), (.int ((p1.toUInt32 >>> ((16 : Int32) &&& 31).toUInt32).toInt32))])) _
    refine XS.iand X0.here hx rfl (hb hby at_38) rfl ?_
    refine XS.iload X0.here hx rfl (hb hby at_39) rfl ?_
    refine XS.irem X0.here hx rfl (hb hby at_41) rfl (own_bnz p0) ?_
    rw [irem_eq_mod]
    refine XS.istore X0.here hx rfl (hb hby at_42) rfl (l' := #[.val (.int p0), .val (.int p1), .val (.int p2), .val (.int p3), .val (.long q0), .second, .val (.int (v0_1 p0)), .val (.int (v0_2 p1 p0)), .val (.int (v0_3 p1 p0)), .val (.int ((((p1.toUInt32 >>> ((16 : Int32) &&& 31).toUInt32).toInt32) &&& (255 : Int32)) % (v0_1 p0))), .unset, .unset, .unset, .unset, .unset, .unset, .unset, .unset, .unset, .unset, .unset, .unset, .unset]) rfl ?_
    show Steps p.tables e below (s₁.setTop (mkF m 44 #[.val (.int p0), .val (.int p1), .val (.int p2), .val (.int p3), .val (.long q0), .second, .val (.int (v0_1 p0)), .val (.int (v0_2 p1 p0)), .val (.int (v0_3 p1 p0)), .val (.int (v0_4 p1 p0)), .unset, .unset, .unset, .unset, .unset, .unset, .unset, .unset, .unset, .unset, .unset, .unset, .unset] [])) _
    refine XS.iloadN X0.here hx rfl (hb hby at_44) rfl ?_
    refine XS.iconst X0.here hx rfl (hb hby at_45) ?_
    refine XS.iand X0.here hx rfl (hb hby at_46) rfl ?_
    refine XS.iload X0.here hx rfl (hb hby at_47) rfl ?_
    show Steps p.tables e below (s₁.setTop (mkF m 49 #[.val (.int p0), .val (.int p1), .val (.int p2), .val (.int p3), .val (.long q0), .second, .val (.int (v0_1 p0)), .val (.int (v0_2 p1 p0)), .val (.int (v0_3 p1 p0)), .val (.int (v0_4 p1 p0)), .unset, .unset, .unset, .unset, .unset, .unset, .unset, .unset, .unset, .unset, .unset, .unset, .unset] [(.int (v0_2 p1 p0)), (.int (p2 &&& (3 : Int32)))])) _
    refine XS.iload X0.here hx rfl (hb hby at_49) rfl ?_
    refine XS.iload X0.here hx rfl (hb hby at_51) rfl ?_
    refine XS.iloadN X0.here hx rfl (hb hby at_53) rfl ?_
    refine XS.sipush X0.here hx rfl (hb hby at_54) ?_
    show Steps p.tables e below (s₁.setTop (mkF m 57 #[.val (.int p0), .val (.int p1), .val (.int p2), .val (.int p3), .val (.long q0), .second, .val (.int (v0_1 p0)), .val (.int (v0_2 p1 p0)), .val (.int (v0_3 p1 p0)), .val (.int (v0_4 p1 p0)), .unset, .unset, .unset, .unset, .unset, .unset, .unset, .unset, .unset, .unset, .unset, .unset, .unset] [(.int (255 : Int32)), (.int p3), (.int (v0_4 p1 p0)), (.int (v0_3 p1 p0)), (.int (v0_2 p1 p0)), (.int (p2 &&& (3 : Int32)))])) _
    refine XS.iand X0.here hx rfl (hb hby at_57) rfl ?_
    refine XS.iload X0.here hx rfl (hb hby at_58) rfl ?_
    refine XS.irem X0.here hx rfl (hb hby at_60) rfl (own_bnz p0) ?_
    rw [irem_eq_mod]
    show Steps p.tables e below (s₁.setTop (mkF m 61 #[.val (.int p0), .val (.int p1), .val (.int p2), .val (.int p3), .val (.long q0), .second, .val (.int (v0_1 p0)), .val (.int (v0_2 p1 p0)), .val (.int (v0_3 p1 p0)), .val (.int (v0_4 p1 p0)), .unset, .unset, .unset, .unset, .unset, .unset, .unset, .unset, .unset, .unset, .unset, .unset, .unset] [(.int ((p3 &&& (255 : Int32)) % (v0_1 p0))), (.int (v0_4 p1 p0)), (.int (v0_3 p1 p0)), (.int (v0_2 p1 p0)), (.int (p2 &&& (3 : Int32)))])) _
    refine st1 _ ?_
    refine XS.istore X1.here hx rfl (hb hby at_64) rfl (l' := #[.val (.int p0), .val (.int p1), .val (.int p2), .val (.int p3), .val (.long q0), .second, .val (.int (v0_1 p0)), .val (.int (v0_2 p1 p0)), .val (.int (v0_3 p1 p0)), .val (.int (v0_4 p1 p0)), .val (.int (v0_5 p2 p1 p0 p3)), .unset, .unset, .unset, .unset, .unset, .unset, .unset, .unset, .unset, .unset, .unset, .unset]) rfl ?_
    show Steps p.tables e below (T1.setTop (mkF m 66 #[.val (.int p0), .val (.int p1), .val (.int p2), .val (.int p3), .val (.long q0), .second, .val (.int (v0_1 p0)), .val (.int (v0_2 p1 p0)), .val (.int (v0_3 p1 p0)), .val (.int (v0_4 p1 p0)), .val (.int (v0_5 p2 p1 p0 p3)), .unset, .unset, .unset, .unset, .unset, .unset, .unset, .unset, .unset, .unset, .unset, .unset] [])) _
    refine XS.iloadN X1.here hx rfl (hb hby at_66) rfl ?_
    refine XS.iconst X1.here hx rfl (hb hby at_67) ?_
    refine XS.iushr X1.here hx rfl (hb hby at_68) rfl ?_
    refine XS.iconst X1.here hx rfl (hb hby at_69) ?_
    show Steps p.tables e below (T1.setTop (mkF m 70 #[.val (.int p0), .val (.int p1), .val (.int p2), .val (.int p3), .val (.long q0), .second, .val (.int (v0_1 p0)), .val (.int (v0_2 p1 p0)), .val (.int (v0_3 p1 p0)), .val (.int (v0_4 p1 p0)), .val (.int (v0_5 p2 p1 p0 p3)), .unset, .unset, .unset, .unset, .unset, .unset, .unset, .unset, .unset, .unset, .unset, .unset] [(.int (3 : Int32)), (.int ((p2.toUInt32 >>> ((2 : Int32) &&& 31).toUInt32).toInt32))])) _
    refine XS.iand X1.here hx rfl (hb hby at_70) rfl ?_
    refine XS.iload X1.here hx rfl (hb hby at_71) rfl ?_
    refine XS.iload X1.here hx rfl (hb hby at_73) rfl ?_
    refine XS.iload X1.here hx rfl (hb hby at_75) rfl ?_
    show Steps p.tables e below (T1.setTop (mkF m 77 #[.val (.int p0), .val (.int p1), .val (.int p2), .val (.int p3), .val (.long q0), .second, .val (.int (v0_1 p0)), .val (.int (v0_2 p1 p0)), .val (.int (v0_3 p1 p0)), .val (.int (v0_4 p1 p0)), .val (.int (v0_5 p2 p1 p0 p3)), .unset, .unset, .unset, .unset, .unset, .unset, .unset, .unset, .unset, .unset, .unset, .unset] [(.int (v0_4 p1 p0)), (.int (v0_3 p1 p0)), (.int (v0_2 p1 p0)), (.int (((p2.toUInt32 >>> ((2 : Int32) &&& 31).toUInt32).toInt32) &&& (3 : Int32)))])) _
    refine XS.iloadN X1.here hx rfl (hb hby at_77) rfl ?_
    refine XS.bipush X1.here hx rfl (hb hby at_78) ?_
    refine XS.iushr X1.here hx rfl (hb hby at_80) rfl ?_
    refine XS.sipush X1.here hx rfl (hb hby at_81) ?_
    show Steps p.tables e below (T1.setTop (mkF m 84 #[.val (.int p0), .val (.int p1), .val (.int p2), .val (.int p3), .val (.long q0), .second, .val (.int (v0_1 p0)), .val (.int (v0_2 p1 p0)), .val (.int (v0_3 p1 p0)), .val (.int (v0_4 p1 p0)), .val (.int (v0_5 p2 p1 p0 p3)), .unset, .unset, .unset, .unset, .unset, .unset, .unset, .unset, .unset, .unset, .unset, .unset] [(.int (255 : Int32)), (.int ((p3.toUInt32 >>> ((8 : Int32) &&& 31).toUInt32).toInt32)), (.int (v0_4 p1 p0)), (.int (v0_3 p1 p0)), (.int (v0_2 p1 p0)), (.int (((p2.toUInt32 >>> ((2 : Int32) &&& 31).toUInt32).toInt32) &&& (3 : Int32)))])) _
    refine XS.iand X1.here hx rfl (hb hby at_84) rfl ?_
    refine XS.iload X1.here hx rfl (hb hby at_85) rfl ?_
    refine XS.irem X1.here hx rfl (hb hby at_87) rfl (own_bnz p0) ?_
    rw [irem_eq_mod]
    show Steps p.tables e below (T1.setTop (mkF m 88 #[.val (.int p0), .val (.int p1), .val (.int p2), .val (.int p3), .val (.long q0), .second, .val (.int (v0_1 p0)), .val (.int (v0_2 p1 p0)), .val (.int (v0_3 p1 p0)), .val (.int (v0_4 p1 p0)), .val (.int (v0_5 p2 p1 p0 p3)), .unset, .unset, .unset, .unset, .unset, .unset, .unset, .unset, .unset, .unset, .unset, .unset] [(.int ((((p3.toUInt32 >>> ((8 : Int32) &&& 31).toUInt32).toInt32) &&& (255 : Int32)) % (v0_1 p0))), (.int (v0_4 p1 p0)), (.int (v0_3 p1 p0)), (.int (v0_2 p1 p0)), (.int (((p2.toUInt32 >>> ((2 : Int32) &&& 31).toUInt32).toInt32) &&& (3 : Int32)))])) _
    refine st2 _ ?_
    refine XS.istore X2.here hx rfl (hb hby at_91) rfl (l' := #[.val (.int p0), .val (.int p1), .val (.int p2), .val (.int p3), .val (.long q0), .second, .val (.int (v0_1 p0)), .val (.int (v0_2 p1 p0)), .val (.int (v0_3 p1 p0)), .val (.int (v0_4 p1 p0)), .val (.int (v0_5 p2 p1 p0 p3)), .val (.int (v0_6 p2 p1 p0 p3)), .unset, .unset, .unset, .unset, .unset, .unset, .unset, .unset, .unset, .unset, .unset]) rfl ?_
    show Steps p.tables e below (T2.setTop (mkF m 93 #[.val (.int p0), .val (.int p1), .val (.int p2), .val (.int p3), .val (.long q0), .second, .val (.int (v0_1 p0)), .val (.int (v0_2 p1 p0)), .val (.int (v0_3 p1 p0)), .val (.int (v0_4 p1 p0)), .val (.int (v0_5 p2 p1 p0 p3)), .val (.int (v0_6 p2 p1 p0 p3)), .unset, .unset, .unset, .unset, .unset, .unset, .unset, .unset, .unset, .unset, .unset] [])) _
    refine XS.iloadN X2.here hx rfl (hb hby at_93) rfl ?_
    refine XS.iconst X2.here hx rfl (hb hby at_94) ?_
    refine XS.iushr X2.here hx rfl (hb hby at_95) rfl ?_
    refine XS.iconst X2.here hx rfl (hb hby at_96) ?_
    show Steps p.tables e below (T2.setTop (mkF m 97 #[.val (.int p0), .val (.int p1), .val (.int p2), .val (.int p3), .val (.long q0), .second, .val (.int (v0_1 p0)), .val (.int (v0_2 p1 p0)), .val (.int (v0_3 p1 p0)), .val (.int (v0_4 p1 p0)), .val (.int (v0_5 p2 p1 p0 p3)), .val (.int (v0_6 p2 p1 p0 p3)), .unset, .unset, .unset, .unset, .unset, .unset, .unset, .unset, .unset, .unset, .unset] [(.int (3 : Int32)), (.int ((p2.toUInt32 >>> ((4 : Int32) &&& 31).toUInt32).toInt32))])) _
    refine XS.iand X2.here hx rfl (hb hby at_97) rfl ?_
    refine XS.iload X2.here hx rfl (hb hby at_98) rfl ?_
    refine XS.iload X2.here hx rfl (hb hby at_100) rfl ?_
    refine XS.iload X2.here hx rfl (hb hby at_102) rfl ?_
    show Steps p.tables e below (T2.setTop (mkF m 104 #[.val (.int p0), .val (.int p1), .val (.int p2), .val (.int p3), .val (.long q0), .second, .val (.int (v0_1 p0)), .val (.int (v0_2 p1 p0)), .val (.int (v0_3 p1 p0)), .val (.int (v0_4 p1 p0)), .val (.int (v0_5 p2 p1 p0 p3)), .val (.int (v0_6 p2 p1 p0 p3)), .unset, .unset, .unset, .unset, .unset, .unset, .unset, .unset, .unset, .unset, .unset] [(.int (v0_4 p1 p0)), (.int (v0_3 p1 p0)), (.int (v0_2 p1 p0)), (.int (((p2.toUInt32 >>> ((4 : Int32) &&& 31).toUInt32).toInt32) &&& (3 : Int32)))])) _
    refine XS.iloadN X2.here hx rfl (hb hby at_104) rfl ?_
    refine XS.bipush X2.here hx rfl (hb hby at_105) ?_
    refine XS.iushr X2.here hx rfl (hb hby at_107) rfl ?_
    refine XS.sipush X2.here hx rfl (hb hby at_108) ?_
    show Steps p.tables e below (T2.setTop (mkF m 111 #[.val (.int p0), .val (.int p1), .val (.int p2), .val (.int p3), .val (.long q0), .second, .val (.int (v0_1 p0)), .val (.int (v0_2 p1 p0)), .val (.int (v0_3 p1 p0)), .val (.int (v0_4 p1 p0)), .val (.int (v0_5 p2 p1 p0 p3)), .val (.int (v0_6 p2 p1 p0 p3)), .unset, .unset, .unset, .unset, .unset, .unset, .unset, .unset, .unset, .unset, .unset] [(.int (255 : Int32)), (.int ((p3.toUInt32 >>> ((16 : Int32) &&& 31).toUInt32).toInt32)), (.int (v0_4 p1 p0)), (.int (v0_3 p1 p0)), (.int (v0_2 p1 p0)), (.int (((p2.toUInt32 >>> ((4 : Int32) &&& 31).toUInt32).toInt32) &&& (3 : Int32)))])) _
    refine XS.iand X2.here hx rfl (hb hby at_111) rfl ?_
    refine XS.iload X2.here hx rfl (hb hby at_112) rfl ?_
    refine XS.irem X2.here hx rfl (hb hby at_114) rfl (own_bnz p0) ?_
    rw [irem_eq_mod]
    show Steps p.tables e below (T2.setTop (mkF m 115 #[.val (.int p0), .val (.int p1), .val (.int p2), .val (.int p3), .val (.long q0), .second, .val (.int (v0_1 p0)), .val (.int (v0_2 p1 p0)), .val (.int (v0_3 p1 p0)), .val (.int (v0_4 p1 p0)), .val (.int (v0_5 p2 p1 p0 p3)), .val (.int (v0_6 p2 p1 p0 p3)), .unset, .unset, .unset, .unset, .unset, .unset, .unset, .unset, .unset, .unset, .unset] [(.int ((((p3.toUInt32 >>> ((16 : Int32) &&& 31).toUInt32).toInt32) &&& (255 : Int32)) % (v0_1 p0))), (.int (v0_4 p1 p0)), (.int (v0_3 p1 p0)), (.int (v0_2 p1 p0)), (.int (((p2.toUInt32 >>> ((4 : Int32) &&& 31).toUInt32).toInt32) &&& (3 : Int32)))])) _
    refine st3 _ ?_
    refine XS.istore X3.here hx rfl (hb hby at_118) rfl (l' := #[.val (.int p0), .val (.int p1), .val (.int p2), .val (.int p3), .val (.long q0), .second, .val (.int (v0_1 p0)), .val (.int (v0_2 p1 p0)), .val (.int (v0_3 p1 p0)), .val (.int (v0_4 p1 p0)), .val (.int (v0_5 p2 p1 p0 p3)), .val (.int (v0_6 p2 p1 p0 p3)), .val (.int (v0_7 p2 p1 p0 p3)), .unset, .unset, .unset, .unset, .unset, .unset, .unset, .unset, .unset, .unset]) rfl ?_
    show Steps p.tables e below (T3.setTop (mkF m 120 #[.val (.int p0), .val (.int p1), .val (.int p2), .val (.int p3), .val (.long q0), .second, .val (.int (v0_1 p0)), .val (.int (v0_2 p1 p0)), .val (.int (v0_3 p1 p0)), .val (.int (v0_4 p1 p0)), .val (.int (v0_5 p2 p1 p0 p3)), .val (.int (v0_6 p2 p1 p0 p3)), .val (.int (v0_7 p2 p1 p0 p3)), .unset, .unset, .unset, .unset, .unset, .unset, .unset, .unset, .unset, .unset] [])) _
    refine XS.iloadN X3.here hx rfl (hb hby at_120) rfl ?_
    refine XS.bipush X3.here hx rfl (hb hby at_121) ?_
    refine XS.iushr X3.here hx rfl (hb hby at_123) rfl ?_
    refine XS.iconst X3.here hx rfl (hb hby at_124) ?_
    show Steps p.tables e below (T3.setTop (mkF m 125 #[.val (.int p0), .val (.int p1), .val (.int p2), .val (.int p3), .val (.long q0), .second, .val (.int (v0_1 p0)), .val (.int (v0_2 p1 p0)), .val (.int (v0_3 p1 p0)), .val (.int (v0_4 p1 p0)), .val (.int (v0_5 p2 p1 p0 p3)), .val (.int (v0_6 p2 p1 p0 p3)), .val (.int (v0_7 p2 p1 p0 p3)), .unset, .unset, .unset, .unset, .unset, .unset, .unset, .unset, .unset, .unset] [(.int (3 : Int32)), (.int ((p2.toUInt32 >>> ((6 : Int32) &&& 31).toUInt32).toInt32))])) _
    refine XS.iand X3.here hx rfl (hb hby at_125) rfl ?_
    refine XS.iload X3.here hx rfl (hb hby at_126) rfl ?_
    refine XS.iload X3.here hx rfl (hb hby at_128) rfl ?_
    refine XS.iload X3.here hx rfl (hb hby at_130) rfl ?_
    show Steps p.tables e below (T3.setTop (mkF m 132 #[.val (.int p0), .val (.int p1), .val (.int p2), .val (.int p3), .val (.long q0), .second, .val (.int (v0_1 p0)), .val (.int (v0_2 p1 p0)), .val (.int (v0_3 p1 p0)), .val (.int (v0_4 p1 p0)), .val (.int (v0_5 p2 p1 p0 p3)), .val (.int (v0_6 p2 p1 p0 p3)), .val (.int (v0_7 p2 p1 p0 p3)), .unset, .unset, .unset, .unset, .unset, .unset, .unset, .unset, .unset, .unset] [(.int (v0_4 p1 p0)), (.int (v0_3 p1 p0)), (.int (v0_2 p1 p0)), (.int (((p2.toUInt32 >>> ((6 : Int32) &&& 31).toUInt32).toInt32) &&& (3 : Int32)))])) _
    refine XS.iloadN X3.here hx rfl (hb hby at_132) rfl ?_
    refine XS.bipush X3.here hx rfl (hb hby at_133) ?_
    refine XS.iushr X3.here hx rfl (hb hby at_135) rfl ?_
    refine XS.sipush X3.here hx rfl (hb hby at_136) ?_
    show Steps p.tables e below (T3.setTop (mkF m 139 #[.val (.int p0), .val (.int p1), .val (.int p2), .val (.int p3), .val (.long q0), .second, .val (.int (v0_1 p0)), .val (.int (v0_2 p1 p0)), .val (.int (v0_3 p1 p0)), .val (.int (v0_4 p1 p0)), .val (.int (v0_5 p2 p1 p0 p3)), .val (.int (v0_6 p2 p1 p0 p3)), .val (.int (v0_7 p2 p1 p0 p3)), .unset, .unset, .unset, .unset, .unset, .unset, .unset, .unset, .unset, .unset] [(.int (255 : Int32)), (.int ((p3.toUInt32 >>> ((24 : Int32) &&& 31).toUInt32).toInt32)), (.int (v0_4 p1 p0)), (.int (v0_3 p1 p0)), (.int (v0_2 p1 p0)), (.int (((p2.toUInt32 >>> ((6 : Int32) &&& 31).toUInt32).toInt32) &&& (3 : Int32)))])) _
    refine XS.iand X3.here hx rfl (hb hby at_139) rfl ?_
    refine XS.iload X3.here hx rfl (hb hby at_140) rfl ?_
    refine XS.irem X3.here hx rfl (hb hby at_142) rfl (own_bnz p0) ?_
    rw [irem_eq_mod]
    show Steps p.tables e below (T3.setTop (mkF m 143 #[.val (.int p0), .val (.int p1), .val (.int p2), .val (.int p3), .val (.long q0), .second, .val (.int (v0_1 p0)), .val (.int (v0_2 p1 p0)), .val (.int (v0_3 p1 p0)), .val (.int (v0_4 p1 p0)), .val (.int (v0_5 p2 p1 p0 p3)), .val (.int (v0_6 p2 p1 p0 p3)), .val (.int (v0_7 p2 p1 p0 p3)), .unset, .unset, .unset, .unset, .unset, .unset, .unset, .unset, .unset, .unset] [(.int ((((p3.toUInt32 >>> ((24 : Int32) &&& 31).toUInt32).toInt32) &&& (255 : Int32)) % (v0_1 p0))), (.int (v0_4 p1 p0)), (.int (v0_3 p1 p0)), (.int (v0_2 p1 p0)), (.int (((p2.toUInt32 >>> ((6 : Int32) &&& 31).toUInt32).toInt32) &&& (3 : Int32)))])) _
    refine st4 _ ?_
    refine XS.istore X4.here hx rfl (hb hby at_146) rfl (l' := #[.val (.int p0), .val (.int p1), .val (.int p2), .val (.int p3), .val (.long q0), .second, .val (.int (v0_1 p0)), .val (.int (v0_2 p1 p0)), .val (.int (v0_3 p1 p0)), .val (.int (v0_4 p1 p0)), .val (.int (v0_5 p2 p1 p0 p3)), .val (.int (v0_6 p2 p1 p0 p3)), .val (.int (v0_7 p2 p1 p0 p3)), .val (.int (v0_8 p2 p1 p0 p3)), .unset, .unset, .unset, .unset, .unset, .unset, .unset, .unset, .unset]) rfl ?_
    show Steps p.tables e below (T4.setTop (mkF m 148 #[.val (.int p0), .val (.int p1), .val (.int p2), .val (.int p3), .val (.long q0), .second, .val (.int (v0_1 p0)), .val (.int (v0_2 p1 p0)), .val (.int (v0_3 p1 p0)), .val (.int (v0_4 p1 p0)), .val (.int (v0_5 p2 p1 p0 p3)), .val (.int (v0_6 p2 p1 p0 p3)), .val (.int (v0_7 p2 p1 p0 p3)), .val (.int (v0_8 p2 p1 p0 p3)), .unset, .unset, .unset, .unset, .unset, .unset, .unset, .unset, .unset] [])) _
    refine XS.iloadN X4.here hx rfl (hb hby at_148) rfl ?_
    refine XS.bipush X4.here hx rfl (hb hby at_149) ?_
    refine XS.iushr X4.here hx rfl (hb hby at_151) rfl ?_
    refine XS.bipush X4.here hx rfl (hb hby at_152) ?_
    show Steps p.tables e below (T4.setTop (mkF m 154 #[.val (.int p0), .val (.int p1), .val (.int p2), .val (.int p3), .val (.long q0), .second, .val (.int (v0_1 p0)), .val (.int (v0_2 p1 p0)), .val (.int (v0_3 p1 p0)), .val (.int (v0_4 p1 p0)), .val (.int (v0_5 p2 p1 p0 p3)), .val (.int (v0_6 p2 p1 p0 p3)), .val (.int (v0_7 p2 p1 p0 p3)), .val (.int (v0_8 p2 p1 p0 p3)), .unset, .unset, .unset, .unset, .unset, .unset, .unset, .unset, .unset] [(.int (7 : Int32)), (.int ((p2.toUInt32 >>> ((8 : Int32) &&& 31).toUInt32).toInt32))])) _
    refine XS.iand X4.here hx rfl (hb hby at_154) rfl ?_
    refine XS.iconst X4.here hx rfl (hb hby at_155) ?_
    refine XS.irem X4.here hx rfl (hb hby at_156) rfl (by decide) ?_
    rw [irem_eq_mod]
    refine XS.istore X4.here hx rfl (hb hby at_157) rfl (l' := #[.val (.int p0), .val (.int p1), .val (.int p2), .val (.int p3), .val (.long q0), .second, .val (.int (v0_1 p0)), .val (.int (v0_2 p1 p0)), .val (.int (v0_3 p1 p0)), .val (.int (v0_4 p1 p0)), .val (.int (v0_5 p2 p1 p0 p3)), .val (.int (v0_6 p2 p1 p0 p3)), .val (.int (v0_7 p2 p1 p0 p3)), .val (.int (v0_8 p2 p1 p0 p3)), .val (.int ((((p2.toUInt32 >>> ((8 : Int32) &&& 31).toUInt32).toInt32) &&& (7 : Int32)) % (5 : Int32))), .unset, .unset, .unset, .unset, .unset, .unset, .unset, .unset]) rfl ?_
    show Steps p.tables e below (T4.setTop (mkF m 159 #[.val (.int p0), .val (.int p1), .val (.int p2), .val (.int p3), .val (.long q0), .second, .val (.int (v0_1 p0)), .val (.int (v0_2 p1 p0)), .val (.int (v0_3 p1 p0)), .val (.int (v0_4 p1 p0)), .val (.int (v0_5 p2 p1 p0 p3)), .val (.int (v0_6 p2 p1 p0 p3)), .val (.int (v0_7 p2 p1 p0 p3)), .val (.int (v0_8 p2 p1 p0 p3)), .val (.int (v0_9 p2)), .unset, .unset, .unset, .unset, .unset, .unset, .unset, .unset] [])) _
    refine XS.iconst X4.here hx rfl (hb hby at_159) ?_
    show Steps p.tables e below (T4.setTop (mkF m 160 #[.val (.int p0), .val (.int p1), .val (.int p2), .val (.int p3), .val (.long q0), .second, .val (.int (v0_1 p0)), .val (.int (v0_2 p1 p0)), .val (.int (v0_3 p1 p0)), .val (.int (v0_4 p1 p0)), .val (.int (v0_5 p2 p1 p0 p3)), .val (.int (v0_6 p2 p1 p0 p3)), .val (.int (v0_7 p2 p1 p0 p3)), .val (.int (v0_8 p2 p1 p0 p3)), .val (.int (v0_9 p2)), .unset, .unset, .unset, .unset, .unset, .unset, .unset, .unset] [(.int (4 : Int32))])) _
    refine st5 _ ?_
    refine XS.dup X5.here hx rfl (hb hby at_162) rfl rfl ?_
    refine XS.iconst X5.here hx rfl (hb hby at_163) ?_
    refine XS.iload X5.here hx rfl (hb hby at_164) rfl ?_
    show Steps p.tables e below (T5.setTop (mkF m 166 #[.val (.int p0), .val (.int p1), .val (.int p2), .val (.int p3), .val (.long q0), .second, .val (.int (v0_1 p0)), .val (.int (v0_2 p1 p0)), .val (.int (v0_3 p1 p0)), .val (.int (v0_4 p1 p0)), .val (.int (v0_5 p2 p1 p0 p3)), .val (.int (v0_6 p2 p1 p0 p3)), .val (.int (v0_7 p2 p1 p0 p3)), .val (.int (v0_8 p2 p1 p0 p3)), .val (.int (v0_9 p2)), .unset, .unset, .unset, .unset, .unset, .unset, .unset, .unset] [(.int (v0_5 p2 p1 p0 p3)), (.int (0 : Int32)), (.ref b5), (.ref b5)])) _
    refine st7 _ ?_
    show Steps p.tables e below (T7.setTop (mkF m 167 #[.val (.int p0), .val (.int p1), .val (.int p2), .val (.int p3), .val (.long q0), .second, .val (.int (v0_1 p0)), .val (.int (v0_2 p1 p0)), .val (.int (v0_3 p1 p0)), .val (.int (v0_4 p1 p0)), .val (.int (v0_5 p2 p1 p0 p3)), .val (.int (v0_6 p2 p1 p0 p3)), .val (.int (v0_7 p2 p1 p0 p3)), .val (.int (v0_8 p2 p1 p0 p3)), .val (.int (v0_9 p2)), .unset, .unset, .unset, .unset, .unset, .unset, .unset, .unset] [(.ref b5)])) _
    refine XS.dup X7.here hx rfl (hb hby at_167) rfl rfl ?_
    refine XS.iconst X7.here hx rfl (hb hby at_168) ?_
    refine XS.iload X7.here hx rfl (hb hby at_169) rfl ?_
    show Steps p.tables e below (T7.setTop (mkF m 171 #[.val (.int p0), .val (.int p1), .val (.int p2), .val (.int p3), .val (.long q0), .second, .val (.int (v0_1 p0)), .val (.int (v0_2 p1 p0)), .val (.int (v0_3 p1 p0)), .val (.int (v0_4 p1 p0)), .val (.int (v0_5 p2 p1 p0 p3)), .val (.int (v0_6 p2 p1 p0 p3)), .val (.int (v0_7 p2 p1 p0 p3)), .val (.int (v0_8 p2 p1 p0 p3)), .val (.int (v0_9 p2)), .unset, .unset, .unset, .unset, .unset, .unset, .unset, .unset] [(.int (v0_6 p2 p1 p0 p3)), (.int (1 : Int32)), (.ref b5), (.ref b5)])) _
    refine st9 _ ?_
    refine XS.dup X9.here hx rfl (hb hby at_172) rfl rfl ?_
    show Steps p.tables e below (T9.setTop (mkF m 173 #[.val (.int p0), .val (.int p1), .val (.int p2), .val (.int p3), .val (.long q0), .second, .val (.int (v0_1 p0)), .val (.int (v0_2 p1 p0)), .val (.int (v0_3 p1 p0)), .val (.int (v0_4 p1 p0)), .val (.int (v0_5 p2 p1 p0 p3)), .val (.int (v0_6 p2 p1 p0 p3)), .val (.int (v0_7 p2 p1 p0 p3)), .val (.int (v0_8 p2 p1 p0 p3)), .val (.int (v0_9 p2)), .unset, .unset, .unset, .unset, .unset, .unset, .unset, .unset] [(.ref b5), (.ref b5)])) _
    refine XS.iconst X9.here hx rfl (hb hby at_173) ?_
    refine XS.iload X9.here hx rfl (hb hby at_174) rfl ?_
    show Steps p.tables e below (T9.setTop (mkF m 176 #[.val (.int p0), .val (.int p1), .val (.int p2), .val (.int p3), .val (.long q0), .second, .val (.int (v0_1 p0)), .val (.int (v0_2 p1 p0)), .val (.int (v0_3 p1 p0)), .val (.int (v0_4 p1 p0)), .val (.int (v0_5 p2 p1 p0 p3)), .val (.int (v0_6 p2 p1 p0 p3)), .val (.int (v0_7 p2 p1 p0 p3)), .val (.int (v0_8 p2 p1 p0 p3)), .val (.int (v0_9 p2)), .unset, .unset, .unset, .unset, .unset, .unset, .unset, .unset] [(.int (v0_7 p2 p1 p0 p3)), (.int (2 : Int32)), (.ref b5), (.ref b5)])) _
    refine st11 _ ?_
    refine XS.dup X11.here hx rfl (hb hby at_177) rfl rfl ?_
    refine XS.iconst X11.here hx rfl (hb hby at_178) ?_
    show Steps p.tables e below (T11.setTop (mkF m 179 #[.val (.int p0), .val (.int p1), .val (.int p2), .val (.int p3), .val (.long q0), .second, .val (.int (v0_1 p0)), .val (.int (v0_2 p1 p0)), .val (.int (v0_3 p1 p0)), .val (.int (v0_4 p1 p0)), .val (.int (v0_5 p2 p1 p0 p3)), .val (.int (v0_6 p2 p1 p0 p3)), .val (.int (v0_7 p2 p1 p0 p3)), .val (.int (v0_8 p2 p1 p0 p3)), .val (.int (v0_9 p2)), .unset, .unset, .unset, .unset, .unset, .unset, .unset, .unset] [(.int (3 : Int32)), (.ref b5), (.ref b5)])) _
    refine XS.iload X11.here hx rfl (hb hby at_179) rfl ?_
    show Steps p.tables e below (T11.setTop (mkF m 181 #[.val (.int p0), .val (.int p1), .val (.int p2), .val (.int p3), .val (.long q0), .second, .val (.int (v0_1 p0)), .val (.int (v0_2 p1 p0)), .val (.int (v0_3 p1 p0)), .val (.int (v0_4 p1 p0)), .val (.int (v0_5 p2 p1 p0 p3)), .val (.int (v0_6 p2 p1 p0 p3)), .val (.int (v0_7 p2 p1 p0 p3)), .val (.int (v0_8 p2 p1 p0 p3)), .val (.int (v0_9 p2)), .unset, .unset, .unset, .unset, .unset, .unset, .unset, .unset] [(.int (v0_8 p2 p1 p0 p3)), (.int (3 : Int32)), (.ref b5), (.ref b5)])) _
    refine st13 _ ?_
    refine XS.astore X13.here hx rfl (hb hby at_182) rfl rfl (l' := #[.val (.int p0), .val (.int p1), .val (.int p2), .val (.int p3), .val (.long q0), .second, .val (.int (v0_1 p0)), .val (.int (v0_2 p1 p0)), .val (.int (v0_3 p1 p0)), .val (.int (v0_4 p1 p0)), .val (.int (v0_5 p2 p1 p0 p3)), .val (.int (v0_6 p2 p1 p0 p3)), .val (.int (v0_7 p2 p1 p0 p3)), .val (.int (v0_8 p2 p1 p0 p3)), .val (.int (v0_9 p2)), .val (.ref b5), .unset, .unset, .unset, .unset, .unset, .unset, .unset]) rfl ?_
    refine XS.iconst X13.here hx rfl (hb hby at_184) ?_
    show Steps p.tables e below (T13.setTop (mkF m 185 #[.val (.int p0), .val (.int p1), .val (.int p2), .val (.int p3), .val (.long q0), .second, .val (.int (v0_1 p0)), .val (.int (v0_2 p1 p0)), .val (.int (v0_3 p1 p0)), .val (.int (v0_4 p1 p0)), .val (.int (v0_5 p2 p1 p0 p3)), .val (.int (v0_6 p2 p1 p0 p3)), .val (.int (v0_7 p2 p1 p0 p3)), .val (.int (v0_8 p2 p1 p0 p3)), .val (.int (v0_9 p2)), .val (.ref b5), .unset, .unset, .unset, .unset, .unset, .unset, .unset] [(.int (3 : Int32))])) _
    refine st14 _ ?_
    refine XS.dup X14.here hx rfl (hb hby at_187) rfl rfl ?_
    show Steps p.tables e below (T14.setTop (mkF m 188 #[.val (.int p0), .val (.int p1), .val (.int p2), .val (.int p3), .val (.long q0), .second, .val (.int (v0_1 p0)), .val (.int (v0_2 p1 p0)), .val (.int (v0_3 p1 p0)), .val (.int (v0_4 p1 p0)), .val (.int (v0_5 p2 p1 p0 p3)), .val (.int (v0_6 p2 p1 p0 p3)), .val (.int (v0_7 p2 p1 p0 p3)), .val (.int (v0_8 p2 p1 p0 p3)), .val (.int (v0_9 p2)), .val (.ref b5), .unset, .unset, .unset, .unset, .unset, .unset, .unset] [(.ref b14), (.ref b14)])) _
    refine XS.iconst X14.here hx rfl (hb hby at_188) ?_
    refine XS.iload X14.here hx rfl (hb hby at_189) rfl ?_
    show Steps p.tables e below (T14.setTop (mkF m 191 #[.val (.int p0), .val (.int p1), .val (.int p2), .val (.int p3), .val (.long q0), .second, .val (.int (v0_1 p0)), .val (.int (v0_2 p1 p0)), .val (.int (v0_3 p1 p0)), .val (.int (v0_4 p1 p0)), .val (.int (v0_5 p2 p1 p0 p3)), .val (.int (v0_6 p2 p1 p0 p3)), .val (.int (v0_7 p2 p1 p0 p3)), .val (.int (v0_8 p2 p1 p0 p3)), .val (.int (v0_9 p2)), .val (.ref b5), .unset, .unset, .unset, .unset, .unset, .unset, .unset] [(.int (v0_2 p1 p0)), (.int (0 : Int32)), (.ref b14), (.ref b14)])) _
    refine st16 _ ?_
    refine XS.dup X16.here hx rfl (hb hby at_192) rfl rfl ?_
    refine XS.iconst X16.here hx rfl (hb hby at_193) ?_
    show Steps p.tables e below (T16.setTop (mkF m 194 #[.val (.int p0), .val (.int p1), .val (.int p2), .val (.int p3), .val (.long q0), .second, .val (.int (v0_1 p0)), .val (.int (v0_2 p1 p0)), .val (.int (v0_3 p1 p0)), .val (.int (v0_4 p1 p0)), .val (.int (v0_5 p2 p1 p0 p3)), .val (.int (v0_6 p2 p1 p0 p3)), .val (.int (v0_7 p2 p1 p0 p3)), .val (.int (v0_8 p2 p1 p0 p3)), .val (.int (v0_9 p2)), .val (.ref b5), .unset, .unset, .unset, .unset, .unset, .unset, .unset] [(.int (1 : Int32)), (.ref b14), (.ref b14)])) _
    refine XS.iload X16.here hx rfl (hb hby at_194) rfl ?_
    show Steps p.tables e below (T16.setTop (mkF m 196 #[.val (.int p0), .val (.int p1), .val (.int p2), .val (.int p3), .val (.long q0), .second, .val (.int (v0_1 p0)), .val (.int (v0_2 p1 p0)), .val (.int (v0_3 p1 p0)), .val (.int (v0_4 p1 p0)), .val (.int (v0_5 p2 p1 p0 p3)), .val (.int (v0_6 p2 p1 p0 p3)), .val (.int (v0_7 p2 p1 p0 p3)), .val (.int (v0_8 p2 p1 p0 p3)), .val (.int (v0_9 p2)), .val (.ref b5), .unset, .unset, .unset, .unset, .unset, .unset, .unset] [(.int (v0_3 p1 p0)), (.int (1 : Int32)), (.ref b14), (.ref b14)])) _
    refine st18 _ ?_
    refine XS.dup X18.here hx rfl (hb hby at_197) rfl rfl ?_
    refine XS.iconst X18.here hx rfl (hb hby at_198) ?_
    refine XS.iload X18.here hx rfl (hb hby at_199) rfl ?_
    show Steps p.tables e below (T18.setTop (mkF m 201 #[.val (.int p0), .val (.int p1), .val (.int p2), .val (.int p3), .val (.long q0), .second, .val (.int (v0_1 p0)), .val (.int (v0_2 p1 p0)), .val (.int (v0_3 p1 p0)), .val (.int (v0_4 p1 p0)), .val (.int (v0_5 p2 p1 p0 p3)), .val (.int (v0_6 p2 p1 p0 p3)), .val (.int (v0_7 p2 p1 p0 p3)), .val (.int (v0_8 p2 p1 p0 p3)), .val (.int (v0_9 p2)), .val (.ref b5), .unset, .unset, .unset, .unset, .unset, .unset, .unset] [(.int (v0_4 p1 p0)), (.int (2 : Int32)), (.ref b14), (.ref b14)])) _
    refine st20 _ ?_
    show Steps p.tables e below (T20.setTop (mkF m 202 #[.val (.int p0), .val (.int p1), .val (.int p2), .val (.int p3), .val (.long q0), .second, .val (.int (v0_1 p0)), .val (.int (v0_2 p1 p0)), .val (.int (v0_3 p1 p0)), .val (.int (v0_4 p1 p0)), .val (.int (v0_5 p2 p1 p0 p3)), .val (.int (v0_6 p2 p1 p0 p3)), .val (.int (v0_7 p2 p1 p0 p3)), .val (.int (v0_8 p2 p1 p0 p3)), .val (.int (v0_9 p2)), .val (.ref b5), .unset, .unset, .unset, .unset, .unset, .unset, .unset] [(.ref b14)])) _
    refine XS.astore X20.here hx rfl (hb hby at_202) rfl rfl (l' := #[.val (.int p0), .val (.int p1), .val (.int p2), .val (.int p3), .val (.long q0), .second, .val (.int (v0_1 p0)), .val (.int (v0_2 p1 p0)), .val (.int (v0_3 p1 p0)), .val (.int (v0_4 p1 p0)), .val (.int (v0_5 p2 p1 p0 p3)), .val (.int (v0_6 p2 p1 p0 p3)), .val (.int (v0_7 p2 p1 p0 p3)), .val (.int (v0_8 p2 p1 p0 p3)), .val (.int (v0_9 p2)), .val (.ref b5), .val (.ref b14), .unset, .unset, .unset, .unset, .unset, .unset]) rfl ?_
    refine XS.iconst X20.here hx rfl (hb hby at_204) ?_
    show Steps p.tables e below (T20.setTop (mkF m 205 #[.val (.int p0), .val (.int p1), .val (.int p2), .val (.int p3), .val (.long q0), .second, .val (.int (v0_1 p0)), .val (.int (v0_2 p1 p0)), .val (.int (v0_3 p1 p0)), .val (.int (v0_4 p1 p0)), .val (.int (v0_5 p2 p1 p0 p3)), .val (.int (v0_6 p2 p1 p0 p3)), .val (.int (v0_7 p2 p1 p0 p3)), .val (.int (v0_8 p2 p1 p0 p3)), .val (.int (v0_9 p2)), .val (.ref b5), .val (.ref b14), .unset, .unset, .unset, .unset, .unset, .unset] [(.int (4 : Int32))])) _
    refine st21 _ ?_
    refine XS.dup X21.here hx rfl (hb hby at_207) rfl rfl ?_
    refine XS.iconst X21.here hx rfl (hb hby at_208) ?_
    show Steps p.tables e below (T21.setTop (mkF m 209 #[.val (.int p0), .val (.int p1), .val (.int p2), .val (.int p3), .val (.long q0), .second, .val (.int (v0_1 p0)), .val (.int (v0_2 p1 p0)), .val (.int (v0_3 p1 p0)), .val (.int (v0_4 p1 p0)), .val (.int (v0_5 p2 p1 p0 p3)), .val (.int (v0_6 p2 p1 p0 p3)), .val (.int (v0_7 p2 p1 p0 p3)), .val (.int (v0_8 p2 p1 p0 p3)), .val (.int (v0_9 p2)), .val (.ref b5), .val (.ref b14), .unset, .unset, .unset, .unset, .unset, .unset] [(.int (0 : Int32)), (.ref b21), (.ref b21)])) _
    refine XS.iload X21.here hx rfl (hb hby at_209) rfl ?_
    show Steps p.tables e below (T21.setTop (mkF m 211 #[.val (.int p0), .val (.int p1), .val (.int p2), .val (.int p3), .val (.long q0), .second, .val (.int (v0_1 p0)), .val (.int (v0_2 p1 p0)), .val (.int (v0_3 p1 p0)), .val (.int (v0_4 p1 p0)), .val (.int (v0_5 p2 p1 p0 p3)), .val (.int (v0_6 p2 p1 p0 p3)), .val (.int (v0_7 p2 p1 p0 p3)), .val (.int (v0_8 p2 p1 p0 p3)), .val (.int (v0_9 p2)), .val (.ref b5), .val (.ref b14), .unset, .unset, .unset, .unset, .unset, .unset] [(.int (v0_5 p2 p1 p0 p3)), (.int (0 : Int32)), (.ref b21), (.ref b21)])) _
    refine st24 _ ?_
    refine XS.dup X24.here hx rfl (hb hby at_212) rfl rfl ?_
    refine XS.iconst X24.here hx rfl (hb hby at_213) ?_
    refine XS.iload X24.here hx rfl (hb hby at_214) rfl ?_
    show Steps p.tables e below (T24.setTop (mkF m 216 #[.val (.int p0), .val (.int p1), .val (.int p2), .val (.int p3), .val (.long q0), .second, .val (.int (v0_1 p0)), .val (.int (v0_2 p1 p0)), .val (.int (v0_3 p1 p0)), .val (.int (v0_4 p1 p0)), .val (.int (v0_5 p2 p1 p0 p3)), .val (.int (v0_6 p2 p1 p0 p3)), .val (.int (v0_7 p2 p1 p0 p3)), .val (.int (v0_8 p2 p1 p0 p3)), .val (.int (v0_9 p2)), .val (.ref b5), .val (.ref b14), .unset, .unset, .unset, .unset, .unset, .unset] [(.int (v0_6 p2 p1 p0 p3)), (.int (1 : Int32)), (.ref b21), (.ref b21)])) _
    refine st26 _ ?_
    show Steps p.tables e below (T26.setTop (mkF m 217 #[.val (.int p0), .val (.int p1), .val (.int p2), .val (.int p3), .val (.long q0), .second, .val (.int (v0_1 p0)), .val (.int (v0_2 p1 p0)), .val (.int (v0_3 p1 p0)), .val (.int (v0_4 p1 p0)), .val (.int (v0_5 p2 p1 p0 p3)), .val (.int (v0_6 p2 p1 p0 p3)), .val (.int (v0_7 p2 p1 p0 p3)), .val (.int (v0_8 p2 p1 p0 p3)), .val (.int (v0_9 p2)), .val (.ref b5), .val (.ref b14), .unset, .unset, .unset, .unset, .unset, .unset] [(.ref b21)])) _
    refine XS.dup X26.here hx rfl (hb hby at_217) rfl rfl ?_
    refine XS.iconst X26.here hx rfl (hb hby at_218) ?_
    refine XS.iload X26.here hx rfl (hb hby at_219) rfl ?_
    show Steps p.tables e below (T26.setTop (mkF m 221 #[.val (.int p0), .val (.int p1), .val (.int p2), .val (.int p3), .val (.long q0), .second, .val (.int (v0_1 p0)), .val (.int (v0_2 p1 p0)), .val (.int (v0_3 p1 p0)), .val (.int (v0_4 p1 p0)), .val (.int (v0_5 p2 p1 p0 p3)), .val (.int (v0_6 p2 p1 p0 p3)), .val (.int (v0_7 p2 p1 p0 p3)), .val (.int (v0_8 p2 p1 p0 p3)), .val (.int (v0_9 p2)), .val (.ref b5), .val (.ref b14), .unset, .unset, .unset, .unset, .unset, .unset] [(.int (v0_7 p2 p1 p0 p3)), (.int (2 : Int32)), (.ref b21), (.ref b21)])) _
    refine st28 _ ?_
    refine XS.dup X28.here hx rfl (hb hby at_222) rfl rfl ?_
    show Steps p.tables e below (T28.setTop (mkF m 223 #[.val (.int p0), .val (.int p1), .val (.int p2), .val (.int p3), .val (.long q0), .second, .val (.int (v0_1 p0)), .val (.int (v0_2 p1 p0)), .val (.int (v0_3 p1 p0)), .val (.int (v0_4 p1 p0)), .val (.int (v0_5 p2 p1 p0 p3)), .val (.int (v0_6 p2 p1 p0 p3)), .val (.int (v0_7 p2 p1 p0 p3)), .val (.int (v0_8 p2 p1 p0 p3)), .val (.int (v0_9 p2)), .val (.ref b5), .val (.ref b14), .unset, .unset, .unset, .unset, .unset, .unset] [(.ref b21), (.ref b21)])) _
    refine XS.iconst X28.here hx rfl (hb hby at_223) ?_
    refine XS.iload X28.here hx rfl (hb hby at_224) rfl ?_
    show Steps p.tables e below (T28.setTop (mkF m 226 #[.val (.int p0), .val (.int p1), .val (.int p2), .val (.int p3), .val (.long q0), .second, .val (.int (v0_1 p0)), .val (.int (v0_2 p1 p0)), .val (.int (v0_3 p1 p0)), .val (.int (v0_4 p1 p0)), .val (.int (v0_5 p2 p1 p0 p3)), .val (.int (v0_6 p2 p1 p0 p3)), .val (.int (v0_7 p2 p1 p0 p3)), .val (.int (v0_8 p2 p1 p0 p3)), .val (.int (v0_9 p2)), .val (.ref b5), .val (.ref b14), .unset, .unset, .unset, .unset, .unset, .unset] [(.int (v0_8 p2 p1 p0 p3)), (.int (3 : Int32)), (.ref b21), (.ref b21)])) _
    refine st30 _ ?_
    refine XS.astore X30.here hx rfl (hb hby at_227) rfl rfl (l' := #[.val (.int p0), .val (.int p1), .val (.int p2), .val (.int p3), .val (.long q0), .second, .val (.int (v0_1 p0)), .val (.int (v0_2 p1 p0)), .val (.int (v0_3 p1 p0)), .val (.int (v0_4 p1 p0)), .val (.int (v0_5 p2 p1 p0 p3)), .val (.int (v0_6 p2 p1 p0 p3)), .val (.int (v0_7 p2 p1 p0 p3)), .val (.int (v0_8 p2 p1 p0 p3)), .val (.int (v0_9 p2)), .val (.ref b5), .val (.ref b14), .val (.ref b21), .unset, .unset, .unset, .unset, .unset]) rfl ?_
    refine XS.sipush X30.here hx rfl (hb hby at_229) ?_
    show Steps p.tables e below (T30.setTop (mkF m 232 #[.val (.int p0), .val (.int p1), .val (.int p2), .val (.int p3), .val (.long q0), .second, .val (.int (v0_1 p0)), .val (.int (v0_2 p1 p0)), .val (.int (v0_3 p1 p0)), .val (.int (v0_4 p1 p0)), .val (.int (v0_5 p2 p1 p0 p3)), .val (.int (v0_6 p2 p1 p0 p3)), .val (.int (v0_7 p2 p1 p0 p3)), .val (.int (v0_8 p2 p1 p0 p3)), .val (.int (v0_9 p2)), .val (.ref b5), .val (.ref b14), .val (.ref b21), .unset, .unset, .unset, .unset, .unset] [(.int (129 : Int32))])) _
    refine st31 _ ?_
    show Steps p.tables e below (T31.setTop (mkF m 234 #[.val (.int p0), .val (.int p1), .val (.int p2), .val (.int p3), .val (.long q0), .second, .val (.int (v0_1 p0)), .val (.int (v0_2 p1 p0)), .val (.int (v0_3 p1 p0)), .val (.int (v0_4 p1 p0)), .val (.int (v0_5 p2 p1 p0 p3)), .val (.int (v0_6 p2 p1 p0 p3)), .val (.int (v0_7 p2 p1 p0 p3)), .val (.int (v0_8 p2 p1 p0 p3)), .val (.int (v0_9 p2)), .val (.ref b5), .val (.ref b14), .val (.ref b21), .unset, .unset, .unset, .unset, .unset] [(.ref b31)])) _
    refine XS.astore X31.here hx rfl (hb hby at_234) rfl rfl (l' := #[.val (.int p0), .val (.int p1), .val (.int p2), .val (.int p3), .val (.long q0), .second, .val (.int (v0_1 p0)), .val (.int (v0_2 p1 p0)), .val (.int (v0_3 p1 p0)), .val (.int (v0_4 p1 p0)), .val (.int (v0_5 p2 p1 p0 p3)), .val (.int (v0_6 p2 p1 p0 p3)), .val (.int (v0_7 p2 p1 p0 p3)), .val (.int (v0_8 p2 p1 p0 p3)), .val (.int (v0_9 p2)), .val (.ref b5), .val (.ref b14), .val (.ref b21), .val (.ref b31), .unset, .unset, .unset, .unset]) rfl ?_
    show Steps p.tables e below (T31.setTop (mkF m 236 #[.val (.int p0), .val (.int p1), .val (.int p2), .val (.int p3), .val (.long q0), .second, .val (.int (v0_1 p0)), .val (.int (v0_2 p1 p0)), .val (.int (v0_3 p1 p0)), .val (.int (v0_4 p1 p0)), .val (.int (v0_5 p2 p1 p0 p3)), .val (.int (v0_6 p2 p1 p0 p3)), .val (.int (v0_7 p2 p1 p0 p3)), .val (.int (v0_8 p2 p1 p0 p3)), .val (.int (v0_9 p2)), .val (.ref b5), .val (.ref b14), .val (.ref b21), .val (.ref b31), .unset, .unset, .unset, .unset] [])) _
    refine st34 _ ?_
    refine XS.dup X34.here hx rfl (hb hby at_239) rfl rfl ?_
    refine XS.lload X34.here hx rfl (hb hby at_240) rfl ?_
    show Steps p.tables e below (T34.setTop (mkF m 242 #[.val (.int p0), .val (.int p1), .val (.int p2), .val (.int p3), .val (.long q0), .second, .val (.int (v0_1 p0)), .val (.int (v0_2 p1 p0)), .val (.int (v0_3 p1 p0)), .val (.int (v0_4 p1 p0)), .val (.int (v0_5 p2 p1 p0 p3)), .val (.int (v0_6 p2 p1 p0 p3)), .val (.int (v0_7 p2 p1 p0 p3)), .val (.int (v0_8 p2 p1 p0 p3)), .val (.int (v0_9 p2)), .val (.ref b5), .val (.ref b14), .val (.ref b21), .val (.ref b31), .unset, .unset, .unset, .unset] [(.long q0), (.ref b34), (.ref b34)])) _
    refine st35.trans ?_
    refine XS.astore X35.here hx rfl (hb hby at_245) rfl rfl (l' := #[.val (.int p0), .val (.int p1), .val (.int p2), .val (.int p3), .val (.long q0), .second, .val (.int (v0_1 p0)), .val (.int (v0_2 p1 p0)), .val (.int (v0_3 p1 p0)), .val (.int (v0_4 p1 p0)), .val (.int (v0_5 p2 p1 p0 p3)), .val (.int (v0_6 p2 p1 p0 p3)), .val (.int (v0_7 p2 p1 p0 p3)), .val (.int (v0_8 p2 p1 p0 p3)), .val (.int (v0_9 p2)), .val (.ref b5), .val (.ref b14), .val (.ref b21), .val (.ref b31), .val (.ref b34), .unset, .unset, .unset]) rfl ?_
    show Steps p.tables e below (T35.setTop (mkF m 247 #[.val (.int p0), .val (.int p1), .val (.int p2), .val (.int p3), .val (.long q0), .second, .val (.int (v0_1 p0)), .val (.int (v0_2 p1 p0)), .val (.int (v0_3 p1 p0)), .val (.int (v0_4 p1 p0)), .val (.int (v0_5 p2 p1 p0 p3)), .val (.int (v0_6 p2 p1 p0 p3)), .val (.int (v0_7 p2 p1 p0 p3)), .val (.int (v0_8 p2 p1 p0 p3)), .val (.int (v0_9 p2)), .val (.ref b5), .val (.ref b14), .val (.ref b21), .val (.ref b31), .val (.ref b34), .unset, .unset, .unset] [])) _
    refine st36 _ ?_
    show Steps p.tables e below (T36.setTop (mkF m 250 #[.val (.int p0), .val (.int p1), .val (.int p2), .val (.int p3), .val (.long q0), .second, .val (.int (v0_1 p0)), .val (.int (v0_2 p1 p0)), .val (.int (v0_3 p1 p0)), .val (.int (v0_4 p1 p0)), .val (.int (v0_5 p2 p1 p0 p3)), .val (.int (v0_6 p2 p1 p0 p3)), .val (.int (v0_7 p2 p1 p0 p3)), .val (.int (v0_8 p2 p1 p0 p3)), .val (.int (v0_9 p2)), .val (.ref b5), .val (.ref b14), .val (.ref b21), .val (.ref b31), .val (.ref b34), .unset, .unset, .unset] [(.ref b36)])) _
    refine XS.dup X36.here hx rfl (hb hby at_250) rfl rfl ?_
    refine XS.iload X36.here hx rfl (hb hby at_251) rfl ?_
    show Steps p.tables e below (T36.setTop (mkF m 253 #[.val (.int p0), .val (.int p1), .val (.int p2), .val (.int p3), .val (.long q0), .second, .val (.int (v0_1 p0)), .val (.int (v0_2 p1 p0)), .val (.int (v0_3 p1 p0)), .val (.int (v0_4 p1 p0)), .val (.int (v0_5 p2 p1 p0 p3)), .val (.int (v0_6 p2 p1 p0 p3)), .val (.int (v0_7 p2 p1 p0 p3)), .val (.int (v0_8 p2 p1 p0 p3)), .val (.int (v0_9 p2)), .val (.ref b5), .val (.ref b14), .val (.ref b21), .val (.ref b31), .val (.ref b34), .unset, .unset, .unset] [(.int (v0_1 p0)), (.ref b36), (.ref b36)])) _
    refine st40.trans ?_
    refine XS.astore X40.here hx rfl (hb hby at_256) rfl rfl (l' := #[.val (.int p0), .val (.int p1), .val (.int p2), .val (.int p3), .val (.long q0), .second, .val (.int (v0_1 p0)), .val (.int (v0_2 p1 p0)), .val (.int (v0_3 p1 p0)), .val (.int (v0_4 p1 p0)), .val (.int (v0_5 p2 p1 p0 p3)), .val (.int (v0_6 p2 p1 p0 p3)), .val (.int (v0_7 p2 p1 p0 p3)), .val (.int (v0_8 p2 p1 p0 p3)), .val (.int (v0_9 p2)), .val (.ref b5), .val (.ref b14), .val (.ref b21), .val (.ref b31), .val (.ref b34), .val (.ref b36), .unset, .unset]) rfl ?_
    refine XS.aload X40.here hx rfl (hb hby at_258) rfl rfl ?_
    show Steps p.tables e below (T40.setTop (mkF m 260 #[.val (.int p0), .val (.int p1), .val (.int p2), .val (.int p3), .val (.long q0), .second, .val (.int (v0_1 p0)), .val (.int (v0_2 p1 p0)), .val (.int (v0_3 p1 p0)), .val (.int (v0_4 p1 p0)), .val (.int (v0_5 p2 p1 p0 p3)), .val (.int (v0_6 p2 p1 p0 p3)), .val (.int (v0_7 p2 p1 p0 p3)), .val (.int (v0_8 p2 p1 p0 p3)), .val (.int (v0_9 p2)), .val (.ref b5), .val (.ref b14), .val (.ref b21), .val (.ref b31), .val (.ref b34), .val (.ref b36), .unset, .unset] [(.ref b36)])) _
    refine XS.iload X40.here hx rfl (hb hby at_260) rfl ?_
    show Steps p.tables e below (T40.setTop (mkF m 262 #[.val (.int p0), .val (.int p1), .val (.int p2), .val (.int p3), .val (.long q0), .second, .val (.int (v0_1 p0)), .val (.int (v0_2 p1 p0)), .val (.int (v0_3 p1 p0)), .val (.int (v0_4 p1 p0)), .val (.int (v0_5 p2 p1 p0 p3)), .val (.int (v0_6 p2 p1 p0 p3)), .val (.int (v0_7 p2 p1 p0 p3)), .val (.int (v0_8 p2 p1 p0 p3)), .val (.int (v0_9 p2)), .val (.ref b5), .val (.ref b14), .val (.ref b21), .val (.ref b31), .val (.ref b34), .val (.ref b36), .unset, .unset] [(.int (v0_2 p1 p0)), (.ref b36)])) _
    refine st42.trans ?_
    refine XS.aload X42.here hx rfl (hb hby at_265) rfl rfl ?_
    refine XS.iload X42.here hx rfl (hb hby at_267) rfl ?_
    show Steps p.tables e below (T42.setTop (mkF m 269 #[.val (.int p0), .val (.int p1), .val (.int p2), .val (.int p3), .val (.long q0), .second, .val (.int (v0_1 p0)), .val (.int (v0_2 p1 p0)), .val (.int (v0_3 p1 p0)), .val (.int (v0_4 p1 p0)), .val (.int (v0_5 p2 p1 p0 p3)), .val (.int (v0_6 p2 p1 p0 p3)), .val (.int (v0_7 p2 p1 p0 p3)), .val (.int (v0_8 p2 p1 p0 p3)), .val (.int (v0_9 p2)), .val (.ref b5), .val (.ref b14), .val (.ref b21), .val (.ref b31), .val (.ref b34), .val (.ref b36), .unset, .unset] [(.int (v0_3 p1 p0)), (.ref b36)])) _
    refine st43.trans ?_
    refine XS.aload X43.here hx rfl (hb hby at_272) rfl rfl ?_
    show Steps p.tables e below (T43.setTop (mkF m 274 #[.val (.int p0), .val (.int p1), .val (.int p2), .val (.int p3), .val (.long q0), .second, .val (.int (v0_1 p0)), .val (.int (v0_2 p1 p0)), .val (.int (v0_3 p1 p0)), .val (.int (v0_4 p1 p0)), .val (.int (v0_5 p2 p1 p0 p3)), .val (.int (v0_6 p2 p1 p0 p3)), .val (.int (v0_7 p2 p1 p0 p3)), .val (.int (v0_8 p2 p1 p0 p3)), .val (.int (v0_9 p2)), .val (.ref b5), .val (.ref b14), .val (.ref b21), .val (.ref b31), .val (.ref b34), .val (.ref b36), .unset, .unset] [(.ref b36)])) _
    refine XS.iload X43.here hx rfl (hb hby at_274) rfl ?_
    show Steps p.tables e below (T43.setTop (mkF m 276 #[.val (.int p0), .val (.int p1), .val (.int p2), .val (.int p3), .val (.long q0), .second, .val (.int (v0_1 p0)), .val (.int (v0_2 p1 p0)), .val (.int (v0_3 p1 p0)), .val (.int (v0_4 p1 p0)), .val (.int (v0_5 p2 p1 p0 p3)), .val (.int (v0_6 p2 p1 p0 p3)), .val (.int (v0_7 p2 p1 p0 p3)), .val (.int (v0_8 p2 p1 p0 p3)), .val (.int (v0_9 p2)), .val (.ref b5), .val (.ref b14), .val (.ref b21), .val (.ref b31), .val (.ref b34), .val (.ref b36), .unset, .unset] [(.int (v0_4 p1 p0)), (.ref b36)])) _
    refine st45.trans ?_
    refine XS.aload X45.here hx rfl (hb hby at_279) rfl rfl ?_
    refine XS.aload X45.here hx rfl (hb hby at_281) rfl rfl ?_
    refine XS.iload X45.here hx rfl (hb hby at_283) rfl ?_
    show Steps p.tables e below (T45.setTop (mkF m 285 #[.val (.int p0), .val (.int p1), .val (.int p2), .val (.int p3), .val (.long q0), .second, .val (.int (v0_1 p0)), .val (.int (v0_2 p1 p0)), .val (.int (v0_3 p1 p0)), .val (.int (v0_4 p1 p0)), .val (.int (v0_5 p2 p1 p0 p3)), .val (.int (v0_6 p2 p1 p0 p3)), .val (.int (v0_7 p2 p1 p0 p3)), .val (.int (v0_8 p2 p1 p0 p3)), .val (.int (v0_9 p2)), .val (.ref b5), .val (.ref b14), .val (.ref b21), .val (.ref b31), .val (.ref b34), .val (.ref b36), .unset, .unset] [(.int (v0_9 p2)), (.ref b5), (.ref b36)])) _
    refine st47.trans ?_
    show Steps p.tables e below (T47.setTop (mkF m 288 #[.val (.int p0), .val (.int p1), .val (.int p2), .val (.int p3), .val (.long q0), .second, .val (.int (v0_1 p0)), .val (.int (v0_2 p1 p0)), .val (.int (v0_3 p1 p0)), .val (.int (v0_4 p1 p0)), .val (.int (v0_5 p2 p1 p0 p3)), .val (.int (v0_6 p2 p1 p0 p3)), .val (.int (v0_7 p2 p1 p0 p3)), .val (.int (v0_8 p2 p1 p0 p3)), .val (.int (v0_9 p2)), .val (.ref b5), .val (.ref b14), .val (.ref b21), .val (.ref b31), .val (.ref b34), .val (.ref b36), .unset, .unset] [])) _
    refine XS.iload X47.here hx rfl (hb hby at_288) rfl ?_
    refine XS.iload X47.here hx rfl (hb hby at_290) rfl ?_
    refine XS.aload X47.here hx rfl (hb hby at_292) rfl rfl ?_
    refine XS.aload X47.here hx rfl (hb hby at_294) rfl rfl ?_
    show Steps p.tables e below (T47.setTop (mkF m 296 #[.val (.int p0), .val (.int p1), .val (.int p2), .val (.int p3), .val (.long q0), .second, .val (.int (v0_1 p0)), .val (.int (v0_2 p1 p0)), .val (.int (v0_3 p1 p0)), .val (.int (v0_4 p1 p0)), .val (.int (v0_5 p2 p1 p0 p3)), .val (.int (v0_6 p2 p1 p0 p3)), .val (.int (v0_7 p2 p1 p0 p3)), .val (.int (v0_8 p2 p1 p0 p3)), .val (.int (v0_9 p2)), .val (.ref b5), .val (.ref b14), .val (.ref b21), .val (.ref b31), .val (.ref b34), .val (.ref b36), .unset, .unset] [(.ref b21), (.ref b14), (.int (v0_1 p0)), (.int (v0_1 p0))])) _
    refine XS.iload X47.here hx rfl (hb hby at_296) rfl ?_
    show Steps p.tables e below (T47.setTop (mkF m 298 #[.val (.int p0), .val (.int p1), .val (.int p2), .val (.int p3), .val (.long q0), .second, .val (.int (v0_1 p0)), .val (.int (v0_2 p1 p0)), .val (.int (v0_3 p1 p0)), .val (.int (v0_4 p1 p0)), .val (.int (v0_5 p2 p1 p0 p3)), .val (.int (v0_6 p2 p1 p0 p3)), .val (.int (v0_7 p2 p1 p0 p3)), .val (.int (v0_8 p2 p1 p0 p3)), .val (.int (v0_9 p2)), .val (.ref b5), .val (.ref b14), .val (.ref b21), .val (.ref b31), .val (.ref b34), .val (.ref b36), .unset, .unset] [(.int (v0_9 p2)), (.ref b21), (.ref b14), (.int (v0_1 p0)), (.int (v0_1 p0))])) _
    refine st50 _ ?_
    refine XS.isub X50.here hx rfl (hb hby at_301) rfl ?_
    refine XS.istore X50.here hx rfl (hb hby at_302) rfl (l' := #[.val (.int p0), .val (.int p1), .val (.int p2), .val (.int p3), .val (.long q0), .second, .val (.int (v0_1 p0)), .val (.int (v0_2 p1 p0)), .val (.int (v0_3 p1 p0)), .val (.int (v0_4 p1 p0)), .val (.int (v0_5 p2 p1 p0 p3)), .val (.int (v0_6 p2 p1 p0 p3)), .val (.int (v0_7 p2 p1 p0 p3)), .val (.int (v0_8 p2 p1 p0 p3)), .val (.int (v0_9 p2)), .val (.ref b5), .val (.ref b14), .val (.ref b21), .val (.ref b31), .val (.ref b34), .val (.ref b36), .val (.int ((v0_1 p0) - (v0_21 p0 p2 p1 p3))), .unset]) rfl ?_
    refine XS.aload X50.here hx rfl (hb hby at_304) rfl rfl ?_
    show Steps p.tables e below (T50.setTop (mkF m 306 #[.val (.int p0), .val (.int p1), .val (.int p2), .val (.int p3), .val (.long q0), .second, .val (.int (v0_1 p0)), .val (.int (v0_2 p1 p0)), .val (.int (v0_3 p1 p0)), .val (.int (v0_4 p1 p0)), .val (.int (v0_5 p2 p1 p0 p3)), .val (.int (v0_6 p2 p1 p0 p3)), .val (.int (v0_7 p2 p1 p0 p3)), .val (.int (v0_8 p2 p1 p0 p3)), .val (.int (v0_9 p2)), .val (.ref b5), .val (.ref b14), .val (.ref b21), .val (.ref b31), .val (.ref b34), .val (.ref b36), .val (.int (v0_22 p0 p2 p1 p3)), .unset] [(.ref b36)])) _
    refine XS.iload X50.here hx rfl (hb hby at_306) rfl ?_
    refine XS.aconstNull X50.here hx rfl (hb hby at_308) ?_
    refine XS.aload X50.here hx rfl (hb hby at_309) rfl rfl ?_
    refine XS.aload X50.here hx rfl (hb hby at_311) rfl rfl ?_
    show Steps p.tables e below (T50.setTop (mkF m 313 #[.val (.int p0), .val (.int p1), .val (.int p2), .val (.int p3), .val (.long q0), .second, .val (.int (v0_1 p0)), .val (.int (v0_2 p1 p0)), .val (.int (v0_3 p1 p0)), .val (.int (v0_4 p1 p0)), .val (.int (v0_5 p2 p1 p0 p3)), .val (.int (v0_6 p2 p1 p0 p3)), .val (.int (v0_7 p2 p1 p0 p3)), .val (.int (v0_8 p2 p1 p0 p3)), .val (.int (v0_9 p2)), .val (.ref b5), .val (.ref b14), .val (.ref b21), .val (.ref b31), .val (.ref b34), .val (.ref b36), .val (.int (v0_22 p0 p2 p1 p3)), .unset] [(.ref b31), (.ref b34), .null, (.int (v0_22 p0 p2 p1 p3)), (.ref b36)])) _
    refine XS.iconst X50.here hx rfl (hb hby at_313) ?_
    show Steps p.tables e below (T50.setTop (mkF m 314 #[.val (.int p0), .val (.int p1), .val (.int p2), .val (.int p3), .val (.long q0), .second, .val (.int (v0_1 p0)), .val (.int (v0_2 p1 p0)), .val (.int (v0_3 p1 p0)), .val (.int (v0_4 p1 p0)), .val (.int (v0_5 p2 p1 p0 p3)), .val (.int (v0_6 p2 p1 p0 p3)), .val (.int (v0_7 p2 p1 p0 p3)), .val (.int (v0_8 p2 p1 p0 p3)), .val (.int (v0_9 p2)), .val (.ref b5), .val (.ref b14), .val (.ref b21), .val (.ref b31), .val (.ref b34), .val (.ref b36), .val (.int (v0_22 p0 p2 p1 p3)), .unset] [(.int (0 : Int32)), (.ref b31), (.ref b34), .null, (.int (v0_22 p0 p2 p1 p3)), (.ref b36)])) _
    refine st52.trans ?_
    refine XS.iload X52.here hx rfl (hb hby at_317) rfl ?_
    refine XS.iconst X52.here hx rfl (hb hby at_319) ?_
    refine XS.isub X52.here hx rfl (hb hby at_320) rfl ?_
    show Steps p.tables e below (T52.setTop (mkF m 321 #[.val (.int p0), .val (.int p1), .val (.int p2), .val (.int p3), .val (.long q0), .second, .val (.int (v0_1 p0)), .val (.int (v0_2 p1 p0)), .val (.int (v0_3 p1 p0)), .val (.int (v0_4 p1 p0)), .val (.int (v0_5 p2 p1 p0 p3)), .val (.int (v0_6 p2 p1 p0 p3)), .val (.int (v0_7 p2 p1 p0 p3)), .val (.int (v0_8 p2 p1 p0 p3)), .val (.int (v0_9 p2)), .val (.ref b5), .val (.ref b14), .val (.ref b21), .val (.ref b31), .val (.ref b34), .val (.ref b36), .val (.int (v0_22 p0 p2 p1 p3)), .unset] [(.int ((v0_1 p0) - (1 : Int32)))])) _
    refine XS.istore X52.here hx rfl (hb hby at_321) rfl (l' := #[.val (.int p0), .val (.int p1), .val (.int p2), .val (.int p3), .val (.long q0), .second, .val (.int (v0_1 p0)), .val (.int (v0_2 p1 p0)), .val (.int (v0_3 p1 p0)), .val (.int (v0_4 p1 p0)), .val (.int (v0_5 p2 p1 p0 p3)), .val (.int (v0_6 p2 p1 p0 p3)), .val (.int (v0_7 p2 p1 p0 p3)), .val (.int (v0_8 p2 p1 p0 p3)), .val (.int (v0_9 p2)), .val (.ref b5), .val (.ref b14), .val (.ref b21), .val (.ref b31), .val (.ref b34), .val (.ref b36), .val (.int (v0_22 p0 p2 p1 p3)), .val (.int ((v0_1 p0) - (1 : Int32)))]) rfl ?_
    refine XS.iload X52.here hx rfl (hb hby at_323) rfl ?_
    refine XS.ifNo X52.here hx rfl (hb hby at_325) rfl ((if0 _ _).trans (flt (own_last0 p0 : ¬ ((v0_23 p0) < (0 : Int32)))).1) ?_
    refine XS.iload X52.here hx rfl (hb hby at_328) rfl ?_
    show Steps p.tables e below (T52.setTop (mkF m 330 #[.val (.int p0), .val (.int p1), .val (.int p2), .val (.int p3), .val (.long q0), .second, .val (.int (v0_1 p0)), .val (.int (v0_2 p1 p0)), .val (.int (v0_3 p1 p0)), .val (.int (v0_4 p1 p0)), .val (.int (v0_5 p2 p1 p0 p3)), .val (.int (v0_6 p2 p1 p0 p3)), .val (.int (v0_7 p2 p1 p0 p3)), .val (.int (v0_8 p2 p1 p0 p3)), .val (.int (v0_9 p2)), .val (.ref b5), .val (.ref b14), .val (.ref b21), .val (.ref b31), .val (.ref b34), .val (.ref b36), .val (.int (v0_22 p0 p2 p1 p3)), .val (.int (v0_23 p0))] [(.int (v0_23 p0))])) _
    refine XS.aload X52.here hx rfl (hb hby at_330) rfl rfl ?_
    refine XS.aload X52.here hx rfl (hb hby at_332) rfl rfl ?_
    refine XS.iload X52.here hx rfl (hb hby at_334) rfl ?_
    show Steps p.tables e below (T52.setTop (mkF m 336 #[.val (.int p0), .val (.int p1), .val (.int p2), .val (.int p3), .val (.long q0), .second, .val (.int (v0_1 p0)), .val (.int (v0_2 p1 p0)), .val (.int (v0_3 p1 p0)), .val (.int (v0_4 p1 p0)), .val (.int (v0_5 p2 p1 p0 p3)), .val (.int (v0_6 p2 p1 p0 p3)), .val (.int (v0_7 p2 p1 p0 p3)), .val (.int (v0_8 p2 p1 p0 p3)), .val (.int (v0_9 p2)), .val (.ref b5), .val (.ref b14), .val (.ref b21), .val (.ref b31), .val (.ref b34), .val (.ref b36), .val (.int (v0_22 p0 p2 p1 p3)), .val (.int (v0_23 p0))] [(.int (v0_9 p2)), (.ref b21), (.ref b14), (.int (v0_23 p0))])) _
    refine st53 _ ?_
    show Steps p.tables e below (T53.setTop (mkF m 339 #[.val (.int p0), .val (.int p1), .val (.int p2), .val (.int p3), .val (.long q0), .second, .val (.int (v0_1 p0)), .val (.int (v0_2 p1 p0)), .val (.int (v0_3 p1 p0)), .val (.int (v0_4 p1 p0)), .val (.int (v0_5 p2 p1 p0 p3)), .val (.int (v0_6 p2 p1 p0 p3)), .val (.int (v0_7 p2 p1 p0 p3)), .val (.int (v0_8 p2 p1 p0 p3)), .val (.int (v0_9 p2)), .val (.ref b5), .val (.ref b14), .val (.ref b21), .val (.ref b31), .val (.ref b34), .val (.ref b36), .val (.int (v0_22 p0 p2 p1 p3)), .val (.int (v0_23 p0))] [(.int (v0_24 p0 p2 p1 p3))])) _
    exact k)
  have pre56 : ∀ t, Steps p.tables e below (T53.setTop (mkF m 345 #[.val (.int p0), .val (.int p1), .val (.int p2), .val (.int p3), .val (.long q0), .second, .val (.int (v0_1 p0)), .val (.int (v0_2 p1 p0)), .val (.int (v0_3 p1 p0)), .val (.int (v0_4 p1 p0)), .val (.int (v0_5 p2 p1 p0 p3)), .val (.int (v0_6 p2 p1 p0 p3)), .val (.int (v0_7 p2 p1 p0 p3)), .val (.int (v0_8 p2 p1 p0 p3)), .val (.int (v0_9 p2)), .val (.ref b5), .val (.ref b14), .val (.ref b21), .val (.ref b31), .val (.ref b34), .val (.ref b36), .val (.int (v0_22 p0 p2 p1 p3)), .val (.int (if (v0_24 p0 p2 p1 p3) = (0 : Int32) then (v0_23 p0) else ((v0_23 p0) + (-1 : Int32))))] [])) t → Steps p.tables e below (s₁.setTop (entryFrame m #[(.int p0), (.int p1), (.int p2), (.int p3), (.long q0)] maxLocals)) t := fun t k => pre54 t (by
    show Steps p.tables e below (T53.setTop (mkF m 339 #[.val (.int p0), .val (.int p1), .val (.int p2), .val (.int p3), .val (.long q0), .second, .val (.int (v0_1 p0)), .val (.int (v0_2 p1 p0)), .val (.int (v0_3 p1 p0)), .val (.int (v0_4 p1 p0)), .val (.int (v0_5 p2 p1 p0 p3)), .val (.int (v0_6 p2 p1 p0 p3)), .val (.int (v0_7 p2 p1 p0 p3)), .val (.int (v0_8 p2 p1 p0 p3)), .val (.int (v0_9 p2)), .val (.ref b5), .val (.ref b14), .val (.ref b21), .val (.ref b31), .val (.ref b34), .val (.ref b36), .val (.int (v0_22 p0 p2 p1 p3)), .val (.int (v0_23 p0))] [(.int (v0_24 p0 p2 p1 p3))])) _
    by_cases hd339_55 : (v0_24 p0 p2 p1 p3) = (0 : Int32)
    · try simp only [if_pos hd339_55] at k
      show Steps p.tables e below (T53.setTop (mkF m 339 #[.val (.int p0), .val (.int p1), .val (.int p2), .val (.int p3), .val (.long q0), .second, .val (.int (v0_1 p0)), .val (.int (v0_2 p1 p0)), .val (.int (v0_3 p1 p0)), .val (.int (v0_4 p1 p0)), .val (.int (v0_5 p2 p1 p0 p3)), .val (.int (v0_6 p2 p1 p0 p3)), .val (.int (v0_7 p2 p1 p0 p3)), .val (.int (v0_8 p2 p1 p0 p3)), .val (.int (v0_9 p2)), .val (.ref b5), .val (.ref b14), .val (.ref b21), .val (.ref b31), .val (.ref b34), .val (.ref b36), .val (.int (v0_22 p0 p2 p1 p3)), .val (.int (v0_23 p0))] [(.int (v0_24 p0 p2 p1 p3))])) _
      refine XS.ifYes X53.here hx rfl (pc0 := 339) (pc' := 345) rfl (hb hby at_339) rfl ((if0 _ _).trans (teq hd339_55).1) (by decide) (by decide) ?_
      exact k
    · try simp only [if_neg hd339_55] at k
      show Steps p.tables e below (T53.setTop (mkF m 339 #[.val (.int p0), .val (.int p1), .val (.int p2), .val (.int p3), .val (.long q0), .second, .val (.int (v0_1 p0)), .val (.int (v0_2 p1 p0)), .val (.int (v0_3 p1 p0)), .val (.int (v0_4 p1 p0)), .val (.int (v0_5 p2 p1 p0 p3)), .val (.int (v0_6 p2 p1 p0 p3)), .val (.int (v0_7 p2 p1 p0 p3)), .val (.int (v0_8 p2 p1 p0 p3)), .val (.int (v0_9 p2)), .val (.ref b5), .val (.ref b14), .val (.ref b21), .val (.ref b31), .val (.ref b34), .val (.ref b36), .val (.int (v0_22 p0 p2 p1 p3)), .val (.int (v0_23 p0))] [(.int (v0_24 p0 p2 p1 p3))])) _
      refine XS.ifNo X53.here hx rfl (hb hby at_339) rfl ((if0 _ _).trans (feq hd339_55).1) ?_
      refine XS.iinc X53.here hx rfl (hb hby at_342) rfl (l' := #[.val (.int p0), .val (.int p1), .val (.int p2), .val (.int p3), .val (.long q0), .second, .val (.int (v0_1 p0)), .val (.int (v0_2 p1 p0)), .val (.int (v0_3 p1 p0)), .val (.int (v0_4 p1 p0)), .val (.int (v0_5 p2 p1 p0 p3)), .val (.int (v0_6 p2 p1 p0 p3)), .val (.int (v0_7 p2 p1 p0 p3)), .val (.int (v0_8 p2 p1 p0 p3)), .val (.int (v0_9 p2)), .val (.ref b5), .val (.ref b14), .val (.ref b21), .val (.ref b31), .val (.ref b34), .val (.ref b36), .val (.int (v0_22 p0 p2 p1 p3)), .val (.int ((v0_23 p0) + (-1 : Int32)))]) rfl ?_
      exact k
    )
  have pre57 : ∀ t, Steps p.tables e below (T53.setTop (mkF m 347 #[.val (.int p0), .val (.int p1), .val (.int p2), .val (.int p3), .val (.long q0), .second, .val (.int (v0_1 p0)), .val (.int (v0_2 p1 p0)), .val (.int (v0_3 p1 p0)), .val (.int (v0_4 p1 p0)), .val (.int (v0_5 p2 p1 p0 p3)), .val (.int (v0_6 p2 p1 p0 p3)), .val (.int (v0_7 p2 p1 p0 p3)), .val (.int (v0_8 p2 p1 p0 p3)), .val (.int (v0_9 p2)), .val (.ref b5), .val (.ref b14), .val (.ref b21), .val (.ref b31), .val (.ref b34), .val (.ref b36), .val (.int (v0_22 p0 p2 p1 p3)), .val (.int (v0_25 p0 p2 p1 p3))] [(.int (v0_25 p0 p2 p1 p3))])) t → Steps p.tables e below (s₁.setTop (entryFrame m #[(.int p0), (.int p1), (.int p2), (.int p3), (.long q0)] maxLocals)) t := fun t k => pre56 t (by
    show Steps p.tables e below (T53.setTop (mkF m 345 #[.val (.int p0), .val (.int p1), .val (.int p2), .val (.int p3), .val (.long q0), .second, .val (.int (v0_1 p0)), .val (.int (v0_2 p1 p0)), .val (.int (v0_3 p1 p0)), .val (.int (v0_4 p1 p0)), .val (.int (v0_5 p2 p1 p0 p3)), .val (.int (v0_6 p2 p1 p0 p3)), .val (.int (v0_7 p2 p1 p0 p3)), .val (.int (v0_8 p2 p1 p0 p3)), .val (.int (v0_9 p2)), .val (.ref b5), .val (.ref b14), .val (.ref b21), .val (.ref b31), .val (.ref b34), .val (.ref b36), .val (.int (v0_22 p0 p2 p1 p3)), .val (.int (v0_25 p0 p2 p1 p3))] [])) _
    refine XS.iload X53.here hx rfl (hb hby at_345) rfl ?_
    show Steps p.tables e below (T53.setTop (mkF m 347 #[.val (.int p0), .val (.int p1), .val (.int p2), .val (.int p3), .val (.long q0), .second, .val (.int (v0_1 p0)), .val (.int (v0_2 p1 p0)), .val (.int (v0_3 p1 p0)), .val (.int (v0_4 p1 p0)), .val (.int (v0_5 p2 p1 p0 p3)), .val (.int (v0_6 p2 p1 p0 p3)), .val (.int (v0_7 p2 p1 p0 p3)), .val (.int (v0_8 p2 p1 p0 p3)), .val (.int (v0_9 p2)), .val (.ref b5), .val (.ref b14), .val (.ref b21), .val (.ref b31), .val (.ref b34), .val (.ref b36), .val (.int (v0_22 p0 p2 p1 p3)), .val (.int (v0_25 p0 p2 p1 p3))] [(.int (v0_25 p0 p2 p1 p3))])) _
    exact k)
  by_cases hc347_58 : (v0_25 p0 p2 p1 p3) < (0 : Int32)
  · obtain ⟨_, _, ⟨T59, L59, k59, n59⟩, -, X59, ⟨Lc59, hQ59, l59, y59, z59⟩, st59⟩ := Jvm.LawKit.callS X53 hx (y := (⟨"com/example/knotwork/knotwork/generate/FreeNumbersFreePinLaw", "ok", "(I[I[II[II)Z"⟩ : MethodName)) hown (mvT hZ (hw _ (List.mem_of_getElem? (i := 57) rfl))) (mvT hZ (hw _ (List.mem_of_getElem? (i := 58) rfl))) (mvT hZ (hw _ (List.mem_of_getElem? (i := 2) rfl))) (mvT hZ (hw _ (List.mem_of_getElem? (i := 59) rfl))) (by decide) (backOf (W := 0) (rm11 l Z a0 hw [] (v0_2 p1 p0) b14 b21 (v0_9 p2) b31 (v0_22 p0 p2 p1 p3) k14 (w0_16 p1 p0) k21 (w0_13 p2 p1 p0 p3) k31 (own_into p0 p1 p2 p3) T52.heap n0 Z52 ((M48.keep Kq52 (ninS ne_b14_b36 (ninS ne_b14_ta (ninS ne_b14_b31 nin0))))) ((M49.keep Kq52 (ninS ne_b21_b36 (ninS ne_b21_ta (ninS ne_b21_b31 nin0))))) (Vr52) (own_hid (own_ra p1 p0))) hZ (hw _ (List.mem_of_getElem? (i := 59) rfl)) (hw _ (List.mem_of_getElem? (i := 2) rfl)) (by decide) (by decide)) (g := (mkF m 401 #[.val (.int p0), .val (.int p1), .val (.int p2), .val (.int p3), .val (.long q0), .second, .val (.int (v0_1 p0)), .val (.int (v0_2 p1 p0)), .val (.int (v0_3 p1 p0)), .val (.int (v0_4 p1 p0)), .val (.int (v0_5 p2 p1 p0 p3)), .val (.int (v0_6 p2 p1 p0 p3)), .val (.int (v0_7 p2 p1 p0 p3)), .val (.int (v0_8 p2 p1 p0 p3)), .val (.int (v0_9 p2)), .val (.ref b5), .val (.ref b14), .val (.ref b21), .val (.ref b31), .val (.ref b34), .val (.ref b36), .val (.int (v0_22 p0 p2 p1 p3)), .val (.int (v0_25 p0 p2 p1 p3))] [(.int (v0_22 p0 p2 p1 p3)), (.ref b31), (.int (v0_9 p2)), (.ref b21), (.ref b14), (.int (v0_2 p1 p0))])) rfl (by rw [hml]; rfl) (argsL := [(.int (v0_2 p1 p0)), (.ref b14), (.ref b21), (.int (v0_9 p2)), (.ref b31), (.int (v0_22 p0 p2 p1 p3))]) (rest := []) (lenOf pd_10 rfl) rfl (by show 2 * 0 + _ ≤ _; exact Nat.le_of_eq rfl) (hb hby at_401) (fun _ _ => ⟨rfl, e53, (by decide : 8 + 0 ≤ _), (by decide : 146 + 0 ≤ _)⟩)
    dsimp only [Pt.U, Pt.locs, Pt.cells, Pt.slots] at X59 l59 y59 z59 st59 hQ59
    rw [l59, y59, z59] at X59
    obtain ⟨rfl, N59q, e59⟩ := hQ59
    have N59 := Fr.app N53 N59q
    have pre60 : ∀ t, Steps p.tables e below (T59.setTop (mkF m 404 #[.val (.int p0), .val (.int p1), .val (.int p2), .val (.int p3), .val (.long q0), .second, .val (.int (v0_1 p0)), .val (.int (v0_2 p1 p0)), .val (.int (v0_3 p1 p0)), .val (.int (v0_4 p1 p0)), .val (.int (v0_5 p2 p1 p0 p3)), .val (.int (v0_6 p2 p1 p0 p3)), .val (.int (v0_7 p2 p1 p0 p3)), .val (.int (v0_8 p2 p1 p0 p3)), .val (.int (v0_9 p2)), .val (.ref b5), .val (.ref b14), .val (.ref b21), .val (.ref b31), .val (.ref b34), .val (.ref b36), .val (.int (v0_22 p0 p2 p1 p3)), .val (.int (v0_25 p0 p2 p1 p3))] [(.int (v0_26 p1 p0 p2 p3))])) t → Steps p.tables e below (s₁.setTop (entryFrame m #[(.int p0), (.int p1), (.int p2), (.int p3), (.long q0)] maxLocals)) t := fun t k => pre57 t (by
      show Steps p.tables e below (T53.setTop (mkF m 347 #[.val (.int p0), .val (.int p1), .val (.int p2), .val (.int p3), .val (.long q0), .second, .val (.int (v0_1 p0)), .val (.int (v0_2 p1 p0)), .val (.int (v0_3 p1 p0)), .val (.int (v0_4 p1 p0)), .val (.int (v0_5 p2 p1 p0 p3)), .val (.int (v0_6 p2 p1 p0 p3)), .val (.int (v0_7 p2 p1 p0 p3)), .val (.int (v0_8 p2 p1 p0 p3)), .val (.int (v0_9 p2)), .val (.ref b5), .val (.ref b14), .val (.ref b21), .val (.ref b31), .val (.ref b34), .val (.ref b36), .val (.int (v0_22 p0 p2 p1 p3)), .val (.int (v0_25 p0 p2 p1 p3))] [(.int (v0_25 p0 p2 p1 p3))])) _
      refine XS.ifYes X53.here hx rfl (pc0 := 347) (pc' := 367) rfl (hb hby at_347) rfl ((if0 _ _).trans (tlt hc347_58).1) (by decide) (by decide) ?_
      show Steps p.tables e below (T53.setTop (mkF m 367 #[.val (.int p0), .val (.int p1), .val (.int p2), .val (.int p3), .val (.long q0), .second, .val (.int (v0_1 p0)), .val (.int (v0_2 p1 p0)), .val (.int (v0_3 p1 p0)), .val (.int (v0_4 p1 p0)), .val (.int (v0_5 p2 p1 p0 p3)), .val (.int (v0_6 p2 p1 p0 p3)), .val (.int (v0_7 p2 p1 p0 p3)), .val (.int (v0_8 p2 p1 p0 p3)), .val (.int (v0_9 p2)), .val (.ref b5), .val (.ref b14), .val (.ref b21), .val (.ref b31), .val (.ref b34), .val (.ref b36), .val (.int (v0_22 p0 p2 p1 p3)), .val (.int (v0_25 p0 p2 p1 p3))] [])) _
      refine XS.iload X53.here hx rfl (hb hby at_367) rfl ?_
      refine XS.ifYes X53.here hx rfl (pc0 := 369) (pc' := 389) rfl (hb hby at_369) rfl ((if0 _ _).trans (tlt hc347_58).1) (by decide) (by decide) ?_
      refine XS.iload X53.here hx rfl (hb hby at_389) rfl ?_
      refine XS.aload X53.here hx rfl (hb hby at_391) rfl rfl ?_
      show Steps p.tables e below (T53.setTop (mkF m 393 #[.val (.int p0), .val (.int p1), .val (.int p2), .val (.int p3), .val (.long q0), .second, .val (.int (v0_1 p0)), .val (.int (v0_2 p1 p0)), .val (.int (v0_3 p1 p0)), .val (.int (v0_4 p1 p0)), .val (.int (v0_5 p2 p1 p0 p3)), .val (.int (v0_6 p2 p1 p0 p3)), .val (.int (v0_7 p2 p1 p0 p3)), .val (.int (v0_8 p2 p1 p0 p3)), .val (.int (v0_9 p2)), .val (.ref b5), .val (.ref b14), .val (.ref b21), .val (.ref b31), .val (.ref b34), .val (.ref b36), .val (.int (v0_22 p0 p2 p1 p3)), .val (.int (v0_25 p0 p2 p1 p3))] [(.ref b14), (.int (v0_2 p1 p0))])) _
      refine XS.aload X53.here hx rfl (hb hby at_393) rfl rfl ?_
      refine XS.iload X53.here hx rfl (hb hby at_395) rfl ?_
      refine XS.aload X53.here hx rfl (hb hby at_397) rfl rfl ?_
      refine XS.iload X53.here hx rfl (hb hby at_399) rfl ?_
      show Steps p.tables e below (T53.setTop (mkF m 401 #[.val (.int p0), .val (.int p1), .val (.int p2), .val (.int p3), .val (.long q0), .second, .val (.int (v0_1 p0)), .val (.int (v0_2 p1 p0)), .val (.int (v0_3 p1 p0)), .val (.int (v0_4 p1 p0)), .val (.int (v0_5 p2 p1 p0 p3)), .val (.int (v0_6 p2 p1 p0 p3)), .val (.int (v0_7 p2 p1 p0 p3)), .val (.int (v0_8 p2 p1 p0 p3)), .val (.int (v0_9 p2)), .val (.ref b5), .val (.ref b14), .val (.ref b21), .val (.ref b31), .val (.ref b34), .val (.ref b36), .val (.int (v0_22 p0 p2 p1 p3)), .val (.int (v0_25 p0 p2 p1 p3))] [(.int (v0_22 p0 p2 p1 p3)), (.ref b31), (.int (v0_9 p2)), (.ref b21), (.ref b14), (.int (v0_2 p1 p0))])) _
      refine st59 _ ?_
      show Steps p.tables e below (T59.setTop (mkF m 404 #[.val (.int p0), .val (.int p1), .val (.int p2), .val (.int p3), .val (.long q0), .second, .val (.int (v0_1 p0)), .val (.int (v0_2 p1 p0)), .val (.int (v0_3 p1 p0)), .val (.int (v0_4 p1 p0)), .val (.int (v0_5 p2 p1 p0 p3)), .val (.int (v0_6 p2 p1 p0 p3)), .val (.int (v0_7 p2 p1 p0 p3)), .val (.int (v0_8 p2 p1 p0 p3)), .val (.int (v0_9 p2)), .val (.ref b5), .val (.ref b14), .val (.ref b21), .val (.ref b31), .val (.ref b34), .val (.ref b36), .val (.int (v0_22 p0 p2 p1 p3)), .val (.int (v0_25 p0 p2 p1 p3))] [(.int (v0_26 p1 p0 p2 p3))])) _
      exact k)
    by_cases hc404_61 : (v0_26 p1 p0 p2 p3) = (0 : Int32)
    · have hv : (f0 p0 p1 p2 p3 q0) = (0 : Int32) := by simp only [f0, if_pos hc347_58, if_pos hc404_61]
      obtain ⟨fs, hr, hrun, hended, hW, hsame⟩ := X59.leave (v := some (.int (0 : Int32))) (fun h => nomatch (Bd.returns.symm.trans h)) hlk
      refine ⟨_, _, pre60 _ ?_, hrun, hended, _, _, rfl, ?_, ⟨_, rfl⟩, hW, hsame.mono (by decide) (by decide)⟩
      · show Steps p.tables e below (T59.setTop (mkF m 404 #[.val (.int p0), .val (.int p1), .val (.int p2), .val (.int p3), .val (.long q0), .second, .val (.int (v0_1 p0)), .val (.int (v0_2 p1 p0)), .val (.int (v0_3 p1 p0)), .val (.int (v0_4 p1 p0)), .val (.int (v0_5 p2 p1 p0 p3)), .val (.int (v0_6 p2 p1 p0 p3)), .val (.int (v0_7 p2 p1 p0 p3)), .val (.int (v0_8 p2 p1 p0 p3)), .val (.int (v0_9 p2)), .val (.ref b5), .val (.ref b14), .val (.ref b21), .val (.ref b31), .val (.ref b34), .val (.ref b36), .val (.int (v0_22 p0 p2 p1 p3)), .val (.int (v0_25 p0 p2 p1 p3))] [(.int (v0_26 p1 p0 p2 p3))])) _
        refine XS.ifYes X59.here hx rfl (pc0 := 404) (pc' := 544) rfl (hb hby at_404) rfl ((if0 _ _).trans (teq hc404_61).1) (by decide) (by decide) ?_
        refine XS.iconst X59.here hx rfl (hb hby at_544) ?_
        show Steps p.tables e below (T59.setTop (mkF m 545 #[.val (.int p0), .val (.int p1), .val (.int p2), .val (.int p3), .val (.long q0), .second, .val (.int (v0_1 p0)), .val (.int (v0_2 p1 p0)), .val (.int (v0_3 p1 p0)), .val (.int (v0_4 p1 p0)), .val (.int (v0_5 p2 p1 p0 p3)), .val (.int (v0_6 p2 p1 p0 p3)), .val (.int (v0_7 p2 p1 p0 p3)), .val (.int (v0_8 p2 p1 p0 p3)), .val (.int (v0_9 p2)), .val (.ref b5), .val (.ref b14), .val (.ref b21), .val (.ref b31), .val (.ref b34), .val (.ref b36), .val (.int (v0_22 p0 p2 p1 p3)), .val (.int (v0_25 p0 p2 p1 p3))] [(.int (0 : Int32))])) _
        exact retN X59 hx (t := .boolean) Bd.returns (by simp) (hb hby at_545) hr
      · show Q0 Z p0 p1 p2 p3 q0 h0 n0 _ T59.heap _
        rw [e59]
        exact ⟨by rw [hv], N59⟩
    · obtain ⟨_, _, ⟨T62, L62, k62, n62⟩, -, X62, ⟨Lc62, hQ62, l62, y62, z62⟩, st62⟩ := Jvm.LawKit.callS X59 hx (y := (⟨"com/example/knotwork/knotwork/generate/FreeNumbersFreePinLaw", "ok", "(I[I[II[II)Z"⟩ : MethodName)) hown (mvT hZ (hw _ (List.mem_of_getElem? (i := 57) rfl))) (mvT hZ (hw _ (List.mem_of_getElem? (i := 58) rfl))) (mvT hZ (hw _ (List.mem_of_getElem? (i := 2) rfl))) (mvT hZ (hw _ (List.mem_of_getElem? (i := 59) rfl))) (by decide) (backOf (W := 0) (rm11 l Z a0 hw [] (v0_3 p1 p0) b14 b21 (v0_9 p2) b31 (v0_22 p0 p2 p1 p3) k14 (w0_16 p1 p0) k21 (w0_13 p2 p1 p0 p3) k31 (own_into p0 p1 p2 p3) T52.heap n0 Z52 ((M48.keep Kq52 (ninS ne_b14_b36 (ninS ne_b14_ta (ninS ne_b14_b31 nin0))))) ((M49.keep Kq52 (ninS ne_b21_b36 (ninS ne_b21_ta (ninS ne_b21_b31 nin0))))) (Vr52) (own_hid (own_rb p1 p0))) hZ (hw _ (List.mem_of_getElem? (i := 59) rfl)) (hw _ (List.mem_of_getElem? (i := 2) rfl)) (by decide) (by decide)) (g := (mkF m 419 #[.val (.int p0), .val (.int p1), .val (.int p2), .val (.int p3), .val (.long q0), .second, .val (.int (v0_1 p0)), .val (.int (v0_2 p1 p0)), .val (.int (v0_3 p1 p0)), .val (.int (v0_4 p1 p0)), .val (.int (v0_5 p2 p1 p0 p3)), .val (.int (v0_6 p2 p1 p0 p3)), .val (.int (v0_7 p2 p1 p0 p3)), .val (.int (v0_8 p2 p1 p0 p3)), .val (.int (v0_9 p2)), .val (.ref b5), .val (.ref b14), .val (.ref b21), .val (.ref b31), .val (.ref b34), .val (.ref b36), .val (.int (v0_22 p0 p2 p1 p3)), .val (.int (v0_25 p0 p2 p1 p3))] [(.int (v0_22 p0 p2 p1 p3)), (.ref b31), (.int (v0_9 p2)), (.ref b21), (.ref b14), (.int (v0_3 p1 p0))])) rfl (by rw [hml]; rfl) (argsL := [(.int (v0_3 p1 p0)), (.ref b14), (.ref b21), (.int (v0_9 p2)), (.ref b31), (.int (v0_22 p0 p2 p1 p3))]) (rest := []) (lenOf pd_10 rfl) rfl (by show 2 * 0 + _ ≤ _; exact Nat.le_of_eq rfl) (hb hby at_419) (fun _ _ => ⟨rfl, e59, (by decide : 8 + 0 ≤ _), (by decide : 146 + 0 ≤ _)⟩)
      dsimp only [Pt.U, Pt.locs, Pt.cells, Pt.slots] at X62 l62 y62 z62 st62 hQ62
      rw [l62, y62, z62] at X62
      obtain ⟨rfl, N62q, e62⟩ := hQ62
      have N62 := Fr.app N59 N62q
      have pre63 : ∀ t, Steps p.tables e below (T62.setTop (mkF m 422 #[.val (.int p0), .val (.int p1), .val (.int p2), .val (.int p3), .val (.long q0), .second, .val (.int (v0_1 p0)), .val (.int (v0_2 p1 p0)), .val (.int (v0_3 p1 p0)), .val (.int (v0_4 p1 p0)), .val (.int (v0_5 p2 p1 p0 p3)), .val (.int (v0_6 p2 p1 p0 p3)), .val (.int (v0_7 p2 p1 p0 p3)), .val (.int (v0_8 p2 p1 p0 p3)), .val (.int (v0_9 p2)), .val (.ref b5), .val (.ref b14), .val (.ref b21), .val (.ref b31), .val (.ref b34), .val (.ref b36), .val (.int (v0_22 p0 p2 p1 p3)), .val (.int (v0_25 p0 p2 p1 p3))] [(.int (v0_27 p1 p0 p2 p3))])) t → Steps p.tables e below (s₁.setTop (entryFrame m #[(.int p0), (.int p1), (.int p2), (.int p3), (.long q0)] maxLocals)) t := fun t k => pre60 t (by
        show Steps p.tables e below (T59.setTop (mkF m 404 #[.val (.int p0), .val (.int p1), .val (.int p2), .val (.int p3), .val (.long q0), .second, .val (.int (v0_1 p0)), .val (.int (v0_2 p1 p0)), .val (.int (v0_3 p1 p0)), .val (.int (v0_4 p1 p0)), .val (.int (v0_5 p2 p1 p0 p3)), .val (.int (v0_6 p2 p1 p0 p3)), .val (.int (v0_7 p2 p1 p0 p3)), .val (.int (v0_8 p2 p1 p0 p3)), .val (.int (v0_9 p2)), .val (.ref b5), .val (.ref b14), .val (.ref b21), .val (.ref b31), .val (.ref b34), .val (.ref b36), .val (.int (v0_22 p0 p2 p1 p3)), .val (.int (v0_25 p0 p2 p1 p3))] [(.int (v0_26 p1 p0 p2 p3))])) _
        refine XS.ifNo X59.here hx rfl (hb hby at_404) rfl ((if0 _ _).trans (feq hc404_61).1) ?_
        refine XS.iload X59.here hx rfl (hb hby at_407) rfl ?_
        show Steps p.tables e below (T59.setTop (mkF m 409 #[.val (.int p0), .val (.int p1), .val (.int p2), .val (.int p3), .val (.long q0), .second, .val (.int (v0_1 p0)), .val (.int (v0_2 p1 p0)), .val (.int (v0_3 p1 p0)), .val (.int (v0_4 p1 p0)), .val (.int (v0_5 p2 p1 p0 p3)), .val (.int (v0_6 p2 p1 p0 p3)), .val (.int (v0_7 p2 p1 p0 p3)), .val (.int (v0_8 p2 p1 p0 p3)), .val (.int (v0_9 p2)), .val (.ref b5), .val (.ref b14), .val (.ref b21), .val (.ref b31), .val (.ref b34), .val (.ref b36), .val (.int (v0_22 p0 p2 p1 p3)), .val (.int (v0_25 p0 p2 p1 p3))] [(.int (v0_3 p1 p0))])) _
        refine XS.aload X59.here hx rfl (hb hby at_409) rfl rfl ?_
        refine XS.aload X59.here hx rfl (hb hby at_411) rfl rfl ?_
        refine XS.iload X59.here hx rfl (hb hby at_413) rfl ?_
        refine XS.aload X59.here hx rfl (hb hby at_415) rfl rfl ?_
        show Steps p.tables e below (T59.setTop (mkF m 417 #[.val (.int p0), .val (.int p1), .val (.int p2), .val (.int p3), .val (.long q0), .second, .val (.int (v0_1 p0)), .val (.int (v0_2 p1 p0)), .val (.int (v0_3 p1 p0)), .val (.int (v0_4 p1 p0)), .val (.int (v0_5 p2 p1 p0 p3)), .val (.int (v0_6 p2 p1 p0 p3)), .val (.int (v0_7 p2 p1 p0 p3)), .val (.int (v0_8 p2 p1 p0 p3)), .val (.int (v0_9 p2)), .val (.ref b5), .val (.ref b14), .val (.ref b21), .val (.ref b31), .val (.ref b34), .val (.ref b36), .val (.int (v0_22 p0 p2 p1 p3)), .val (.int (v0_25 p0 p2 p1 p3))] [(.ref b31), (.int (v0_9 p2)), (.ref b21), (.ref b14), (.int (v0_3 p1 p0))])) _
        refine XS.iload X59.here hx rfl (hb hby at_417) rfl ?_
        show Steps p.tables e below (T59.setTop (mkF m 419 #[.val (.int p0), .val (.int p1), .val (.int p2), .val (.int p3), .val (.long q0), .second, .val (.int (v0_1 p0)), .val (.int (v0_2 p1 p0)), .val (.int (v0_3 p1 p0)), .val (.int (v0_4 p1 p0)), .val (.int (v0_5 p2 p1 p0 p3)), .val (.int (v0_6 p2 p1 p0 p3)), .val (.int (v0_7 p2 p1 p0 p3)), .val (.int (v0_8 p2 p1 p0 p3)), .val (.int (v0_9 p2)), .val (.ref b5), .val (.ref b14), .val (.ref b21), .val (.ref b31), .val (.ref b34), .val (.ref b36), .val (.int (v0_22 p0 p2 p1 p3)), .val (.int (v0_25 p0 p2 p1 p3))] [(.int (v0_22 p0 p2 p1 p3)), (.ref b31), (.int (v0_9 p2)), (.ref b21), (.ref b14), (.int (v0_3 p1 p0))])) _
        refine st62 _ ?_
        show Steps p.tables e below (T62.setTop (mkF m 422 #[.val (.int p0), .val (.int p1), .val (.int p2), .val (.int p3), .val (.long q0), .second, .val (.int (v0_1 p0)), .val (.int (v0_2 p1 p0)), .val (.int (v0_3 p1 p0)), .val (.int (v0_4 p1 p0)), .val (.int (v0_5 p2 p1 p0 p3)), .val (.int (v0_6 p2 p1 p0 p3)), .val (.int (v0_7 p2 p1 p0 p3)), .val (.int (v0_8 p2 p1 p0 p3)), .val (.int (v0_9 p2)), .val (.ref b5), .val (.ref b14), .val (.ref b21), .val (.ref b31), .val (.ref b34), .val (.ref b36), .val (.int (v0_22 p0 p2 p1 p3)), .val (.int (v0_25 p0 p2 p1 p3))] [(.int (v0_27 p1 p0 p2 p3))])) _
        exact k)
      by_cases hc422_64 : (v0_27 p1 p0 p2 p3) = (0 : Int32)
      · have hv : (f0 p0 p1 p2 p3 q0) = (0 : Int32) := by simp only [f0, if_pos hc347_58, if_neg hc404_61, if_pos hc422_64]
        obtain ⟨fs, hr, hrun, hended, hW, hsame⟩ := X62.leave (v := some (.int (0 : Int32))) (fun h => nomatch (Bd.returns.symm.trans h)) hlk
        refine ⟨_, _, pre63 _ ?_, hrun, hended, _, _, rfl, ?_, ⟨_, rfl⟩, hW, hsame.mono (by decide) (by decide)⟩
        · show Steps p.tables e below (T62.setTop (mkF m 422 #[.val (.int p0), .val (.int p1), .val (.int p2), .val (.int p3), .val (.long q0), .second, .val (.int (v0_1 p0)), .val (.int (v0_2 p1 p0)), .val (.int (v0_3 p1 p0)), .val (.int (v0_4 p1 p0)), .val (.int (v0_5 p2 p1 p0 p3)), .val (.int (v0_6 p2 p1 p0 p3)), .val (.int (v0_7 p2 p1 p0 p3)), .val (.int (v0_8 p2 p1 p0 p3)), .val (.int (v0_9 p2)), .val (.ref b5), .val (.ref b14), .val (.ref b21), .val (.ref b31), .val (.ref b34), .val (.ref b36), .val (.int (v0_22 p0 p2 p1 p3)), .val (.int (v0_25 p0 p2 p1 p3))] [(.int (v0_27 p1 p0 p2 p3))])) _
          refine XS.ifYes X62.here hx rfl (pc0 := 422) (pc' := 544) rfl (hb hby at_422) rfl ((if0 _ _).trans (teq hc422_64).1) (by decide) (by decide) ?_
          refine XS.iconst X62.here hx rfl (hb hby at_544) ?_
          show Steps p.tables e below (T62.setTop (mkF m 545 #[.val (.int p0), .val (.int p1), .val (.int p2), .val (.int p3), .val (.long q0), .second, .val (.int (v0_1 p0)), .val (.int (v0_2 p1 p0)), .val (.int (v0_3 p1 p0)), .val (.int (v0_4 p1 p0)), .val (.int (v0_5 p2 p1 p0 p3)), .val (.int (v0_6 p2 p1 p0 p3)), .val (.int (v0_7 p2 p1 p0 p3)), .val (.int (v0_8 p2 p1 p0 p3)), .val (.int (v0_9 p2)), .val (.ref b5), .val (.ref b14), .val (.ref b21), .val (.ref b31), .val (.ref b34), .val (.ref b36), .val (.int (v0_22 p0 p2 p1 p3)), .val (.int (v0_25 p0 p2 p1 p3))] [(.int (0 : Int32))])) _
          exact retN X62 hx (t := .boolean) Bd.returns (by simp) (hb hby at_545) hr
        · show Q0 Z p0 p1 p2 p3 q0 h0 n0 _ T62.heap _
          rw [e62]
          exact ⟨by rw [hv], N62⟩
      · obtain ⟨_, _, ⟨T65, L65, k65, n65⟩, -, X65, ⟨Lc65, hQ65, l65, y65, z65⟩, st65⟩ := Jvm.LawKit.callS X62 hx (y := (⟨"com/example/knotwork/knotwork/generate/FreeNumbersFreePinLaw", "ok", "(I[I[II[II)Z"⟩ : MethodName)) hown (mvT hZ (hw _ (List.mem_of_getElem? (i := 57) rfl))) (mvT hZ (hw _ (List.mem_of_getElem? (i := 58) rfl))) (mvT hZ (hw _ (List.mem_of_getElem? (i := 2) rfl))) (mvT hZ (hw _ (List.mem_of_getElem? (i := 59) rfl))) (by decide) (backOf (W := 0) (rm11 l Z a0 hw [] (v0_4 p1 p0) b14 b21 (v0_9 p2) b31 (v0_22 p0 p2 p1 p3) k14 (w0_16 p1 p0) k21 (w0_13 p2 p1 p0 p3) k31 (own_into p0 p1 p2 p3) T52.heap n0 Z52 ((M48.keep Kq52 (ninS ne_b14_b36 (ninS ne_b14_ta (ninS ne_b14_b31 nin0))))) ((M49.keep Kq52 (ninS ne_b21_b36 (ninS ne_b21_ta (ninS ne_b21_b31 nin0))))) (Vr52) (own_hid (own_rc p1 p0))) hZ (hw _ (List.mem_of_getElem? (i := 59) rfl)) (hw _ (List.mem_of_getElem? (i := 2) rfl)) (by decide) (by decide)) (g := (mkF m 437 #[.val (.int p0), .val (.int p1), .val (.int p2), .val (.int p3), .val (.long q0), .second, .val (.int (v0_1 p0)), .val (.int (v0_2 p1 p0)), .val (.int (v0_3 p1 p0)), .val (.int (v0_4 p1 p0)), .val (.int (v0_5 p2 p1 p0 p3)), .val (.int (v0_6 p2 p1 p0 p3)), .val (.int (v0_7 p2 p1 p0 p3)), .val (.int (v0_8 p2 p1 p0 p3)), .val (.int (v0_9 p2)), .val (.ref b5), .val (.ref b14), .val (.ref b21), .val (.ref b31), .val (.ref b34), .val (.ref b36), .val (.int (v0_22 p0 p2 p1 p3)), .val (.int (v0_25 p0 p2 p1 p3))] [(.int (v0_22 p0 p2 p1 p3)), (.ref b31), (.int (v0_9 p2)), (.ref b21), (.ref b14), (.int (v0_4 p1 p0))])) rfl (by rw [hml]; rfl) (argsL := [(.int (v0_4 p1 p0)), (.ref b14), (.ref b21), (.int (v0_9 p2)), (.ref b31), (.int (v0_22 p0 p2 p1 p3))]) (rest := []) (lenOf pd_10 rfl) rfl (by show 2 * 0 + _ ≤ _; exact Nat.le_of_eq rfl) (hb hby at_437) (fun _ _ => ⟨rfl, e62, (by decide : 8 + 0 ≤ _), (by decide : 146 + 0 ≤ _)⟩)
        dsimp only [Pt.U, Pt.locs, Pt.cells, Pt.slots] at X65 l65 y65 z65 st65 hQ65
        rw [l65, y65, z65] at X65
        obtain ⟨rfl, N65q, e65⟩ := hQ65
        have N65 := Fr.app N62 N65q
        have pre66 : ∀ t, Steps p.tables e below (T65.setTop (mkF m 440 #[.val (.int p0), .val (.int p1), .val (.int p2), .val (.int p3), .val (.long q0), .second, .val (.int (v0_1 p0)), .val (.int (v0_2 p1 p0)), .val (.int (v0_3 p1 p0)), .val (.int (v0_4 p1 p0)), .val (.int (v0_5 p2 p1 p0 p3)), .val (.int (v0_6 p2 p1 p0 p3)), .val (.int (v0_7 p2 p1 p0 p3)), .val (.int (v0_8 p2 p1 p0 p3)), .val (.int (v0_9 p2)), .val (.ref b5), .val (.ref b14), .val (.ref b21), .val (.ref b31), .val (.ref b34), .val (.ref b36), .val (.int (v0_22 p0 p2 p1 p3)), .val (.int (v0_25 p0 p2 p1 p3))] [(.int (v0_28 p1 p0 p2 p3))])) t → Steps p.tables e below (s₁.setTop (entryFrame m #[(.int p0), (.int p1), (.int p2), (.int p3), (.long q0)] maxLocals)) t := fun t k => pre63 t (by
          show Steps p.tables e below (T62.setTop (mkF m 422 #[.val (.int p0), .val (.int p1), .val (.int p2), .val (.int p3), .val (.long q0), .second, .val (.int (v0_1 p0)), .val (.int (v0_2 p1 p0)), .val (.int (v0_3 p1 p0)), .val (.int (v0_4 p1 p0)), .val (.int (v0_5 p2 p1 p0 p3)), .val (.int (v0_6 p2 p1 p0 p3)), .val (.int (v0_7 p2 p1 p0 p3)), .val (.int (v0_8 p2 p1 p0 p3)), .val (.int (v0_9 p2)), .val (.ref b5), .val (.ref b14), .val (.ref b21), .val (.ref b31), .val (.ref b34), .val (.ref b36), .val (.int (v0_22 p0 p2 p1 p3)), .val (.int (v0_25 p0 p2 p1 p3))] [(.int (v0_27 p1 p0 p2 p3))])) _
          refine XS.ifNo X62.here hx rfl (hb hby at_422) rfl ((if0 _ _).trans (feq hc422_64).1) ?_
          show Steps p.tables e below (T62.setTop (mkF m 425 #[.val (.int p0), .val (.int p1), .val (.int p2), .val (.int p3), .val (.long q0), .second, .val (.int (v0_1 p0)), .val (.int (v0_2 p1 p0)), .val (.int (v0_3 p1 p0)), .val (.int (v0_4 p1 p0)), .val (.int (v0_5 p2 p1 p0 p3)), .val (.int (v0_6 p2 p1 p0 p3)), .val (.int (v0_7 p2 p1 p0 p3)), .val (.int (v0_8 p2 p1 p0 p3)), .val (.int (v0_9 p2)), .val (.ref b5), .val (.ref b14), .val (.ref b21), .val (.ref b31), .val (.ref b34), .val (.ref b36), .val (.int (v0_22 p0 p2 p1 p3)), .val (.int (v0_25 p0 p2 p1 p3))] [])) _
          refine XS.iload X62.here hx rfl (hb hby at_425) rfl ?_
          refine XS.aload X62.here hx rfl (hb hby at_427) rfl rfl ?_
          refine XS.aload X62.here hx rfl (hb hby at_429) rfl rfl ?_
          refine XS.iload X62.here hx rfl (hb hby at_431) rfl ?_
          show Steps p.tables e below (T62.setTop (mkF m 433 #[.val (.int p0), .val (.int p1), .val (.int p2), .val (.int p3), .val (.long q0), .second, .val (.int (v0_1 p0)), .val (.int (v0_2 p1 p0)), .val (.int (v0_3 p1 p0)), .val (.int (v0_4 p1 p0)), .val (.int (v0_5 p2 p1 p0 p3)), .val (.int (v0_6 p2 p1 p0 p3)), .val (.int (v0_7 p2 p1 p0 p3)), .val (.int (v0_8 p2 p1 p0 p3)), .val (.int (v0_9 p2)), .val (.ref b5), .val (.ref b14), .val (.ref b21), .val (.ref b31), .val (.ref b34), .val (.ref b36), .val (.int (v0_22 p0 p2 p1 p3)), .val (.int (v0_25 p0 p2 p1 p3))] [(.int (v0_9 p2)), (.ref b21), (.ref b14), (.int (v0_4 p1 p0))])) _
          refine XS.aload X62.here hx rfl (hb hby at_433) rfl rfl ?_
          refine XS.iload X62.here hx rfl (hb hby at_435) rfl ?_
          show Steps p.tables e below (T62.setTop (mkF m 437 #[.val (.int p0), .val (.int p1), .val (.int p2), .val (.int p3), .val (.long q0), .second, .val (.int (v0_1 p0)), .val (.int (v0_2 p1 p0)), .val (.int (v0_3 p1 p0)), .val (.int (v0_4 p1 p0)), .val (.int (v0_5 p2 p1 p0 p3)), .val (.int (v0_6 p2 p1 p0 p3)), .val (.int (v0_7 p2 p1 p0 p3)), .val (.int (v0_8 p2 p1 p0 p3)), .val (.int (v0_9 p2)), .val (.ref b5), .val (.ref b14), .val (.ref b21), .val (.ref b31), .val (.ref b34), .val (.ref b36), .val (.int (v0_22 p0 p2 p1 p3)), .val (.int (v0_25 p0 p2 p1 p3))] [(.int (v0_22 p0 p2 p1 p3)), (.ref b31), (.int (v0_9 p2)), (.ref b21), (.ref b14), (.int (v0_4 p1 p0))])) _
          refine st65 _ ?_
          show Steps p.tables e below (T65.setTop (mkF m 440 #[.val (.int p0), .val (.int p1), .val (.int p2), .val (.int p3), .val (.long q0), .second, .val (.int (v0_1 p0)), .val (.int (v0_2 p1 p0)), .val (.int (v0_3 p1 p0)), .val (.int (v0_4 p1 p0)), .val (.int (v0_5 p2 p1 p0 p3)), .val (.int (v0_6 p2 p1 p0 p3)), .val (.int (v0_7 p2 p1 p0 p3)), .val (.int (v0_8 p2 p1 p0 p3)), .val (.int (v0_9 p2)), .val (.ref b5), .val (.ref b14), .val (.ref b21), .val (.ref b31), .val (.ref b34), .val (.ref b36), .val (.int (v0_22 p0 p2 p1 p3)), .val (.int (v0_25 p0 p2 p1 p3))] [(.int (v0_28 p1 p0 p2 p3))])) _
          exact k)
        by_cases hc440_67 : (v0_28 p1 p0 p2 p3) = (0 : Int32)
        · have hv : (f0 p0 p1 p2 p3 q0) = (0 : Int32) := by simp only [f0, if_pos hc347_58, if_neg hc404_61, if_neg hc422_64, if_pos hc440_67]
          obtain ⟨fs, hr, hrun, hended, hW, hsame⟩ := X65.leave (v := some (.int (0 : Int32))) (fun h => nomatch (Bd.returns.symm.trans h)) hlk
          refine ⟨_, _, pre66 _ ?_, hrun, hended, _, _, rfl, ?_, ⟨_, rfl⟩, hW, hsame.mono (by decide) (by decide)⟩
          · show Steps p.tables e below (T65.setTop (mkF m 440 #[.val (.int p0), .val (.int p1), .val (.int p2), .val (.int p3), .val (.long q0), .second, .val (.int (v0_1 p0)), .val (.int (v0_2 p1 p0)), .val (.int (v0_3 p1 p0)), .val (.int (v0_4 p1 p0)), .val (.int (v0_5 p2 p1 p0 p3)), .val (.int (v0_6 p2 p1 p0 p3)), .val (.int (v0_7 p2 p1 p0 p3)), .val (.int (v0_8 p2 p1 p0 p3)), .val (.int (v0_9 p2)), .val (.ref b5), .val (.ref b14), .val (.ref b21), .val (.ref b31), .val (.ref b34), .val (.ref b36), .val (.int (v0_22 p0 p2 p1 p3)), .val (.int (v0_25 p0 p2 p1 p3))] [(.int (v0_28 p1 p0 p2 p3))])) _
            refine XS.ifYes X65.here hx rfl (pc0 := 440) (pc' := 544) rfl (hb hby at_440) rfl ((if0 _ _).trans (teq hc440_67).1) (by decide) (by decide) ?_
            refine XS.iconst X65.here hx rfl (hb hby at_544) ?_
            show Steps p.tables e below (T65.setTop (mkF m 545 #[.val (.int p0), .val (.int p1), .val (.int p2), .val (.int p3), .val (.long q0), .second, .val (.int (v0_1 p0)), .val (.int (v0_2 p1 p0)), .val (.int (v0_3 p1 p0)), .val (.int (v0_4 p1 p0)), .val (.int (v0_5 p2 p1 p0 p3)), .val (.int (v0_6 p2 p1 p0 p3)), .val (.int (v0_7 p2 p1 p0 p3)), .val (.int (v0_8 p2 p1 p0 p3)), .val (.int (v0_9 p2)), .val (.ref b5), .val (.ref b14), .val (.ref b21), .val (.ref b31), .val (.ref b34), .val (.ref b36), .val (.int (v0_22 p0 p2 p1 p3)), .val (.int (v0_25 p0 p2 p1 p3))] [(.int (0 : Int32))])) _
            exact retN X65 hx (t := .boolean) Bd.returns (by simp) (hb hby at_545) hr
          · show Q0 Z p0 p1 p2 p3 q0 h0 n0 _ T65.heap _
            rw [e65]
            exact ⟨by rw [hv], N65⟩
        · obtain ⟨_, _, ⟨T68, L68, k68, n68⟩, -, X68, ⟨Lc68, hQ68, l68, y68, z68⟩, st68⟩ := Jvm.LawKit.callS X65 hx (y := (⟨"com/example/knotwork/knotwork/generate/FreeNumbersFreePinLaw", "ok", "(I[I[II[II)Z"⟩ : MethodName)) hown (mvT hZ (hw _ (List.mem_of_getElem? (i := 57) rfl))) (mvT hZ (hw _ (List.mem_of_getElem? (i := 58) rfl))) (mvT hZ (hw _ (List.mem_of_getElem? (i := 2) rfl))) (mvT hZ (hw _ (List.mem_of_getElem? (i := 59) rfl))) (by decide) (backOf (W := 0) (rm11 l Z a0 hw [] (v0_5 p2 p1 p0 p3) b14 b21 (v0_9 p2) b31 (v0_22 p0 p2 p1 p3) k14 (w0_16 p1 p0) k21 (w0_13 p2 p1 p0 p3) k31 (own_into p0 p1 p2 p3) T52.heap n0 Z52 ((M48.keep Kq52 (ninS ne_b14_b36 (ninS ne_b14_ta (ninS ne_b14_b31 nin0))))) ((M49.keep Kq52 (ninS ne_b21_b36 (ninS ne_b21_ta (ninS ne_b21_b31 nin0))))) (Vr52) (own_hid (own_rd p0 p1 p2 p3))) hZ (hw _ (List.mem_of_getElem? (i := 59) rfl)) (hw _ (List.mem_of_getElem? (i := 2) rfl)) (by decide) (by decide)) (g := (mkF m 455 #[.val (.int p0), .val (.int p1), .val (.int p2), .val (.int p3), .val (.long q0), .second, .val (.int (v0_1 p0)), .val (.int (v0_2 p1 p0)), .val (.int (v0_3 p1 p0)), .val (.int (v0_4 p1 p0)), .val (.int (v0_5 p2 p1 p0 p3)), .val (.int (v0_6 p2 p1 p0 p3)), .val (.int (v0_7 p2 p1 p0 p3)), .val (.int (v0_8 p2 p1 p0 p3)), .val (.int (v0_9 p2)), .val (.ref b5), .val (.ref b14), .val (.ref b21), .val (.ref b31), .val (.ref b34), .val (.ref b36), .val (.int (v0_22 p0 p2 p1 p3)), .val (.int (v0_25 p0 p2 p1 p3))] [(.int (v0_22 p0 p2 p1 p3)), (.ref b31), (.int (v0_9 p2)), (.ref b21), (.ref b14), (.int (v0_5 p2 p1 p0 p3))])) rfl (by rw [hml]; rfl) (argsL := [(.int (v0_5 p2 p1 p0 p3)), (.ref b14), (.ref b21), (.int (v0_9 p2)), (.ref b31), (.int (v0_22 p0 p2 p1 p3))]) (rest := []) (lenOf pd_10 rfl) rfl (by show 2 * 0 + _ ≤ _; exact Nat.le_of_eq rfl) (hb hby at_455) (fun _ _ => ⟨rfl, e65, (by decide : 8 + 0 ≤ _), (by decide : 146 + 0 ≤ _)⟩)
          dsimp only [Pt.U, Pt.locs, Pt.cells, Pt.slots] at X68 l68 y68 z68 st68 hQ68
          rw [l68, y68, z68] at X68
          obtain ⟨rfl, N68q, e68⟩ := hQ68
          have N68 := Fr.app N65 N68q
          have pre69 : ∀ t, Steps p.tables e below (T68.setTop (mkF m 458 #[.val (.int p0), .val (.int p1), .val (.int p2), .val (.int p3), .val (.long q0), .second, .val (.int (v0_1 p0)), .val (.int (v0_2 p1 p0)), .val (.int (v0_3 p1 p0)), .val (.int (v0_4 p1 p0)), .val (.int (v0_5 p2 p1 p0 p3)), .val (.int (v0_6 p2 p1 p0 p3)), .val (.int (v0_7 p2 p1 p0 p3)), .val (.int (v0_8 p2 p1 p0 p3)), .val (.int (v0_9 p2)), .val (.ref b5), .val (.ref b14), .val (.ref b21), .val (.ref b31), .val (.ref b34), .val (.ref b36), .val (.int (v0_22 p0 p2 p1 p3)), .val (.int (v0_25 p0 p2 p1 p3))] [(.int (v0_29 p2 p1 p0 p3))])) t → Steps p.tables e below (s₁.setTop (entryFrame m #[(.int p0), (.int p1), (.int p2), (.int p3), (.long q0)] maxLocals)) t := fun t k => pre66 t (by
            show Steps p.tables e below (T65.setTop (mkF m 440 #[.val (.int p0), .val (.int p1), .val (.int p2), .val (.int p3), .val (.long q0), .second, .val (.int (v0_1 p0)), .val (.int (v0_2 p1 p0)), .val (.int (v0_3 p1 p0)), .val (.int (v0_4 p1 p0)), .val (.int (v0_5 p2 p1 p0 p3)), .val (.int (v0_6 p2 p1 p0 p3)), .val (.int (v0_7 p2 p1 p0 p3)), .val (.int (v0_8 p2 p1 p0 p3)), .val (.int (v0_9 p2)), .val (.ref b5), .val (.ref b14), .val (.ref b21), .val (.ref b31), .val (.ref b34), .val (.ref b36), .val (.int (v0_22 p0 p2 p1 p3)), .val (.int (v0_25 p0 p2 p1 p3))] [(.int (v0_28 p1 p0 p2 p3))])) _
            refine XS.ifNo X65.here hx rfl (hb hby at_440) rfl ((if0 _ _).trans (feq hc440_67).1) ?_
            refine XS.iload X65.here hx rfl (hb hby at_443) rfl ?_
            refine XS.aload X65.here hx rfl (hb hby at_445) rfl rfl ?_
            refine XS.aload X65.here hx rfl (hb hby at_447) rfl rfl ?_
            show Steps p.tables e below (T65.setTop (mkF m 449 #[.val (.int p0), .val (.int p1), .val (.int p2), .val (.int p3), .val (.long q0), .second, .val (.int (v0_1 p0)), .val (.int (v0_2 p1 p0)), .val (.int (v0_3 p1 p0)), .val (.int (v0_4 p1 p0)), .val (.int (v0_5 p2 p1 p0 p3)), .val (.int (v0_6 p2 p1 p0 p3)), .val (.int (v0_7 p2 p1 p0 p3)), .val (.int (v0_8 p2 p1 p0 p3)), .val (.int (v0_9 p2)), .val (.ref b5), .val (.ref b14), .val (.ref b21), .val (.ref b31), .val (.ref b34), .val (.ref b36), .val (.int (v0_22 p0 p2 p1 p3)), .val (.int (v0_25 p0 p2 p1 p3))] [(.ref b21), (.ref b14), (.int (v0_5 p2 p1 p0 p3))])) _
            refine XS.iload X65.here hx rfl (hb hby at_449) rfl ?_
            refine XS.aload X65.here hx rfl (hb hby at_451) rfl rfl ?_
            refine XS.iload X65.here hx rfl (hb hby at_453) rfl ?_
            show Steps p.tables e below (T65.setTop (mkF m 455 #[.val (.int p0), .val (.int p1), .val (.int p2), .val (.int p3), .val (.long q0), .second, .val (.int (v0_1 p0)), .val (.int (v0_2 p1 p0)), .val (.int (v0_3 p1 p0)), .val (.int (v0_4 p1 p0)), .val (.int (v0_5 p2 p1 p0 p3)), .val (.int (v0_6 p2 p1 p0 p3)), .val (.int (v0_7 p2 p1 p0 p3)), .val (.int (v0_8 p2 p1 p0 p3)), .val (.int (v0_9 p2)), .val (.ref b5), .val (.ref b14), .val (.ref b21), .val (.ref b31), .val (.ref b34), .val (.ref b36), .val (.int (v0_22 p0 p2 p1 p3)), .val (.int (v0_25 p0 p2 p1 p3))] [(.int (v0_22 p0 p2 p1 p3)), (.ref b31), (.int (v0_9 p2)), (.ref b21), (.ref b14), (.int (v0_5 p2 p1 p0 p3))])) _
            refine st68 _ ?_
            show Steps p.tables e below (T68.setTop (mkF m 458 #[.val (.int p0), .val (.int p1), .val (.int p2), .val (.int p3), .val (.long q0), .second, .val (.int (v0_1 p0)), .val (.int (v0_2 p1 p0)), .val (.int (v0_3 p1 p0)), .val (.int (v0_4 p1 p0)), .val (.int (v0_5 p2 p1 p0 p3)), .val (.int (v0_6 p2 p1 p0 p3)), .val (.int (v0_7 p2 p1 p0 p3)), .val (.int (v0_8 p2 p1 p0 p3)), .val (.int (v0_9 p2)), .val (.ref b5), .val (.ref b14), .val (.ref b21), .val (.ref b31), .val (.ref b34), .val (.ref b36), .val (.int (v0_22 p0 p2 p1 p3)), .val (.int (v0_25 p0 p2 p1 p3))] [(.int (v0_29 p2 p1 p0 p3))])) _
            exact k)
          by_cases hc458_70 : (v0_29 p2 p1 p0 p3) = (0 : Int32)
          · have hv : (f0 p0 p1 p2 p3 q0) = (0 : Int32) := by simp only [f0, if_pos hc347_58, if_neg hc404_61, if_neg hc422_64, if_neg hc440_67, if_pos hc458_70]
            obtain ⟨fs, hr, hrun, hended, hW, hsame⟩ := X68.leave (v := some (.int (0 : Int32))) (fun h => nomatch (Bd.returns.symm.trans h)) hlk
            refine ⟨_, _, pre69 _ ?_, hrun, hended, _, _, rfl, ?_, ⟨_, rfl⟩, hW, hsame.mono (by decide) (by decide)⟩
            · show Steps p.tables e below (T68.setTop (mkF m 458 #[.val (.int p0), .val (.int p1), .val (.int p2), .val (.int p3), .val (.long q0), .second, .val (.int (v0_1 p0)), .val (.int (v0_2 p1 p0)), .val (.int (v0_3 p1 p0)), .val (.int (v0_4 p1 p0)), .val (.int (v0_5 p2 p1 p0 p3)), .val (.int (v0_6 p2 p1 p0 p3)), .val (.int (v0_7 p2 p1 p0 p3)), .val (.int (v0_8 p2 p1 p0 p3)), .val (.int (v0_9 p2)), .val (.ref b5), .val (.ref b14), .val (.ref b21), .val (.ref b31), .val (.ref b34), .val (.ref b36), .val (.int (v0_22 p0 p2 p1 p3)), .val (.int (v0_25 p0 p2 p1 p3))] [(.int (v0_29 p2 p1 p0 p3))])) _
              refine XS.ifYes X68.here hx rfl (pc0 := 458) (pc' := 544) rfl (hb hby at_458) rfl ((if0 _ _).trans (teq hc458_70).1) (by decide) (by decide) ?_
              show Steps p.tables e below (T68.setTop (mkF m 544 #[.val (.int p0), .val (.int p1), .val (.int p2), .val (.int p3), .val (.long q0), .second, .val (.int (v0_1 p0)), .val (.int (v0_2 p1 p0)), .val (.int (v0_3 p1 p0)), .val (.int (v0_4 p1 p0)), .val (.int (v0_5 p2 p1 p0 p3)), .val (.int (v0_6 p2 p1 p0 p3)), .val (.int (v0_7 p2 p1 p0 p3)), .val (.int (v0_8 p2 p1 p0 p3)), .val (.int (v0_9 p2)), .val (.ref b5), .val (.ref b14), .val (.ref b21), .val (.ref b31), .val (.ref b34), .val (.ref b36), .val (.int (v0_22 p0 p2 p1 p3)), .val (.int (v0_25 p0 p2 p1 p3))] [])) _
              refine XS.iconst X68.here hx rfl (hb hby at_544) ?_
              show Steps p.tables e below (T68.setTop (mkF m 545 #[.val (.int p0), .val (.int p1), .val (.int p2), .val (.int p3), .val (.long q0), .second, .val (.int (v0_1 p0)), .val (.int (v0_2 p1 p0)), .val (.int (v0_3 p1 p0)), .val (.int (v0_4 p1 p0)), .val (.int (v0_5 p2 p1 p0 p3)), .val (.int (v0_6 p2 p1 p0 p3)), .val (.int (v0_7 p2 p1 p0 p3)), .val (.int (v0_8 p2 p1 p0 p3)), .val (.int (v0_9 p2)), .val (.ref b5), .val (.ref b14), .val (.ref b21), .val (.ref b31), .val (.ref b34), .val (.ref b36), .val (.int (v0_22 p0 p2 p1 p3)), .val (.int (v0_25 p0 p2 p1 p3))] [(.int (0 : Int32))])) _
              exact retN X68 hx (t := .boolean) Bd.returns (by simp) (hb hby at_545) hr
            · show Q0 Z p0 p1 p2 p3 q0 h0 n0 _ T68.heap _
              rw [e68]
              exact ⟨by rw [hv], N68⟩
          · obtain ⟨_, _, ⟨T71, L71, k71, n71⟩, -, X71, ⟨Lc71, hQ71, l71, y71, z71⟩, st71⟩ := Jvm.LawKit.callS X68 hx (y := (⟨"com/example/knotwork/knotwork/generate/FreeNumbersFreePinLaw", "ok", "(I[I[II[II)Z"⟩ : MethodName)) hown (mvT hZ (hw _ (List.mem_of_getElem? (i := 57) rfl))) (mvT hZ (hw _ (List.mem_of_getElem? (i := 58) rfl))) (mvT hZ (hw _ (List.mem_of_getElem? (i := 2) rfl))) (mvT hZ (hw _ (List.mem_of_getElem? (i := 59) rfl))) (by decide) (backOf (W := 0) (rm11 l Z a0 hw [] (v0_6 p2 p1 p0 p3) b14 b21 (v0_9 p2) b31 (v0_22 p0 p2 p1 p3) k14 (w0_16 p1 p0) k21 (w0_13 p2 p1 p0 p3) k31 (own_into p0 p1 p2 p3) T52.heap n0 Z52 ((M48.keep Kq52 (ninS ne_b14_b36 (ninS ne_b14_ta (ninS ne_b14_b31 nin0))))) ((M49.keep Kq52 (ninS ne_b21_b36 (ninS ne_b21_ta (ninS ne_b21_b31 nin0))))) (Vr52) (own_hid (own_re p0 p1 p2 p3))) hZ (hw _ (List.mem_of_getElem? (i := 59) rfl)) (hw _ (List.mem_of_getElem? (i := 2) rfl)) (by decide) (by decide)) (g := (mkF m 473 #[.val (.int p0), .val (.int p1), .val (.int p2), .val (.int p3), .val (.long q0), .second, .val (.int (v0_1 p0)), .val (.int (v0_2 p1 p0)), .val (.int (v0_3 p1 p0)), .val (.int (v0_4 p1 p0)), .val (.int (v0_5 p2 p1 p0 p3)), .val (.int (v0_6 p2 p1 p0 p3)), .val (.int (v0_7 p2 p1 p0 p3)), .val (.int (v0_8 p2 p1 p0 p3)), .val (.int (v0_9 p2)), .val (.ref b5), .val (.ref b14), .val (.ref b21), .val (.ref b31), .val (.ref b34), .val (.ref b36), .val (.int (v0_22 p0 p2 p1 p3)), .val (.int (v0_25 p0 p2 p1 p3))] [(.int (v0_22 p0 p2 p1 p3)), (.ref b31), (.int (v0_9 p2)), (.ref b21), (.ref b14), (.int (v0_6 p2 p1 p0 p3))])) rfl (by rw [hml]; rfl) (argsL := [(.int (v0_6 p2 p1 p0 p3)), (.ref b14), (.ref b21), (.int (v0_9 p2)), (.ref b31), (.int (v0_22 p0 p2 p1 p3))]) (rest := []) (lenOf pd_10 rfl) rfl (by show 2 * 0 + _ ≤ _; exact Nat.le_of_eq rfl) (hb hby at_473) (fun _ _ => ⟨rfl, e68, (by decide : 8 + 0 ≤ _), (by decide : 146 + 0 ≤ _)⟩)
            dsimp only [Pt.U, Pt.locs, Pt.cells, Pt.slots] at X71 l71 y71 z71 st71 hQ71
            rw [l71, y71, z71] at X71
            obtain ⟨rfl, N71q, e71⟩ := hQ71
            have N71 := Fr.app N68 N71q
            have pre72 : ∀ t, Steps p.tables e below (T71.setTop (mkF m 476 #[.val (.int p0), .val (.int p1), .val (.int p2), .val (.int p3), .val (.long q0), .second, .val (.int (v0_1 p0)), .val (.int (v0_2 p1 p0)), .val (.int (v0_3 p1 p0)), .val (.int (v0_4 p1 p0)), .val (.int (v0_5 p2 p1 p0 p3)), .val (.int (v0_6 p2 p1 p0 p3)), .val (.int (v0_7 p2 p1 p0 p3)), .val (.int (v0_8 p2 p1 p0 p3)), .val (.int (v0_9 p2)), .val (.ref b5), .val (.ref b14), .val (.ref b21), .val (.ref b31), .val (.ref b34), .val (.ref b36), .val (.int (v0_22 p0 p2 p1 p3)), .val (.int (v0_25 p0 p2 p1 p3))] [(.int (v0_30 p2 p1 p0 p3))])) t → Steps p.tables e below (s₁.setTop (entryFrame m #[(.int p0), (.int p1), (.int p2), (.int p3), (.long q0)] maxLocals)) t := fun t k => pre69 t (by
              show Steps p.tables e below (T68.setTop (mkF m 458 #[.val (.int p0), .val (.int p1), .val (.int p2), .val (.int p3), .val (.long q0), .second, .val (.int (v0_1 p0)), .val (.int (v0_2 p1 p0)), .val (.int (v0_3 p1 p0)), .val (.int (v0_4 p1 p0)), .val (.int (v0_5 p2 p1 p0 p3)), .val (.int (v0_6 p2 p1 p0 p3)), .val (.int (v0_7 p2 p1 p0 p3)), .val (.int (v0_8 p2 p1 p0 p3)), .val (.int (v0_9 p2)), .val (.ref b5), .val (.ref b14), .val (.ref b21), .val (.ref b31), .val (.ref b34), .val (.ref b36), .val (.int (v0_22 p0 p2 p1 p3)), .val (.int (v0_25 p0 p2 p1 p3))] [(.int (v0_29 p2 p1 p0 p3))])) _
              refine XS.ifNo X68.here hx rfl (hb hby at_458) rfl ((if0 _ _).trans (feq hc458_70).1) ?_
              refine XS.iload X68.here hx rfl (hb hby at_461) rfl ?_
              refine XS.aload X68.here hx rfl (hb hby at_463) rfl rfl ?_
              show Steps p.tables e below (T68.setTop (mkF m 465 #[.val (.int p0), .val (.int p1), .val (.int p2), .val (.int p3), .val (.long q0), .second, .val (.int (v0_1 p0)), .val (.int (v0_2 p1 p0)), .val (.int (v0_3 p1 p0)), .val (.int (v0_4 p1 p0)), .val (.int (v0_5 p2 p1 p0 p3)), .val (.int (v0_6 p2 p1 p0 p3)), .val (.int (v0_7 p2 p1 p0 p3)), .val (.int (v0_8 p2 p1 p0 p3)), .val (.int (v0_9 p2)), .val (.ref b5), .val (.ref b14), .val (.ref b21), .val (.ref b31), .val (.ref b34), .val (.ref b36), .val (.int (v0_22 p0 p2 p1 p3)), .val (.int (v0_25 p0 p2 p1 p3))] [(.ref b14), (.int (v0_6 p2 p1 p0 p3))])) _
              refine XS.aload X68.here hx rfl (hb hby at_465) rfl rfl ?_
              refine XS.iload X68.here hx rfl (hb hby at_467) rfl ?_
              refine XS.aload X68.here hx rfl (hb hby at_469) rfl rfl ?_
              refine XS.iload X68.here hx rfl (hb hby at_471) rfl ?_
              show Steps p.tables e below (T68.setTop (mkF m 473 #[.val (.int p0), .val (.int p1), .val (.int p2), .val (.int p3), .val (.long q0), .second, .val (.int (v0_1 p0)), .val (.int (v0_2 p1 p0)), .val (.int (v0_3 p1 p0)), .val (.int (v0_4 p1 p0)), .val (.int (v0_5 p2 p1 p0 p3)), .val (.int (v0_6 p2 p1 p0 p3)), .val (.int (v0_7 p2 p1 p0 p3)), .val (.int (v0_8 p2 p1 p0 p3)), .val (.int (v0_9 p2)), .val (.ref b5), .val (.ref b14), .val (.ref b21), .val (.ref b31), .val (.ref b34), .val (.ref b36), .val (.int (v0_22 p0 p2 p1 p3)), .val (.int (v0_25 p0 p2 p1 p3))] [(.int (v0_22 p0 p2 p1 p3)), (.ref b31), (.int (v0_9 p2)), (.ref b21), (.ref b14), (.int (v0_6 p2 p1 p0 p3))])) _
              refine st71 _ ?_
              show Steps p.tables e below (T71.setTop (mkF m 476 #[.val (.int p0), .val (.int p1), .val (.int p2), .val (.int p3), .val (.long q0), .second, .val (.int (v0_1 p0)), .val (.int (v0_2 p1 p0)), .val (.int (v0_3 p1 p0)), .val (.int (v0_4 p1 p0)), .val (.int (v0_5 p2 p1 p0 p3)), .val (.int (v0_6 p2 p1 p0 p3)), .val (.int (v0_7 p2 p1 p0 p3)), .val (.int (v0_8 p2 p1 p0 p3)), .val (.int (v0_9 p2)), .val (.ref b5), .val (.ref b14), .val (.ref b21), .val (.ref b31), .val (.ref b34), .val (.ref b36), .val (.int (v0_22 p0 p2 p1 p3)), .val (.int (v0_25 p0 p2 p1 p3))] [(.int (v0_30 p2 p1 p0 p3))])) _
              exact k)
            by_cases hc476_73 : (v0_30 p2 p1 p0 p3) = (0 : Int32)
            · have hv : (f0 p0 p1 p2 p3 q0) = (0 : Int32) := by simp only [f0, if_pos hc347_58, if_neg hc404_61, if_neg hc422_64, if_neg hc440_67, if_neg hc458_70, if_pos hc476_73]
              obtain ⟨fs, hr, hrun, hended, hW, hsame⟩ := X71.leave (v := some (.int (0 : Int32))) (fun h => nomatch (Bd.returns.symm.trans h)) hlk
              refine ⟨_, _, pre72 _ ?_, hrun, hended, _, _, rfl, ?_, ⟨_, rfl⟩, hW, hsame.mono (by decide) (by decide)⟩
              · show Steps p.tables e below (T71.setTop (mkF m 476 #[.val (.int p0), .val (.int p1), .val (.int p2), .val (.int p3), .val (.long q0), .second, .val (.int (v0_1 p0)), .val (.int (v0_2 p1 p0)), .val (.int (v0_3 p1 p0)), .val (.int (v0_4 p1 p0)), .val (.int (v0_5 p2 p1 p0 p3)), .val (.int (v0_6 p2 p1 p0 p3)), .val (.int (v0_7 p2 p1 p0 p3)), .val (.int (v0_8 p2 p1 p0 p3)), .val (.int (v0_9 p2)), .val (.ref b5), .val (.ref b14), .val (.ref b21), .val (.ref b31), .val (.ref b34), .val (.ref b36), .val (.int (v0_22 p0 p2 p1 p3)), .val (.int (v0_25 p0 p2 p1 p3))] [(.int (v0_30 p2 p1 p0 p3))])) _
                refine XS.ifYes X71.here hx rfl (pc0 := 476) (pc' := 544) rfl (hb hby at_476) rfl ((if0 _ _).trans (teq hc476_73).1) (by decide) (by decide) ?_
                refine XS.iconst X71.here hx rfl (hb hby at_544) ?_
                show Steps p.tables e below (T71.setTop (mkF m 545 #[.val (.int p0), .val (.int p1), .val (.int p2), .val (.int p3), .val (.long q0), .second, .val (.int (v0_1 p0)), .val (.int (v0_2 p1 p0)), .val (.int (v0_3 p1 p0)), .val (.int (v0_4 p1 p0)), .val (.int (v0_5 p2 p1 p0 p3)), .val (.int (v0_6 p2 p1 p0 p3)), .val (.int (v0_7 p2 p1 p0 p3)), .val (.int (v0_8 p2 p1 p0 p3)), .val (.int (v0_9 p2)), .val (.ref b5), .val (.ref b14), .val (.ref b21), .val (.ref b31), .val (.ref b34), .val (.ref b36), .val (.int (v0_22 p0 p2 p1 p3)), .val (.int (v0_25 p0 p2 p1 p3))] [(.int (0 : Int32))])) _
                exact retN X71 hx (t := .boolean) Bd.returns (by simp) (hb hby at_545) hr
              · show Q0 Z p0 p1 p2 p3 q0 h0 n0 _ T71.heap _
                rw [e71]
                exact ⟨by rw [hv], N71⟩
            · obtain ⟨_, _, ⟨T74, L74, k74, n74⟩, -, X74, ⟨Lc74, hQ74, l74, y74, z74⟩, st74⟩ := Jvm.LawKit.callS X71 hx (y := (⟨"com/example/knotwork/knotwork/generate/FreeNumbersFreePinLaw", "ok", "(I[I[II[II)Z"⟩ : MethodName)) hown (mvT hZ (hw _ (List.mem_of_getElem? (i := 57) rfl))) (mvT hZ (hw _ (List.mem_of_getElem? (i := 58) rfl))) (mvT hZ (hw _ (List.mem_of_getElem? (i := 2) rfl))) (mvT hZ (hw _ (List.mem_of_getElem? (i := 59) rfl))) (by decide) (backOf (W := 0) (rm11 l Z a0 hw [] (v0_7 p2 p1 p0 p3) b14 b21 (v0_9 p2) b31 (v0_22 p0 p2 p1 p3) k14 (w0_16 p1 p0) k21 (w0_13 p2 p1 p0 p3) k31 (own_into p0 p1 p2 p3) T52.heap n0 Z52 ((M48.keep Kq52 (ninS ne_b14_b36 (ninS ne_b14_ta (ninS ne_b14_b31 nin0))))) ((M49.keep Kq52 (ninS ne_b21_b36 (ninS ne_b21_ta (ninS ne_b21_b31 nin0))))) (Vr52) (own_hid (own_rf p0 p1 p2 p3))) hZ (hw _ (List.mem_of_getElem? (i := 59) rfl)) (hw _ (List.mem_of_getElem? (i := 2) rfl)) (by decide) (by decide)) (g := (mkF m 491 #[.val (.int p0), .val (.int p1), .val (.int p2), .val (.int p3), .val (.long q0), .second, .val (.int (v0_1 p0)), .val (.int (v0_2 p1 p0)), .val (.int (v0_3 p1 p0)), .val (.int (v0_4 p1 p0)), .val (.int (v0_5 p2 p1 p0 p3)), .val (.int (v0_6 p2 p1 p0 p3)), .val (.int (v0_7 p2 p1 p0 p3)), .val (.int (v0_8 p2 p1 p0 p3)), .val (.int (v0_9 p2)), .val (.ref b5), .val (.ref b14), .val (.ref b21), .val (.ref b31), .val (.ref b34), .val (.ref b36), .val (.int (v0_22 p0 p2 p1 p3)), .val (.int (v0_25 p0 p2 p1 p3))] [(.int (v0_22 p0 p2 p1 p3)), (.ref b31), (.int (v0_9 p2)), (.ref b21), (.ref b14), (.int (v0_7 p2 p1 p0 p3))])) rfl (by rw [hml]; rfl) (argsL := [(.int (v0_7 p2 p1 p0 p3)), (.ref b14), (.ref b21), (.int (v0_9 p2)), (.ref b31), (.int (v0_22 p0 p2 p1 p3))]) (rest := []) (lenOf pd_10 rfl) rfl (by show 2 * 0 + _ ≤ _; exact Nat.le_of_eq rfl) (hb hby at_491) (fun _ _ => ⟨rfl, e71, (by decide : 8 + 0 ≤ _), (by decide : 146 + 0 ≤ _)⟩)
              dsimp only [Pt.U, Pt.locs, Pt.cells, Pt.slots] at X74 l74 y74 z74 st74 hQ74
              rw [l74, y74, z74] at X74
              obtain ⟨rfl, N74q, e74⟩ := hQ74
              have N74 := Fr.app N71 N74q
              have pre75 : ∀ t, Steps p.tables e below (T74.setTop (mkF m 494 #[.val (.int p0), .val (.int p1), .val (.int p2), .val (.int p3), .val (.long q0), .second, .val (.int (v0_1 p0)), .val (.int (v0_2 p1 p0)), .val (.int (v0_3 p1 p0)), .val (.int (v0_4 p1 p0)), .val (.int (v0_5 p2 p1 p0 p3)), .val (.int (v0_6 p2 p1 p0 p3)), .val (.int (v0_7 p2 p1 p0 p3)), .val (.int (v0_8 p2 p1 p0 p3)), .val (.int (v0_9 p2)), .val (.ref b5), .val (.ref b14), .val (.ref b21), .val (.ref b31), .val (.ref b34), .val (.ref b36), .val (.int (v0_22 p0 p2 p1 p3)), .val (.int (v0_25 p0 p2 p1 p3))] [(.int (v0_31 p2 p1 p0 p3))])) t → Steps p.tables e below (s₁.setTop (entryFrame m #[(.int p0), (.int p1), (.int p2), (.int p3), (.long q0)] maxLocals)) t := fun t k => pre72 t (by
                show Steps p.tables e below (T71.setTop (mkF m 476 #[.val (.int p0), .val (.int p1), .val (.int p2), .val (.int p3), .val (.long q0), .second, .val (.int (v0_1 p0)), .val (.int (v0_2 p1 p0)), .val (.int (v0_3 p1 p0)), .val (.int (v0_4 p1 p0)), .val (.int (v0_5 p2 p1 p0 p3)), .val (.int (v0_6 p2 p1 p0 p3)), .val (.int (v0_7 p2 p1 p0 p3)), .val (.int (v0_8 p2 p1 p0 p3)), .val (.int (v0_9 p2)), .val (.ref b5), .val (.ref b14), .val (.ref b21), .val (.ref b31), .val (.ref b34), .val (.ref b36), .val (.int (v0_22 p0 p2 p1 p3)), .val (.int (v0_25 p0 p2 p1 p3))] [(.int (v0_30 p2 p1 p0 p3))])) _
                refine XS.ifNo X71.here hx rfl (hb hby at_476) rfl ((if0 _ _).trans (feq hc476_73).1) ?_
                refine XS.iload X71.here hx rfl (hb hby at_479) rfl ?_
                show Steps p.tables e below (T71.setTop (mkF m 481 #[.val (.int p0), .val (.int p1), .val (.int p2), .val (.int p3), .val (.long q0), .second, .val (.int (v0_1 p0)), .val (.int (v0_2 p1 p0)), .val (.int (v0_3 p1 p0)), .val (.int (v0_4 p1 p0)), .val (.int (v0_5 p2 p1 p0 p3)), .val (.int (v0_6 p2 p1 p0 p3)), .val (.int (v0_7 p2 p1 p0 p3)), .val (.int (v0_8 p2 p1 p0 p3)), .val (.int (v0_9 p2)), .val (.ref b5), .val (.ref b14), .val (.ref b21), .val (.ref b31), .val (.ref b34), .val (.ref b36), .val (.int (v0_22 p0 p2 p1 p3)), .val (.int (v0_25 p0 p2 p1 p3))] [(.int (v0_7 p2 p1 p0 p3))])) _
                refine XS.aload X71.here hx rfl (hb hby at_481) rfl rfl ?_
                refine XS.aload X71.here hx rfl (hb hby at_483) rfl rfl ?_
                refine XS.iload X71.here hx rfl (hb hby at_485) rfl ?_
                refine XS.aload X71.here hx rfl (hb hby at_487) rfl rfl ?_
                show Steps p.tables e below (T71.setTop (mkF m 489 #[.val (.int p0), .val (.int p1), .val (.int p2), .val (.int p3), .val (.long q0), .second, .val (.int (v0_1 p0)), .val (.int (v0_2 p1 p0)), .val (.int (v0_3 p1 p0)), .val (.int (v0_4 p1 p0)), .val (.int (v0_5 p2 p1 p0 p3)), .val (.int (v0_6 p2 p1 p0 p3)), .val (.int (v0_7 p2 p1 p0 p3)), .val (.int (v0_8 p2 p1 p0 p3)), .val (.int (v0_9 p2)), .val (.ref b5), .val (.ref b14), .val (.ref b21), .val (.ref b31), .val (.ref b34), .val (.ref b36), .val (.int (v0_22 p0 p2 p1 p3)), .val (.int (v0_25 p0 p2 p1 p3))] [(.ref b31), (.int (v0_9 p2)), (.ref b21), (.ref b14), (.int (v0_7 p2 p1 p0 p3))])) _
                refine XS.iload X71.here hx rfl (hb hby at_489) rfl ?_
                show Steps p.tables e below (T71.setTop (mkF m 491 #[.val (.int p0), .val (.int p1), .val (.int p2), .val (.int p3), .val (.long q0), .second, .val (.int (v0_1 p0)), .val (.int (v0_2 p1 p0)), .val (.int (v0_3 p1 p0)), .val (.int (v0_4 p1 p0)), .val (.int (v0_5 p2 p1 p0 p3)), .val (.int (v0_6 p2 p1 p0 p3)), .val (.int (v0_7 p2 p1 p0 p3)), .val (.int (v0_8 p2 p1 p0 p3)), .val (.int (v0_9 p2)), .val (.ref b5), .val (.ref b14), .val (.ref b21), .val (.ref b31), .val (.ref b34), .val (.ref b36), .val (.int (v0_22 p0 p2 p1 p3)), .val (.int (v0_25 p0 p2 p1 p3))] [(.int (v0_22 p0 p2 p1 p3)), (.ref b31), (.int (v0_9 p2)), (.ref b21), (.ref b14), (.int (v0_7 p2 p1 p0 p3))])) _
                refine st74 _ ?_
                show Steps p.tables e below (T74.setTop (mkF m 494 #[.val (.int p0), .val (.int p1), .val (.int p2), .val (.int p3), .val (.long q0), .second, .val (.int (v0_1 p0)), .val (.int (v0_2 p1 p0)), .val (.int (v0_3 p1 p0)), .val (.int (v0_4 p1 p0)), .val (.int (v0_5 p2 p1 p0 p3)), .val (.int (v0_6 p2 p1 p0 p3)), .val (.int (v0_7 p2 p1 p0 p3)), .val (.int (v0_8 p2 p1 p0 p3)), .val (.int (v0_9 p2)), .val (.ref b5), .val (.ref b14), .val (.ref b21), .val (.ref b31), .val (.ref b34), .val (.ref b36), .val (.int (v0_22 p0 p2 p1 p3)), .val (.int (v0_25 p0 p2 p1 p3))] [(.int (v0_31 p2 p1 p0 p3))])) _
                exact k)
              by_cases hc494_76 : (v0_31 p2 p1 p0 p3) = (0 : Int32)
              · have hv : (f0 p0 p1 p2 p3 q0) = (0 : Int32) := by simp only [f0, if_pos hc347_58, if_neg hc404_61, if_neg hc422_64, if_neg hc440_67, if_neg hc458_70, if_neg hc476_73, if_pos hc494_76]
                obtain ⟨fs, hr, hrun, hended, hW, hsame⟩ := X74.leave (v := some (.int (0 : Int32))) (fun h => nomatch (Bd.returns.symm.trans h)) hlk
                refine ⟨_, _, pre75 _ ?_, hrun, hended, _, _, rfl, ?_, ⟨_, rfl⟩, hW, hsame.mono (by decide) (by decide)⟩
                · show Steps p.tables e below (T74.setTop (mkF m 494 #[.val (.int p0), .val (.int p1), .val (.int p2), .val (.int p3), .val (.long q0), .second, .val (.int (v0_1 p0)), .val (.int (v0_2 p1 p0)), .val (.int (v0_3 p1 p0)), .val (.int (v0_4 p1 p0)), .val (.int (v0_5 p2 p1 p0 p3)), .val (.int (v0_6 p2 p1 p0 p3)), .val (.int (v0_7 p2 p1 p0 p3)), .val (.int (v0_8 p2 p1 p0 p3)), .val (.int (v0_9 p2)), .val (.ref b5), .val (.ref b14), .val (.ref b21), .val (.ref b31), .val (.ref b34), .val (.ref b36), .val (.int (v0_22 p0 p2 p1 p3)), .val (.int (v0_25 p0 p2 p1 p3))] [(.int (v0_31 p2 p1 p0 p3))])) _
                  refine XS.ifYes X74.here hx rfl (pc0 := 494) (pc' := 544) rfl (hb hby at_494) rfl ((if0 _ _).trans (teq hc494_76).1) (by decide) (by decide) ?_
                  refine XS.iconst X74.here hx rfl (hb hby at_544) ?_
                  show Steps p.tables e below (T74.setTop (mkF m 545 #[.val (.int p0), .val (.int p1), .val (.int p2), .val (.int p3), .val (.long q0), .second, .val (.int (v0_1 p0)), .val (.int (v0_2 p1 p0)), .val (.int (v0_3 p1 p0)), .val (.int (v0_4 p1 p0)), .val (.int (v0_5 p2 p1 p0 p3)), .val (.int (v0_6 p2 p1 p0 p3)), .val (.int (v0_7 p2 p1 p0 p3)), .val (.int (v0_8 p2 p1 p0 p3)), .val (.int (v0_9 p2)), .val (.ref b5), .val (.ref b14), .val (.ref b21), .val (.ref b31), .val (.ref b34), .val (.ref b36), .val (.int (v0_22 p0 p2 p1 p3)), .val (.int (v0_25 p0 p2 p1 p3))] [(.int (0 : Int32))])) _
                  exact retN X74 hx (t := .boolean) Bd.returns (by simp) (hb hby at_545) hr
                · show Q0 Z p0 p1 p2 p3 q0 h0 n0 _ T74.heap _
                  rw [e74]
                  exact ⟨by rw [hv], N74⟩
              · obtain ⟨_, _, ⟨T77, L77, k77, n77⟩, -, X77, ⟨Lc77, hQ77, l77, y77, z77⟩, st77⟩ := Jvm.LawKit.callS X74 hx (y := (⟨"com/example/knotwork/knotwork/generate/FreeNumbersFreePinLaw", "ok", "(I[I[II[II)Z"⟩ : MethodName)) hown (mvT hZ (hw _ (List.mem_of_getElem? (i := 57) rfl))) (mvT hZ (hw _ (List.mem_of_getElem? (i := 58) rfl))) (mvT hZ (hw _ (List.mem_of_getElem? (i := 2) rfl))) (mvT hZ (hw _ (List.mem_of_getElem? (i := 59) rfl))) (by decide) (backOf (W := 0) (rm11 l Z a0 hw [] (v0_8 p2 p1 p0 p3) b14 b21 (v0_9 p2) b31 (v0_22 p0 p2 p1 p3) k14 (w0_16 p1 p0) k21 (w0_13 p2 p1 p0 p3) k31 (own_into p0 p1 p2 p3) T52.heap n0 Z52 ((M48.keep Kq52 (ninS ne_b14_b36 (ninS ne_b14_ta (ninS ne_b14_b31 nin0))))) ((M49.keep Kq52 (ninS ne_b21_b36 (ninS ne_b21_ta (ninS ne_b21_b31 nin0))))) (Vr52) (own_hid (own_rg p0 p1 p2 p3))) hZ (hw _ (List.mem_of_getElem? (i := 59) rfl)) (hw _ (List.mem_of_getElem? (i := 2) rfl)) (by decide) (by decide)) (g := (mkF m 509 #[.val (.int p0), .val (.int p1), .val (.int p2), .val (.int p3), .val (.long q0), .second, .val (.int (v0_1 p0)), .val (.int (v0_2 p1 p0)), .val (.int (v0_3 p1 p0)), .val (.int (v0_4 p1 p0)), .val (.int (v0_5 p2 p1 p0 p3)), .val (.int (v0_6 p2 p1 p0 p3)), .val (.int (v0_7 p2 p1 p0 p3)), .val (.int (v0_8 p2 p1 p0 p3)), .val (.int (v0_9 p2)), .val (.ref b5), .val (.ref b14), .val (.ref b21), .val (.ref b31), .val (.ref b34), .val (.ref b36), .val (.int (v0_22 p0 p2 p1 p3)), .val (.int (v0_25 p0 p2 p1 p3))] [(.int (v0_22 p0 p2 p1 p3)), (.ref b31), (.int (v0_9 p2)), (.ref b21), (.ref b14), (.int (v0_8 p2 p1 p0 p3))])) rfl (by rw [hml]; rfl) (argsL := [(.int (v0_8 p2 p1 p0 p3)), (.ref b14), (.ref b21), (.int (v0_9 p2)), (.ref b31), (.int (v0_22 p0 p2 p1 p3))]) (rest := []) (lenOf pd_10 rfl) rfl (by show 2 * 0 + _ ≤ _; exact Nat.le_of_eq rfl) (hb hby at_509) (fun _ _ => ⟨rfl, e74, (by decide : 8 + 0 ≤ _), (by decide : 146 + 0 ≤ _)⟩)
                dsimp only [Pt.U, Pt.locs, Pt.cells, Pt.slots] at X77 l77 y77 z77 st77 hQ77
                rw [l77, y77, z77] at X77
                obtain ⟨rfl, N77q, e77⟩ := hQ77
                have N77 := Fr.app N74 N77q
                have pre78 : ∀ t, Steps p.tables e below (T77.setTop (mkF m 512 #[.val (.int p0), .val (.int p1), .val (.int p2), .val (.int p3), .val (.long q0), .second, .val (.int (v0_1 p0)), .val (.int (v0_2 p1 p0)), .val (.int (v0_3 p1 p0)), .val (.int (v0_4 p1 p0)), .val (.int (v0_5 p2 p1 p0 p3)), .val (.int (v0_6 p2 p1 p0 p3)), .val (.int (v0_7 p2 p1 p0 p3)), .val (.int (v0_8 p2 p1 p0 p3)), .val (.int (v0_9 p2)), .val (.ref b5), .val (.ref b14), .val (.ref b21), .val (.ref b31), .val (.ref b34), .val (.ref b36), .val (.int (v0_22 p0 p2 p1 p3)), .val (.int (v0_25 p0 p2 p1 p3))] [(.int (v0_32 p2 p1 p0 p3))])) t → Steps p.tables e below (s₁.setTop (entryFrame m #[(.int p0), (.int p1), (.int p2), (.int p3), (.long q0)] maxLocals)) t := fun t k => pre75 t (by
                  show Steps p.tables e below (T74.setTop (mkF m 494 #[.val (.int p0), .val (.int p1), .val (.int p2), .val (.int p3), .val (.long q0), .second, .val (.int (v0_1 p0)), .val (.int (v0_2 p1 p0)), .val (.int (v0_3 p1 p0)), .val (.int (v0_4 p1 p0)), .val (.int (v0_5 p2 p1 p0 p3)), .val (.int (v0_6 p2 p1 p0 p3)), .val (.int (v0_7 p2 p1 p0 p3)), .val (.int (v0_8 p2 p1 p0 p3)), .val (.int (v0_9 p2)), .val (.ref b5), .val (.ref b14), .val (.ref b21), .val (.ref b31), .val (.ref b34), .val (.ref b36), .val (.int (v0_22 p0 p2 p1 p3)), .val (.int (v0_25 p0 p2 p1 p3))] [(.int (v0_31 p2 p1 p0 p3))])) _
                  refine XS.ifNo X74.here hx rfl (hb hby at_494) rfl ((if0 _ _).trans (feq hc494_76).1) ?_
                  show Steps p.tables e below (T74.setTop (mkF m 497 #[.val (.int p0), .val (.int p1), .val (.int p2), .val (.int p3), .val (.long q0), .second, .val (.int (v0_1 p0)), .val (.int (v0_2 p1 p0)), .val (.int (v0_3 p1 p0)), .val (.int (v0_4 p1 p0)), .val (.int (v0_5 p2 p1 p0 p3)), .val (.int (v0_6 p2 p1 p0 p3)), .val (.int (v0_7 p2 p1 p0 p3)), .val (.int (v0_8 p2 p1 p0 p3)), .val (.int (v0_9 p2)), .val (.ref b5), .val (.ref b14), .val (.ref b21), .val (.ref b31), .val (.ref b34), .val (.ref b36), .val (.int (v0_22 p0 p2 p1 p3)), .val (.int (v0_25 p0 p2 p1 p3))] [])) _
                  refine XS.iload X74.here hx rfl (hb hby at_497) rfl ?_
                  refine XS.aload X74.here hx rfl (hb hby at_499) rfl rfl ?_
                  refine XS.aload X74.here hx rfl (hb hby at_501) rfl rfl ?_
                  refine XS.iload X74.here hx rfl (hb hby at_503) rfl ?_
                  show Steps p.tables e below (T74.setTop (mkF m 505 #[.val (.int p0), .val (.int p1), .val (.int p2), .val (.int p3), .val (.long q0), .second, .val (.int (v0_1 p0)), .val (.int (v0_2 p1 p0)), .val (.int (v0_3 p1 p0)), .val (.int (v0_4 p1 p0)), .val (.int (v0_5 p2 p1 p0 p3)), .val (.int (v0_6 p2 p1 p0 p3)), .val (.int (v0_7 p2 p1 p0 p3)), .val (.int (v0_8 p2 p1 p0 p3)), .val (.int (v0_9 p2)), .val (.ref b5), .val (.ref b14), .val (.ref b21), .val (.ref b31), .val (.ref b34), .val (.ref b36), .val (.int (v0_22 p0 p2 p1 p3)), .val (.int (v0_25 p0 p2 p1 p3))] [(.int (v0_9 p2)), (.ref b21), (.ref b14), (.int (v0_8 p2 p1 p0 p3))])) _
                  refine XS.aload X74.here hx rfl (hb hby at_505) rfl rfl ?_
                  refine XS.iload X74.here hx rfl (hb hby at_507) rfl ?_
                  show Steps p.tables e below (T74.setTop (mkF m 509 #[.val (.int p0), .val (.int p1), .val (.int p2), .val (.int p3), .val (.long q0), .second, .val (.int (v0_1 p0)), .val (.int (v0_2 p1 p0)), .val (.int (v0_3 p1 p0)), .val (.int (v0_4 p1 p0)), .val (.int (v0_5 p2 p1 p0 p3)), .val (.int (v0_6 p2 p1 p0 p3)), .val (.int (v0_7 p2 p1 p0 p3)), .val (.int (v0_8 p2 p1 p0 p3)), .val (.int (v0_9 p2)), .val (.ref b5), .val (.ref b14), .val (.ref b21), .val (.ref b31), .val (.ref b34), .val (.ref b36), .val (.int (v0_22 p0 p2 p1 p3)), .val (.int (v0_25 p0 p2 p1 p3))] [(.int (v0_22 p0 p2 p1 p3)), (.ref b31), (.int (v0_9 p2)), (.ref b21), (.ref b14), (.int (v0_8 p2 p1 p0 p3))])) _
                  refine st77 _ ?_
                  show Steps p.tables e below (T77.setTop (mkF m 512 #[.val (.int p0), .val (.int p1), .val (.int p2), .val (.int p3), .val (.long q0), .second, .val (.int (v0_1 p0)), .val (.int (v0_2 p1 p0)), .val (.int (v0_3 p1 p0)), .val (.int (v0_4 p1 p0)), .val (.int (v0_5 p2 p1 p0 p3)), .val (.int (v0_6 p2 p1 p0 p3)), .val (.int (v0_7 p2 p1 p0 p3)), .val (.int (v0_8 p2 p1 p0 p3)), .val (.int (v0_9 p2)), .val (.ref b5), .val (.ref b14), .val (.ref b21), .val (.ref b31), .val (.ref b34), .val (.ref b36), .val (.int (v0_22 p0 p2 p1 p3)), .val (.int (v0_25 p0 p2 p1 p3))] [(.int (v0_32 p2 p1 p0 p3))])) _
                  exact k)
                by_cases hc512_79 : (v0_32 p2 p1 p0 p3) = (0 : Int32)
                · have hv : (f0 p0 p1 p2 p3 q0) = (0 : Int32) := by simp only [f0, if_pos hc347_58, if_neg hc404_61, if_neg hc422_64, if_neg hc440_67, if_neg hc458_70, if_neg hc476_73, if_neg hc494_76, if_pos hc512_79]
                  obtain ⟨fs, hr, hrun, hended, hW, hsame⟩ := X77.leave (v := some (.int (0 : Int32))) (fun h => nomatch (Bd.returns.symm.trans h)) hlk
                  refine ⟨_, _, pre78 _ ?_, hrun, hended, _, _, rfl, ?_, ⟨_, rfl⟩, hW, hsame.mono (by decide) (by decide)⟩
                  · show Steps p.tables e below (T77.setTop (mkF m 512 #[.val (.int p0), .val (.int p1), .val (.int p2), .val (.int p3), .val (.long q0), .second, .val (.int (v0_1 p0)), .val (.int (v0_2 p1 p0)), .val (.int (v0_3 p1 p0)), .val (.int (v0_4 p1 p0)), .val (.int (v0_5 p2 p1 p0 p3)), .val (.int (v0_6 p2 p1 p0 p3)), .val (.int (v0_7 p2 p1 p0 p3)), .val (.int (v0_8 p2 p1 p0 p3)), .val (.int (v0_9 p2)), .val (.ref b5), .val (.ref b14), .val (.ref b21), .val (.ref b31), .val (.ref b34), .val (.ref b36), .val (.int (v0_22 p0 p2 p1 p3)), .val (.int (v0_25 p0 p2 p1 p3))] [(.int (v0_32 p2 p1 p0 p3))])) _
                    refine XS.ifYes X77.here hx rfl (pc0 := 512) (pc' := 544) rfl (hb hby at_512) rfl ((if0 _ _).trans (teq hc512_79).1) (by decide) (by decide) ?_
                    refine XS.iconst X77.here hx rfl (hb hby at_544) ?_
                    show Steps p.tables e below (T77.setTop (mkF m 545 #[.val (.int p0), .val (.int p1), .val (.int p2), .val (.int p3), .val (.long q0), .second, .val (.int (v0_1 p0)), .val (.int (v0_2 p1 p0)), .val (.int (v0_3 p1 p0)), .val (.int (v0_4 p1 p0)), .val (.int (v0_5 p2 p1 p0 p3)), .val (.int (v0_6 p2 p1 p0 p3)), .val (.int (v0_7 p2 p1 p0 p3)), .val (.int (v0_8 p2 p1 p0 p3)), .val (.int (v0_9 p2)), .val (.ref b5), .val (.ref b14), .val (.ref b21), .val (.ref b31), .val (.ref b34), .val (.ref b36), .val (.int (v0_22 p0 p2 p1 p3)), .val (.int (v0_25 p0 p2 p1 p3))] [(.int (0 : Int32))])) _
                    exact retN X77 hx (t := .boolean) Bd.returns (by simp) (hb hby at_545) hr
                  · show Q0 Z p0 p1 p2 p3 q0 h0 n0 _ T77.heap _
                    rw [e77]
                    exact ⟨by rw [hv], N77⟩
                · have pre80 : ∀ t, Steps p.tables e below (T77.setTop (mkF m 517 #[.val (.int p0), .val (.int p1), .val (.int p2), .val (.int p3), .val (.long q0), .second, .val (.int (v0_1 p0)), .val (.int (v0_2 p1 p0)), .val (.int (v0_3 p1 p0)), .val (.int (v0_4 p1 p0)), .val (.int (v0_5 p2 p1 p0 p3)), .val (.int (v0_6 p2 p1 p0 p3)), .val (.int (v0_7 p2 p1 p0 p3)), .val (.int (v0_8 p2 p1 p0 p3)), .val (.int (v0_9 p2)), .val (.ref b5), .val (.ref b14), .val (.ref b21), .val (.ref b31), .val (.ref b34), .val (.ref b36), .val (.int (v0_22 p0 p2 p1 p3)), .val (.int (v0_25 p0 p2 p1 p3))] [(.int (v0_22 p0 p2 p1 p3))])) t → Steps p.tables e below (s₁.setTop (entryFrame m #[(.int p0), (.int p1), (.int p2), (.int p3), (.long q0)] maxLocals)) t := fun t k => pre78 t (by
                    show Steps p.tables e below (T77.setTop (mkF m 512 #[.val (.int p0), .val (.int p1), .val (.int p2), .val (.int p3), .val (.long q0), .second, .val (.int (v0_1 p0)), .val (.int (v0_2 p1 p0)), .val (.int (v0_3 p1 p0)), .val (.int (v0_4 p1 p0)), .val (.int (v0_5 p2 p1 p0 p3)), .val (.int (v0_6 p2 p1 p0 p3)), .val (.int (v0_7 p2 p1 p0 p3)), .val (.int (v0_8 p2 p1 p0 p3)), .val (.int (v0_9 p2)), .val (.ref b5), .val (.ref b14), .val (.ref b21), .val (.ref b31), .val (.ref b34), .val (.ref b36), .val (.int (v0_22 p0 p2 p1 p3)), .val (.int (v0_25 p0 p2 p1 p3))] [(.int (v0_32 p2 p1 p0 p3))])) _
                    refine XS.ifNo X77.here hx rfl (hb hby at_512) rfl ((if0 _ _).trans (feq hc512_79).1) ?_
                    refine XS.iload X77.here hx rfl (hb hby at_515) rfl ?_
                    show Steps p.tables e below (T77.setTop (mkF m 517 #[.val (.int p0), .val (.int p1), .val (.int p2), .val (.int p3), .val (.long q0), .second, .val (.int (v0_1 p0)), .val (.int (v0_2 p1 p0)), .val (.int (v0_3 p1 p0)), .val (.int (v0_4 p1 p0)), .val (.int (v0_5 p2 p1 p0 p3)), .val (.int (v0_6 p2 p1 p0 p3)), .val (.int (v0_7 p2 p1 p0 p3)), .val (.int (v0_8 p2 p1 p0 p3)), .val (.int (v0_9 p2)), .val (.ref b5), .val (.ref b14), .val (.ref b21), .val (.ref b31), .val (.ref b34), .val (.ref b36), .val (.int (v0_22 p0 p2 p1 p3)), .val (.int (v0_25 p0 p2 p1 p3))] [(.int (v0_22 p0 p2 p1 p3))])) _
                    exact k)
                  by_cases hc517_81 : (v0_22 p0 p2 p1 p3) = (0 : Int32)
                  · have hv : (f0 p0 p1 p2 p3 q0) = (1 : Int32) := by simp only [f0, if_pos hc347_58, if_neg hc404_61, if_neg hc422_64, if_neg hc440_67, if_neg hc458_70, if_neg hc476_73, if_neg hc494_76, if_neg hc512_79, if_pos hc517_81]
                    obtain ⟨fs, hr, hrun, hended, hW, hsame⟩ := X77.leave (v := some (.int (1 : Int32))) (fun h => nomatch (Bd.returns.symm.trans h)) hlk
                    refine ⟨_, _, pre80 _ ?_, hrun, hended, _, _, rfl, ?_, ⟨_, rfl⟩, hW, hsame.mono (by decide) (by decide)⟩
                    · show Steps p.tables e below (T77.setTop (mkF m 517 #[.val (.int p0), .val (.int p1), .val (.int p2), .val (.int p3), .val (.long q0), .second, .val (.int (v0_1 p0)), .val (.int (v0_2 p1 p0)), .val (.int (v0_3 p1 p0)), .val (.int (v0_4 p1 p0)), .val (.int (v0_5 p2 p1 p0 p3)), .val (.int (v0_6 p2 p1 p0 p3)), .val (.int (v0_7 p2 p1 p0 p3)), .val (.int (v0_8 p2 p1 p0 p3)), .val (.int (v0_9 p2)), .val (.ref b5), .val (.ref b14), .val (.ref b21), .val (.ref b31), .val (.ref b34), .val (.ref b36), .val (.int (v0_22 p0 p2 p1 p3)), .val (.int (v0_25 p0 p2 p1 p3))] [(.int (v0_22 p0 p2 p1 p3))])) _
                      refine XS.ifYes X77.here hx rfl (pc0 := 517) (pc' := 540) rfl (hb hby at_517) rfl ((if0 _ _).trans (teq hc517_81).1) (by decide) (by decide) ?_
                      refine XS.iconst X77.here hx rfl (hb hby at_540) ?_
                      show Steps p.tables e below (T77.setTop (mkF m 541 #[.val (.int p0), .val (.int p1), .val (.int p2), .val (.int p3), .val (.long q0), .second, .val (.int (v0_1 p0)), .val (.int (v0_2 p1 p0)), .val (.int (v0_3 p1 p0)), .val (.int (v0_4 p1 p0)), .val (.int (v0_5 p2 p1 p0 p3)), .val (.int (v0_6 p2 p1 p0 p3)), .val (.int (v0_7 p2 p1 p0 p3)), .val (.int (v0_8 p2 p1 p0 p3)), .val (.int (v0_9 p2)), .val (.ref b5), .val (.ref b14), .val (.ref b21), .val (.ref b31), .val (.ref b34), .val (.ref b36), .val (.int (v0_22 p0 p2 p1 p3)), .val (.int (v0_25 p0 p2 p1 p3))] [(.int (1 : Int32))])) _
                      refine XS.goto X77.here hx rfl (pc0 := 541) (pc' := 545) rfl (hb hby at_541) (by decide) (by decide) ?_
                      show Steps p.tables e below (T77.setTop (mkF m 545 #[.val (.int p0), .val (.int p1), .val (.int p2), .val (.int p3), .val (.long q0), .second, .val (.int (v0_1 p0)), .val (.int (v0_2 p1 p0)), .val (.int (v0_3 p1 p0)), .val (.int (v0_4 p1 p0)), .val (.int (v0_5 p2 p1 p0 p3)), .val (.int (v0_6 p2 p1 p0 p3)), .val (.int (v0_7 p2 p1 p0 p3)), .val (.int (v0_8 p2 p1 p0 p3)), .val (.int (v0_9 p2)), .val (.ref b5), .val (.ref b14), .val (.ref b21), .val (.ref b31), .val (.ref b34), .val (.ref b36), .val (.int (v0_22 p0 p2 p1 p3)), .val (.int (v0_25 p0 p2 p1 p3))] [(.int (1 : Int32))])) _
                      exact retN X77 hx (t := .boolean) Bd.returns (by simp) (hb hby at_545) hr
                    · show Q0 Z p0 p1 p2 p3 q0 h0 n0 _ T77.heap _
                      rw [e77]
                      exact ⟨by rw [hv], N77⟩
                  · obtain ⟨cl82, Ar82, hin82, hat82⟩ := Ia.get (Vr52) (j := ((v0_22 p0 p2 p1 p3) - (1 : Int32))) (own_fc1 p0 p1 p2 p3 hc517_81)
                    have pre83 : ∀ t, Steps p.tables e below (T77.setTop (mkF m 529 #[.val (.int p0), .val (.int p1), .val (.int p2), .val (.int p3), .val (.long q0), .second, .val (.int (v0_1 p0)), .val (.int (v0_2 p1 p0)), .val (.int (v0_3 p1 p0)), .val (.int (v0_4 p1 p0)), .val (.int (v0_5 p2 p1 p0 p3)), .val (.int (v0_6 p2 p1 p0 p3)), .val (.int (v0_7 p2 p1 p0 p3)), .val (.int (v0_8 p2 p1 p0 p3)), .val (.int (v0_9 p2)), .val (.ref b5), .val (.ref b14), .val (.ref b21), .val (.ref b31), .val (.ref b34), .val (.ref b36), .val (.int (v0_22 p0 p2 p1 p3)), .val (.int (v0_25 p0 p2 p1 p3))] [(.int (v0_25 p0 p2 p1 p3)), (.int (v0_33 p0 p1 p2 p3))])) t → Steps p.tables e below (s₁.setTop (entryFrame m #[(.int p0), (.int p1), (.int p2), (.int p3), (.long q0)] maxLocals)) t := fun t k => pre80 t (by
                      show Steps p.tables e below (T77.setTop (mkF m 517 #[.val (.int p0), .val (.int p1), .val (.int p2), .val (.int p3), .val (.long q0), .second, .val (.int (v0_1 p0)), .val (.int (v0_2 p1 p0)), .val (.int (v0_3 p1 p0)), .val (.int (v0_4 p1 p0)), .val (.int (v0_5 p2 p1 p0 p3)), .val (.int (v0_6 p2 p1 p0 p3)), .val (.int (v0_7 p2 p1 p0 p3)), .val (.int (v0_8 p2 p1 p0 p3)), .val (.int (v0_9 p2)), .val (.ref b5), .val (.ref b14), .val (.ref b21), .val (.ref b31), .val (.ref b34), .val (.ref b36), .val (.int (v0_22 p0 p2 p1 p3)), .val (.int (v0_25 p0 p2 p1 p3))] [(.int (v0_22 p0 p2 p1 p3))])) _
                      refine XS.ifNo X77.here hx rfl (hb hby at_517) rfl ((if0 _ _).trans (feq hc517_81).1) ?_
                      refine XS.aload X77.here hx rfl (hb hby at_520) rfl rfl ?_
                      refine XS.iload X77.here hx rfl (hb hby at_522) rfl ?_
                      show Steps p.tables e below (T77.setTop (mkF m 524 #[.val (.int p0), .val (.int p1), .val (.int p2), .val (.int p3), .val (.long q0), .second, .val (.int (v0_1 p0)), .val (.int (v0_2 p1 p0)), .val (.int (v0_3 p1 p0)), .val (.int (v0_4 p1 p0)), .val (.int (v0_5 p2 p1 p0 p3)), .val (.int (v0_6 p2 p1 p0 p3)), .val (.int (v0_7 p2 p1 p0 p3)), .val (.int (v0_8 p2 p1 p0 p3)), .val (.int (v0_9 p2)), .val (.ref b5), .val (.ref b14), .val (.ref b21), .val (.ref b31), .val (.ref b34), .val (.ref b36), .val (.int (v0_22 p0 p2 p1 p3)), .val (.int (v0_25 p0 p2 p1 p3))] [(.int (v0_22 p0 p2 p1 p3)), (.ref b31)])) _
                      refine XS.iconst X77.here hx rfl (hb hby at_524) ?_
                      refine XS.isub X77.here hx rfl (hb hby at_525) rfl ?_
                      refine X77.iaload hx (j := ((v0_22 p0 p2 p1 p3) - (1 : Int32))) (v := (.int (getI (own_into p0 p1 p2 p3) ((v0_22 p0 p2 p1 p3) - (1 : Int32))))) (by rw [e77]; exact Ar82.1) (State.isArrayOf_alike hZ.alike Ar82.2.1) Ar82.2.2 hin82 hat82 (g := (mkF m 526 #[.val (.int p0), .val (.int p1), .val (.int p2), .val (.int p3), .val (.long q0), .second, .val (.int (v0_1 p0)), .val (.int (v0_2 p1 p0)), .val (.int (v0_3 p1 p0)), .val (.int (v0_4 p1 p0)), .val (.int (v0_5 p2 p1 p0 p3)), .val (.int (v0_6 p2 p1 p0 p3)), .val (.int (v0_7 p2 p1 p0 p3)), .val (.int (v0_8 p2 p1 p0 p3)), .val (.int (v0_9 p2)), .val (.ref b5), .val (.ref b14), .val (.ref b21), .val (.ref b31), .val (.ref b34), .val (.ref b36), .val (.int (v0_22 p0 p2 p1 p3)), .val (.int (v0_25 p0 p2 p1 p3))] [(.int ((v0_22 p0 p2 p1 p3) - (1 : Int32))), (.ref b31)])) rfl rfl (hb hby at_526) _ ?_
                      refine XS.iload X77.here hx rfl (hb hby at_527) rfl ?_
                      show Steps p.tables e below (T77.setTop (mkF m 529 #[.val (.int p0), .val (.int p1), .val (.int p2), .val (.int p3), .val (.long q0), .second, .val (.int (v0_1 p0)), .val (.int (v0_2 p1 p0)), .val (.int (v0_3 p1 p0)), .val (.int (v0_4 p1 p0)), .val (.int (v0_5 p2 p1 p0 p3)), .val (.int (v0_6 p2 p1 p0 p3)), .val (.int (v0_7 p2 p1 p0 p3)), .val (.int (v0_8 p2 p1 p0 p3)), .val (.int (v0_9 p2)), .val (.ref b5), .val (.ref b14), .val (.ref b21), .val (.ref b31), .val (.ref b34), .val (.ref b36), .val (.int (v0_22 p0 p2 p1 p3)), .val (.int (v0_25 p0 p2 p1 p3))] [(.int (v0_25 p0 p2 p1 p3)), (.int (v0_33 p0 p1 p2 p3))])) _
                      exact k)
                    by_cases hc529_84 : (v0_33 p0 p1 p2 p3) = (v0_25 p0 p2 p1 p3)
                    · obtain ⟨cl85, Ar85, hin85, hat85⟩ := Ia.get (Vr52) (j := (v0_22 p0 p2 p1 p3)) (own_fc0 p0 p1 p2 p3)
                      have pre86 : ∀ t, Steps p.tables e below (T77.setTop (mkF m 537 #[.val (.int p0), .val (.int p1), .val (.int p2), .val (.int p3), .val (.long q0), .second, .val (.int (v0_1 p0)), .val (.int (v0_2 p1 p0)), .val (.int (v0_3 p1 p0)), .val (.int (v0_4 p1 p0)), .val (.int (v0_5 p2 p1 p0 p3)), .val (.int (v0_6 p2 p1 p0 p3)), .val (.int (v0_7 p2 p1 p0 p3)), .val (.int (v0_8 p2 p1 p0 p3)), .val (.int (v0_9 p2)), .val (.ref b5), .val (.ref b14), .val (.ref b21), .val (.ref b31), .val (.ref b34), .val (.ref b36), .val (.int (v0_22 p0 p2 p1 p3)), .val (.int (v0_25 p0 p2 p1 p3))] [(.int (v0_34 p0 p1 p2 p3))])) t → Steps p.tables e below (s₁.setTop (entryFrame m #[(.int p0), (.int p1), (.int p2), (.int p3), (.long q0)] maxLocals)) t := fun t k => pre83 t (by
                        show Steps p.tables e below (T77.setTop (mkF m 529 #[.val (.int p0), .val (.int p1), .val (.int p2), .val (.int p3), .val (.long q0), .second, .val (.int (v0_1 p0)), .val (.int (v0_2 p1 p0)), .val (.int (v0_3 p1 p0)), .val (.int (v0_4 p1 p0)), .val (.int (v0_5 p2 p1 p0 p3)), .val (.int (v0_6 p2 p1 p0 p3)), .val (.int (v0_7 p2 p1 p0 p3)), .val (.int (v0_8 p2 p1 p0 p3)), .val (.int (v0_9 p2)), .val (.ref b5), .val (.ref b14), .val (.ref b21), .val (.ref b31), .val (.ref b34), .val (.ref b36), .val (.int (v0_22 p0 p2 p1 p3)), .val (.int (v0_25 p0 p2 p1 p3))] [(.int (v0_25 p0 p2 p1 p3)), (.int (v0_33 p0 p1 p2 p3))])) _
                        refine XS.icmpNo X77.here hx rfl (hb hby at_529) rfl (teq hc529_84).2 ?_
                        refine XS.aload X77.here hx rfl (hb hby at_532) rfl rfl ?_
                        refine XS.iload X77.here hx rfl (hb hby at_534) rfl ?_
                        refine X77.iaload hx (j := (v0_22 p0 p2 p1 p3)) (v := (.int (getI (own_into p0 p1 p2 p3) (v0_22 p0 p2 p1 p3)))) (by rw [e77]; exact Ar85.1) (State.isArrayOf_alike hZ.alike Ar85.2.1) Ar85.2.2 hin85 hat85 (g := (mkF m 536 #[.val (.int p0), .val (.int p1), .val (.int p2), .val (.int p3), .val (.long q0), .second, .val (.int (v0_1 p0)), .val (.int (v0_2 p1 p0)), .val (.int (v0_3 p1 p0)), .val (.int (v0_4 p1 p0)), .val (.int (v0_5 p2 p1 p0 p3)), .val (.int (v0_6 p2 p1 p0 p3)), .val (.int (v0_7 p2 p1 p0 p3)), .val (.int (v0_8 p2 p1 p0 p3)), .val (.int (v0_9 p2)), .val (.ref b5), .val (.ref b14), .val (.ref b21), .val (.ref b31), .val (.ref b34), .val (.ref b36), .val (.int (v0_22 p0 p2 p1 p3)), .val (.int (v0_25 p0 p2 p1 p3))] [(.int (v0_22 p0 p2 p1 p3)), (.ref b31)])) rfl rfl (hb hby at_536) _ ?_
                        show Steps p.tables e below (T77.setTop (mkF m 537 #[.val (.int p0), .val (.int p1), .val (.int p2), .val (.int p3), .val (.long q0), .second, .val (.int (v0_1 p0)), .val (.int (v0_2 p1 p0)), .val (.int (v0_3 p1 p0)), .val (.int (v0_4 p1 p0)), .val (.int (v0_5 p2 p1 p0 p3)), .val (.int (v0_6 p2 p1 p0 p3)), .val (.int (v0_7 p2 p1 p0 p3)), .val (.int (v0_8 p2 p1 p0 p3)), .val (.int (v0_9 p2)), .val (.ref b5), .val (.ref b14), .val (.ref b21), .val (.ref b31), .val (.ref b34), .val (.ref b36), .val (.int (v0_22 p0 p2 p1 p3)), .val (.int (v0_25 p0 p2 p1 p3))] [(.int (v0_34 p0 p1 p2 p3))])) _
                        exact k)
                      by_cases hc537_87 : (v0_34 p0 p1 p2 p3) = (0 : Int32)
                      · have hv : (f0 p0 p1 p2 p3 q0) = (1 : Int32) := by simp only [f0, if_pos hc347_58, if_neg hc404_61, if_neg hc422_64, if_neg hc440_67, if_neg hc458_70, if_neg hc476_73, if_neg hc494_76, if_neg hc512_79, if_neg hc517_81, if_pos hc529_84, if_pos hc537_87]
                        obtain ⟨fs, hr, hrun, hended, hW, hsame⟩ := X77.leave (v := some (.int (1 : Int32))) (fun h => nomatch (Bd.returns.symm.trans h)) hlk
                        refine ⟨_, _, pre86 _ ?_, hrun, hended, _, _, rfl, ?_, ⟨_, rfl⟩, hW, hsame.mono (by decide) (by decide)⟩
                        · show Steps p.tables e below (T77.setTop (mkF m 537 #[.val (.int p0), .val (.int p1), .val (.int p2), .val (.int p3), .val (.long q0), .second, .val (.int (v0_1 p0)), .val (.int (v0_2 p1 p0)), .val (.int (v0_3 p1 p0)), .val (.int (v0_4 p1 p0)), .val (.int (v0_5 p2 p1 p0 p3)), .val (.int (v0_6 p2 p1 p0 p3)), .val (.int (v0_7 p2 p1 p0 p3)), .val (.int (v0_8 p2 p1 p0 p3)), .val (.int (v0_9 p2)), .val (.ref b5), .val (.ref b14), .val (.ref b21), .val (.ref b31), .val (.ref b34), .val (.ref b36), .val (.int (v0_22 p0 p2 p1 p3)), .val (.int (v0_25 p0 p2 p1 p3))] [(.int (v0_34 p0 p1 p2 p3))])) _
                          refine XS.ifNo X77.here hx rfl (hb hby at_537) rfl ((if0 _ _).trans (teq hc537_87).2) ?_
                          refine XS.iconst X77.here hx rfl (hb hby at_540) ?_
                          refine XS.goto X77.here hx rfl (pc0 := 541) (pc' := 545) rfl (hb hby at_541) (by decide) (by decide) ?_
                          show Steps p.tables e below (T77.setTop (mkF m 545 #[.val (.int p0), .val (.int p1), .val (.int p2), .val (.int p3), .val (.long q0), .second, .val (.int (v0_1 p0)), .val (.int (v0_2 p1 p0)), .val (.int (v0_3 p1 p0)), .val (.int (v0_4 p1 p0)), .val (.int (v0_5 p2 p1 p0 p3)), .val (.int (v0_6 p2 p1 p0 p3)), .val (.int (v0_7 p2 p1 p0 p3)), .val (.int (v0_8 p2 p1 p0 p3)), .val (.int (v0_9 p2)), .val (.ref b5), .val (.ref b14), .val (.ref b21), .val (.ref b31), .val (.ref b34), .val (.ref b36), .val (.int (v0_22 p0 p2 p1 p3)), .val (.int (v0_25 p0 p2 p1 p3))] [(.int (1 : Int32))])) _
                          exact retN X77 hx (t := .boolean) Bd.returns (by simp) (hb hby at_545) hr
                        · show Q0 Z p0 p1 p2 p3 q0 h0 n0 _ T77.heap _
                          rw [e77]
                          exact ⟨by rw [hv], N77⟩
                      · have hv : (f0 p0 p1 p2 p3 q0) = (0 : Int32) := by simp only [f0, if_pos hc347_58, if_neg hc404_61, if_neg hc422_64, if_neg hc440_67, if_neg hc458_70, if_neg hc476_73, if_neg hc494_76, if_neg hc512_79, if_neg hc517_81, if_pos hc529_84, if_neg hc537_87]
                        obtain ⟨fs, hr, hrun, hended, hW, hsame⟩ := X77.leave (v := some (.int (0 : Int32))) (fun h => nomatch (Bd.returns.symm.trans h)) hlk
                        refine ⟨_, _, pre86 _ ?_, hrun, hended, _, _, rfl, ?_, ⟨_, rfl⟩, hW, hsame.mono (by decide) (by decide)⟩
                        · show Steps p.tables e below (T77.setTop (mkF m 537 #[.val (.int p0), .val (.int p1), .val (.int p2), .val (.int p3), .val (.long q0), .second, .val (.int (v0_1 p0)), .val (.int (v0_2 p1 p0)), .val (.int (v0_3 p1 p0)), .val (.int (v0_4 p1 p0)), .val (.int (v0_5 p2 p1 p0 p3)), .val (.int (v0_6 p2 p1 p0 p3)), .val (.int (v0_7 p2 p1 p0 p3)), .val (.int (v0_8 p2 p1 p0 p3)), .val (.int (v0_9 p2)), .val (.ref b5), .val (.ref b14), .val (.ref b21), .val (.ref b31), .val (.ref b34), .val (.ref b36), .val (.int (v0_22 p0 p2 p1 p3)), .val (.int (v0_25 p0 p2 p1 p3))] [(.int (v0_34 p0 p1 p2 p3))])) _
                          refine XS.ifYes X77.here hx rfl (pc0 := 537) (pc' := 544) rfl (hb hby at_537) rfl ((if0 _ _).trans (feq hc537_87).2) (by decide) (by decide) ?_
                          show Steps p.tables e below (T77.setTop (mkF m 544 #[.val (.int p0), .val (.int p1), .val (.int p2), .val (.int p3), .val (.long q0), .second, .val (.int (v0_1 p0)), .val (.int (v0_2 p1 p0)), .val (.int (v0_3 p1 p0)), .val (.int (v0_4 p1 p0)), .val (.int (v0_5 p2 p1 p0 p3)), .val (.int (v0_6 p2 p1 p0 p3)), .val (.int (v0_7 p2 p1 p0 p3)), .val (.int (v0_8 p2 p1 p0 p3)), .val (.int (v0_9 p2)), .val (.ref b5), .val (.ref b14), .val (.ref b21), .val (.ref b31), .val (.ref b34), .val (.ref b36), .val (.int (v0_22 p0 p2 p1 p3)), .val (.int (v0_25 p0 p2 p1 p3))] [])) _
                          refine XS.iconst X77.here hx rfl (hb hby at_544) ?_
                          show Steps p.tables e below (T77.setTop (mkF m 545 #[.val (.int p0), .val (.int p1), .val (.int p2), .val (.int p3), .val (.long q0), .second, .val (.int (v0_1 p0)), .val (.int (v0_2 p1 p0)), .val (.int (v0_3 p1 p0)), .val (.int (v0_4 p1 p0)), .val (.int (v0_5 p2 p1 p0 p3)), .val (.int (v0_6 p2 p1 p0 p3)), .val (.int (v0_7 p2 p1 p0 p3)), .val (.int (v0_8 p2 p1 p0 p3)), .val (.int (v0_9 p2)), .val (.ref b5), .val (.ref b14), .val (.ref b21), .val (.ref b31), .val (.ref b34), .val (.ref b36), .val (.int (v0_22 p0 p2 p1 p3)), .val (.int (v0_25 p0 p2 p1 p3))] [(.int (0 : Int32))])) _
                          exact retN X77 hx (t := .boolean) Bd.returns (by simp) (hb hby at_545) hr
                        · show Q0 Z p0 p1 p2 p3 q0 h0 n0 _ T77.heap _
                          rw [e77]
                          exact ⟨by rw [hv], N77⟩
                    · have hv : (f0 p0 p1 p2 p3 q0) = (0 : Int32) := by simp only [f0, if_pos hc347_58, if_neg hc404_61, if_neg hc422_64, if_neg hc440_67, if_neg hc458_70, if_neg hc476_73, if_neg hc494_76, if_neg hc512_79, if_neg hc517_81, if_neg hc529_84]
                      obtain ⟨fs, hr, hrun, hended, hW, hsame⟩ := X77.leave (v := some (.int (0 : Int32))) (fun h => nomatch (Bd.returns.symm.trans h)) hlk
                      refine ⟨_, _, pre83 _ ?_, hrun, hended, _, _, rfl, ?_, ⟨_, rfl⟩, hW, hsame.mono (by decide) (by decide)⟩
                      · show Steps p.tables e below (T77.setTop (mkF m 529 #[.val (.int p0), .val (.int p1), .val (.int p2), .val (.int p3), .val (.long q0), .second, .val (.int (v0_1 p0)), .val (.int (v0_2 p1 p0)), .val (.int (v0_3 p1 p0)), .val (.int (v0_4 p1 p0)), .val (.int (v0_5 p2 p1 p0 p3)), .val (.int (v0_6 p2 p1 p0 p3)), .val (.int (v0_7 p2 p1 p0 p3)), .val (.int (v0_8 p2 p1 p0 p3)), .val (.int (v0_9 p2)), .val (.ref b5), .val (.ref b14), .val (.ref b21), .val (.ref b31), .val (.ref b34), .val (.ref b36), .val (.int (v0_22 p0 p2 p1 p3)), .val (.int (v0_25 p0 p2 p1 p3))] [(.int (v0_25 p0 p2 p1 p3)), (.int (v0_33 p0 p1 p2 p3))])) _
                        refine XS.icmpYes X77.here hx rfl (pc0 := 529) (pc' := 544) rfl (hb hby at_529) rfl (feq hc529_84).2 (by decide) (by decide) ?_
                        refine XS.iconst X77.here hx rfl (hb hby at_544) ?_
                        show Steps p.tables e below (T77.setTop (mkF m 545 #[.val (.int p0), .val (.int p1), .val (.int p2), .val (.int p3), .val (.long q0), .second, .val (.int (v0_1 p0)), .val (.int (v0_2 p1 p0)), .val (.int (v0_3 p1 p0)), .val (.int (v0_4 p1 p0)), .val (.int (v0_5 p2 p1 p0 p3)), .val (.int (v0_6 p2 p1 p0 p3)), .val (.int (v0_7 p2 p1 p0 p3)), .val (.int (v0_8 p2 p1 p0 p3)), .val (.int (v0_9 p2)), .val (.ref b5), .val (.ref b14), .val (.ref b21), .val (.ref b31), .val (.ref b34), .val (.ref b36), .val (.int (v0_22 p0 p2 p1 p3)), .val (.int (v0_25 p0 p2 p1 p3))] [(.int (0 : Int32))])) _
                        exact retN X77 hx (t := .boolean) Bd.returns (by simp) (hb hby at_545) hr
                      · show Q0 Z p0 p1 p2 p3 q0 h0 n0 _ T77.heap _
                        rw [e77]
                        exact ⟨by rw [hv], N77⟩
  · obtain ⟨_, _, ⟨T88, L88, k88, n88⟩, -, X88, ⟨Lc88, hQ88, l88, y88, z88⟩, st88⟩ := Jvm.LawKit.callS X53 hx (y := (⟨"com/example/knotwork/knotwork/generate/FreeNumbersFreePinLaw", "inT", "(I[I[II)Z"⟩ : MethodName)) hown (mvT hZ (hw _ (List.mem_of_getElem? (i := 49) rfl))) (mvT hZ (hw _ (List.mem_of_getElem? (i := 50) rfl))) (mvT hZ (hw _ (List.mem_of_getElem? (i := 2) rfl))) (mvT hZ (hw _ (List.mem_of_getElem? (i := 51) rfl))) (by decide) (backOf (W := 0) (rm9 l Z a0 hw [] (v0_25 p0 p2 p1 p3) b14 b21 (v0_9 p2) k14 (w0_16 p1 p0) k21 (w0_13 p2 p1 p0 p3) T52.heap n0 Z52 ((M48.keep Kq52 (ninS ne_b14_b36 (ninS ne_b14_ta (ninS ne_b14_b31 nin0))))) ((M49.keep Kq52 (ninS ne_b21_b36 (ninS ne_b21_ta (ninS ne_b21_b31 nin0)))))) hZ (hw _ (List.mem_of_getElem? (i := 51) rfl)) (hw _ (List.mem_of_getElem? (i := 2) rfl)) (by decide) (by decide)) (g := (mkF m 358 #[.val (.int p0), .val (.int p1), .val (.int p2), .val (.int p3), .val (.long q0), .second, .val (.int (v0_1 p0)), .val (.int (v0_2 p1 p0)), .val (.int (v0_3 p1 p0)), .val (.int (v0_4 p1 p0)), .val (.int (v0_5 p2 p1 p0 p3)), .val (.int (v0_6 p2 p1 p0 p3)), .val (.int (v0_7 p2 p1 p0 p3)), .val (.int (v0_8 p2 p1 p0 p3)), .val (.int (v0_9 p2)), .val (.ref b5), .val (.ref b14), .val (.ref b21), .val (.ref b31), .val (.ref b34), .val (.ref b36), .val (.int (v0_22 p0 p2 p1 p3)), .val (.int (v0_25 p0 p2 p1 p3))] [(.int (v0_9 p2)), (.ref b21), (.ref b14), (.int (v0_25 p0 p2 p1 p3))])) rfl (by rw [hml]; rfl) (argsL := [(.int (v0_25 p0 p2 p1 p3)), (.ref b14), (.ref b21), (.int (v0_9 p2))]) (rest := []) (lenOf pd_2 rfl) rfl (by show 2 * 0 + _ ≤ _; exact Nat.le_of_eq rfl) (hb hby at_358) (fun _ _ => ⟨rfl, e53, (by decide : 8 + 0 ≤ _), (by decide : 146 + 0 ≤ _)⟩)
    dsimp only [Pt.U, Pt.locs, Pt.cells, Pt.slots] at X88 l88 y88 z88 st88 hQ88
    rw [l88, y88, z88] at X88
    obtain ⟨rfl, N88q, e88⟩ := hQ88
    have N88 := Fr.app N53 N88q
    have pre89 : ∀ t, Steps p.tables e below (T88.setTop (mkF m 361 #[.val (.int p0), .val (.int p1), .val (.int p2), .val (.int p3), .val (.long q0), .second, .val (.int (v0_1 p0)), .val (.int (v0_2 p1 p0)), .val (.int (v0_3 p1 p0)), .val (.int (v0_4 p1 p0)), .val (.int (v0_5 p2 p1 p0 p3)), .val (.int (v0_6 p2 p1 p0 p3)), .val (.int (v0_7 p2 p1 p0 p3)), .val (.int (v0_8 p2 p1 p0 p3)), .val (.int (v0_9 p2)), .val (.ref b5), .val (.ref b14), .val (.ref b21), .val (.ref b31), .val (.ref b34), .val (.ref b36), .val (.int (v0_22 p0 p2 p1 p3)), .val (.int (v0_25 p0 p2 p1 p3))] [(.int (v0_35 p0 p2 p1 p3))])) t → Steps p.tables e below (s₁.setTop (entryFrame m #[(.int p0), (.int p1), (.int p2), (.int p3), (.long q0)] maxLocals)) t := fun t k => pre57 t (by
      show Steps p.tables e below (T53.setTop (mkF m 347 #[.val (.int p0), .val (.int p1), .val (.int p2), .val (.int p3), .val (.long q0), .second, .val (.int (v0_1 p0)), .val (.int (v0_2 p1 p0)), .val (.int (v0_3 p1 p0)), .val (.int (v0_4 p1 p0)), .val (.int (v0_5 p2 p1 p0 p3)), .val (.int (v0_6 p2 p1 p0 p3)), .val (.int (v0_7 p2 p1 p0 p3)), .val (.int (v0_8 p2 p1 p0 p3)), .val (.int (v0_9 p2)), .val (.ref b5), .val (.ref b14), .val (.ref b21), .val (.ref b31), .val (.ref b34), .val (.ref b36), .val (.int (v0_22 p0 p2 p1 p3)), .val (.int (v0_25 p0 p2 p1 p3))] [(.int (v0_25 p0 p2 p1 p3))])) _
      refine XS.ifNo X53.here hx rfl (hb hby at_347) rfl ((if0 _ _).trans (flt hc347_58).1) ?_
      show Steps p.tables e below (T53.setTop (mkF m 350 #[.val (.int p0), .val (.int p1), .val (.int p2), .val (.int p3), .val (.long q0), .second, .val (.int (v0_1 p0)), .val (.int (v0_2 p1 p0)), .val (.int (v0_3 p1 p0)), .val (.int (v0_4 p1 p0)), .val (.int (v0_5 p2 p1 p0 p3)), .val (.int (v0_6 p2 p1 p0 p3)), .val (.int (v0_7 p2 p1 p0 p3)), .val (.int (v0_8 p2 p1 p0 p3)), .val (.int (v0_9 p2)), .val (.ref b5), .val (.ref b14), .val (.ref b21), .val (.ref b31), .val (.ref b34), .val (.ref b36), .val (.int (v0_22 p0 p2 p1 p3)), .val (.int (v0_25 p0 p2 p1 p3))] [])) _
      refine XS.iload X53.here hx rfl (hb hby at_350) rfl ?_
      refine XS.aload X53.here hx rfl (hb hby at_352) rfl rfl ?_
      refine XS.aload X53.here hx rfl (hb hby at_354) rfl rfl ?_
      refine XS.iload X53.here hx rfl (hb hby at_356) rfl ?_
      show Steps p.tables e below (T53.setTop (mkF m 358 #[.val (.int p0), .val (.int p1), .val (.int p2), .val (.int p3), .val (.long q0), .second, .val (.int (v0_1 p0)), .val (.int (v0_2 p1 p0)), .val (.int (v0_3 p1 p0)), .val (.int (v0_4 p1 p0)), .val (.int (v0_5 p2 p1 p0 p3)), .val (.int (v0_6 p2 p1 p0 p3)), .val (.int (v0_7 p2 p1 p0 p3)), .val (.int (v0_8 p2 p1 p0 p3)), .val (.int (v0_9 p2)), .val (.ref b5), .val (.ref b14), .val (.ref b21), .val (.ref b31), .val (.ref b34), .val (.ref b36), .val (.int (v0_22 p0 p2 p1 p3)), .val (.int (v0_25 p0 p2 p1 p3))] [(.int (v0_9 p2)), (.ref b21), (.ref b14), (.int (v0_25 p0 p2 p1 p3))])) _
      refine st88 _ ?_
      show Steps p.tables e below (T88.setTop (mkF m 361 #[.val (.int p0), .val (.int p1), .val (.int p2), .val (.int p3), .val (.long q0), .second, .val (.int (v0_1 p0)), .val (.int (v0_2 p1 p0)), .val (.int (v0_3 p1 p0)), .val (.int (v0_4 p1 p0)), .val (.int (v0_5 p2 p1 p0 p3)), .val (.int (v0_6 p2 p1 p0 p3)), .val (.int (v0_7 p2 p1 p0 p3)), .val (.int (v0_8 p2 p1 p0 p3)), .val (.int (v0_9 p2)), .val (.ref b5), .val (.ref b14), .val (.ref b21), .val (.ref b31), .val (.ref b34), .val (.ref b36), .val (.int (v0_22 p0 p2 p1 p3)), .val (.int (v0_25 p0 p2 p1 p3))] [(.int (v0_35 p0 p2 p1 p3))])) _
      exact k)
    have pre91 : ∀ t, Steps p.tables e below (T88.setTop (mkF m 367 #[.val (.int p0), .val (.int p1), .val (.int p2), .val (.int p3), .val (.long q0), .second, .val (.int (v0_1 p0)), .val (.int (v0_2 p1 p0)), .val (.int (v0_3 p1 p0)), .val (.int (v0_4 p1 p0)), .val (.int (v0_5 p2 p1 p0 p3)), .val (.int (v0_6 p2 p1 p0 p3)), .val (.int (v0_7 p2 p1 p0 p3)), .val (.int (v0_8 p2 p1 p0 p3)), .val (.int (v0_9 p2)), .val (.ref b5), .val (.ref b14), .val (.ref b21), .val (.ref b31), .val (.ref b34), .val (.ref b36), .val (.int (v0_22 p0 p2 p1 p3)), .val (.int (if (v0_35 p0 p2 p1 p3) = (0 : Int32) then (v0_25 p0 p2 p1 p3) else ((v0_25 p0 p2 p1 p3) + (-1 : Int32))))] [])) t → Steps p.tables e below (s₁.setTop (entryFrame m #[(.int p0), (.int p1), (.int p2), (.int p3), (.long q0)] maxLocals)) t := fun t k => pre89 t (by
      show Steps p.tables e below (T88.setTop (mkF m 361 #[.val (.int p0), .val (.int p1), .val (.int p2), .val (.int p3), .val (.long q0), .second, .val (.int (v0_1 p0)), .val (.int (v0_2 p1 p0)), .val (.int (v0_3 p1 p0)), .val (.int (v0_4 p1 p0)), .val (.int (v0_5 p2 p1 p0 p3)), .val (.int (v0_6 p2 p1 p0 p3)), .val (.int (v0_7 p2 p1 p0 p3)), .val (.int (v0_8 p2 p1 p0 p3)), .val (.int (v0_9 p2)), .val (.ref b5), .val (.ref b14), .val (.ref b21), .val (.ref b31), .val (.ref b34), .val (.ref b36), .val (.int (v0_22 p0 p2 p1 p3)), .val (.int (v0_25 p0 p2 p1 p3))] [(.int (v0_35 p0 p2 p1 p3))])) _
      by_cases hd361_90 : (v0_35 p0 p2 p1 p3) = (0 : Int32)
      · try simp only [if_pos hd361_90] at k
        show Steps p.tables e below (T88.setTop (mkF m 361 #[.val (.int p0), .val (.int p1), .val (.int p2), .val (.int p3), .val (.long q0), .second, .val (.int (v0_1 p0)), .val (.int (v0_2 p1 p0)), .val (.int (v0_3 p1 p0)), .val (.int (v0_4 p1 p0)), .val (.int (v0_5 p2 p1 p0 p3)), .val (.int (v0_6 p2 p1 p0 p3)), .val (.int (v0_7 p2 p1 p0 p3)), .val (.int (v0_8 p2 p1 p0 p3)), .val (.int (v0_9 p2)), .val (.ref b5), .val (.ref b14), .val (.ref b21), .val (.ref b31), .val (.ref b34), .val (.ref b36), .val (.int (v0_22 p0 p2 p1 p3)), .val (.int (v0_25 p0 p2 p1 p3))] [(.int (v0_35 p0 p2 p1 p3))])) _
        refine XS.ifYes X88.here hx rfl (pc0 := 361) (pc' := 367) rfl (hb hby at_361) rfl ((if0 _ _).trans (teq hd361_90).1) (by decide) (by decide) ?_
        exact k
      · try simp only [if_neg hd361_90] at k
        show Steps p.tables e below (T88.setTop (mkF m 361 #[.val (.int p0), .val (.int p1), .val (.int p2), .val (.int p3), .val (.long q0), .second, .val (.int (v0_1 p0)), .val (.int (v0_2 p1 p0)), .val (.int (v0_3 p1 p0)), .val (.int (v0_4 p1 p0)), .val (.int (v0_5 p2 p1 p0 p3)), .val (.int (v0_6 p2 p1 p0 p3)), .val (.int (v0_7 p2 p1 p0 p3)), .val (.int (v0_8 p2 p1 p0 p3)), .val (.int (v0_9 p2)), .val (.ref b5), .val (.ref b14), .val (.ref b21), .val (.ref b31), .val (.ref b34), .val (.ref b36), .val (.int (v0_22 p0 p2 p1 p3)), .val (.int (v0_25 p0 p2 p1 p3))] [(.int (v0_35 p0 p2 p1 p3))])) _
        refine XS.ifNo X88.here hx rfl (hb hby at_361) rfl ((if0 _ _).trans (feq hd361_90).1) ?_
        refine XS.iinc X88.here hx rfl (hb hby at_364) rfl (l' := #[.val (.int p0), .val (.int p1), .val (.int p2), .val (.int p3), .val (.long q0), .second, .val (.int (v0_1 p0)), .val (.int (v0_2 p1 p0)), .val (.int (v0_3 p1 p0)), .val (.int (v0_4 p1 p0)), .val (.int (v0_5 p2 p1 p0 p3)), .val (.int (v0_6 p2 p1 p0 p3)), .val (.int (v0_7 p2 p1 p0 p3)), .val (.int (v0_8 p2 p1 p0 p3)), .val (.int (v0_9 p2)), .val (.ref b5), .val (.ref b14), .val (.ref b21), .val (.ref b31), .val (.ref b34), .val (.ref b36), .val (.int (v0_22 p0 p2 p1 p3)), .val (.int ((v0_25 p0 p2 p1 p3) + (-1 : Int32)))]) rfl ?_
        exact k
      )
    have pre92 : ∀ t, Steps p.tables e below (T88.setTop (mkF m 369 #[.val (.int p0), .val (.int p1), .val (.int p2), .val (.int p3), .val (.long q0), .second, .val (.int (v0_1 p0)), .val (.int (v0_2 p1 p0)), .val (.int (v0_3 p1 p0)), .val (.int (v0_4 p1 p0)), .val (.int (v0_5 p2 p1 p0 p3)), .val (.int (v0_6 p2 p1 p0 p3)), .val (.int (v0_7 p2 p1 p0 p3)), .val (.int (v0_8 p2 p1 p0 p3)), .val (.int (v0_9 p2)), .val (.ref b5), .val (.ref b14), .val (.ref b21), .val (.ref b31), .val (.ref b34), .val (.ref b36), .val (.int (v0_22 p0 p2 p1 p3)), .val (.int (v0_36 p0 p2 p1 p3))] [(.int (v0_36 p0 p2 p1 p3))])) t → Steps p.tables e below (s₁.setTop (entryFrame m #[(.int p0), (.int p1), (.int p2), (.int p3), (.long q0)] maxLocals)) t := fun t k => pre91 t (by
      show Steps p.tables e below (T88.setTop (mkF m 367 #[.val (.int p0), .val (.int p1), .val (.int p2), .val (.int p3), .val (.long q0), .second, .val (.int (v0_1 p0)), .val (.int (v0_2 p1 p0)), .val (.int (v0_3 p1 p0)), .val (.int (v0_4 p1 p0)), .val (.int (v0_5 p2 p1 p0 p3)), .val (.int (v0_6 p2 p1 p0 p3)), .val (.int (v0_7 p2 p1 p0 p3)), .val (.int (v0_8 p2 p1 p0 p3)), .val (.int (v0_9 p2)), .val (.ref b5), .val (.ref b14), .val (.ref b21), .val (.ref b31), .val (.ref b34), .val (.ref b36), .val (.int (v0_22 p0 p2 p1 p3)), .val (.int (v0_36 p0 p2 p1 p3))] [])) _
      refine XS.iload X88.here hx rfl (hb hby at_367) rfl ?_
      show Steps p.tables e below (T88.setTop (mkF m 369 #[.val (.int p0), .val (.int p1), .val (.int p2), .val (.int p3), .val (.long q0), .second, .val (.int (v0_1 p0)), .val (.int (v0_2 p1 p0)), .val (.int (v0_3 p1 p0)), .val (.int (v0_4 p1 p0)), .val (.int (v0_5 p2 p1 p0 p3)), .val (.int (v0_6 p2 p1 p0 p3)), .val (.int (v0_7 p2 p1 p0 p3)), .val (.int (v0_8 p2 p1 p0 p3)), .val (.int (v0_9 p2)), .val (.ref b5), .val (.ref b14), .val (.ref b21), .val (.ref b31), .val (.ref b34), .val (.ref b36), .val (.int (v0_22 p0 p2 p1 p3)), .val (.int (v0_36 p0 p2 p1 p3))] [(.int (v0_36 p0 p2 p1 p3))])) _
      exact k)
    by_cases hc369_93 : (v0_36 p0 p2 p1 p3) < (0 : Int32)
    · obtain ⟨_, _, ⟨T94, L94, k94, n94⟩, -, X94, ⟨Lc94, hQ94, l94, y94, z94⟩, st94⟩ := Jvm.LawKit.callS X88 hx (y := (⟨"com/example/knotwork/knotwork/generate/FreeNumbersFreePinLaw", "ok", "(I[I[II[II)Z"⟩ : MethodName)) hown (mvT hZ (hw _ (List.mem_of_getElem? (i := 57) rfl))) (mvT hZ (hw _ (List.mem_of_getElem? (i := 58) rfl))) (mvT hZ (hw _ (List.mem_of_getElem? (i := 2) rfl))) (mvT hZ (hw _ (List.mem_of_getElem? (i := 59) rfl))) (by decide) (backOf (W := 0) (rm11 l Z a0 hw [] (v0_2 p1 p0) b14 b21 (v0_9 p2) b31 (v0_22 p0 p2 p1 p3) k14 (w0_16 p1 p0) k21 (w0_13 p2 p1 p0 p3) k31 (own_into p0 p1 p2 p3) T52.heap n0 Z52 ((M48.keep Kq52 (ninS ne_b14_b36 (ninS ne_b14_ta (ninS ne_b14_b31 nin0))))) ((M49.keep Kq52 (ninS ne_b21_b36 (ninS ne_b21_ta (ninS ne_b21_b31 nin0))))) (Vr52) (own_hid (own_ra p1 p0))) hZ (hw _ (List.mem_of_getElem? (i := 59) rfl)) (hw _ (List.mem_of_getElem? (i := 2) rfl)) (by decide) (by decide)) (g := (mkF m 401 #[.val (.int p0), .val (.int p1), .val (.int p2), .val (.int p3), .val (.long q0), .second, .val (.int (v0_1 p0)), .val (.int (v0_2 p1 p0)), .val (.int (v0_3 p1 p0)), .val (.int (v0_4 p1 p0)), .val (.int (v0_5 p2 p1 p0 p3)), .val (.int (v0_6 p2 p1 p0 p3)), .val (.int (v0_7 p2 p1 p0 p3)), .val (.int (v0_8 p2 p1 p0 p3)), .val (.int (v0_9 p2)), .val (.ref b5), .val (.ref b14), .val (.ref b21), .val (.ref b31), .val (.ref b34), .val (.ref b36), .val (.int (v0_22 p0 p2 p1 p3)), .val (.int (v0_36 p0 p2 p1 p3))] [(.int (v0_22 p0 p2 p1 p3)), (.ref b31), (.int (v0_9 p2)), (.ref b21), (.ref b14), (.int (v0_2 p1 p0))])) rfl (by rw [hml]; rfl) (argsL := [(.int (v0_2 p1 p0)), (.ref b14), (.ref b21), (.int (v0_9 p2)), (.ref b31), (.int (v0_22 p0 p2 p1 p3))]) (rest := []) (lenOf pd_10 rfl) rfl (by show 2 * 0 + _ ≤ _; exact Nat.le_of_eq rfl) (hb hby at_401) (fun _ _ => ⟨rfl, e88, (by decide : 8 + 0 ≤ _), (by decide : 146 + 0 ≤ _)⟩)
      dsimp only [Pt.U, Pt.locs, Pt.cells, Pt.slots] at X94 l94 y94 z94 st94 hQ94
      rw [l94, y94, z94] at X94
      obtain ⟨rfl, N94q, e94⟩ := hQ94
      have N94 := Fr.app N88 N94q
      have pre95 : ∀ t, Steps p.tables e below (T94.setTop (mkF m 404 #[.val (.int p0), .val (.int p1), .val (.int p2), .val (.int p3), .val (.long q0), .second, .val (.int (v0_1 p0)), .val (.int (v0_2 p1 p0)), .val (.int (v0_3 p1 p0)), .val (.int (v0_4 p1 p0)), .val (.int (v0_5 p2 p1 p0 p3)), .val (.int (v0_6 p2 p1 p0 p3)), .val (.int (v0_7 p2 p1 p0 p3)), .val (.int (v0_8 p2 p1 p0 p3)), .val (.int (v0_9 p2)), .val (.ref b5), .val (.ref b14), .val (.ref b21), .val (.ref b31), .val (.ref b34), .val (.ref b36), .val (.int (v0_22 p0 p2 p1 p3)), .val (.int (v0_36 p0 p2 p1 p3))] [(.int (v0_26 p1 p0 p2 p3))])) t → Steps p.tables e below (s₁.setTop (entryFrame m #[(.int p0), (.int p1), (.int p2), (.int p3), (.long q0)] maxLocals)) t := fun t k => pre92 t (by
        show Steps p.tables e below (T88.setTop (mkF m 369 #[.val (.int p0), .val (.int p1), .val (.int p2), .val (.int p3), .val (.long q0), .second, .val (.int (v0_1 p0)), .val (.int (v0_2 p1 p0)), .val (.int (v0_3 p1 p0)), .val (.int (v0_4 p1 p0)), .val (.int (v0_5 p2 p1 p0 p3)), .val (.int (v0_6 p2 p1 p0 p3)), .val (.int (v0_7 p2 p1 p0 p3)), .val (.int (v0_8 p2 p1 p0 p3)), .val (.int (v0_9 p2)), .val (.ref b5), .val (.ref b14), .val (.ref b21), .val (.ref b31), .val (.ref b34), .val (.ref b36), .val (.int (v0_22 p0 p2 p1 p3)), .val (.int (v0_36 p0 p2 p1 p3))] [(.int (v0_36 p0 p2 p1 p3))])) _
        refine XS.ifYes X88.here hx rfl (pc0 := 369) (pc' := 389) rfl (hb hby at_369) rfl ((if0 _ _).trans (tlt hc369_93).1) (by decide) (by decide) ?_
        refine XS.iload X88.here hx rfl (hb hby at_389) rfl ?_
        refine XS.aload X88.here hx rfl (hb hby at_391) rfl rfl ?_
        refine XS.aload X88.here hx rfl (hb hby at_393) rfl rfl ?_
        show Steps p.tables e below (T88.setTop (mkF m 395 #[.val (.int p0), .val (.int p1), .val (.int p2), .val (.int p3), .val (.long q0), .second, .val (.int (v0_1 p0)), .val (.int (v0_2 p1 p0)), .val (.int (v0_3 p1 p0)), .val (.int (v0_4 p1 p0)), .val (.int (v0_5 p2 p1 p0 p3)), .val (.int (v0_6 p2 p1 p0 p3)), .val (.int (v0_7 p2 p1 p0 p3)), .val (.int (v0_8 p2 p1 p0 p3)), .val (.int (v0_9 p2)), .val (.ref b5), .val (.ref b14), .val (.ref b21), .val (.ref b31), .val (.ref b34), .val (.ref b36), .val (.int (v0_22 p0 p2 p1 p3)), .val (.int (v0_36 p0 p2 p1 p3))] [(.ref b21), (.ref b14), (.int (v0_2 p1 p0))])) _
        refine XS.iload X88.here hx rfl (hb hby at_395) rfl ?_
        refine XS.aload X88.here hx rfl (hb hby at_397) rfl rfl ?_
        refine XS.iload X88.here hx rfl (hb hby at_399) rfl ?_
        show Steps p.tables e below (T88.setTop (mkF m 401 #[.val (.int p0), .val (.int p1), .val (.int p2), .val (.int p3), .val (.long q0), .second, .val (.int (v0_1 p0)), .val (.int (v0_2 p1 p0)), .val (.int (v0_3 p1 p0)), .val (.int (v0_4 p1 p0)), .val (.int (v0_5 p2 p1 p0 p3)), .val (.int (v0_6 p2 p1 p0 p3)), .val (.int (v0_7 p2 p1 p0 p3)), .val (.int (v0_8 p2 p1 p0 p3)), .val (.int (v0_9 p2)), .val (.ref b5), .val (.ref b14), .val (.ref b21), .val (.ref b31), .val (.ref b34), .val (.ref b36), .val (.int (v0_22 p0 p2 p1 p3)), .val (.int (v0_36 p0 p2 p1 p3))] [(.int (v0_22 p0 p2 p1 p3)), (.ref b31), (.int (v0_9 p2)), (.ref b21), (.ref b14), (.int (v0_2 p1 p0))])) _
        refine st94 _ ?_
        show Steps p.tables e below (T94.setTop (mkF m 404 #[.val (.int p0), .val (.int p1), .val (.int p2), .val (.int p3), .val (.long q0), .second, .val (.int (v0_1 p0)), .val (.int (v0_2 p1 p0)), .val (.int (v0_3 p1 p0)), .val (.int (v0_4 p1 p0)), .val (.int (v0_5 p2 p1 p0 p3)), .val (.int (v0_6 p2 p1 p0 p3)), .val (.int (v0_7 p2 p1 p0 p3)), .val (.int (v0_8 p2 p1 p0 p3)), .val (.int (v0_9 p2)), .val (.ref b5), .val (.ref b14), .val (.ref b21), .val (.ref b31), .val (.ref b34), .val (.ref b36), .val (.int (v0_22 p0 p2 p1 p3)), .val (.int (v0_36 p0 p2 p1 p3))] [(.int (v0_26 p1 p0 p2 p3))])) _
        exact k)
      by_cases hc404_96 : (v0_26 p1 p0 p2 p3) = (0 : Int32)
      · have hv : (f0 p0 p1 p2 p3 q0) = (0 : Int32) := by simp only [f0, if_neg hc347_58, if_pos hc369_93, if_pos hc404_96]
        obtain ⟨fs, hr, hrun, hended, hW, hsame⟩ := X94.leave (v := some (.int (0 : Int32))) (fun h => nomatch (Bd.returns.symm.trans h)) hlk
        refine ⟨_, _, pre95 _ ?_, hrun, hended, _, _, rfl, ?_, ⟨_, rfl⟩, hW, hsame.mono (by decide) (by decide)⟩
        · show Steps p.tables e below (T94.setTop (mkF m 404 #[.val (.int p0), .val (.int p1), .val (.int p2), .val (.int p3), .val (.long q0), .second, .val (.int (v0_1 p0)), .val (.int (v0_2 p1 p0)), .val (.int (v0_3 p1 p0)), .val (.int (v0_4 p1 p0)), .val (.int (v0_5 p2 p1 p0 p3)), .val (.int (v0_6 p2 p1 p0 p3)), .val (.int (v0_7 p2 p1 p0 p3)), .val (.int (v0_8 p2 p1 p0 p3)), .val (.int (v0_9 p2)), .val (.ref b5), .val (.ref b14), .val (.ref b21), .val (.ref b31), .val (.ref b34), .val (.ref b36), .val (.int (v0_22 p0 p2 p1 p3)), .val (.int (v0_36 p0 p2 p1 p3))] [(.int (v0_26 p1 p0 p2 p3))])) _
          refine XS.ifYes X94.here hx rfl (pc0 := 404) (pc' := 544) rfl (hb hby at_404) rfl ((if0 _ _).trans (teq hc404_96).1) (by decide) (by decide) ?_
          show Steps p.tables e below (T94.setTop (mkF m 544 #[.val (.int p0), .val (.int p1), .val (.int p2), .val (.int p3), .val (.long q0), .second, .val (.int (v0_1 p0)), .val (.int (v0_2 p1 p0)), .val (.int (v0_3 p1 p0)), .val (.int (v0_4 p1 p0)), .val (.int (v0_5 p2 p1 p0 p3)), .val (.int (v0_6 p2 p1 p0 p3)), .val (.int (v0_7 p2 p1 p0 p3)), .val (.int (v0_8 p2 p1 p0 p3)), .val (.int (v0_9 p2)), .val (.ref b5), .val (.ref b14), .val (.ref b21), .val (.ref b31), .val (.ref b34), .val (.ref b36), .val (.int (v0_22 p0 p2 p1 p3)), .val (.int (v0_36 p0 p2 p1 p3))] [])) _
          refine XS.iconst X94.here hx rfl (hb hby at_544) ?_
          show Steps p.tables e below (T94.setTop (mkF m 545 #[.val (.int p0), .val (.int p1), .val (.int p2), .val (.int p3), .val (.long q0), .second, .val (.int (v0_1 p0)), .val (.int (v0_2 p1 p0)), .val (.int (v0_3 p1 p0)), .val (.int (v0_4 p1 p0)), .val (.int (v0_5 p2 p1 p0 p3)), .val (.int (v0_6 p2 p1 p0 p3)), .val (.int (v0_7 p2 p1 p0 p3)), .val (.int (v0_8 p2 p1 p0 p3)), .val (.int (v0_9 p2)), .val (.ref b5), .val (.ref b14), .val (.ref b21), .val (.ref b31), .val (.ref b34), .val (.ref b36), .val (.int (v0_22 p0 p2 p1 p3)), .val (.int (v0_36 p0 p2 p1 p3))] [(.int (0 : Int32))])) _
          exact retN X94 hx (t := .boolean) Bd.returns (by simp) (hb hby at_545) hr
        · show Q0 Z p0 p1 p2 p3 q0 h0 n0 _ T94.heap _
          rw [e94]
          exact ⟨by rw [hv], N94⟩
      · obtain ⟨_, _, ⟨T97, L97, k97, n97⟩, -, X97, ⟨Lc97, hQ97, l97, y97, z97⟩, st97⟩ := Jvm.LawKit.callS X94 hx (y := (⟨"com/example/knotwork/knotwork/generate/FreeNumbersFreePinLaw", "ok", "(I[I[II[II)Z"⟩ : MethodName)) hown (mvT hZ (hw _ (List.mem_of_getElem? (i := 57) rfl))) (mvT hZ (hw _ (List.mem_of_getElem? (i := 58) rfl))) (mvT hZ (hw _ (List.mem_of_getElem? (i := 2) rfl))) (mvT hZ (hw _ (List.mem_of_getElem? (i := 59) rfl))) (by decide) (backOf (W := 0) (rm11 l Z a0 hw [] (v0_3 p1 p0) b14 b21 (v0_9 p2) b31 (v0_22 p0 p2 p1 p3) k14 (w0_16 p1 p0) k21 (w0_13 p2 p1 p0 p3) k31 (own_into p0 p1 p2 p3) T52.heap n0 Z52 ((M48.keep Kq52 (ninS ne_b14_b36 (ninS ne_b14_ta (ninS ne_b14_b31 nin0))))) ((M49.keep Kq52 (ninS ne_b21_b36 (ninS ne_b21_ta (ninS ne_b21_b31 nin0))))) (Vr52) (own_hid (own_rb p1 p0))) hZ (hw _ (List.mem_of_getElem? (i := 59) rfl)) (hw _ (List.mem_of_getElem? (i := 2) rfl)) (by decide) (by decide)) (g := (mkF m 419 #[.val (.int p0), .val (.int p1), .val (.int p2), .val (.int p3), .val (.long q0), .second, .val (.int (v0_1 p0)), .val (.int (v0_2 p1 p0)), .val (.int (v0_3 p1 p0)), .val (.int (v0_4 p1 p0)), .val (.int (v0_5 p2 p1 p0 p3)), .val (.int (v0_6 p2 p1 p0 p3)), .val (.int (v0_7 p2 p1 p0 p3)), .val (.int (v0_8 p2 p1 p0 p3)), .val (.int (v0_9 p2)), .val (.ref b5), .val (.ref b14), .val (.ref b21), .val (.ref b31), .val (.ref b34), .val (.ref b36), .val (.int (v0_22 p0 p2 p1 p3)), .val (.int (v0_36 p0 p2 p1 p3))] [(.int (v0_22 p0 p2 p1 p3)), (.ref b31), (.int (v0_9 p2)), (.ref b21), (.ref b14), (.int (v0_3 p1 p0))])) rfl (by rw [hml]; rfl) (argsL := [(.int (v0_3 p1 p0)), (.ref b14), (.ref b21), (.int (v0_9 p2)), (.ref b31), (.int (v0_22 p0 p2 p1 p3))]) (rest := []) (lenOf pd_10 rfl) rfl (by show 2 * 0 + _ ≤ _; exact Nat.le_of_eq rfl) (hb hby at_419) (fun _ _ => ⟨rfl, e94, (by decide : 8 + 0 ≤ _), (by decide : 146 + 0 ≤ _)⟩)
        dsimp only [Pt.U, Pt.locs, Pt.cells, Pt.slots] at X97 l97 y97 z97 st97 hQ97
        rw [l97, y97, z97] at X97
        obtain ⟨rfl, N97q, e97⟩ := hQ97
        have N97 := Fr.app N94 N97q
        have pre98 : ∀ t, Steps p.tables e below (T97.setTop (mkF m 422 #[.val (.int p0), .val (.int p1), .val (.int p2), .val (.int p3), .val (.long q0), .second, .val (.int (v0_1 p0)), .val (.int (v0_2 p1 p0)), .val (.int (v0_3 p1 p0)), .val (.int (v0_4 p1 p0)), .val (.int (v0_5 p2 p1 p0 p3)), .val (.int (v0_6 p2 p1 p0 p3)), .val (.int (v0_7 p2 p1 p0 p3)), .val (.int (v0_8 p2 p1 p0 p3)), .val (.int (v0_9 p2)), .val (.ref b5), .val (.ref b14), .val (.ref b21), .val (.ref b31), .val (.ref b34), .val (.ref b36), .val (.int (v0_22 p0 p2 p1 p3)), .val (.int (v0_36 p0 p2 p1 p3))] [(.int (v0_27 p1 p0 p2 p3))])) t → Steps p.tables e below (s₁.setTop (entryFrame m #[(.int p0), (.int p1), (.int p2), (.int p3), (.long q0)] maxLocals)) t := fun t k => pre95 t (by
          show Steps p.tables e below (T94.setTop (mkF m 404 #[.val (.int p0), .val (.int p1), .val (.int p2), .val (.int p3), .val (.long q0), .second, .val (.int (v0_1 p0)), .val (.int (v0_2 p1 p0)), .val (.int (v0_3 p1 p0)), .val (.int (v0_4 p1 p0)), .val (.int (v0_5 p2 p1 p0 p3)), .val (.int (v0_6 p2 p1 p0 p3)), .val (.int (v0_7 p2 p1 p0 p3)), .val (.int (v0_8 p2 p1 p0 p3)), .val (.int (v0_9 p2)), .val (.ref b5), .val (.ref b14), .val (.ref b21), .val (.ref b31), .val (.ref b34), .val (.ref b36), .val (.int (v0_22 p0 p2 p1 p3)), .val (.int (v0_36 p0 p2 p1 p3))] [(.int (v0_26 p1 p0 p2 p3))])) _
          refine XS.ifNo X94.here hx rfl (hb hby at_404) rfl ((if0 _ _).trans (feq hc404_96).1) ?_
          refine XS.iload X94.here hx rfl (hb hby at_407) rfl ?_
          refine XS.aload X94.here hx rfl (hb hby at_409) rfl rfl ?_
          show Steps p.tables e below (T94.setTop (mkF m 411 #[.val (.int p0), .val (.int p1), .val (.int p2), .val (.int p3), .val (.long q0), .second, .val (.int (v0_1 p0)), .val (.int (v0_2 p1 p0)), .val (.int (v0_3 p1 p0)), .val (.int (v0_4 p1 p0)), .val (.int (v0_5 p2 p1 p0 p3)), .val (.int (v0_6 p2 p1 p0 p3)), .val (.int (v0_7 p2 p1 p0 p3)), .val (.int (v0_8 p2 p1 p0 p3)), .val (.int (v0_9 p2)), .val (.ref b5), .val (.ref b14), .val (.ref b21), .val (.ref b31), .val (.ref b34), .val (.ref b36), .val (.int (v0_22 p0 p2 p1 p3)), .val (.int (v0_36 p0 p2 p1 p3))] [(.ref b14), (.int (v0_3 p1 p0))])) _
          refine XS.aload X94.here hx rfl (hb hby at_411) rfl rfl ?_
          refine XS.iload X94.here hx rfl (hb hby at_413) rfl ?_
          refine XS.aload X94.here hx rfl (hb hby at_415) rfl rfl ?_
          refine XS.iload X94.here hx rfl (hb hby at_417) rfl ?_
          show Steps p.tables e below (T94.setTop (mkF m 419 #[.val (.int p0), .val (.int p1), .val (.int p2), .val (.int p3), .val (.long q0), .second, .val (.int (v0_1 p0)), .val (.int (v0_2 p1 p0)), .val (.int (v0_3 p1 p0)), .val (.int (v0_4 p1 p0)), .val (.int (v0_5 p2 p1 p0 p3)), .val (.int (v0_6 p2 p1 p0 p3)), .val (.int (v0_7 p2 p1 p0 p3)), .val (.int (v0_8 p2 p1 p0 p3)), .val (.int (v0_9 p2)), .val (.ref b5), .val (.ref b14), .val (.ref b21), .val (.ref b31), .val (.ref b34), .val (.ref b36), .val (.int (v0_22 p0 p2 p1 p3)), .val (.int (v0_36 p0 p2 p1 p3))] [(.int (v0_22 p0 p2 p1 p3)), (.ref b31), (.int (v0_9 p2)), (.ref b21), (.ref b14), (.int (v0_3 p1 p0))])) _
          refine st97 _ ?_
          show Steps p.tables e below (T97.setTop (mkF m 422 #[.val (.int p0), .val (.int p1), .val (.int p2), .val (.int p3), .val (.long q0), .second, .val (.int (v0_1 p0)), .val (.int (v0_2 p1 p0)), .val (.int (v0_3 p1 p0)), .val (.int (v0_4 p1 p0)), .val (.int (v0_5 p2 p1 p0 p3)), .val (.int (v0_6 p2 p1 p0 p3)), .val (.int (v0_7 p2 p1 p0 p3)), .val (.int (v0_8 p2 p1 p0 p3)), .val (.int (v0_9 p2)), .val (.ref b5), .val (.ref b14), .val (.ref b21), .val (.ref b31), .val (.ref b34), .val (.ref b36), .val (.int (v0_22 p0 p2 p1 p3)), .val (.int (v0_36 p0 p2 p1 p3))] [(.int (v0_27 p1 p0 p2 p3))])) _
          exact k)
        by_cases hc422_99 : (v0_27 p1 p0 p2 p3) = (0 : Int32)
        · have hv : (f0 p0 p1 p2 p3 q0) = (0 : Int32) := by simp only [f0, if_neg hc347_58, if_pos hc369_93, if_neg hc404_96, if_pos hc422_99]
          obtain ⟨fs, hr, hrun, hended, hW, hsame⟩ := X97.leave (v := some (.int (0 : Int32))) (fun h => nomatch (Bd.returns.symm.trans h)) hlk
          refine ⟨_, _, pre98 _ ?_, hrun, hended, _, _, rfl, ?_, ⟨_, rfl⟩, hW, hsame.mono (by decide) (by decide)⟩
          · show Steps p.tables e below (T97.setTop (mkF m 422 #[.val (.int p0), .val (.int p1), .val (.int p2), .val (.int p3), .val (.long q0), .second, .val (.int (v0_1 p0)), .val (.int (v0_2 p1 p0)), .val (.int (v0_3 p1 p0)), .val (.int (v0_4 p1 p0)), .val (.int (v0_5 p2 p1 p0 p3)), .val (.int (v0_6 p2 p1 p0 p3)), .val (.int (v0_7 p2 p1 p0 p3)), .val (.int (v0_8 p2 p1 p0 p3)), .val (.int (v0_9 p2)), .val (.ref b5), .val (.ref b14), .val (.ref b21), .val (.ref b31), .val (.ref b34), .val (.ref b36), .val (.int (v0_22 p0 p2 p1 p3)), .val (.int (v0_36 p0 p2 p1 p3))] [(.int (v0_27 p1 p0 p2 p3))])) _
            refine XS.ifYes X97.here hx rfl (pc0 := 422) (pc' := 544) rfl (hb hby at_422) rfl ((if0 _ _).trans (teq hc422_99).1) (by decide) (by decide) ?_
            refine XS.iconst X97.here hx rfl (hb hby at_544) ?_
            show Steps p.tables e below (T97.setTop (mkF m 545 #[.val (.int p0), .val (.int p1), .val (.int p2), .val (.int p3), .val (.long q0), .second, .val (.int (v0_1 p0)), .val (.int (v0_2 p1 p0)), .val (.int (v0_3 p1 p0)), .val (.int (v0_4 p1 p0)), .val (.int (v0_5 p2 p1 p0 p3)), .val (.int (v0_6 p2 p1 p0 p3)), .val (.int (v0_7 p2 p1 p0 p3)), .val (.int (v0_8 p2 p1 p0 p3)), .val (.int (v0_9 p2)), .val (.ref b5), .val (.ref b14), .val (.ref b21), .val (.ref b31), .val (.ref b34), .val (.ref b36), .val (.int (v0_22 p0 p2 p1 p3)), .val (.int (v0_36 p0 p2 p1 p3))] [(.int (0 : Int32))])) _
            exact retN X97 hx (t := .boolean) Bd.returns (by simp) (hb hby at_545) hr
          · show Q0 Z p0 p1 p2 p3 q0 h0 n0 _ T97.heap _
            rw [e97]
            exact ⟨by rw [hv], N97⟩
        · obtain ⟨_, _, ⟨T100, L100, k100, n100⟩, -, X100, ⟨Lc100, hQ100, l100, y100, z100⟩, st100⟩ := Jvm.LawKit.callS X97 hx (y := (⟨"com/example/knotwork/knotwork/generate/FreeNumbersFreePinLaw", "ok", "(I[I[II[II)Z"⟩ : MethodName)) hown (mvT hZ (hw _ (List.mem_of_getElem? (i := 57) rfl))) (mvT hZ (hw _ (List.mem_of_getElem? (i := 58) rfl))) (mvT hZ (hw _ (List.mem_of_getElem? (i := 2) rfl))) (mvT hZ (hw _ (List.mem_of_getElem? (i := 59) rfl))) (by decide) (backOf (W := 0) (rm11 l Z a0 hw [] (v0_4 p1 p0) b14 b21 (v0_9 p2) b31 (v0_22 p0 p2 p1 p3) k14 (w0_16 p1 p0) k21 (w0_13 p2 p1 p0 p3) k31 (own_into p0 p1 p2 p3) T52.heap n0 Z52 ((M48.keep Kq52 (ninS ne_b14_b36 (ninS ne_b14_ta (ninS ne_b14_b31 nin0))))) ((M49.keep Kq52 (ninS ne_b21_b36 (ninS ne_b21_ta (ninS ne_b21_b31 nin0))))) (Vr52) (own_hid (own_rc p1 p0))) hZ (hw _ (List.mem_of_getElem? (i := 59) rfl)) (hw _ (List.mem_of_getElem? (i := 2) rfl)) (by decide) (by decide)) (g := (mkF m 437 #[.val (.int p0), .val (.int p1), .val (.int p2), .val (.int p3), .val (.long q0), .second, .val (.int (v0_1 p0)), .val (.int (v0_2 p1 p0)), .val (.int (v0_3 p1 p0)), .val (.int (v0_4 p1 p0)), .val (.int (v0_5 p2 p1 p0 p3)), .val (.int (v0_6 p2 p1 p0 p3)), .val (.int (v0_7 p2 p1 p0 p3)), .val (.int (v0_8 p2 p1 p0 p3)), .val (.int (v0_9 p2)), .val (.ref b5), .val (.ref b14), .val (.ref b21), .val (.ref b31), .val (.ref b34), .val (.ref b36), .val (.int (v0_22 p0 p2 p1 p3)), .val (.int (v0_36 p0 p2 p1 p3))] [(.int (v0_22 p0 p2 p1 p3)), (.ref b31), (.int (v0_9 p2)), (.ref b21), (.ref b14), (.int (v0_4 p1 p0))])) rfl (by rw [hml]; rfl) (argsL := [(.int (v0_4 p1 p0)), (.ref b14), (.ref b21), (.int (v0_9 p2)), (.ref b31), (.int (v0_22 p0 p2 p1 p3))]) (rest := []) (lenOf pd_10 rfl) rfl (by show 2 * 0 + _ ≤ _; exact Nat.le_of_eq rfl) (hb hby at_437) (fun _ _ => ⟨rfl, e97, (by decide : 8 + 0 ≤ _), (by decide : 146 + 0 ≤ _)⟩)
          dsimp only [Pt.U, Pt.locs, Pt.cells, Pt.slots] at X100 l100 y100 z100 st100 hQ100
          rw [l100, y100, z100] at X100
          obtain ⟨rfl, N100q, e100⟩ := hQ100
          have N100 := Fr.app N97 N100q
          have pre101 : ∀ t, Steps p.tables e below (T100.setTop (mkF m 440 #[.val (.int p0), .val (.int p1), .val (.int p2), .val (.int p3), .val (.long q0), .second, .val (.int (v0_1 p0)), .val (.int (v0_2 p1 p0)), .val (.int (v0_3 p1 p0)), .val (.int (v0_4 p1 p0)), .val (.int (v0_5 p2 p1 p0 p3)), .val (.int (v0_6 p2 p1 p0 p3)), .val (.int (v0_7 p2 p1 p0 p3)), .val (.int (v0_8 p2 p1 p0 p3)), .val (.int (v0_9 p2)), .val (.ref b5), .val (.ref b14), .val (.ref b21), .val (.ref b31), .val (.ref b34), .val (.ref b36), .val (.int (v0_22 p0 p2 p1 p3)), .val (.int (v0_36 p0 p2 p1 p3))] [(.int (v0_28 p1 p0 p2 p3))])) t → Steps p.tables e below (s₁.setTop (entryFrame m #[(.int p0), (.int p1), (.int p2), (.int p3), (.long q0)] maxLocals)) t := fun t k => pre98 t (by
            show Steps p.tables e below (T97.setTop (mkF m 422 #[.val (.int p0), .val (.int p1), .val (.int p2), .val (.int p3), .val (.long q0), .second, .val (.int (v0_1 p0)), .val (.int (v0_2 p1 p0)), .val (.int (v0_3 p1 p0)), .val (.int (v0_4 p1 p0)), .val (.int (v0_5 p2 p1 p0 p3)), .val (.int (v0_6 p2 p1 p0 p3)), .val (.int (v0_7 p2 p1 p0 p3)), .val (.int (v0_8 p2 p1 p0 p3)), .val (.int (v0_9 p2)), .val (.ref b5), .val (.ref b14), .val (.ref b21), .val (.ref b31), .val (.ref b34), .val (.ref b36), .val (.int (v0_22 p0 p2 p1 p3)), .val (.int (v0_36 p0 p2 p1 p3))] [(.int (v0_27 p1 p0 p2 p3))])) _
            refine XS.ifNo X97.here hx rfl (hb hby at_422) rfl ((if0 _ _).trans (feq hc422_99).1) ?_
            refine XS.iload X97.here hx rfl (hb hby at_425) rfl ?_
            show Steps p.tables e below (T97.setTop (mkF m 427 #[.val (.int p0), .val (.int p1), .val (.int p2), .val (.int p3), .val (.long q0), .second, .val (.int (v0_1 p0)), .val (.int (v0_2 p1 p0)), .val (.int (v0_3 p1 p0)), .val (.int (v0_4 p1 p0)), .val (.int (v0_5 p2 p1 p0 p3)), .val (.int (v0_6 p2 p1 p0 p3)), .val (.int (v0_7 p2 p1 p0 p3)), .val (.int (v0_8 p2 p1 p0 p3)), .val (.int (v0_9 p2)), .val (.ref b5), .val (.ref b14), .val (.ref b21), .val (.ref b31), .val (.ref b34), .val (.ref b36), .val (.int (v0_22 p0 p2 p1 p3)), .val (.int (v0_36 p0 p2 p1 p3))] [(.int (v0_4 p1 p0))])) _
            refine XS.aload X97.here hx rfl (hb hby at_427) rfl rfl ?_
            refine XS.aload X97.here hx rfl (hb hby at_429) rfl rfl ?_
            refine XS.iload X97.here hx rfl (hb hby at_431) rfl ?_
            refine XS.aload X97.here hx rfl (hb hby at_433) rfl rfl ?_
            show Steps p.tables e below (T97.setTop (mkF m 435 #[.val (.int p0), .val (.int p1), .val (.int p2), .val (.int p3), .val (.long q0), .second, .val (.int (v0_1 p0)), .val (.int (v0_2 p1 p0)), .val (.int (v0_3 p1 p0)), .val (.int (v0_4 p1 p0)), .val (.int (v0_5 p2 p1 p0 p3)), .val (.int (v0_6 p2 p1 p0 p3)), .val (.int (v0_7 p2 p1 p0 p3)), .val (.int (v0_8 p2 p1 p0 p3)), .val (.int (v0_9 p2)), .val (.ref b5), .val (.ref b14), .val (.ref b21), .val (.ref b31), .val (.ref b34), .val (.ref b36), .val (.int (v0_22 p0 p2 p1 p3)), .val (.int (v0_36 p0 p2 p1 p3))] [(.ref b31), (.int (v0_9 p2)), (.ref b21), (.ref b14), (.int (v0_4 p1 p0))])) _
            refine XS.iload X97.here hx rfl (hb hby at_435) rfl ?_
            show Steps p.tables e below (T97.setTop (mkF m 437 #[.val (.int p0), .val (.int p1), .val (.int p2), .val (.int p3), .val (.long q0), .second, .val (.int (v0_1 p0)), .val (.int (v0_2 p1 p0)), .val (.int (v0_3 p1 p0)), .val (.int (v0_4 p1 p0)), .val (.int (v0_5 p2 p1 p0 p3)), .val (.int (v0_6 p2 p1 p0 p3)), .val (.int (v0_7 p2 p1 p0 p3)), .val (.int (v0_8 p2 p1 p0 p3)), .val (.int (v0_9 p2)), .val (.ref b5), .val (.ref b14), .val (.ref b21), .val (.ref b31), .val (.ref b34), .val (.ref b36), .val (.int (v0_22 p0 p2 p1 p3)), .val (.int (v0_36 p0 p2 p1 p3))] [(.int (v0_22 p0 p2 p1 p3)), (.ref b31), (.int (v0_9 p2)), (.ref b21), (.ref b14), (.int (v0_4 p1 p0))])) _
            refine st100 _ ?_
            show Steps p.tables e below (T100.setTop (mkF m 440 #[.val (.int p0), .val (.int p1), .val (.int p2), .val (.int p3), .val (.long q0), .second, .val (.int (v0_1 p0)), .val (.int (v0_2 p1 p0)), .val (.int (v0_3 p1 p0)), .val (.int (v0_4 p1 p0)), .val (.int (v0_5 p2 p1 p0 p3)), .val (.int (v0_6 p2 p1 p0 p3)), .val (.int (v0_7 p2 p1 p0 p3)), .val (.int (v0_8 p2 p1 p0 p3)), .val (.int (v0_9 p2)), .val (.ref b5), .val (.ref b14), .val (.ref b21), .val (.ref b31), .val (.ref b34), .val (.ref b36), .val (.int (v0_22 p0 p2 p1 p3)), .val (.int (v0_36 p0 p2 p1 p3))] [(.int (v0_28 p1 p0 p2 p3))])) _
            exact k)
          by_cases hc440_102 : (v0_28 p1 p0 p2 p3) = (0 : Int32)
          · have hv : (f0 p0 p1 p2 p3 q0) = (0 : Int32) := by simp only [f0, if_neg hc347_58, if_pos hc369_93, if_neg hc404_96, if_neg hc422_99, if_pos hc440_102]
            obtain ⟨fs, hr, hrun, hended, hW, hsame⟩ := X100.leave (v := some (.int (0 : Int32))) (fun h => nomatch (Bd.returns.symm.trans h)) hlk
            refine ⟨_, _, pre101 _ ?_, hrun, hended, _, _, rfl, ?_, ⟨_, rfl⟩, hW, hsame.mono (by decide) (by decide)⟩
            · show Steps p.tables e below (T100.setTop (mkF m 440 #[.val (.int p0), .val (.int p1), .val (.int p2), .val (.int p3), .val (.long q0), .second, .val (.int (v0_1 p0)), .val (.int (v0_2 p1 p0)), .val (.int (v0_3 p1 p0)), .val (.int (v0_4 p1 p0)), .val (.int (v0_5 p2 p1 p0 p3)), .val (.int (v0_6 p2 p1 p0 p3)), .val (.int (v0_7 p2 p1 p0 p3)), .val (.int (v0_8 p2 p1 p0 p3)), .val (.int (v0_9 p2)), .val (.ref b5), .val (.ref b14), .val (.ref b21), .val (.ref b31), .val (.ref b34), .val (.ref b36), .val (.int (v0_22 p0 p2 p1 p3)), .val (.int (v0_36 p0 p2 p1 p3))] [(.int (v0_28 p1 p0 p2 p3))])) _
              refine XS.ifYes X100.here hx rfl (pc0 := 440) (pc' := 544) rfl (hb hby at_440) rfl ((if0 _ _).trans (teq hc440_102).1) (by decide) (by decide) ?_
              refine XS.iconst X100.here hx rfl (hb hby at_544) ?_
              show Steps p.tables e below (T100.setTop (mkF m 545 #[.val (.int p0), .val (.int p1), .val (.int p2), .val (.int p3), .val (.long q0), .second, .val (.int (v0_1 p0)), .val (.int (v0_2 p1 p0)), .val (.int (v0_3 p1 p0)), .val (.int (v0_4 p1 p0)), .val (.int (v0_5 p2 p1 p0 p3)), .val (.int (v0_6 p2 p1 p0 p3)), .val (.int (v0_7 p2 p1 p0 p3)), .val (.int (v0_8 p2 p1 p0 p3)), .val (.int (v0_9 p2)), .val (.ref b5), .val (.ref b14), .val (.ref b21), .val (.ref b31), .val (.ref b34), .val (.ref b36), .val (.int (v0_22 p0 p2 p1 p3)), .val (.int (v0_36 p0 p2 p1 p3))] [(.int (0 : Int32))])) _
              exact retN X100 hx (t := .boolean) Bd.returns (by simp) (hb hby at_545) hr
            · show Q0 Z p0 p1 p2 p3 q0 h0 n0 _ T100.heap _
              rw [e100]
              exact ⟨by rw [hv], N100⟩
          · obtain ⟨_, _, ⟨T103, L103, k103, n103⟩, -, X103, ⟨Lc103, hQ103, l103, y103, z103⟩, st103⟩ := Jvm.LawKit.callS X100 hx (y := (⟨"com/example/knotwork/knotwork/generate/FreeNumbersFreePinLaw", "ok", "(I[I[II[II)Z"⟩ : MethodName)) hown (mvT hZ (hw _ (List.mem_of_getElem? (i := 57) rfl))) (mvT hZ (hw _ (List.mem_of_getElem? (i := 58) rfl))) (mvT hZ (hw _ (List.mem_of_getElem? (i := 2) rfl))) (mvT hZ (hw _ (List.mem_of_getElem? (i := 59) rfl))) (by decide) (backOf (W := 0) (rm11 l Z a0 hw [] (v0_5 p2 p1 p0 p3) b14 b21 (v0_9 p2) b31 (v0_22 p0 p2 p1 p3) k14 (w0_16 p1 p0) k21 (w0_13 p2 p1 p0 p3) k31 (own_into p0 p1 p2 p3) T52.heap n0 Z52 ((M48.keep Kq52 (ninS ne_b14_b36 (ninS ne_b14_ta (ninS ne_b14_b31 nin0))))) ((M49.keep Kq52 (ninS ne_b21_b36 (ninS ne_b21_ta (ninS ne_b21_b31 nin0))))) (Vr52) (own_hid (own_rd p0 p1 p2 p3))) hZ (hw _ (List.mem_of_getElem? (i := 59) rfl)) (hw _ (List.mem_of_getElem? (i := 2) rfl)) (by decide) (by decide)) (g := (mkF m 455 #[.val (.int p0), .val (.int p1), .val (.int p2), .val (.int p3), .val (.long q0), .second, .val (.int (v0_1 p0)), .val (.int (v0_2 p1 p0)), .val (.int (v0_3 p1 p0)), .val (.int (v0_4 p1 p0)), .val (.int (v0_5 p2 p1 p0 p3)), .val (.int (v0_6 p2 p1 p0 p3)), .val (.int (v0_7 p2 p1 p0 p3)), .val (.int (v0_8 p2 p1 p0 p3)), .val (.int (v0_9 p2)), .val (.ref b5), .val (.ref b14), .val (.ref b21), .val (.ref b31), .val (.ref b34), .val (.ref b36), .val (.int (v0_22 p0 p2 p1 p3)), .val (.int (v0_36 p0 p2 p1 p3))] [(.int (v0_22 p0 p2 p1 p3)), (.ref b31), (.int (v0_9 p2)), (.ref b21), (.ref b14), (.int (v0_5 p2 p1 p0 p3))])) rfl (by rw [hml]; rfl) (argsL := [(.int (v0_5 p2 p1 p0 p3)), (.ref b14), (.ref b21), (.int (v0_9 p2)), (.ref b31), (.int (v0_22 p0 p2 p1 p3))]) (rest := []) (lenOf pd_10 rfl) rfl (by show 2 * 0 + _ ≤ _; exact Nat.le_of_eq rfl) (hb hby at_455) (fun _ _ => ⟨rfl, e100, (by decide : 8 + 0 ≤ _), (by decide : 146 + 0 ≤ _)⟩)
            dsimp only [Pt.U, Pt.locs, Pt.cells, Pt.slots] at X103 l103 y103 z103 st103 hQ103
            rw [l103, y103, z103] at X103
            obtain ⟨rfl, N103q, e103⟩ := hQ103
            have N103 := Fr.app N100 N103q
            have pre104 : ∀ t, Steps p.tables e below (T103.setTop (mkF m 458 #[.val (.int p0), .val (.int p1), .val (.int p2), .val (.int p3), .val (.long q0), .second, .val (.int (v0_1 p0)), .val (.int (v0_2 p1 p0)), .val (.int (v0_3 p1 p0)), .val (.int (v0_4 p1 p0)), .val (.int (v0_5 p2 p1 p0 p3)), .val (.int (v0_6 p2 p1 p0 p3)), .val (.int (v0_7 p2 p1 p0 p3)), .val (.int (v0_8 p2 p1 p0 p3)), .val (.int (v0_9 p2)), .val (.ref b5), .val (.ref b14), .val (.ref b21), .val (.ref b31), .val (.ref b34), .val (.ref b36), .val (.int (v0_22 p0 p2 p1 p3)), .val (.int (v0_36 p0 p2 p1 p3))] [(.int (v0_29 p2 p1 p0 p3))])) t → Steps p.tables e below (s₁.setTop (entryFrame m #[(.int p0), (.int p1), (.int p2), (.int p3), (.long q0)] maxLocals)) t := fun t k => pre101 t (by
              show Steps p.tables e below (T100.setTop (mkF m 440 #[.val (.int p0), .val (.int p1), .val (.int p2), .val (.int p3), .val (.long q0), .second, .val (.int (v0_1 p0)), .val (.int (v0_2 p1 p0)), .val (.int (v0_3 p1 p0)), .val (.int (v0_4 p1 p0)), .val (.int (v0_5 p2 p1 p0 p3)), .val (.int (v0_6 p2 p1 p0 p3)), .val (.int (v0_7 p2 p1 p0 p3)), .val (.int (v0_8 p2 p1 p0 p3)), .val (.int (v0_9 p2)), .val (.ref b5), .val (.ref b14), .val (.ref b21), .val (.ref b31), .val (.ref b34), .val (.ref b36), .val (.int (v0_22 p0 p2 p1 p3)), .val (.int (v0_36 p0 p2 p1 p3))] [(.int (v0_28 p1 p0 p2 p3))])) _
              refine XS.ifNo X100.here hx rfl (hb hby at_440) rfl ((if0 _ _).trans (feq hc440_102).1) ?_
              show Steps p.tables e below (T100.setTop (mkF m 443 #[.val (.int p0), .val (.int p1), .val (.int p2), .val (.int p3), .val (.long q0), .second, .val (.int (v0_1 p0)), .val (.int (v0_2 p1 p0)), .val (.int (v0_3 p1 p0)), .val (.int (v0_4 p1 p0)), .val (.int (v0_5 p2 p1 p0 p3)), .val (.int (v0_6 p2 p1 p0 p3)), .val (.int (v0_7 p2 p1 p0 p3)), .val (.int (v0_8 p2 p1 p0 p3)), .val (.int (v0_9 p2)), .val (.ref b5), .val (.ref b14), .val (.ref b21), .val (.ref b31), .val (.ref b34), .val (.ref b36), .val (.int (v0_22 p0 p2 p1 p3)), .val (.int (v0_36 p0 p2 p1 p3))] [])) _
              refine XS.iload X100.here hx rfl (hb hby at_443) rfl ?_
              refine XS.aload X100.here hx rfl (hb hby at_445) rfl rfl ?_
              refine XS.aload X100.here hx rfl (hb hby at_447) rfl rfl ?_
              refine XS.iload X100.here hx rfl (hb hby at_449) rfl ?_
              show Steps p.tables e below (T100.setTop (mkF m 451 #[.val (.int p0), .val (.int p1), .val (.int p2), .val (.int p3), .val (.long q0), .second, .val (.int (v0_1 p0)), .val (.int (v0_2 p1 p0)), .val (.int (v0_3 p1 p0)), .val (.int (v0_4 p1 p0)), .val (.int (v0_5 p2 p1 p0 p3)), .val (.int (v0_6 p2 p1 p0 p3)), .val (.int (v0_7 p2 p1 p0 p3)), .val (.int (v0_8 p2 p1 p0 p3)), .val (.int (v0_9 p2)), .val (.ref b5), .val (.ref b14), .val (.ref b21), .val (.ref b31), .val (.ref b34), .val (.ref b36), .val (.int (v0_22 p0 p2 p1 p3)), .val (.int (v0_36 p0 p2 p1 p3))] [(.int (v0_9 p2)), (.ref b21), (.ref b14), (.int (v0_5 p2 p1 p0 p3))])) _
              refine XS.aload X100.here hx rfl (hb hby at_451) rfl rfl ?_
              refine XS.iload X100.here hx rfl (hb hby at_453) rfl ?_
              show Steps p.tables e below (T100.setTop (mkF m 455 #[.val (.int p0), .val (.int p1), .val (.int p2), .val (.int p3), .val (.long q0), .second, .val (.int (v0_1 p0)), .val (.int (v0_2 p1 p0)), .val (.int (v0_3 p1 p0)), .val (.int (v0_4 p1 p0)), .val (.int (v0_5 p2 p1 p0 p3)), .val (.int (v0_6 p2 p1 p0 p3)), .val (.int (v0_7 p2 p1 p0 p3)), .val (.int (v0_8 p2 p1 p0 p3)), .val (.int (v0_9 p2)), .val (.ref b5), .val (.ref b14), .val (.ref b21), .val (.ref b31), .val (.ref b34), .val (.ref b36), .val (.int (v0_22 p0 p2 p1 p3)), .val (.int (v0_36 p0 p2 p1 p3))] [(.int (v0_22 p0 p2 p1 p3)), (.ref b31), (.int (v0_9 p2)), (.ref b21), (.ref b14), (.int (v0_5 p2 p1 p0 p3))])) _
              refine st103 _ ?_
              show Steps p.tables e below (T103.setTop (mkF m 458 #[.val (.int p0), .val (.int p1), .val (.int p2), .val (.int p3), .val (.long q0), .second, .val (.int (v0_1 p0)), .val (.int (v0_2 p1 p0)), .val (.int (v0_3 p1 p0)), .val (.int (v0_4 p1 p0)), .val (.int (v0_5 p2 p1 p0 p3)), .val (.int (v0_6 p2 p1 p0 p3)), .val (.int (v0_7 p2 p1 p0 p3)), .val (.int (v0_8 p2 p1 p0 p3)), .val (.int (v0_9 p2)), .val (.ref b5), .val (.ref b14), .val (.ref b21), .val (.ref b31), .val (.ref b34), .val (.ref b36), .val (.int (v0_22 p0 p2 p1 p3)), .val (.int (v0_36 p0 p2 p1 p3))] [(.int (v0_29 p2 p1 p0 p3))])) _
              exact k)
            by_cases hc458_105 : (v0_29 p2 p1 p0 p3) = (0 : Int32)
            · have hv : (f0 p0 p1 p2 p3 q0) = (0 : Int32) := by simp only [f0, if_neg hc347_58, if_pos hc369_93, if_neg hc404_96, if_neg hc422_99, if_neg hc440_102, if_pos hc458_105]
              obtain ⟨fs, hr, hrun, hended, hW, hsame⟩ := X103.leave (v := some (.int (0 : Int32))) (fun h => nomatch (Bd.returns.symm.trans h)) hlk
              refine ⟨_, _, pre104 _ ?_, hrun, hended, _, _, rfl, ?_, ⟨_, rfl⟩, hW, hsame.mono (by decide) (by decide)⟩
              · show Steps p.tables e below (T103.setTop (mkF m 458 #[.val (.int p0), .val (.int p1), .val (.int p2), .val (.int p3), .val (.long q0), .second, .val (.int (v0_1 p0)), .val (.int (v0_2 p1 p0)), .val (.int (v0_3 p1 p0)), .val (.int (v0_4 p1 p0)), .val (.int (v0_5 p2 p1 p0 p3)), .val (.int (v0_6 p2 p1 p0 p3)), .val (.int (v0_7 p2 p1 p0 p3)), .val (.int (v0_8 p2 p1 p0 p3)), .val (.int (v0_9 p2)), .val (.ref b5), .val (.ref b14), .val (.ref b21), .val (.ref b31), .val (.ref b34), .val (.ref b36), .val (.int (v0_22 p0 p2 p1 p3)), .val (.int (v0_36 p0 p2 p1 p3))] [(.int (v0_29 p2 p1 p0 p3))])) _
                refine XS.ifYes X103.here hx rfl (pc0 := 458) (pc' := 544) rfl (hb hby at_458) rfl ((if0 _ _).trans (teq hc458_105).1) (by decide) (by decide) ?_
                refine XS.iconst X103.here hx rfl (hb hby at_544) ?_
                show Steps p.tables e below (T103.setTop (mkF m 545 #[.val (.int p0), .val (.int p1), .val (.int p2), .val (.int p3), .val (.long q0), .second, .val (.int (v0_1 p0)), .val (.int (v0_2 p1 p0)), .val (.int (v0_3 p1 p0)), .val (.int (v0_4 p1 p0)), .val (.int (v0_5 p2 p1 p0 p3)), .val (.int (v0_6 p2 p1 p0 p3)), .val (.int (v0_7 p2 p1 p0 p3)), .val (.int (v0_8 p2 p1 p0 p3)), .val (.int (v0_9 p2)), .val (.ref b5), .val (.ref b14), .val (.ref b21), .val (.ref b31), .val (.ref b34), .val (.ref b36), .val (.int (v0_22 p0 p2 p1 p3)), .val (.int (v0_36 p0 p2 p1 p3))] [(.int (0 : Int32))])) _
                exact retN X103 hx (t := .boolean) Bd.returns (by simp) (hb hby at_545) hr
              · show Q0 Z p0 p1 p2 p3 q0 h0 n0 _ T103.heap _
                rw [e103]
                exact ⟨by rw [hv], N103⟩
            · obtain ⟨_, _, ⟨T106, L106, k106, n106⟩, -, X106, ⟨Lc106, hQ106, l106, y106, z106⟩, st106⟩ := Jvm.LawKit.callS X103 hx (y := (⟨"com/example/knotwork/knotwork/generate/FreeNumbersFreePinLaw", "ok", "(I[I[II[II)Z"⟩ : MethodName)) hown (mvT hZ (hw _ (List.mem_of_getElem? (i := 57) rfl))) (mvT hZ (hw _ (List.mem_of_getElem? (i := 58) rfl))) (mvT hZ (hw _ (List.mem_of_getElem? (i := 2) rfl))) (mvT hZ (hw _ (List.mem_of_getElem? (i := 59) rfl))) (by decide) (backOf (W := 0) (rm11 l Z a0 hw [] (v0_6 p2 p1 p0 p3) b14 b21 (v0_9 p2) b31 (v0_22 p0 p2 p1 p3) k14 (w0_16 p1 p0) k21 (w0_13 p2 p1 p0 p3) k31 (own_into p0 p1 p2 p3) T52.heap n0 Z52 ((M48.keep Kq52 (ninS ne_b14_b36 (ninS ne_b14_ta (ninS ne_b14_b31 nin0))))) ((M49.keep Kq52 (ninS ne_b21_b36 (ninS ne_b21_ta (ninS ne_b21_b31 nin0))))) (Vr52) (own_hid (own_re p0 p1 p2 p3))) hZ (hw _ (List.mem_of_getElem? (i := 59) rfl)) (hw _ (List.mem_of_getElem? (i := 2) rfl)) (by decide) (by decide)) (g := (mkF m 473 #[.val (.int p0), .val (.int p1), .val (.int p2), .val (.int p3), .val (.long q0), .second, .val (.int (v0_1 p0)), .val (.int (v0_2 p1 p0)), .val (.int (v0_3 p1 p0)), .val (.int (v0_4 p1 p0)), .val (.int (v0_5 p2 p1 p0 p3)), .val (.int (v0_6 p2 p1 p0 p3)), .val (.int (v0_7 p2 p1 p0 p3)), .val (.int (v0_8 p2 p1 p0 p3)), .val (.int (v0_9 p2)), .val (.ref b5), .val (.ref b14), .val (.ref b21), .val (.ref b31), .val (.ref b34), .val (.ref b36), .val (.int (v0_22 p0 p2 p1 p3)), .val (.int (v0_36 p0 p2 p1 p3))] [(.int (v0_22 p0 p2 p1 p3)), (.ref b31), (.int (v0_9 p2)), (.ref b21), (.ref b14), (.int (v0_6 p2 p1 p0 p3))])) rfl (by rw [hml]; rfl) (argsL := [(.int (v0_6 p2 p1 p0 p3)), (.ref b14), (.ref b21), (.int (v0_9 p2)), (.ref b31), (.int (v0_22 p0 p2 p1 p3))]) (rest := []) (lenOf pd_10 rfl) rfl (by show 2 * 0 + _ ≤ _; exact Nat.le_of_eq rfl) (hb hby at_473) (fun _ _ => ⟨rfl, e103, (by decide : 8 + 0 ≤ _), (by decide : 146 + 0 ≤ _)⟩)
              dsimp only [Pt.U, Pt.locs, Pt.cells, Pt.slots] at X106 l106 y106 z106 st106 hQ106
              rw [l106, y106, z106] at X106
              obtain ⟨rfl, N106q, e106⟩ := hQ106
              have N106 := Fr.app N103 N106q
              have pre107 : ∀ t, Steps p.tables e below (T106.setTop (mkF m 476 #[.val (.int p0), .val (.int p1), .val (.int p2), .val (.int p3), .val (.long q0), .second, .val (.int (v0_1 p0)), .val (.int (v0_2 p1 p0)), .val (.int (v0_3 p1 p0)), .val (.int (v0_4 p1 p0)), .val (.int (v0_5 p2 p1 p0 p3)), .val (.int (v0_6 p2 p1 p0 p3)), .val (.int (v0_7 p2 p1 p0 p3)), .val (.int (v0_8 p2 p1 p0 p3)), .val (.int (v0_9 p2)), .val (.ref b5), .val (.ref b14), .val (.ref b21), .val (.ref b31), .val (.ref b34), .val (.ref b36), .val (.int (v0_22 p0 p2 p1 p3)), .val (.int (v0_36 p0 p2 p1 p3))] [(.int (v0_30 p2 p1 p0 p3))])) t → Steps p.tables e below (s₁.setTop (entryFrame m #[(.int p0), (.int p1), (.int p2), (.int p3), (.long q0)] maxLocals)) t := fun t k => pre104 t (by
                show Steps p.tables e below (T103.setTop (mkF m 458 #[.val (.int p0), .val (.int p1), .val (.int p2), .val (.int p3), .val (.long q0), .second, .val (.int (v0_1 p0)), .val (.int (v0_2 p1 p0)), .val (.int (v0_3 p1 p0)), .val (.int (v0_4 p1 p0)), .val (.int (v0_5 p2 p1 p0 p3)), .val (.int (v0_6 p2 p1 p0 p3)), .val (.int (v0_7 p2 p1 p0 p3)), .val (.int (v0_8 p2 p1 p0 p3)), .val (.int (v0_9 p2)), .val (.ref b5), .val (.ref b14), .val (.ref b21), .val (.ref b31), .val (.ref b34), .val (.ref b36), .val (.int (v0_22 p0 p2 p1 p3)), .val (.int (v0_36 p0 p2 p1 p3))] [(.int (v0_29 p2 p1 p0 p3))])) _
                refine XS.ifNo X103.here hx rfl (hb hby at_458) rfl ((if0 _ _).trans (feq hc458_105).1) ?_
                refine XS.iload X103.here hx rfl (hb hby at_461) rfl ?_
                refine XS.aload X103.here hx rfl (hb hby at_463) rfl rfl ?_
                refine XS.aload X103.here hx rfl (hb hby at_465) rfl rfl ?_
                show Steps p.tables e below (T103.setTop (mkF m 467 #[.val (.int p0), .val (.int p1), .val (.int p2), .val (.int p3), .val (.long q0), .second, .val (.int (v0_1 p0)), .val (.int (v0_2 p1 p0)), .val (.int (v0_3 p1 p0)), .val (.int (v0_4 p1 p0)), .val (.int (v0_5 p2 p1 p0 p3)), .val (.int (v0_6 p2 p1 p0 p3)), .val (.int (v0_7 p2 p1 p0 p3)), .val (.int (v0_8 p2 p1 p0 p3)), .val (.int (v0_9 p2)), .val (.ref b5), .val (.ref b14), .val (.ref b21), .val (.ref b31), .val (.ref b34), .val (.ref b36), .val (.int (v0_22 p0 p2 p1 p3)), .val (.int (v0_36 p0 p2 p1 p3))] [(.ref b21), (.ref b14), (.int (v0_6 p2 p1 p0 p3))])) _
                refine XS.iload X103.here hx rfl (hb hby at_467) rfl ?_
                refine XS.aload X103.here hx rfl (hb hby at_469) rfl rfl ?_
                refine XS.iload X103.here hx rfl (hb hby at_471) rfl ?_
                show Steps p.tables e below (T103.setTop (mkF m 473 #[.val (.int p0), .val (.int p1), .val (.int p2), .val (.int p3), .val (.long q0), .second, .val (.int (v0_1 p0)), .val (.int (v0_2 p1 p0)), .val (.int (v0_3 p1 p0)), .val (.int (v0_4 p1 p0)), .val (.int (v0_5 p2 p1 p0 p3)), .val (.int (v0_6 p2 p1 p0 p3)), .val (.int (v0_7 p2 p1 p0 p3)), .val (.int (v0_8 p2 p1 p0 p3)), .val (.int (v0_9 p2)), .val (.ref b5), .val (.ref b14), .val (.ref b21), .val (.ref b31), .val (.ref b34), .val (.ref b36), .val (.int (v0_22 p0 p2 p1 p3)), .val (.int (v0_36 p0 p2 p1 p3))] [(.int (v0_22 p0 p2 p1 p3)), (.ref b31), (.int (v0_9 p2)), (.ref b21), (.ref b14), (.int (v0_6 p2 p1 p0 p3))])) _
                refine st106 _ ?_
                show Steps p.tables e below (T106.setTop (mkF m 476 #[.val (.int p0), .val (.int p1), .val (.int p2), .val (.int p3), .val (.long q0), .second, .val (.int (v0_1 p0)), .val (.int (v0_2 p1 p0)), .val (.int (v0_3 p1 p0)), .val (.int (v0_4 p1 p0)), .val (.int (v0_5 p2 p1 p0 p3)), .val (.int (v0_6 p2 p1 p0 p3)), .val (.int (v0_7 p2 p1 p0 p3)), .val (.int (v0_8 p2 p1 p0 p3)), .val (.int (v0_9 p2)), .val (.ref b5), .val (.ref b14), .val (.ref b21), .val (.ref b31), .val (.ref b34), .val (.ref b36), .val (.int (v0_22 p0 p2 p1 p3)), .val (.int (v0_36 p0 p2 p1 p3))] [(.int (v0_30 p2 p1 p0 p3))])) _
                exact k)
              by_cases hc476_108 : (v0_30 p2 p1 p0 p3) = (0 : Int32)
              · have hv : (f0 p0 p1 p2 p3 q0) = (0 : Int32) := by simp only [f0, if_neg hc347_58, if_pos hc369_93, if_neg hc404_96, if_neg hc422_99, if_neg hc440_102, if_neg hc458_105, if_pos hc476_108]
                obtain ⟨fs, hr, hrun, hended, hW, hsame⟩ := X106.leave (v := some (.int (0 : Int32))) (fun h => nomatch (Bd.returns.symm.trans h)) hlk
                refine ⟨_, _, pre107 _ ?_, hrun, hended, _, _, rfl, ?_, ⟨_, rfl⟩, hW, hsame.mono (by decide) (by decide)⟩
                · show Steps p.tables e below (T106.setTop (mkF m 476 #[.val (.int p0), .val (.int p1), .val (.int p2), .val (.int p3), .val (.long q0), .second, .val (.int (v0_1 p0)), .val (.int (v0_2 p1 p0)), .val (.int (v0_3 p1 p0)), .val (.int (v0_4 p1 p0)), .val (.int (v0_5 p2 p1 p0 p3)), .val (.int (v0_6 p2 p1 p0 p3)), .val (.int (v0_7 p2 p1 p0 p3)), .val (.int (v0_8 p2 p1 p0 p3)), .val (.int (v0_9 p2)), .val (.ref b5), .val (.ref b14), .val (.ref b21), .val (.ref b31), .val (.ref b34), .val (.ref b36), .val (.int (v0_22 p0 p2 p1 p3)), .val (.int (v0_36 p0 p2 p1 p3))] [(.int (v0_30 p2 p1 p0 p3))])) _
                  refine XS.ifYes X106.here hx rfl (pc0 := 476) (pc' := 544) rfl (hb hby at_476) rfl ((if0 _ _).trans (teq hc476_108).1) (by decide) (by decide) ?_
                  show Steps p.tables e below (T106.setTop (mkF m 544 #[.val (.int p0), .val (.int p1), .val (.int p2), .val (.int p3), .val (.long q0), .second, .val (.int (v0_1 p0)), .val (.int (v0_2 p1 p0)), .val (.int (v0_3 p1 p0)), .val (.int (v0_4 p1 p0)), .val (.int (v0_5 p2 p1 p0 p3)), .val (.int (v0_6 p2 p1 p0 p3)), .val (.int (v0_7 p2 p1 p0 p3)), .val (.int (v0_8 p2 p1 p0 p3)), .val (.int (v0_9 p2)), .val (.ref b5), .val (.ref b14), .val (.ref b21), .val (.ref b31), .val (.ref b34), .val (.ref b36), .val (.int (v0_22 p0 p2 p1 p3)), .val (.int (v0_36 p0 p2 p1 p3))] [])) _
                  refine XS.iconst X106.here hx rfl (hb hby at_544) ?_
                  show Steps p.tables e below (T106.setTop (mkF m 545 #[.val (.int p0), .val (.int p1), .val (.int p2), .val (.int p3), .val (.long q0), .second, .val (.int (v0_1 p0)), .val (.int (v0_2 p1 p0)), .val (.int (v0_3 p1 p0)), .val (.int (v0_4 p1 p0)), .val (.int (v0_5 p2 p1 p0 p3)), .val (.int (v0_6 p2 p1 p0 p3)), .val (.int (v0_7 p2 p1 p0 p3)), .val (.int (v0_8 p2 p1 p0 p3)), .val (.int (v0_9 p2)), .val (.ref b5), .val (.ref b14), .val (.ref b21), .val (.ref b31), .val (.ref b34), .val (.ref b36), .val (.int (v0_22 p0 p2 p1 p3)), .val (.int (v0_36 p0 p2 p1 p3))] [(.int (0 : Int32))])) _
                  exact retN X106 hx (t := .boolean) Bd.returns (by simp) (hb hby at_545) hr
                · show Q0 Z p0 p1 p2 p3 q0 h0 n0 _ T106.heap _
                  rw [e106]
                  exact ⟨by rw [hv], N106⟩
              · obtain ⟨_, _, ⟨T109, L109, k109, n109⟩, -, X109, ⟨Lc109, hQ109, l109, y109, z109⟩, st109⟩ := Jvm.LawKit.callS X106 hx (y := (⟨"com/example/knotwork/knotwork/generate/FreeNumbersFreePinLaw", "ok", "(I[I[II[II)Z"⟩ : MethodName)) hown (mvT hZ (hw _ (List.mem_of_getElem? (i := 57) rfl))) (mvT hZ (hw _ (List.mem_of_getElem? (i := 58) rfl))) (mvT hZ (hw _ (List.mem_of_getElem? (i := 2) rfl))) (mvT hZ (hw _ (List.mem_of_getElem? (i := 59) rfl))) (by decide) (backOf (W := 0) (rm11 l Z a0 hw [] (v0_7 p2 p1 p0 p3) b14 b21 (v0_9 p2) b31 (v0_22 p0 p2 p1 p3) k14 (w0_16 p1 p0) k21 (w0_13 p2 p1 p0 p3) k31 (own_into p0 p1 p2 p3) T52.heap n0 Z52 ((M48.keep Kq52 (ninS ne_b14_b36 (ninS ne_b14_ta (ninS ne_b14_b31 nin0))))) ((M49.keep Kq52 (ninS ne_b21_b36 (ninS ne_b21_ta (ninS ne_b21_b31 nin0))))) (Vr52) (own_hid (own_rf p0 p1 p2 p3))) hZ (hw _ (List.mem_of_getElem? (i := 59) rfl)) (hw _ (List.mem_of_getElem? (i := 2) rfl)) (by decide) (by decide)) (g := (mkF m 491 #[.val (.int p0), .val (.int p1), .val (.int p2), .val (.int p3), .val (.long q0), .second, .val (.int (v0_1 p0)), .val (.int (v0_2 p1 p0)), .val (.int (v0_3 p1 p0)), .val (.int (v0_4 p1 p0)), .val (.int (v0_5 p2 p1 p0 p3)), .val (.int (v0_6 p2 p1 p0 p3)), .val (.int (v0_7 p2 p1 p0 p3)), .val (.int (v0_8 p2 p1 p0 p3)), .val (.int (v0_9 p2)), .val (.ref b5), .val (.ref b14), .val (.ref b21), .val (.ref b31), .val (.ref b34), .val (.ref b36), .val (.int (v0_22 p0 p2 p1 p3)), .val (.int (v0_36 p0 p2 p1 p3))] [(.int (v0_22 p0 p2 p1 p3)), (.ref b31), (.int (v0_9 p2)), (.ref b21), (.ref b14), (.int (v0_7 p2 p1 p0 p3))])) rfl (by rw [hml]; rfl) (argsL := [(.int (v0_7 p2 p1 p0 p3)), (.ref b14), (.ref b21), (.int (v0_9 p2)), (.ref b31), (.int (v0_22 p0 p2 p1 p3))]) (rest := []) (lenOf pd_10 rfl) rfl (by show 2 * 0 + _ ≤ _; exact Nat.le_of_eq rfl) (hb hby at_491) (fun _ _ => ⟨rfl, e106, (by decide : 8 + 0 ≤ _), (by decide : 146 + 0 ≤ _)⟩)
                dsimp only [Pt.U, Pt.locs, Pt.cells, Pt.slots] at X109 l109 y109 z109 st109 hQ109
                rw [l109, y109, z109] at X109
                obtain ⟨rfl, N109q, e109⟩ := hQ109
                have N109 := Fr.app N106 N109q
                have pre110 : ∀ t, Steps p.tables e below (T109.setTop (mkF m 494 #[.val (.int p0), .val (.int p1), .val (.int p2), .val (.int p3), .val (.long q0), .second, .val (.int (v0_1 p0)), .val (.int (v0_2 p1 p0)), .val (.int (v0_3 p1 p0)), .val (.int (v0_4 p1 p0)), .val (.int (v0_5 p2 p1 p0 p3)), .val (.int (v0_6 p2 p1 p0 p3)), .val (.int (v0_7 p2 p1 p0 p3)), .val (.int (v0_8 p2 p1 p0 p3)), .val (.int (v0_9 p2)), .val (.ref b5), .val (.ref b14), .val (.ref b21), .val (.ref b31), .val (.ref b34), .val (.ref b36), .val (.int (v0_22 p0 p2 p1 p3)), .val (.int (v0_36 p0 p2 p1 p3))] [(.int (v0_31 p2 p1 p0 p3))])) t → Steps p.tables e below (s₁.setTop (entryFrame m #[(.int p0), (.int p1), (.int p2), (.int p3), (.long q0)] maxLocals)) t := fun t k => pre107 t (by
                  show Steps p.tables e below (T106.setTop (mkF m 476 #[.val (.int p0), .val (.int p1), .val (.int p2), .val (.int p3), .val (.long q0), .second, .val (.int (v0_1 p0)), .val (.int (v0_2 p1 p0)), .val (.int (v0_3 p1 p0)), .val (.int (v0_4 p1 p0)), .val (.int (v0_5 p2 p1 p0 p3)), .val (.int (v0_6 p2 p1 p0 p3)), .val (.int (v0_7 p2 p1 p0 p3)), .val (.int (v0_8 p2 p1 p0 p3)), .val (.int (v0_9 p2)), .val (.ref b5), .val (.ref b14), .val (.ref b21), .val (.ref b31), .val (.ref b34), .val (.ref b36), .val (.int (v0_22 p0 p2 p1 p3)), .val (.int (v0_36 p0 p2 p1 p3))] [(.int (v0_30 p2 p1 p0 p3))])) _
                  refine XS.ifNo X106.here hx rfl (hb hby at_476) rfl ((if0 _ _).trans (feq hc476_108).1) ?_
                  refine XS.iload X106.here hx rfl (hb hby at_479) rfl ?_
                  refine XS.aload X106.here hx rfl (hb hby at_481) rfl rfl ?_
                  show Steps p.tables e below (T106.setTop (mkF m 483 #[.val (.int p0), .val (.int p1), .val (.int p2), .val (.int p3), .val (.long q0), .second, .val (.int (v0_1 p0)), .val (.int (v0_2 p1 p0)), .val (.int (v0_3 p1 p0)), .val (.int (v0_4 p1 p0)), .val (.int (v0_5 p2 p1 p0 p3)), .val (.int (v0_6 p2 p1 p0 p3)), .val (.int (v0_7 p2 p1 p0 p3)), .val (.int (v0_8 p2 p1 p0 p3)), .val (.int (v0_9 p2)), .val (.ref b5), .val (.ref b14), .val (.ref b21), .val (.ref b31), .val (.ref b34), .val (.ref b36), .val (.int (v0_22 p0 p2 p1 p3)), .val (.int (v0_36 p0 p2 p1 p3))] [(.ref b14), (.int (v0_7 p2 p1 p0 p3))])) _
                  refine XS.aload X106.here hx rfl (hb hby at_483) rfl rfl ?_
                  refine XS.iload X106.here hx rfl (hb hby at_485) rfl ?_
                  refine XS.aload X106.here hx rfl (hb hby at_487) rfl rfl ?_
                  refine XS.iload X106.here hx rfl (hb hby at_489) rfl ?_
                  show Steps p.tables e below (T106.setTop (mkF m 491 #[.val (.int p0), .val (.int p1), .val (.int p2), .val (.int p3), .val (.long q0), .second, .val (.int (v0_1 p0)), .val (.int (v0_2 p1 p0)), .val (.int (v0_3 p1 p0)), .val (.int (v0_4 p1 p0)), .val (.int (v0_5 p2 p1 p0 p3)), .val (.int (v0_6 p2 p1 p0 p3)), .val (.int (v0_7 p2 p1 p0 p3)), .val (.int (v0_8 p2 p1 p0 p3)), .val (.int (v0_9 p2)), .val (.ref b5), .val (.ref b14), .val (.ref b21), .val (.ref b31), .val (.ref b34), .val (.ref b36), .val (.int (v0_22 p0 p2 p1 p3)), .val (.int (v0_36 p0 p2 p1 p3))] [(.int (v0_22 p0 p2 p1 p3)), (.ref b31), (.int (v0_9 p2)), (.ref b21), (.ref b14), (.int (v0_7 p2 p1 p0 p3))])) _
                  refine st109 _ ?_
                  show Steps p.tables e below (T109.setTop (mkF m 494 #[.val (.int p0), .val (.int p1), .val (.int p2), .val (.int p3), .val (.long q0), .second, .val (.int (v0_1 p0)), .val (.int (v0_2 p1 p0)), .val (.int (v0_3 p1 p0)), .val (.int (v0_4 p1 p0)), .val (.int (v0_5 p2 p1 p0 p3)), .val (.int (v0_6 p2 p1 p0 p3)), .val (.int (v0_7 p2 p1 p0 p3)), .val (.int (v0_8 p2 p1 p0 p3)), .val (.int (v0_9 p2)), .val (.ref b5), .val (.ref b14), .val (.ref b21), .val (.ref b31), .val (.ref b34), .val (.ref b36), .val (.int (v0_22 p0 p2 p1 p3)), .val (.int (v0_36 p0 p2 p1 p3))] [(.int (v0_31 p2 p1 p0 p3))])) _
                  exact k)
                by_cases hc494_111 : (v0_31 p2 p1 p0 p3) = (0 : Int32)
                · have hv : (f0 p0 p1 p2 p3 q0) = (0 : Int32) := by simp only [f0, if_neg hc347_58, if_pos hc369_93, if_neg hc404_96, if_neg hc422_99, if_neg hc440_102, if_neg hc458_105, if_neg hc476_108, if_pos hc494_111]
                  obtain ⟨fs, hr, hrun, hended, hW, hsame⟩ := X109.leave (v := some (.int (0 : Int32))) (fun h => nomatch (Bd.returns.symm.trans h)) hlk
                  refine ⟨_, _, pre110 _ ?_, hrun, hended, _, _, rfl, ?_, ⟨_, rfl⟩, hW, hsame.mono (by decide) (by decide)⟩
                  · show Steps p.tables e below (T109.setTop (mkF m 494 #[.val (.int p0), .val (.int p1), .val (.int p2), .val (.int p3), .val (.long q0), .second, .val (.int (v0_1 p0)), .val (.int (v0_2 p1 p0)), .val (.int (v0_3 p1 p0)), .val (.int (v0_4 p1 p0)), .val (.int (v0_5 p2 p1 p0 p3)), .val (.int (v0_6 p2 p1 p0 p3)), .val (.int (v0_7 p2 p1 p0 p3)), .val (.int (v0_8 p2 p1 p0 p3)), .val (.int (v0_9 p2)), .val (.ref b5), .val (.ref b14), .val (.ref b21), .val (.ref b31), .val (.ref b34), .val (.ref b36), .val (.int (v0_22 p0 p2 p1 p3)), .val (.int (v0_36 p0 p2 p1 p3))] [(.int (v0_31 p2 p1 p0 p3))])) _
                    refine XS.ifYes X109.here hx rfl (pc0 := 494) (pc' := 544) rfl (hb hby at_494) rfl ((if0 _ _).trans (teq hc494_111).1) (by decide) (by decide) ?_
                    refine XS.iconst X109.here hx rfl (hb hby at_544) ?_
                    show Steps p.tables e below (T109.setTop (mkF m 545 #[.val (.int p0), .val (.int p1), .val (.int p2), .val (.int p3), .val (.long q0), .second, .val (.int (v0_1 p0)), .val (.int (v0_2 p1 p0)), .val (.int (v0_3 p1 p0)), .val (.int (v0_4 p1 p0)), .val (.int (v0_5 p2 p1 p0 p3)), .val (.int (v0_6 p2 p1 p0 p3)), .val (.int (v0_7 p2 p1 p0 p3)), .val (.int (v0_8 p2 p1 p0 p3)), .val (.int (v0_9 p2)), .val (.ref b5), .val (.ref b14), .val (.ref b21), .val (.ref b31), .val (.ref b34), .val (.ref b36), .val (.int (v0_22 p0 p2 p1 p3)), .val (.int (v0_36 p0 p2 p1 p3))] [(.int (0 : Int32))])) _
                    exact retN X109 hx (t := .boolean) Bd.returns (by simp) (hb hby at_545) hr
                  · show Q0 Z p0 p1 p2 p3 q0 h0 n0 _ T109.heap _
                    rw [e109]
                    exact ⟨by rw [hv], N109⟩
                · obtain ⟨_, _, ⟨T112, L112, k112, n112⟩, -, X112, ⟨Lc112, hQ112, l112, y112, z112⟩, st112⟩ := Jvm.LawKit.callS X109 hx (y := (⟨"com/example/knotwork/knotwork/generate/FreeNumbersFreePinLaw", "ok", "(I[I[II[II)Z"⟩ : MethodName)) hown (mvT hZ (hw _ (List.mem_of_getElem? (i := 57) rfl))) (mvT hZ (hw _ (List.mem_of_getElem? (i := 58) rfl))) (mvT hZ (hw _ (List.mem_of_getElem? (i := 2) rfl))) (mvT hZ (hw _ (List.mem_of_getElem? (i := 59) rfl))) (by decide) (backOf (W := 0) (rm11 l Z a0 hw [] (v0_8 p2 p1 p0 p3) b14 b21 (v0_9 p2) b31 (v0_22 p0 p2 p1 p3) k14 (w0_16 p1 p0) k21 (w0_13 p2 p1 p0 p3) k31 (own_into p0 p1 p2 p3) T52.heap n0 Z52 ((M48.keep Kq52 (ninS ne_b14_b36 (ninS ne_b14_ta (ninS ne_b14_b31 nin0))))) ((M49.keep Kq52 (ninS ne_b21_b36 (ninS ne_b21_ta (ninS ne_b21_b31 nin0))))) (Vr52) (own_hid (own_rg p0 p1 p2 p3))) hZ (hw _ (List.mem_of_getElem? (i := 59) rfl)) (hw _ (List.mem_of_getElem? (i := 2) rfl)) (by decide) (by decide)) (g := (mkF m 509 #[.val (.int p0), .val (.int p1), .val (.int p2), .val (.int p3), .val (.long q0), .second, .val (.int (v0_1 p0)), .val (.int (v0_2 p1 p0)), .val (.int (v0_3 p1 p0)), .val (.int (v0_4 p1 p0)), .val (.int (v0_5 p2 p1 p0 p3)), .val (.int (v0_6 p2 p1 p0 p3)), .val (.int (v0_7 p2 p1 p0 p3)), .val (.int (v0_8 p2 p1 p0 p3)), .val (.int (v0_9 p2)), .val (.ref b5), .val (.ref b14), .val (.ref b21), .val (.ref b31), .val (.ref b34), .val (.ref b36), .val (.int (v0_22 p0 p2 p1 p3)), .val (.int (v0_36 p0 p2 p1 p3))] [(.int (v0_22 p0 p2 p1 p3)), (.ref b31), (.int (v0_9 p2)), (.ref b21), (.ref b14), (.int (v0_8 p2 p1 p0 p3))])) rfl (by rw [hml]; rfl) (argsL := [(.int (v0_8 p2 p1 p0 p3)), (.ref b14), (.ref b21), (.int (v0_9 p2)), (.ref b31), (.int (v0_22 p0 p2 p1 p3))]) (rest := []) (lenOf pd_10 rfl) rfl (by show 2 * 0 + _ ≤ _; exact Nat.le_of_eq rfl) (hb hby at_509) (fun _ _ => ⟨rfl, e109, (by decide : 8 + 0 ≤ _), (by decide : 146 + 0 ≤ _)⟩)
                  dsimp only [Pt.U, Pt.locs, Pt.cells, Pt.slots] at X112 l112 y112 z112 st112 hQ112
                  rw [l112, y112, z112] at X112
                  obtain ⟨rfl, N112q, e112⟩ := hQ112
                  have N112 := Fr.app N109 N112q
                  have pre113 : ∀ t, Steps p.tables e below (T112.setTop (mkF m 512 #[.val (.int p0), .val (.int p1), .val (.int p2), .val (.int p3), .val (.long q0), .second, .val (.int (v0_1 p0)), .val (.int (v0_2 p1 p0)), .val (.int (v0_3 p1 p0)), .val (.int (v0_4 p1 p0)), .val (.int (v0_5 p2 p1 p0 p3)), .val (.int (v0_6 p2 p1 p0 p3)), .val (.int (v0_7 p2 p1 p0 p3)), .val (.int (v0_8 p2 p1 p0 p3)), .val (.int (v0_9 p2)), .val (.ref b5), .val (.ref b14), .val (.ref b21), .val (.ref b31), .val (.ref b34), .val (.ref b36), .val (.int (v0_22 p0 p2 p1 p3)), .val (.int (v0_36 p0 p2 p1 p3))] [(.int (v0_32 p2 p1 p0 p3))])) t → Steps p.tables e below (s₁.setTop (entryFrame m #[(.int p0), (.int p1), (.int p2), (.int p3), (.long q0)] maxLocals)) t := fun t k => pre110 t (by
                    show Steps p.tables e below (T109.setTop (mkF m 494 #[.val (.int p0), .val (.int p1), .val (.int p2), .val (.int p3), .val (.long q0), .second, .val (.int (v0_1 p0)), .val (.int (v0_2 p1 p0)), .val (.int (v0_3 p1 p0)), .val (.int (v0_4 p1 p0)), .val (.int (v0_5 p2 p1 p0 p3)), .val (.int (v0_6 p2 p1 p0 p3)), .val (.int (v0_7 p2 p1 p0 p3)), .val (.int (v0_8 p2 p1 p0 p3)), .val (.int (v0_9 p2)), .val (.ref b5), .val (.ref b14), .val (.ref b21), .val (.ref b31), .val (.ref b34), .val (.ref b36), .val (.int (v0_22 p0 p2 p1 p3)), .val (.int (v0_36 p0 p2 p1 p3))] [(.int (v0_31 p2 p1 p0 p3))])) _
                    refine XS.ifNo X109.here hx rfl (hb hby at_494) rfl ((if0 _ _).trans (feq hc494_111).1) ?_
                    refine XS.iload X109.here hx rfl (hb hby at_497) rfl ?_
                    show Steps p.tables e below (T109.setTop (mkF m 499 #[.val (.int p0), .val (.int p1), .val (.int p2), .val (.int p3), .val (.long q0), .second, .val (.int (v0_1 p0)), .val (.int (v0_2 p1 p0)), .val (.int (v0_3 p1 p0)), .val (.int (v0_4 p1 p0)), .val (.int (v0_5 p2 p1 p0 p3)), .val (.int (v0_6 p2 p1 p0 p3)), .val (.int (v0_7 p2 p1 p0 p3)), .val (.int (v0_8 p2 p1 p0 p3)), .val (.int (v0_9 p2)), .val (.ref b5), .val (.ref b14), .val (.ref b21), .val (.ref b31), .val (.ref b34), .val (.ref b36), .val (.int (v0_22 p0 p2 p1 p3)), .val (.int (v0_36 p0 p2 p1 p3))] [(.int (v0_8 p2 p1 p0 p3))])) _
                    refine XS.aload X109.here hx rfl (hb hby at_499) rfl rfl ?_
                    refine XS.aload X109.here hx rfl (hb hby at_501) rfl rfl ?_
                    refine XS.iload X109.here hx rfl (hb hby at_503) rfl ?_
                    refine XS.aload X109.here hx rfl (hb hby at_505) rfl rfl ?_
                    show Steps p.tables e below (T109.setTop (mkF m 507 #[.val (.int p0), .val (.int p1), .val (.int p2), .val (.int p3), .val (.long q0), .second, .val (.int (v0_1 p0)), .val (.int (v0_2 p1 p0)), .val (.int (v0_3 p1 p0)), .val (.int (v0_4 p1 p0)), .val (.int (v0_5 p2 p1 p0 p3)), .val (.int (v0_6 p2 p1 p0 p3)), .val (.int (v0_7 p2 p1 p0 p3)), .val (.int (v0_8 p2 p1 p0 p3)), .val (.int (v0_9 p2)), .val (.ref b5), .val (.ref b14), .val (.ref b21), .val (.ref b31), .val (.ref b34), .val (.ref b36), .val (.int (v0_22 p0 p2 p1 p3)), .val (.int (v0_36 p0 p2 p1 p3))] [(.ref b31), (.int (v0_9 p2)), (.ref b21), (.ref b14), (.int (v0_8 p2 p1 p0 p3))])) _
                    refine XS.iload X109.here hx rfl (hb hby at_507) rfl ?_
                    show Steps p.tables e below (T109.setTop (mkF m 509 #[.val (.int p0), .val (.int p1), .val (.int p2), .val (.int p3), .val (.long q0), .second, .val (.int (v0_1 p0)), .val (.int (v0_2 p1 p0)), .val (.int (v0_3 p1 p0)), .val (.int (v0_4 p1 p0)), .val (.int (v0_5 p2 p1 p0 p3)), .val (.int (v0_6 p2 p1 p0 p3)), .val (.int (v0_7 p2 p1 p0 p3)), .val (.int (v0_8 p2 p1 p0 p3)), .val (.int (v0_9 p2)), .val (.ref b5), .val (.ref b14), .val (.ref b21), .val (.ref b31), .val (.ref b34), .val (.ref b36), .val (.int (v0_22 p0 p2 p1 p3)), .val (.int (v0_36 p0 p2 p1 p3))] [(.int (v0_22 p0 p2 p1 p3)), (.ref b31), (.int (v0_9 p2)), (.ref b21), (.ref b14), (.int (v0_8 p2 p1 p0 p3))])) _
                    refine st112 _ ?_
                    show Steps p.tables e below (T112.setTop (mkF m 512 #[.val (.int p0), .val (.int p1), .val (.int p2), .val (.int p3), .val (.long q0), .second, .val (.int (v0_1 p0)), .val (.int (v0_2 p1 p0)), .val (.int (v0_3 p1 p0)), .val (.int (v0_4 p1 p0)), .val (.int (v0_5 p2 p1 p0 p3)), .val (.int (v0_6 p2 p1 p0 p3)), .val (.int (v0_7 p2 p1 p0 p3)), .val (.int (v0_8 p2 p1 p0 p3)), .val (.int (v0_9 p2)), .val (.ref b5), .val (.ref b14), .val (.ref b21), .val (.ref b31), .val (.ref b34), .val (.ref b36), .val (.int (v0_22 p0 p2 p1 p3)), .val (.int (v0_36 p0 p2 p1 p3))] [(.int (v0_32 p2 p1 p0 p3))])) _
                    exact k)
                  by_cases hc512_114 : (v0_32 p2 p1 p0 p3) = (0 : Int32)
                  · have hv : (f0 p0 p1 p2 p3 q0) = (0 : Int32) := by simp only [f0, if_neg hc347_58, if_pos hc369_93, if_neg hc404_96, if_neg hc422_99, if_neg hc440_102, if_neg hc458_105, if_neg hc476_108, if_neg hc494_111, if_pos hc512_114]
                    obtain ⟨fs, hr, hrun, hended, hW, hsame⟩ := X112.leave (v := some (.int (0 : Int32))) (fun h => nomatch (Bd.returns.symm.trans h)) hlk
                    refine ⟨_, _, pre113 _ ?_, hrun, hended, _, _, rfl, ?_, ⟨_, rfl⟩, hW, hsame.mono (by decide) (by decide)⟩
                    · show Steps p.tables e below (T112.setTop (mkF m 512 #[.val (.int p0), .val (.int p1), .val (.int p2), .val (.int p3), .val (.long q0), .second, .val (.int (v0_1 p0)), .val (.int (v0_2 p1 p0)), .val (.int (v0_3 p1 p0)), .val (.int (v0_4 p1 p0)), .val (.int (v0_5 p2 p1 p0 p3)), .val (.int (v0_6 p2 p1 p0 p3)), .val (.int (v0_7 p2 p1 p0 p3)), .val (.int (v0_8 p2 p1 p0 p3)), .val (.int (v0_9 p2)), .val (.ref b5), .val (.ref b14), .val (.ref b21), .val (.ref b31), .val (.ref b34), .val (.ref b36), .val (.int (v0_22 p0 p2 p1 p3)), .val (.int (v0_36 p0 p2 p1 p3))] [(.int (v0_32 p2 p1 p0 p3))])) _
                      refine XS.ifYes X112.here hx rfl (pc0 := 512) (pc' := 544) rfl (hb hby at_512) rfl ((if0 _ _).trans (teq hc512_114).1) (by decide) (by decide) ?_
                      refine XS.iconst X112.here hx rfl (hb hby at_544) ?_
                      show Steps p.tables e below (T112.setTop (mkF m 545 #[.val (.int p0), .val (.int p1), .val (.int p2), .val (.int p3), .val (.long q0), .second, .val (.int (v0_1 p0)), .val (.int (v0_2 p1 p0)), .val (.int (v0_3 p1 p0)), .val (.int (v0_4 p1 p0)), .val (.int (v0_5 p2 p1 p0 p3)), .val (.int (v0_6 p2 p1 p0 p3)), .val (.int (v0_7 p2 p1 p0 p3)), .val (.int (v0_8 p2 p1 p0 p3)), .val (.int (v0_9 p2)), .val (.ref b5), .val (.ref b14), .val (.ref b21), .val (.ref b31), .val (.ref b34), .val (.ref b36), .val (.int (v0_22 p0 p2 p1 p3)), .val (.int (v0_36 p0 p2 p1 p3))] [(.int (0 : Int32))])) _
                      exact retN X112 hx (t := .boolean) Bd.returns (by simp) (hb hby at_545) hr
                    · show Q0 Z p0 p1 p2 p3 q0 h0 n0 _ T112.heap _
                      rw [e112]
                      exact ⟨by rw [hv], N112⟩
                  · have pre115 : ∀ t, Steps p.tables e below (T112.setTop (mkF m 517 #[.val (.int p0), .val (.int p1), .val (.int p2), .val (.int p3), .val (.long q0), .second, .val (.int (v0_1 p0)), .val (.int (v0_2 p1 p0)), .val (.int (v0_3 p1 p0)), .val (.int (v0_4 p1 p0)), .val (.int (v0_5 p2 p1 p0 p3)), .val (.int (v0_6 p2 p1 p0 p3)), .val (.int (v0_7 p2 p1 p0 p3)), .val (.int (v0_8 p2 p1 p0 p3)), .val (.int (v0_9 p2)), .val (.ref b5), .val (.ref b14), .val (.ref b21), .val (.ref b31), .val (.ref b34), .val (.ref b36), .val (.int (v0_22 p0 p2 p1 p3)), .val (.int (v0_36 p0 p2 p1 p3))] [(.int (v0_22 p0 p2 p1 p3))])) t → Steps p.tables e below (s₁.setTop (entryFrame m #[(.int p0), (.int p1), (.int p2), (.int p3), (.long q0)] maxLocals)) t := fun t k => pre113 t (by
                      show Steps p.tables e below (T112.setTop (mkF m 512 #[.val (.int p0), .val (.int p1), .val (.int p2), .val (.int p3), .val (.long q0), .second, .val (.int (v0_1 p0)), .val (.int (v0_2 p1 p0)), .val (.int (v0_3 p1 p0)), .val (.int (v0_4 p1 p0)), .val (.int (v0_5 p2 p1 p0 p3)), .val (.int (v0_6 p2 p1 p0 p3)), .val (.int (v0_7 p2 p1 p0 p3)), .val (.int (v0_8 p2 p1 p0 p3)), .val (.int (v0_9 p2)), .val (.ref b5), .val (.ref b14), .val (.ref b21), .val (.ref b31), .val (.ref b34), .val (.ref b36), .val (.int (v0_22 p0 p2 p1 p3)), .val (.int (v0_36 p0 p2 p1 p3))] [(.int (v0_32 p2 p1 p0 p3))])) _
                      refine XS.ifNo X112.here hx rfl (hb hby at_512) rfl ((if0 _ _).trans (feq hc512_114).1) ?_
                      show Steps p.tables e below (T112.setTop (mkF m 515 #[.val (.int p0), .val (.int p1), .val (.int p2), .val (.int p3), .val (.long q0), .second, .val (.int (v0_1 p0)), .val (.int (v0_2 p1 p0)), .val (.int (v0_3 p1 p0)), .val (.int (v0_4 p1 p0)), .val (.int (v0_5 p2 p1 p0 p3)), .val (.int (v0_6 p2 p1 p0 p3)), .val (.int (v0_7 p2 p1 p0 p3)), .val (.int (v0_8 p2 p1 p0 p3)), .val (.int (v0_9 p2)), .val (.ref b5), .val (.ref b14), .val (.ref b21), .val (.ref b31), .val (.ref b34), .val (.ref b36), .val (.int (v0_22 p0 p2 p1 p3)), .val (.int (v0_36 p0 p2 p1 p3))] [])) _
                      refine XS.iload X112.here hx rfl (hb hby at_515) rfl ?_
                      show Steps p.tables e below (T112.setTop (mkF m 517 #[.val (.int p0), .val (.int p1), .val (.int p2), .val (.int p3), .val (.long q0), .second, .val (.int (v0_1 p0)), .val (.int (v0_2 p1 p0)), .val (.int (v0_3 p1 p0)), .val (.int (v0_4 p1 p0)), .val (.int (v0_5 p2 p1 p0 p3)), .val (.int (v0_6 p2 p1 p0 p3)), .val (.int (v0_7 p2 p1 p0 p3)), .val (.int (v0_8 p2 p1 p0 p3)), .val (.int (v0_9 p2)), .val (.ref b5), .val (.ref b14), .val (.ref b21), .val (.ref b31), .val (.ref b34), .val (.ref b36), .val (.int (v0_22 p0 p2 p1 p3)), .val (.int (v0_36 p0 p2 p1 p3))] [(.int (v0_22 p0 p2 p1 p3))])) _
                      exact k)
                    by_cases hc517_116 : (v0_22 p0 p2 p1 p3) = (0 : Int32)
                    · have hv : (f0 p0 p1 p2 p3 q0) = (1 : Int32) := by simp only [f0, if_neg hc347_58, if_pos hc369_93, if_neg hc404_96, if_neg hc422_99, if_neg hc440_102, if_neg hc458_105, if_neg hc476_108, if_neg hc494_111, if_neg hc512_114, if_pos hc517_116]
                      obtain ⟨fs, hr, hrun, hended, hW, hsame⟩ := X112.leave (v := some (.int (1 : Int32))) (fun h => nomatch (Bd.returns.symm.trans h)) hlk
                      refine ⟨_, _, pre115 _ ?_, hrun, hended, _, _, rfl, ?_, ⟨_, rfl⟩, hW, hsame.mono (by decide) (by decide)⟩
                      · show Steps p.tables e below (T112.setTop (mkF m 517 #[.val (.int p0), .val (.int p1), .val (.int p2), .val (.int p3), .val (.long q0), .second, .val (.int (v0_1 p0)), .val (.int (v0_2 p1 p0)), .val (.int (v0_3 p1 p0)), .val (.int (v0_4 p1 p0)), .val (.int (v0_5 p2 p1 p0 p3)), .val (.int (v0_6 p2 p1 p0 p3)), .val (.int (v0_7 p2 p1 p0 p3)), .val (.int (v0_8 p2 p1 p0 p3)), .val (.int (v0_9 p2)), .val (.ref b5), .val (.ref b14), .val (.ref b21), .val (.ref b31), .val (.ref b34), .val (.ref b36), .val (.int (v0_22 p0 p2 p1 p3)), .val (.int (v0_36 p0 p2 p1 p3))] [(.int (v0_22 p0 p2 p1 p3))])) _
                        refine XS.ifYes X112.here hx rfl (pc0 := 517) (pc' := 540) rfl (hb hby at_517) rfl ((if0 _ _).trans (teq hc517_116).1) (by decide) (by decide) ?_
                        refine XS.iconst X112.here hx rfl (hb hby at_540) ?_
                        refine XS.goto X112.here hx rfl (pc0 := 541) (pc' := 545) rfl (hb hby at_541) (by decide) (by decide) ?_
                        show Steps p.tables e below (T112.setTop (mkF m 545 #[.val (.int p0), .val (.int p1), .val (.int p2), .val (.int p3), .val (.long q0), .second, .val (.int (v0_1 p0)), .val (.int (v0_2 p1 p0)), .val (.int (v0_3 p1 p0)), .val (.int (v0_4 p1 p0)), .val (.int (v0_5 p2 p1 p0 p3)), .val (.int (v0_6 p2 p1 p0 p3)), .val (.int (v0_7 p2 p1 p0 p3)), .val (.int (v0_8 p2 p1 p0 p3)), .val (.int (v0_9 p2)), .val (.ref b5), .val (.ref b14), .val (.ref b21), .val (.ref b31), .val (.ref b34), .val (.ref b36), .val (.int (v0_22 p0 p2 p1 p3)), .val (.int (v0_36 p0 p2 p1 p3))] [(.int (1 : Int32))])) _
                        exact retN X112 hx (t := .boolean) Bd.returns (by simp) (hb hby at_545) hr
                      · show Q0 Z p0 p1 p2 p3 q0 h0 n0 _ T112.heap _
                        rw [e112]
                        exact ⟨by rw [hv], N112⟩
                    · obtain ⟨cl117, Ar117, hin117, hat117⟩ := Ia.get (Vr52) (j := ((v0_22 p0 p2 p1 p3) - (1 : Int32))) (own_fc1 p0 p1 p2 p3 hc517_116)
                      have pre118 : ∀ t, Steps p.tables e below (T112.setTop (mkF m 529 #[.val (.int p0), .val (.int p1), .val (.int p2), .val (.int p3), .val (.long q0), .second, .val (.int (v0_1 p0)), .val (.int (v0_2 p1 p0)), .val (.int (v0_3 p1 p0)), .val (.int (v0_4 p1 p0)), .val (.int (v0_5 p2 p1 p0 p3)), .val (.int (v0_6 p2 p1 p0 p3)), .val (.int (v0_7 p2 p1 p0 p3)), .val (.int (v0_8 p2 p1 p0 p3)), .val (.int (v0_9 p2)), .val (.ref b5), .val (.ref b14), .val (.ref b21), .val (.ref b31), .val (.ref b34), .val (.ref b36), .val (.int (v0_22 p0 p2 p1 p3)), .val (.int (v0_36 p0 p2 p1 p3))] [(.int (v0_36 p0 p2 p1 p3)), (.int (v0_33 p0 p1 p2 p3))])) t → Steps p.tables e below (s₁.setTop (entryFrame m #[(.int p0), (.int p1), (.int p2), (.int p3), (.long q0)] maxLocals)) t := fun t k => pre115 t (by
                        show Steps p.tables e below (T112.setTop (mkF m 517 #[.val (.int p0), .val (.int p1), .val (.int p2), .val (.int p3), .val (.long q0), .second, .val (.int (v0_1 p0)), .val (.int (v0_2 p1 p0)), .val (.int (v0_3 p1 p0)), .val (.int (v0_4 p1 p0)), .val (.int (v0_5 p2 p1 p0 p3)), .val (.int (v0_6 p2 p1 p0 p3)), .val (.int (v0_7 p2 p1 p0 p3)), .val (.int (v0_8 p2 p1 p0 p3)), .val (.int (v0_9 p2)), .val (.ref b5), .val (.ref b14), .val (.ref b21), .val (.ref b31), .val (.ref b34), .val (.ref b36), .val (.int (v0_22 p0 p2 p1 p3)), .val (.int (v0_36 p0 p2 p1 p3))] [(.int (v0_22 p0 p2 p1 p3))])) _
                        refine XS.ifNo X112.here hx rfl (hb hby at_517) rfl ((if0 _ _).trans (feq hc517_116).1) ?_
                        refine XS.aload X112.here hx rfl (hb hby at_520) rfl rfl ?_
                        refine XS.iload X112.here hx rfl (hb hby at_522) rfl ?_
                        refine XS.iconst X112.here hx rfl (hb hby at_524) ?_
                        show Steps p.tables e below (T112.setTop (mkF m 525 #[.val (.int p0), .val (.int p1), .val (.int p2), .val (.int p3), .val (.long q0), .second, .val (.int (v0_1 p0)), .val (.int (v0_2 p1 p0)), .val (.int (v0_3 p1 p0)), .val (.int (v0_4 p1 p0)), .val (.int (v0_5 p2 p1 p0 p3)), .val (.int (v0_6 p2 p1 p0 p3)), .val (.int (v0_7 p2 p1 p0 p3)), .val (.int (v0_8 p2 p1 p0 p3)), .val (.int (v0_9 p2)), .val (.ref b5), .val (.ref b14), .val (.ref b21), .val (.ref b31), .val (.ref b34), .val (.ref b36), .val (.int (v0_22 p0 p2 p1 p3)), .val (.int (v0_36 p0 p2 p1 p3))] [(.int (1 : Int32)), (.int (v0_22 p0 p2 p1 p3)), (.ref b31)])) _
                        refine XS.isub X112.here hx rfl (hb hby at_525) rfl ?_
                        refine X112.iaload hx (j := ((v0_22 p0 p2 p1 p3) - (1 : Int32))) (v := (.int (getI (own_into p0 p1 p2 p3) ((v0_22 p0 p2 p1 p3) - (1 : Int32))))) (by rw [e112]; exact Ar117.1) (State.isArrayOf_alike hZ.alike Ar117.2.1) Ar117.2.2 hin117 hat117 (g := (mkF m 526 #[.val (.int p0), .val (.int p1), .val (.int p2), .val (.int p3), .val (.long q0), .second, .val (.int (v0_1 p0)), .val (.int (v0_2 p1 p0)), .val (.int (v0_3 p1 p0)), .val (.int (v0_4 p1 p0)), .val (.int (v0_5 p2 p1 p0 p3)), .val (.int (v0_6 p2 p1 p0 p3)), .val (.int (v0_7 p2 p1 p0 p3)), .val (.int (v0_8 p2 p1 p0 p3)), .val (.int (v0_9 p2)), .val (.ref b5), .val (.ref b14), .val (.ref b21), .val (.ref b31), .val (.ref b34), .val (.ref b36), .val (.int (v0_22 p0 p2 p1 p3)), .val (.int (v0_36 p0 p2 p1 p3))] [(.int ((v0_22 p0 p2 p1 p3) - (1 : Int32))), (.ref b31)])) rfl rfl (hb hby at_526) _ ?_
                        refine XS.iload X112.here hx rfl (hb hby at_527) rfl ?_
                        show Steps p.tables e below (T112.setTop (mkF m 529 #[.val (.int p0), .val (.int p1), .val (.int p2), .val (.int p3), .val (.long q0), .second, .val (.int (v0_1 p0)), .val (.int (v0_2 p1 p0)), .val (.int (v0_3 p1 p0)), .val (.int (v0_4 p1 p0)), .val (.int (v0_5 p2 p1 p0 p3)), .val (.int (v0_6 p2 p1 p0 p3)), .val (.int (v0_7 p2 p1 p0 p3)), .val (.int (v0_8 p2 p1 p0 p3)), .val (.int (v0_9 p2)), .val (.ref b5), .val (.ref b14), .val (.ref b21), .val (.ref b31), .val (.ref b34), .val (.ref b36), .val (.int (v0_22 p0 p2 p1 p3)), .val (.int (v0_36 p0 p2 p1 p3))] [(.int (v0_36 p0 p2 p1 p3)), (.int (v0_33 p0 p1 p2 p3))])) _
                        exact k)
                      by_cases hc529_119 : (v0_33 p0 p1 p2 p3) = (v0_36 p0 p2 p1 p3)
                      · obtain ⟨cl120, Ar120, hin120, hat120⟩ := Ia.get (Vr52) (j := (v0_22 p0 p2 p1 p3)) (own_fc0 p0 p1 p2 p3)
                        have pre121 : ∀ t, Steps p.tables e below (T112.setTop (mkF m 537 #[.val (.int p0), .val (.int p1), .val (.int p2), .val (.int p3), .val (.long q0), .second, .val (.int (v0_1 p0)), .val (.int (v0_2 p1 p0)), .val (.int (v0_3 p1 p0)), .val (.int (v0_4 p1 p0)), .val (.int (v0_5 p2 p1 p0 p3)), .val (.int (v0_6 p2 p1 p0 p3)), .val (.int (v0_7 p2 p1 p0 p3)), .val (.int (v0_8 p2 p1 p0 p3)), .val (.int (v0_9 p2)), .val (.ref b5), .val (.ref b14), .val (.ref b21), .val (.ref b31), .val (.ref b34), .val (.ref b36), .val (.int (v0_22 p0 p2 p1 p3)), .val (.int (v0_36 p0 p2 p1 p3))] [(.int (v0_34 p0 p1 p2 p3))])) t → Steps p.tables e below (s₁.setTop (entryFrame m #[(.int p0), (.int p1), (.int p2), (.int p3), (.long q0)] maxLocals)) t := fun t k => pre118 t (by
                          show Steps p.tables e below (T112.setTop (mkF m 529 #[.val (.int p0), .val (.int p1), .val (.int p2), .val (.int p3), .val (.long q0), .second, .val (.int (v0_1 p0)), .val (.int (v0_2 p1 p0)), .val (.int (v0_3 p1 p0)), .val (.int (v0_4 p1 p0)), .val (.int (v0_5 p2 p1 p0 p3)), .val (.int (v0_6 p2 p1 p0 p3)), .val (.int (v0_7 p2 p1 p0 p3)), .val (.int (v0_8 p2 p1 p0 p3)), .val (.int (v0_9 p2)), .val (.ref b5), .val (.ref b14), .val (.ref b21), .val (.ref b31), .val (.ref b34), .val (.ref b36), .val (.int (v0_22 p0 p2 p1 p3)), .val (.int (v0_36 p0 p2 p1 p3))] [(.int (v0_36 p0 p2 p1 p3)), (.int (v0_33 p0 p1 p2 p3))])) _
                          refine XS.icmpNo X112.here hx rfl (hb hby at_529) rfl (teq hc529_119).2 ?_
                          show Steps p.tables e below (T112.setTop (mkF m 532 #[.val (.int p0), .val (.int p1), .val (.int p2), .val (.int p3), .val (.long q0), .second, .val (.int (v0_1 p0)), .val (.int (v0_2 p1 p0)), .val (.int (v0_3 p1 p0)), .val (.int (v0_4 p1 p0)), .val (.int (v0_5 p2 p1 p0 p3)), .val (.int (v0_6 p2 p1 p0 p3)), .val (.int (v0_7 p2 p1 p0 p3)), .val (.int (v0_8 p2 p1 p0 p3)), .val (.int (v0_9 p2)), .val (.ref b5), .val (.ref b14), .val (.ref b21), .val (.ref b31), .val (.ref b34), .val (.ref b36), .val (.int (v0_22 p0 p2 p1 p3)), .val (.int (v0_36 p0 p2 p1 p3))] [])) _
                          refine XS.aload X112.here hx rfl (hb hby at_532) rfl rfl ?_
                          refine XS.iload X112.here hx rfl (hb hby at_534) rfl ?_
                          refine X112.iaload hx (j := (v0_22 p0 p2 p1 p3)) (v := (.int (getI (own_into p0 p1 p2 p3) (v0_22 p0 p2 p1 p3)))) (by rw [e112]; exact Ar120.1) (State.isArrayOf_alike hZ.alike Ar120.2.1) Ar120.2.2 hin120 hat120 (g := (mkF m 536 #[.val (.int p0), .val (.int p1), .val (.int p2), .val (.int p3), .val (.long q0), .second, .val (.int (v0_1 p0)), .val (.int (v0_2 p1 p0)), .val (.int (v0_3 p1 p0)), .val (.int (v0_4 p1 p0)), .val (.int (v0_5 p2 p1 p0 p3)), .val (.int (v0_6 p2 p1 p0 p3)), .val (.int (v0_7 p2 p1 p0 p3)), .val (.int (v0_8 p2 p1 p0 p3)), .val (.int (v0_9 p2)), .val (.ref b5), .val (.ref b14), .val (.ref b21), .val (.ref b31), .val (.ref b34), .val (.ref b36), .val (.int (v0_22 p0 p2 p1 p3)), .val (.int (v0_36 p0 p2 p1 p3))] [(.int (v0_22 p0 p2 p1 p3)), (.ref b31)])) rfl rfl (hb hby at_536) _ ?_
                          show Steps p.tables e below (T112.setTop (mkF m 537 #[.val (.int p0), .val (.int p1), .val (.int p2), .val (.int p3), .val (.long q0), .second, .val (.int (v0_1 p0)), .val (.int (v0_2 p1 p0)), .val (.int (v0_3 p1 p0)), .val (.int (v0_4 p1 p0)), .val (.int (v0_5 p2 p1 p0 p3)), .val (.int (v0_6 p2 p1 p0 p3)), .val (.int (v0_7 p2 p1 p0 p3)), .val (.int (v0_8 p2 p1 p0 p3)), .val (.int (v0_9 p2)), .val (.ref b5), .val (.ref b14), .val (.ref b21), .val (.ref b31), .val (.ref b34), .val (.ref b36), .val (.int (v0_22 p0 p2 p1 p3)), .val (.int (v0_36 p0 p2 p1 p3))] [(.int (v0_34 p0 p1 p2 p3))])) _
                          exact k)
                        by_cases hc537_122 : (v0_34 p0 p1 p2 p3) = (0 : Int32)
                        · have hv : (f0 p0 p1 p2 p3 q0) = (1 : Int32) := by simp only [f0, if_neg hc347_58, if_pos hc369_93, if_neg hc404_96, if_neg hc422_99, if_neg hc440_102, if_neg hc458_105, if_neg hc476_108, if_neg hc494_111, if_neg hc512_114, if_neg hc517_116, if_pos hc529_119, if_pos hc537_122]
                          obtain ⟨fs, hr, hrun, hended, hW, hsame⟩ := X112.leave (v := some (.int (1 : Int32))) (fun h => nomatch (Bd.returns.symm.trans h)) hlk
                          refine ⟨_, _, pre121 _ ?_, hrun, hended, _, _, rfl, ?_, ⟨_, rfl⟩, hW, hsame.mono (by decide) (by decide)⟩
                          · show Steps p.tables e below (T112.setTop (mkF m 537 #[.val (.int p0), .val (.int p1), .val (.int p2), .val (.int p3), .val (.long q0), .second, .val (.int (v0_1 p0)), .val (.int (v0_2 p1 p0)), .val (.int (v0_3 p1 p0)), .val (.int (v0_4 p1 p0)), .val (.int (v0_5 p2 p1 p0 p3)), .val (.int (v0_6 p2 p1 p0 p3)), .val (.int (v0_7 p2 p1 p0 p3)), .val (.int (v0_8 p2 p1 p0 p3)), .val (.int (v0_9 p2)), .val (.ref b5), .val (.ref b14), .val (.ref b21), .val (.ref b31), .val (.ref b34), .val (.ref b36), .val (.int (v0_22 p0 p2 p1 p3)), .val (.int (v0_36 p0 p2 p1 p3))] [(.int (v0_34 p0 p1 p2 p3))])) _
                            refine XS.ifNo X112.here hx rfl (hb hby at_537) rfl ((if0 _ _).trans (teq hc537_122).2) ?_
                            show Steps p.tables e below (T112.setTop (mkF m 540 #[.val (.int p0), .val (.int p1), .val (.int p2), .val (.int p3), .val (.long q0), .second, .val (.int (v0_1 p0)), .val (.int (v0_2 p1 p0)), .val (.int (v0_3 p1 p0)), .val (.int (v0_4 p1 p0)), .val (.int (v0_5 p2 p1 p0 p3)), .val (.int (v0_6 p2 p1 p0 p3)), .val (.int (v0_7 p2 p1 p0 p3)), .val (.int (v0_8 p2 p1 p0 p3)), .val (.int (v0_9 p2)), .val (.ref b5), .val (.ref b14), .val (.ref b21), .val (.ref b31), .val (.ref b34), .val (.ref b36), .val (.int (v0_22 p0 p2 p1 p3)), .val (.int (v0_36 p0 p2 p1 p3))] [])) _
                            refine XS.iconst X112.here hx rfl (hb hby at_540) ?_
                            refine XS.goto X112.here hx rfl (pc0 := 541) (pc' := 545) rfl (hb hby at_541) (by decide) (by decide) ?_
                            show Steps p.tables e below (T112.setTop (mkF m 545 #[.val (.int p0), .val (.int p1), .val (.int p2), .val (.int p3), .val (.long q0), .second, .val (.int (v0_1 p0)), .val (.int (v0_2 p1 p0)), .val (.int (v0_3 p1 p0)), .val (.int (v0_4 p1 p0)), .val (.int (v0_5 p2 p1 p0 p3)), .val (.int (v0_6 p2 p1 p0 p3)), .val (.int (v0_7 p2 p1 p0 p3)), .val (.int (v0_8 p2 p1 p0 p3)), .val (.int (v0_9 p2)), .val (.ref b5), .val (.ref b14), .val (.ref b21), .val (.ref b31), .val (.ref b34), .val (.ref b36), .val (.int (v0_22 p0 p2 p1 p3)), .val (.int (v0_36 p0 p2 p1 p3))] [(.int (1 : Int32))])) _
                            exact retN X112 hx (t := .boolean) Bd.returns (by simp) (hb hby at_545) hr
                          · show Q0 Z p0 p1 p2 p3 q0 h0 n0 _ T112.heap _
                            rw [e112]
                            exact ⟨by rw [hv], N112⟩
                        · have hv : (f0 p0 p1 p2 p3 q0) = (0 : Int32) := by simp only [f0, if_neg hc347_58, if_pos hc369_93, if_neg hc404_96, if_neg hc422_99, if_neg hc440_102, if_neg hc458_105, if_neg hc476_108, if_neg hc494_111, if_neg hc512_114, if_neg hc517_116, if_pos hc529_119, if_neg hc537_122]
                          obtain ⟨fs, hr, hrun, hended, hW, hsame⟩ := X112.leave (v := some (.int (0 : Int32))) (fun h => nomatch (Bd.returns.symm.trans h)) hlk
                          refine ⟨_, _, pre121 _ ?_, hrun, hended, _, _, rfl, ?_, ⟨_, rfl⟩, hW, hsame.mono (by decide) (by decide)⟩
                          · show Steps p.tables e below (T112.setTop (mkF m 537 #[.val (.int p0), .val (.int p1), .val (.int p2), .val (.int p3), .val (.long q0), .second, .val (.int (v0_1 p0)), .val (.int (v0_2 p1 p0)), .val (.int (v0_3 p1 p0)), .val (.int (v0_4 p1 p0)), .val (.int (v0_5 p2 p1 p0 p3)), .val (.int (v0_6 p2 p1 p0 p3)), .val (.int (v0_7 p2 p1 p0 p3)), .val (.int (v0_8 p2 p1 p0 p3)), .val (.int (v0_9 p2)), .val (.ref b5), .val (.ref b14), .val (.ref b21), .val (.ref b31), .val (.ref b34), .val (.ref b36), .val (.int (v0_22 p0 p2 p1 p3)), .val (.int (v0_36 p0 p2 p1 p3))] [(.int (v0_34 p0 p1 p2 p3))])) _
                            refine XS.ifYes X112.here hx rfl (pc0 := 537) (pc' := 544) rfl (hb hby at_537) rfl ((if0 _ _).trans (feq hc537_122).2) (by decide) (by decide) ?_
                            refine XS.iconst X112.here hx rfl (hb hby at_544) ?_
                            show Steps p.tables e below (T112.setTop (mkF m 545 #[.val (.int p0), .val (.int p1), .val (.int p2), .val (.int p3), .val (.long q0), .second, .val (.int (v0_1 p0)), .val (.int (v0_2 p1 p0)), .val (.int (v0_3 p1 p0)), .val (.int (v0_4 p1 p0)), .val (.int (v0_5 p2 p1 p0 p3)), .val (.int (v0_6 p2 p1 p0 p3)), .val (.int (v0_7 p2 p1 p0 p3)), .val (.int (v0_8 p2 p1 p0 p3)), .val (.int (v0_9 p2)), .val (.ref b5), .val (.ref b14), .val (.ref b21), .val (.ref b31), .val (.ref b34), .val (.ref b36), .val (.int (v0_22 p0 p2 p1 p3)), .val (.int (v0_36 p0 p2 p1 p3))] [(.int (0 : Int32))])) _
                            exact retN X112 hx (t := .boolean) Bd.returns (by simp) (hb hby at_545) hr
                          · show Q0 Z p0 p1 p2 p3 q0 h0 n0 _ T112.heap _
                            rw [e112]
                            exact ⟨by rw [hv], N112⟩
                      · have hv : (f0 p0 p1 p2 p3 q0) = (0 : Int32) := by simp only [f0, if_neg hc347_58, if_pos hc369_93, if_neg hc404_96, if_neg hc422_99, if_neg hc440_102, if_neg hc458_105, if_neg hc476_108, if_neg hc494_111, if_neg hc512_114, if_neg hc517_116, if_neg hc529_119]
                        obtain ⟨fs, hr, hrun, hended, hW, hsame⟩ := X112.leave (v := some (.int (0 : Int32))) (fun h => nomatch (Bd.returns.symm.trans h)) hlk
                        refine ⟨_, _, pre118 _ ?_, hrun, hended, _, _, rfl, ?_, ⟨_, rfl⟩, hW, hsame.mono (by decide) (by decide)⟩
                        · show Steps p.tables e below (T112.setTop (mkF m 529 #[.val (.int p0), .val (.int p1), .val (.int p2), .val (.int p3), .val (.long q0), .second, .val (.int (v0_1 p0)), .val (.int (v0_2 p1 p0)), .val (.int (v0_3 p1 p0)), .val (.int (v0_4 p1 p0)), .val (.int (v0_5 p2 p1 p0 p3)), .val (.int (v0_6 p2 p1 p0 p3)), .val (.int (v0_7 p2 p1 p0 p3)), .val (.int (v0_8 p2 p1 p0 p3)), .val (.int (v0_9 p2)), .val (.ref b5), .val (.ref b14), .val (.ref b21), .val (.ref b31), .val (.ref b34), .val (.ref b36), .val (.int (v0_22 p0 p2 p1 p3)), .val (.int (v0_36 p0 p2 p1 p3))] [(.int (v0_36 p0 p2 p1 p3)), (.int (v0_33 p0 p1 p2 p3))])) _
                          refine XS.icmpYes X112.here hx rfl (pc0 := 529) (pc' := 544) rfl (hb hby at_529) rfl (feq hc529_119).2 (by decide) (by decide) ?_
                          refine XS.iconst X112.here hx rfl (hb hby at_544) ?_
                          show Steps p.tables e below (T112.setTop (mkF m 545 #[.val (.int p0), .val (.int p1), .val (.int p2), .val (.int p3), .val (.long q0), .second, .val (.int (v0_1 p0)), .val (.int (v0_2 p1 p0)), .val (.int (v0_3 p1 p0)), .val (.int (v0_4 p1 p0)), .val (.int (v0_5 p2 p1 p0 p3)), .val (.int (v0_6 p2 p1 p0 p3)), .val (.int (v0_7 p2 p1 p0 p3)), .val (.int (v0_8 p2 p1 p0 p3)), .val (.int (v0_9 p2)), .val (.ref b5), .val (.ref b14), .val (.ref b21), .val (.ref b31), .val (.ref b34), .val (.ref b36), .val (.int (v0_22 p0 p2 p1 p3)), .val (.int (v0_36 p0 p2 p1 p3))] [(.int (0 : Int32))])) _
                          exact retN X112 hx (t := .boolean) Bd.returns (by simp) (hb hby at_545) hr
                        · show Q0 Z p0 p1 p2 p3 q0 h0 n0 _ T112.heap _
                          rw [e112]
                          exact ⟨by rw [hv], N112⟩
    · obtain ⟨_, _, ⟨T123, L123, k123, n123⟩, -, X123, ⟨Lc123, hQ123, l123, y123, z123⟩, st123⟩ := Jvm.LawKit.callS X88 hx (y := (⟨"com/example/knotwork/knotwork/generate/FreeNumbersFreePinLaw", "inT", "(I[I[II)Z"⟩ : MethodName)) hown (mvT hZ (hw _ (List.mem_of_getElem? (i := 49) rfl))) (mvT hZ (hw _ (List.mem_of_getElem? (i := 50) rfl))) (mvT hZ (hw _ (List.mem_of_getElem? (i := 2) rfl))) (mvT hZ (hw _ (List.mem_of_getElem? (i := 51) rfl))) (by decide) (backOf (W := 0) (rm9 l Z a0 hw [] (v0_36 p0 p2 p1 p3) b14 b21 (v0_9 p2) k14 (w0_16 p1 p0) k21 (w0_13 p2 p1 p0 p3) T52.heap n0 Z52 ((M48.keep Kq52 (ninS ne_b14_b36 (ninS ne_b14_ta (ninS ne_b14_b31 nin0))))) ((M49.keep Kq52 (ninS ne_b21_b36 (ninS ne_b21_ta (ninS ne_b21_b31 nin0)))))) hZ (hw _ (List.mem_of_getElem? (i := 51) rfl)) (hw _ (List.mem_of_getElem? (i := 2) rfl)) (by decide) (by decide)) (g := (mkF m 380 #[.val (.int p0), .val (.int p1), .val (.int p2), .val (.int p3), .val (.long q0), .second, .val (.int (v0_1 p0)), .val (.int (v0_2 p1 p0)), .val (.int (v0_3 p1 p0)), .val (.int (v0_4 p1 p0)), .val (.int (v0_5 p2 p1 p0 p3)), .val (.int (v0_6 p2 p1 p0 p3)), .val (.int (v0_7 p2 p1 p0 p3)), .val (.int (v0_8 p2 p1 p0 p3)), .val (.int (v0_9 p2)), .val (.ref b5), .val (.ref b14), .val (.ref b21), .val (.ref b31), .val (.ref b34), .val (.ref b36), .val (.int (v0_22 p0 p2 p1 p3)), .val (.int (v0_36 p0 p2 p1 p3))] [(.int (v0_9 p2)), (.ref b21), (.ref b14), (.int (v0_36 p0 p2 p1 p3))])) rfl (by rw [hml]; rfl) (argsL := [(.int (v0_36 p0 p2 p1 p3)), (.ref b14), (.ref b21), (.int (v0_9 p2))]) (rest := []) (lenOf pd_2 rfl) rfl (by show 2 * 0 + _ ≤ _; exact Nat.le_of_eq rfl) (hb hby at_380) (fun _ _ => ⟨rfl, e88, (by decide : 8 + 0 ≤ _), (by decide : 146 + 0 ≤ _)⟩)
      dsimp only [Pt.U, Pt.locs, Pt.cells, Pt.slots] at X123 l123 y123 z123 st123 hQ123
      rw [l123, y123, z123] at X123
      obtain ⟨rfl, N123q, e123⟩ := hQ123
      have N123 := Fr.app N88 N123q
      have pre124 : ∀ t, Steps p.tables e below (T123.setTop (mkF m 383 #[.val (.int p0), .val (.int p1), .val (.int p2), .val (.int p3), .val (.long q0), .second, .val (.int (v0_1 p0)), .val (.int (v0_2 p1 p0)), .val (.int (v0_3 p1 p0)), .val (.int (v0_4 p1 p0)), .val (.int (v0_5 p2 p1 p0 p3)), .val (.int (v0_6 p2 p1 p0 p3)), .val (.int (v0_7 p2 p1 p0 p3)), .val (.int (v0_8 p2 p1 p0 p3)), .val (.int (v0_9 p2)), .val (.ref b5), .val (.ref b14), .val (.ref b21), .val (.ref b31), .val (.ref b34), .val (.ref b36), .val (.int (v0_22 p0 p2 p1 p3)), .val (.int (v0_36 p0 p2 p1 p3))] [(.int (v0_37 p0 p2 p1 p3))])) t → Steps p.tables e below (s₁.setTop (entryFrame m #[(.int p0), (.int p1), (.int p2), (.int p3), (.long q0)] maxLocals)) t := fun t k => pre92 t (by
        show Steps p.tables e below (T88.setTop (mkF m 369 #[.val (.int p0), .val (.int p1), .val (.int p2), .val (.int p3), .val (.long q0), .second, .val (.int (v0_1 p0)), .val (.int (v0_2 p1 p0)), .val (.int (v0_3 p1 p0)), .val (.int (v0_4 p1 p0)), .val (.int (v0_5 p2 p1 p0 p3)), .val (.int (v0_6 p2 p1 p0 p3)), .val (.int (v0_7 p2 p1 p0 p3)), .val (.int (v0_8 p2 p1 p0 p3)), .val (.int (v0_9 p2)), .val (.ref b5), .val (.ref b14), .val (.ref b21), .val (.ref b31), .val (.ref b34), .val (.ref b36), .val (.int (v0_22 p0 p2 p1 p3)), .val (.int (v0_36 p0 p2 p1 p3))] [(.int (v0_36 p0 p2 p1 p3))])) _
        refine XS.ifNo X88.here hx rfl (hb hby at_369) rfl ((if0 _ _).trans (flt hc369_93).1) ?_
        refine XS.iload X88.here hx rfl (hb hby at_372) rfl ?_
        show Steps p.tables e below (T88.setTop (mkF m 374 #[.val (.int p0), .val (.int p1), .val (.int p2), .val (.int p3), .val (.long q0), .second, .val (.int (v0_1 p0)), .val (.int (v0_2 p1 p0)), .val (.int (v0_3 p1 p0)), .val (.int (v0_4 p1 p0)), .val (.int (v0_5 p2 p1 p0 p3)), .val (.int (v0_6 p2 p1 p0 p3)), .val (.int (v0_7 p2 p1 p0 p3)), .val (.int (v0_8 p2 p1 p0 p3)), .val (.int (v0_9 p2)), .val (.ref b5), .val (.ref b14), .val (.ref b21), .val (.ref b31), .val (.ref b34), .val (.ref b36), .val (.int (v0_22 p0 p2 p1 p3)), .val (.int (v0_36 p0 p2 p1 p3))] [(.int (v0_36 p0 p2 p1 p3))])) _
        refine XS.aload X88.here hx rfl (hb hby at_374) rfl rfl ?_
        refine XS.aload X88.here hx rfl (hb hby at_376) rfl rfl ?_
        refine XS.iload X88.here hx rfl (hb hby at_378) rfl ?_
        show Steps p.tables e below (T88.setTop (mkF m 380 #[.val (.int p0), .val (.int p1), .val (.int p2), .val (.int p3), .val (.long q0), .second, .val (.int (v0_1 p0)), .val (.int (v0_2 p1 p0)), .val (.int (v0_3 p1 p0)), .val (.int (v0_4 p1 p0)), .val (.int (v0_5 p2 p1 p0 p3)), .val (.int (v0_6 p2 p1 p0 p3)), .val (.int (v0_7 p2 p1 p0 p3)), .val (.int (v0_8 p2 p1 p0 p3)), .val (.int (v0_9 p2)), .val (.ref b5), .val (.ref b14), .val (.ref b21), .val (.ref b31), .val (.ref b34), .val (.ref b36), .val (.int (v0_22 p0 p2 p1 p3)), .val (.int (v0_36 p0 p2 p1 p3))] [(.int (v0_9 p2)), (.ref b21), (.ref b14), (.int (v0_36 p0 p2 p1 p3))])) _
        refine st123 _ ?_
        show Steps p.tables e below (T123.setTop (mkF m 383 #[.val (.int p0), .val (.int p1), .val (.int p2), .val (.int p3), .val (.long q0), .second, .val (.int (v0_1 p0)), .val (.int (v0_2 p1 p0)), .val (.int (v0_3 p1 p0)), .val (.int (v0_4 p1 p0)), .val (.int (v0_5 p2 p1 p0 p3)), .val (.int (v0_6 p2 p1 p0 p3)), .val (.int (v0_7 p2 p1 p0 p3)), .val (.int (v0_8 p2 p1 p0 p3)), .val (.int (v0_9 p2)), .val (.ref b5), .val (.ref b14), .val (.ref b21), .val (.ref b31), .val (.ref b34), .val (.ref b36), .val (.int (v0_22 p0 p2 p1 p3)), .val (.int (v0_36 p0 p2 p1 p3))] [(.int (v0_37 p0 p2 p1 p3))])) _
        exact k)
      have pre126 : ∀ t, Steps p.tables e below (T123.setTop (mkF m 389 #[.val (.int p0), .val (.int p1), .val (.int p2), .val (.int p3), .val (.long q0), .second, .val (.int (v0_1 p0)), .val (.int (v0_2 p1 p0)), .val (.int (v0_3 p1 p0)), .val (.int (v0_4 p1 p0)), .val (.int (v0_5 p2 p1 p0 p3)), .val (.int (v0_6 p2 p1 p0 p3)), .val (.int (v0_7 p2 p1 p0 p3)), .val (.int (v0_8 p2 p1 p0 p3)), .val (.int (v0_9 p2)), .val (.ref b5), .val (.ref b14), .val (.ref b21), .val (.ref b31), .val (.ref b34), .val (.ref b36), .val (.int (v0_22 p0 p2 p1 p3)), .val (.int (if (v0_37 p0 p2 p1 p3) = (0 : Int32) then (v0_36 p0 p2 p1 p3) else ((v0_36 p0 p2 p1 p3) + (-1 : Int32))))] [])) t → Steps p.tables e below (s₁.setTop (entryFrame m #[(.int p0), (.int p1), (.int p2), (.int p3), (.long q0)] maxLocals)) t := fun t k => pre124 t (by
        show Steps p.tables e below (T123.setTop (mkF m 383 #[.val (.int p0), .val (.int p1), .val (.int p2), .val (.int p3), .val (.long q0), .second, .val (.int (v0_1 p0)), .val (.int (v0_2 p1 p0)), .val (.int (v0_3 p1 p0)), .val (.int (v0_4 p1 p0)), .val (.int (v0_5 p2 p1 p0 p3)), .val (.int (v0_6 p2 p1 p0 p3)), .val (.int (v0_7 p2 p1 p0 p3)), .val (.int (v0_8 p2 p1 p0 p3)), .val (.int (v0_9 p2)), .val (.ref b5), .val (.ref b14), .val (.ref b21), .val (.ref b31), .val (.ref b34), .val (.ref b36), .val (.int (v0_22 p0 p2 p1 p3)), .val (.int (v0_36 p0 p2 p1 p3))] [(.int (v0_37 p0 p2 p1 p3))])) _
        by_cases hd383_125 : (v0_37 p0 p2 p1 p3) = (0 : Int32)
        · try simp only [if_pos hd383_125] at k
          show Steps p.tables e below (T123.setTop (mkF m 383 #[.val (.int p0), .val (.int p1), .val (.int p2), .val (.int p3), .val (.long q0), .second, .val (.int (v0_1 p0)), .val (.int (v0_2 p1 p0)), .val (.int (v0_3 p1 p0)), .val (.int (v0_4 p1 p0)), .val (.int (v0_5 p2 p1 p0 p3)), .val (.int (v0_6 p2 p1 p0 p3)), .val (.int (v0_7 p2 p1 p0 p3)), .val (.int (v0_8 p2 p1 p0 p3)), .val (.int (v0_9 p2)), .val (.ref b5), .val (.ref b14), .val (.ref b21), .val (.ref b31), .val (.ref b34), .val (.ref b36), .val (.int (v0_22 p0 p2 p1 p3)), .val (.int (v0_36 p0 p2 p1 p3))] [(.int (v0_37 p0 p2 p1 p3))])) _
          refine XS.ifYes X123.here hx rfl (pc0 := 383) (pc' := 389) rfl (hb hby at_383) rfl ((if0 _ _).trans (teq hd383_125).1) (by decide) (by decide) ?_
          exact k
        · try simp only [if_neg hd383_125] at k
          show Steps p.tables e below (T123.setTop (mkF m 383 #[.val (.int p0), .val (.int p1), .val (.int p2), .val (.int p3), .val (.long q0), .second, .val (.int (v0_1 p0)), .val (.int (v0_2 p1 p0)), .val (.int (v0_3 p1 p0)), .val (.int (v0_4 p1 p0)), .val (.int (v0_5 p2 p1 p0 p3)), .val (.int (v0_6 p2 p1 p0 p3)), .val (.int (v0_7 p2 p1 p0 p3)), .val (.int (v0_8 p2 p1 p0 p3)), .val (.int (v0_9 p2)), .val (.ref b5), .val (.ref b14), .val (.ref b21), .val (.ref b31), .val (.ref b34), .val (.ref b36), .val (.int (v0_22 p0 p2 p1 p3)), .val (.int (v0_36 p0 p2 p1 p3))] [(.int (v0_37 p0 p2 p1 p3))])) _
          refine XS.ifNo X123.here hx rfl (hb hby at_383) rfl ((if0 _ _).trans (feq hd383_125).1) ?_
          refine XS.iinc X123.here hx rfl (hb hby at_386) rfl (l' := #[.val (.int p0), .val (.int p1), .val (.int p2), .val (.int p3), .val (.long q0), .second, .val (.int (v0_1 p0)), .val (.int (v0_2 p1 p0)), .val (.int (v0_3 p1 p0)), .val (.int (v0_4 p1 p0)), .val (.int (v0_5 p2 p1 p0 p3)), .val (.int (v0_6 p2 p1 p0 p3)), .val (.int (v0_7 p2 p1 p0 p3)), .val (.int (v0_8 p2 p1 p0 p3)), .val (.int (v0_9 p2)), .val (.ref b5), .val (.ref b14), .val (.ref b21), .val (.ref b31), .val (.ref b34), .val (.ref b36), .val (.int (v0_22 p0 p2 p1 p3)), .val (.int ((v0_36 p0 p2 p1 p3) + (-1 : Int32)))]) rfl ?_
          exact k
        )
      obtain ⟨_, _, ⟨T127, L127, k127, n127⟩, -, X127, ⟨Lc127, hQ127, l127, y127, z127⟩, st127⟩ := Jvm.LawKit.callS X123 hx (y := (⟨"com/example/knotwork/knotwork/generate/FreeNumbersFreePinLaw", "ok", "(I[I[II[II)Z"⟩ : MethodName)) hown (mvT hZ (hw _ (List.mem_of_getElem? (i := 57) rfl))) (mvT hZ (hw _ (List.mem_of_getElem? (i := 58) rfl))) (mvT hZ (hw _ (List.mem_of_getElem? (i := 2) rfl))) (mvT hZ (hw _ (List.mem_of_getElem? (i := 59) rfl))) (by decide) (backOf (W := 0) (rm11 l Z a0 hw [] (v0_2 p1 p0) b14 b21 (v0_9 p2) b31 (v0_22 p0 p2 p1 p3) k14 (w0_16 p1 p0) k21 (w0_13 p2 p1 p0 p3) k31 (own_into p0 p1 p2 p3) T52.heap n0 Z52 ((M48.keep Kq52 (ninS ne_b14_b36 (ninS ne_b14_ta (ninS ne_b14_b31 nin0))))) ((M49.keep Kq52 (ninS ne_b21_b36 (ninS ne_b21_ta (ninS ne_b21_b31 nin0))))) (Vr52) (own_hid (own_ra p1 p0))) hZ (hw _ (List.mem_of_getElem? (i := 59) rfl)) (hw _ (List.mem_of_getElem? (i := 2) rfl)) (by decide) (by decide)) (g := (mkF m 401 #[.val (.int p0), .val (.int p1), .val (.int p2), .val (.int p3), .val (.long q0), .second, .val (.int (v0_1 p0)), .val (.int (v0_2 p1 p0)), .val (.int (v0_3 p1 p0)), .val (.int (v0_4 p1 p0)), .val (.int (v0_5 p2 p1 p0 p3)), .val (.int (v0_6 p2 p1 p0 p3)), .val (.int (v0_7 p2 p1 p0 p3)), .val (.int (v0_8 p2 p1 p0 p3)), .val (.int (v0_9 p2)), .val (.ref b5), .val (.ref b14), .val (.ref b21), .val (.ref b31), .val (.ref b34), .val (.ref b36), .val (.int (v0_22 p0 p2 p1 p3)), .val (.int (v0_38 p0 p2 p1 p3))] [(.int (v0_22 p0 p2 p1 p3)), (.ref b31), (.int (v0_9 p2)), (.ref b21), (.ref b14), (.int (v0_2 p1 p0))])) rfl (by rw [hml]; rfl) (argsL := [(.int (v0_2 p1 p0)), (.ref b14), (.ref b21), (.int (v0_9 p2)), (.ref b31), (.int (v0_22 p0 p2 p1 p3))]) (rest := []) (lenOf pd_10 rfl) rfl (by show 2 * 0 + _ ≤ _; exact Nat.le_of_eq rfl) (hb hby at_401) (fun _ _ => ⟨rfl, e123, (by decide : 8 + 0 ≤ _), (by decide : 146 + 0 ≤ _)⟩)
      dsimp only [Pt.U, Pt.locs, Pt.cells, Pt.slots] at X127 l127 y127 z127 st127 hQ127
      rw [l127, y127, z127] at X127
      obtain ⟨rfl, N127q, e127⟩ := hQ127
      have N127 := Fr.app N123 N127q
      have pre128 : ∀ t, Steps p.tables e below (T127.setTop (mkF m 404 #[.val (.int p0), .val (.int p1), .val (.int p2), .val (.int p3), .val (.long q0), .second, .val (.int (v0_1 p0)), .val (.int (v0_2 p1 p0)), .val (.int (v0_3 p1 p0)), .val (.int (v0_4 p1 p0)), .val (.int (v0_5 p2 p1 p0 p3)), .val (.int (v0_6 p2 p1 p0 p3)), .val (.int (v0_7 p2 p1 p0 p3)), .val (.int (v0_8 p2 p1 p0 p3)), .val (.int (v0_9 p2)), .val (.ref b5), .val (.ref b14), .val (.ref b21), .val (.ref b31), .val (.ref b34), .val (.ref b36), .val (.int (v0_22 p0 p2 p1 p3)), .val (.int (v0_38 p0 p2 p1 p3))] [(.int (v0_26 p1 p0 p2 p3))])) t → Steps p.tables e below (s₁.setTop (entryFrame m #[(.int p0), (.int p1), (.int p2), (.int p3), (.long q0)] maxLocals)) t := fun t k => pre126 t (by
        show Steps p.tables e below (T123.setTop (mkF m 389 #[.val (.int p0), .val (.int p1), .val (.int p2), .val (.int p3), .val (.long q0), .second, .val (.int (v0_1 p0)), .val (.int (v0_2 p1 p0)), .val (.int (v0_3 p1 p0)), .val (.int (v0_4 p1 p0)), .val (.int (v0_5 p2 p1 p0 p3)), .val (.int (v0_6 p2 p1 p0 p3)), .val (.int (v0_7 p2 p1 p0 p3)), .val (.int (v0_8 p2 p1 p0 p3)), .val (.int (v0_9 p2)), .val (.ref b5), .val (.ref b14), .val (.ref b21), .val (.ref b31), .val (.ref b34), .val (.ref b36), .val (.int (v0_22 p0 p2 p1 p3)), .val (.int (v0_38 p0 p2 p1 p3))] [])) _
        refine XS.iload X123.here hx rfl (hb hby at_389) rfl ?_
        refine XS.aload X123.here hx rfl (hb hby at_391) rfl rfl ?_
        show Steps p.tables e below (T123.setTop (mkF m 393 #[.val (.int p0), .val (.int p1), .val (.int p2), .val (.int p3), .val (.long q0), .second, .val (.int (v0_1 p0)), .val (.int (v0_2 p1 p0)), .val (.int (v0_3 p1 p0)), .val (.int (v0_4 p1 p0)), .val (.int (v0_5 p2 p1 p0 p3)), .val (.int (v0_6 p2 p1 p0 p3)), .val (.int (v0_7 p2 p1 p0 p3)), .val (.int (v0_8 p2 p1 p0 p3)), .val (.int (v0_9 p2)), .val (.ref b5), .val (.ref b14), .val (.ref b21), .val (.ref b31), .val (.ref b34), .val (.ref b36), .val (.int (v0_22 p0 p2 p1 p3)), .val (.int (v0_38 p0 p2 p1 p3))] [(.ref b14), (.int (v0_2 p1 p0))])) _
        refine XS.aload X123.here hx rfl (hb hby at_393) rfl rfl ?_
        refine XS.iload X123.here hx rfl (hb hby at_395) rfl ?_
        refine XS.aload X123.here hx rfl (hb hby at_397) rfl rfl ?_
        refine XS.iload X123.here hx rfl (hb hby at_399) rfl ?_
        show Steps p.tables e below (T123.setTop (mkF m 401 #[.val (.int p0), .val (.int p1), .val (.int p2), .val (.int p3), .val (.long q0), .second, .val (.int (v0_1 p0)), .val (.int (v0_2 p1 p0)), .val (.int (v0_3 p1 p0)), .val (.int (v0_4 p1 p0)), .val (.int (v0_5 p2 p1 p0 p3)), .val (.int (v0_6 p2 p1 p0 p3)), .val (.int (v0_7 p2 p1 p0 p3)), .val (.int (v0_8 p2 p1 p0 p3)), .val (.int (v0_9 p2)), .val (.ref b5), .val (.ref b14), .val (.ref b21), .val (.ref b31), .val (.ref b34), .val (.ref b36), .val (.int (v0_22 p0 p2 p1 p3)), .val (.int (v0_38 p0 p2 p1 p3))] [(.int (v0_22 p0 p2 p1 p3)), (.ref b31), (.int (v0_9 p2)), (.ref b21), (.ref b14), (.int (v0_2 p1 p0))])) _
        refine st127 _ ?_
        show Steps p.tables e below (T127.setTop (mkF m 404 #[.val (.int p0), .val (.int p1), .val (.int p2), .val (.int p3), .val (.long q0), .second, .val (.int (v0_1 p0)), .val (.int (v0_2 p1 p0)), .val (.int (v0_3 p1 p0)), .val (.int (v0_4 p1 p0)), .val (.int (v0_5 p2 p1 p0 p3)), .val (.int (v0_6 p2 p1 p0 p3)), .val (.int (v0_7 p2 p1 p0 p3)), .val (.int (v0_8 p2 p1 p0 p3)), .val (.int (v0_9 p2)), .val (.ref b5), .val (.ref b14), .val (.ref b21), .val (.ref b31), .val (.ref b34), .val (.ref b36), .val (.int (v0_22 p0 p2 p1 p3)), .val (.int (v0_38 p0 p2 p1 p3))] [(.int (v0_26 p1 p0 p2 p3))])) _
        exact k)
      by_cases hc404_129 : (v0_26 p1 p0 p2 p3) = (0 : Int32)
      · have hv : (f0 p0 p1 p2 p3 q0) = (0 : Int32) := by simp only [f0, if_neg hc347_58, if_neg hc369_93, if_pos hc404_129]
        obtain ⟨fs, hr, hrun, hended, hW, hsame⟩ := X127.leave (v := some (.int (0 : Int32))) (fun h => nomatch (Bd.returns.symm.trans h)) hlk
        refine ⟨_, _, pre128 _ ?_, hrun, hended, _, _, rfl, ?_, ⟨_, rfl⟩, hW, hsame.mono (by decide) (by decide)⟩
        · show Steps p.tables e below (T127.setTop (mkF m 404 #[.val (.int p0), .val (.int p1), .val (.int p2), .val (.int p3), .val (.long q0), .second, .val (.int (v0_1 p0)), .val (.int (v0_2 p1 p0)), .val (.int (v0_3 p1 p0)), .val (.int (v0_4 p1 p0)), .val (.int (v0_5 p2 p1 p0 p3)), .val (.int (v0_6 p2 p1 p0 p3)), .val (.int (v0_7 p2 p1 p0 p3)), .val (.int (v0_8 p2 p1 p0 p3)), .val (.int (v0_9 p2)), .val (.ref b5), .val (.ref b14), .val (.ref b21), .val (.ref b31), .val (.ref b34), .val (.ref b36), .val (.int (v0_22 p0 p2 p1 p3)), .val (.int (v0_38 p0 p2 p1 p3))] [(.int (v0_26 p1 p0 p2 p3))])) _
          refine XS.ifYes X127.here hx rfl (pc0 := 404) (pc' := 544) rfl (hb hby at_404) rfl ((if0 _ _).trans (teq hc404_129).1) (by decide) (by decide) ?_
          refine XS.iconst X127.here hx rfl (hb hby at_544) ?_
          show Steps p.tables e below (T127.setTop (mkF m 545 #[.val (.int p0), .val (.int p1), .val (.int p2), .val (.int p3), .val (.long q0), .second, .val (.int (v0_1 p0)), .val (.int (v0_2 p1 p0)), .val (.int (v0_3 p1 p0)), .val (.int (v0_4 p1 p0)), .val (.int (v0_5 p2 p1 p0 p3)), .val (.int (v0_6 p2 p1 p0 p3)), .val (.int (v0_7 p2 p1 p0 p3)), .val (.int (v0_8 p2 p1 p0 p3)), .val (.int (v0_9 p2)), .val (.ref b5), .val (.ref b14), .val (.ref b21), .val (.ref b31), .val (.ref b34), .val (.ref b36), .val (.int (v0_22 p0 p2 p1 p3)), .val (.int (v0_38 p0 p2 p1 p3))] [(.int (0 : Int32))])) _
          exact retN X127 hx (t := .boolean) Bd.returns (by simp) (hb hby at_545) hr
        · show Q0 Z p0 p1 p2 p3 q0 h0 n0 _ T127.heap _
          rw [e127]
          exact ⟨by rw [hv], N127⟩
      · obtain ⟨_, _, ⟨T130, L130, k130, n130⟩, -, X130, ⟨Lc130, hQ130, l130, y130, z130⟩, st130⟩ := Jvm.LawKit.callS X127 hx (y := (⟨"com/example/knotwork/knotwork/generate/FreeNumbersFreePinLaw", "ok", "(I[I[II[II)Z"⟩ : MethodName)) hown (mvT hZ (hw _ (List.mem_of_getElem? (i := 57) rfl))) (mvT hZ (hw _ (List.mem_of_getElem? (i := 58) rfl))) (mvT hZ (hw _ (List.mem_of_getElem? (i := 2) rfl))) (mvT hZ (hw _ (List.mem_of_getElem? (i := 59) rfl))) (by decide) (backOf (W := 0) (rm11 l Z a0 hw [] (v0_3 p1 p0) b14 b21 (v0_9 p2) b31 (v0_22 p0 p2 p1 p3) k14 (w0_16 p1 p0) k21 (w0_13 p2 p1 p0 p3) k31 (own_into p0 p1 p2 p3) T52.heap n0 Z52 ((M48.keep Kq52 (ninS ne_b14_b36 (ninS ne_b14_ta (ninS ne_b14_b31 nin0))))) ((M49.keep Kq52 (ninS ne_b21_b36 (ninS ne_b21_ta (ninS ne_b21_b31 nin0))))) (Vr52) (own_hid (own_rb p1 p0))) hZ (hw _ (List.mem_of_getElem? (i := 59) rfl)) (hw _ (List.mem_of_getElem? (i := 2) rfl)) (by decide) (by decide)) (g := (mkF m 419 #[.val (.int p0), .val (.int p1), .val (.int p2), .val (.int p3), .val (.long q0), .second, .val (.int (v0_1 p0)), .val (.int (v0_2 p1 p0)), .val (.int (v0_3 p1 p0)), .val (.int (v0_4 p1 p0)), .val (.int (v0_5 p2 p1 p0 p3)), .val (.int (v0_6 p2 p1 p0 p3)), .val (.int (v0_7 p2 p1 p0 p3)), .val (.int (v0_8 p2 p1 p0 p3)), .val (.int (v0_9 p2)), .val (.ref b5), .val (.ref b14), .val (.ref b21), .val (.ref b31), .val (.ref b34), .val (.ref b36), .val (.int (v0_22 p0 p2 p1 p3)), .val (.int (v0_38 p0 p2 p1 p3))] [(.int (v0_22 p0 p2 p1 p3)), (.ref b31), (.int (v0_9 p2)), (.ref b21), (.ref b14), (.int (v0_3 p1 p0))])) rfl (by rw [hml]; rfl) (argsL := [(.int (v0_3 p1 p0)), (.ref b14), (.ref b21), (.int (v0_9 p2)), (.ref b31), (.int (v0_22 p0 p2 p1 p3))]) (rest := []) (lenOf pd_10 rfl) rfl (by show 2 * 0 + _ ≤ _; exact Nat.le_of_eq rfl) (hb hby at_419) (fun _ _ => ⟨rfl, e127, (by decide : 8 + 0 ≤ _), (by decide : 146 + 0 ≤ _)⟩)
        dsimp only [Pt.U, Pt.locs, Pt.cells, Pt.slots] at X130 l130 y130 z130 st130 hQ130
        rw [l130, y130, z130] at X130
        obtain ⟨rfl, N130q, e130⟩ := hQ130
        have N130 := Fr.app N127 N130q
        have pre131 : ∀ t, Steps p.tables e below (T130.setTop (mkF m 422 #[.val (.int p0), .val (.int p1), .val (.int p2), .val (.int p3), .val (.long q0), .second, .val (.int (v0_1 p0)), .val (.int (v0_2 p1 p0)), .val (.int (v0_3 p1 p0)), .val (.int (v0_4 p1 p0)), .val (.int (v0_5 p2 p1 p0 p3)), .val (.int (v0_6 p2 p1 p0 p3)), .val (.int (v0_7 p2 p1 p0 p3)), .val (.int (v0_8 p2 p1 p0 p3)), .val (.int (v0_9 p2)), .val (.ref b5), .val (.ref b14), .val (.ref b21), .val (.ref b31), .val (.ref b34), .val (.ref b36), .val (.int (v0_22 p0 p2 p1 p3)), .val (.int (v0_38 p0 p2 p1 p3))] [(.int (v0_27 p1 p0 p2 p3))])) t → Steps p.tables e below (s₁.setTop (entryFrame m #[(.int p0), (.int p1), (.int p2), (.int p3), (.long q0)] maxLocals)) t := fun t k => pre128 t (by
          show Steps p.tables e below (T127.setTop (mkF m 404 #[.val (.int p0), .val (.int p1), .val (.int p2), .val (.int p3), .val (.long q0), .second, .val (.int (v0_1 p0)), .val (.int (v0_2 p1 p0)), .val (.int (v0_3 p1 p0)), .val (.int (v0_4 p1 p0)), .val (.int (v0_5 p2 p1 p0 p3)), .val (.int (v0_6 p2 p1 p0 p3)), .val (.int (v0_7 p2 p1 p0 p3)), .val (.int (v0_8 p2 p1 p0 p3)), .val (.int (v0_9 p2)), .val (.ref b5), .val (.ref b14), .val (.ref b21), .val (.ref b31), .val (.ref b34), .val (.ref b36), .val (.int (v0_22 p0 p2 p1 p3)), .val (.int (v0_38 p0 p2 p1 p3))] [(.int (v0_26 p1 p0 p2 p3))])) _
          refine XS.ifNo X127.here hx rfl (hb hby at_404) rfl ((if0 _ _).trans (feq hc404_129).1) ?_
          refine XS.iload X127.here hx rfl (hb hby at_407) rfl ?_
          show Steps p.tables e below (T127.setTop (mkF m 409 #[.val (.int p0), .val (.int p1), .val (.int p2), .val (.int p3), .val (.long q0), .second, .val (.int (v0_1 p0)), .val (.int (v0_2 p1 p0)), .val (.int (v0_3 p1 p0)), .val (.int (v0_4 p1 p0)), .val (.int (v0_5 p2 p1 p0 p3)), .val (.int (v0_6 p2 p1 p0 p3)), .val (.int (v0_7 p2 p1 p0 p3)), .val (.int (v0_8 p2 p1 p0 p3)), .val (.int (v0_9 p2)), .val (.ref b5), .val (.ref b14), .val (.ref b21), .val (.ref b31), .val (.ref b34), .val (.ref b36), .val (.int (v0_22 p0 p2 p1 p3)), .val (.int (v0_38 p0 p2 p1 p3))] [(.int (v0_3 p1 p0))])) _
          refine XS.aload X127.here hx rfl (hb hby at_409) rfl rfl ?_
          refine XS.aload X127.here hx rfl (hb hby at_411) rfl rfl ?_
          refine XS.iload X127.here hx rfl (hb hby at_413) rfl ?_
          refine XS.aload X127.here hx rfl (hb hby at_415) rfl rfl ?_
          show Steps p.tables e below (T127.setTop (mkF m 417 #[.val (.int p0), .val (.int p1), .val (.int p2), .val (.int p3), .val (.long q0), .second, .val (.int (v0_1 p0)), .val (.int (v0_2 p1 p0)), .val (.int (v0_3 p1 p0)), .val (.int (v0_4 p1 p0)), .val (.int (v0_5 p2 p1 p0 p3)), .val (.int (v0_6 p2 p1 p0 p3)), .val (.int (v0_7 p2 p1 p0 p3)), .val (.int (v0_8 p2 p1 p0 p3)), .val (.int (v0_9 p2)), .val (.ref b5), .val (.ref b14), .val (.ref b21), .val (.ref b31), .val (.ref b34), .val (.ref b36), .val (.int (v0_22 p0 p2 p1 p3)), .val (.int (v0_38 p0 p2 p1 p3))] [(.ref b31), (.int (v0_9 p2)), (.ref b21), (.ref b14), (.int (v0_3 p1 p0))])) _
          refine XS.iload X127.here hx rfl (hb hby at_417) rfl ?_
          show Steps p.tables e below (T127.setTop (mkF m 419 #[.val (.int p0), .val (.int p1), .val (.int p2), .val (.int p3), .val (.long q0), .second, .val (.int (v0_1 p0)), .val (.int (v0_2 p1 p0)), .val (.int (v0_3 p1 p0)), .val (.int (v0_4 p1 p0)), .val (.int (v0_5 p2 p1 p0 p3)), .val (.int (v0_6 p2 p1 p0 p3)), .val (.int (v0_7 p2 p1 p0 p3)), .val (.int (v0_8 p2 p1 p0 p3)), .val (.int (v0_9 p2)), .val (.ref b5), .val (.ref b14), .val (.ref b21), .val (.ref b31), .val (.ref b34), .val (.ref b36), .val (.int (v0_22 p0 p2 p1 p3)), .val (.int (v0_38 p0 p2 p1 p3))] [(.int (v0_22 p0 p2 p1 p3)), (.ref b31), (.int (v0_9 p2)), (.ref b21), (.ref b14), (.int (v0_3 p1 p0))])) _
          refine st130 _ ?_
          show Steps p.tables e below (T130.setTop (mkF m 422 #[.val (.int p0), .val (.int p1), .val (.int p2), .val (.int p3), .val (.long q0), .second, .val (.int (v0_1 p0)), .val (.int (v0_2 p1 p0)), .val (.int (v0_3 p1 p0)), .val (.int (v0_4 p1 p0)), .val (.int (v0_5 p2 p1 p0 p3)), .val (.int (v0_6 p2 p1 p0 p3)), .val (.int (v0_7 p2 p1 p0 p3)), .val (.int (v0_8 p2 p1 p0 p3)), .val (.int (v0_9 p2)), .val (.ref b5), .val (.ref b14), .val (.ref b21), .val (.ref b31), .val (.ref b34), .val (.ref b36), .val (.int (v0_22 p0 p2 p1 p3)), .val (.int (v0_38 p0 p2 p1 p3))] [(.int (v0_27 p1 p0 p2 p3))])) _
          exact k)
        by_cases hc422_132 : (v0_27 p1 p0 p2 p3) = (0 : Int32)
        · have hv : (f0 p0 p1 p2 p3 q0) = (0 : Int32) := by simp only [f0, if_neg hc347_58, if_neg hc369_93, if_neg hc404_129, if_pos hc422_132]
          obtain ⟨fs, hr, hrun, hended, hW, hsame⟩ := X130.leave (v := some (.int (0 : Int32))) (fun h => nomatch (Bd.returns.symm.trans h)) hlk
          refine ⟨_, _, pre131 _ ?_, hrun, hended, _, _, rfl, ?_, ⟨_, rfl⟩, hW, hsame.mono (by decide) (by decide)⟩
          · show Steps p.tables e below (T130.setTop (mkF m 422 #[.val (.int p0), .val (.int p1), .val (.int p2), .val (.int p3), .val (.long q0), .second, .val (.int (v0_1 p0)), .val (.int (v0_2 p1 p0)), .val (.int (v0_3 p1 p0)), .val (.int (v0_4 p1 p0)), .val (.int (v0_5 p2 p1 p0 p3)), .val (.int (v0_6 p2 p1 p0 p3)), .val (.int (v0_7 p2 p1 p0 p3)), .val (.int (v0_8 p2 p1 p0 p3)), .val (.int (v0_9 p2)), .val (.ref b5), .val (.ref b14), .val (.ref b21), .val (.ref b31), .val (.ref b34), .val (.ref b36), .val (.int (v0_22 p0 p2 p1 p3)), .val (.int (v0_38 p0 p2 p1 p3))] [(.int (v0_27 p1 p0 p2 p3))])) _
            refine XS.ifYes X130.here hx rfl (pc0 := 422) (pc' := 544) rfl (hb hby at_422) rfl ((if0 _ _).trans (teq hc422_132).1) (by decide) (by decide) ?_
            refine XS.iconst X130.here hx rfl (hb hby at_544) ?_
            show Steps p.tables e below (T130.setTop (mkF m 545 #[.val (.int p0), .val (.int p1), .val (.int p2), .val (.int p3), .val (.long q0), .second, .val (.int (v0_1 p0)), .val (.int (v0_2 p1 p0)), .val (.int (v0_3 p1 p0)), .val (.int (v0_4 p1 p0)), .val (.int (v0_5 p2 p1 p0 p3)), .val (.int (v0_6 p2 p1 p0 p3)), .val (.int (v0_7 p2 p1 p0 p3)), .val (.int (v0_8 p2 p1 p0 p3)), .val (.int (v0_9 p2)), .val (.ref b5), .val (.ref b14), .val (.ref b21), .val (.ref b31), .val (.ref b34), .val (.ref b36), .val (.int (v0_22 p0 p2 p1 p3)), .val (.int (v0_38 p0 p2 p1 p3))] [(.int (0 : Int32))])) _
            exact retN X130 hx (t := .boolean) Bd.returns (by simp) (hb hby at_545) hr
          · show Q0 Z p0 p1 p2 p3 q0 h0 n0 _ T130.heap _
            rw [e130]
            exact ⟨by rw [hv], N130⟩
        · obtain ⟨_, _, ⟨T133, L133, k133, n133⟩, -, X133, ⟨Lc133, hQ133, l133, y133, z133⟩, st133⟩ := Jvm.LawKit.callS X130 hx (y := (⟨"com/example/knotwork/knotwork/generate/FreeNumbersFreePinLaw", "ok", "(I[I[II[II)Z"⟩ : MethodName)) hown (mvT hZ (hw _ (List.mem_of_getElem? (i := 57) rfl))) (mvT hZ (hw _ (List.mem_of_getElem? (i := 58) rfl))) (mvT hZ (hw _ (List.mem_of_getElem? (i := 2) rfl))) (mvT hZ (hw _ (List.mem_of_getElem? (i := 59) rfl))) (by decide) (backOf (W := 0) (rm11 l Z a0 hw [] (v0_4 p1 p0) b14 b21 (v0_9 p2) b31 (v0_22 p0 p2 p1 p3) k14 (w0_16 p1 p0) k21 (w0_13 p2 p1 p0 p3) k31 (own_into p0 p1 p2 p3) T52.heap n0 Z52 ((M48.keep Kq52 (ninS ne_b14_b36 (ninS ne_b14_ta (ninS ne_b14_b31 nin0))))) ((M49.keep Kq52 (ninS ne_b21_b36 (ninS ne_b21_ta (ninS ne_b21_b31 nin0))))) (Vr52) (own_hid (own_rc p1 p0))) hZ (hw _ (List.mem_of_getElem? (i := 59) rfl)) (hw _ (List.mem_of_getElem? (i := 2) rfl)) (by decide) (by decide)) (g := (mkF m 437 #[.val (.int p0), .val (.int p1), .val (.int p2), .val (.int p3), .val (.long q0), .second, .val (.int (v0_1 p0)), .val (.int (v0_2 p1 p0)), .val (.int (v0_3 p1 p0)), .val (.int (v0_4 p1 p0)), .val (.int (v0_5 p2 p1 p0 p3)), .val (.int (v0_6 p2 p1 p0 p3)), .val (.int (v0_7 p2 p1 p0 p3)), .val (.int (v0_8 p2 p1 p0 p3)), .val (.int (v0_9 p2)), .val (.ref b5), .val (.ref b14), .val (.ref b21), .val (.ref b31), .val (.ref b34), .val (.ref b36), .val (.int (v0_22 p0 p2 p1 p3)), .val (.int (v0_38 p0 p2 p1 p3))] [(.int (v0_22 p0 p2 p1 p3)), (.ref b31), (.int (v0_9 p2)), (.ref b21), (.ref b14), (.int (v0_4 p1 p0))])) rfl (by rw [hml]; rfl) (argsL := [(.int (v0_4 p1 p0)), (.ref b14), (.ref b21), (.int (v0_9 p2)), (.ref b31), (.int (v0_22 p0 p2 p1 p3))]) (rest := []) (lenOf pd_10 rfl) rfl (by show 2 * 0 + _ ≤ _; exact Nat.le_of_eq rfl) (hb hby at_437) (fun _ _ => ⟨rfl, e130, (by decide : 8 + 0 ≤ _), (by decide : 146 + 0 ≤ _)⟩)
          dsimp only [Pt.U, Pt.locs, Pt.cells, Pt.slots] at X133 l133 y133 z133 st133 hQ133
          rw [l133, y133, z133] at X133
          obtain ⟨rfl, N133q, e133⟩ := hQ133
          have N133 := Fr.app N130 N133q
          have pre134 : ∀ t, Steps p.tables e below (T133.setTop (mkF m 440 #[.val (.int p0), .val (.int p1), .val (.int p2), .val (.int p3), .val (.long q0), .second, .val (.int (v0_1 p0)), .val (.int (v0_2 p1 p0)), .val (.int (v0_3 p1 p0)), .val (.int (v0_4 p1 p0)), .val (.int (v0_5 p2 p1 p0 p3)), .val (.int (v0_6 p2 p1 p0 p3)), .val (.int (v0_7 p2 p1 p0 p3)), .val (.int (v0_8 p2 p1 p0 p3)), .val (.int (v0_9 p2)), .val (.ref b5), .val (.ref b14), .val (.ref b21), .val (.ref b31), .val (.ref b34), .val (.ref b36), .val (.int (v0_22 p0 p2 p1 p3)), .val (.int (v0_38 p0 p2 p1 p3))] [(.int (v0_28 p1 p0 p2 p3))])) t → Steps p.tables e below (s₁.setTop (entryFrame m #[(.int p0), (.int p1), (.int p2), (.int p3), (.long q0)] maxLocals)) t := fun t k => pre131 t (by
            show Steps p.tables e below (T130.setTop (mkF m 422 #[.val (.int p0), .val (.int p1), .val (.int p2), .val (.int p3), .val (.long q0), .second, .val (.int (v0_1 p0)), .val (.int (v0_2 p1 p0)), .val (.int (v0_3 p1 p0)), .val (.int (v0_4 p1 p0)), .val (.int (v0_5 p2 p1 p0 p3)), .val (.int (v0_6 p2 p1 p0 p3)), .val (.int (v0_7 p2 p1 p0 p3)), .val (.int (v0_8 p2 p1 p0 p3)), .val (.int (v0_9 p2)), .val (.ref b5), .val (.ref b14), .val (.ref b21), .val (.ref b31), .val (.ref b34), .val (.ref b36), .val (.int (v0_22 p0 p2 p1 p3)), .val (.int (v0_38 p0 p2 p1 p3))] [(.int (v0_27 p1 p0 p2 p3))])) _
            refine XS.ifNo X130.here hx rfl (hb hby at_422) rfl ((if0 _ _).trans (feq hc422_132).1) ?_
            show Steps p.tables e below (T130.setTop (mkF m 425 #[.val (.int p0), .val (.int p1), .val (.int p2), .val (.int p3), .val (.long q0), .second, .val (.int (v0_1 p0)), .val (.int (v0_2 p1 p0)), .val (.int (v0_3 p1 p0)), .val (.int (v0_4 p1 p0)), .val (.int (v0_5 p2 p1 p0 p3)), .val (.int (v0_6 p2 p1 p0 p3)), .val (.int (v0_7 p2 p1 p0 p3)), .val (.int (v0_8 p2 p1 p0 p3)), .val (.int (v0_9 p2)), .val (.ref b5), .val (.ref b14), .val (.ref b21), .val (.ref b31), .val (.ref b34), .val (.ref b36), .val (.int (v0_22 p0 p2 p1 p3)), .val (.int (v0_38 p0 p2 p1 p3))] [])) _
            refine XS.iload X130.here hx rfl (hb hby at_425) rfl ?_
            refine XS.aload X130.here hx rfl (hb hby at_427) rfl rfl ?_
            refine XS.aload X130.here hx rfl (hb hby at_429) rfl rfl ?_
            refine XS.iload X130.here hx rfl (hb hby at_431) rfl ?_
            show Steps p.tables e below (T130.setTop (mkF m 433 #[.val (.int p0), .val (.int p1), .val (.int p2), .val (.int p3), .val (.long q0), .second, .val (.int (v0_1 p0)), .val (.int (v0_2 p1 p0)), .val (.int (v0_3 p1 p0)), .val (.int (v0_4 p1 p0)), .val (.int (v0_5 p2 p1 p0 p3)), .val (.int (v0_6 p2 p1 p0 p3)), .val (.int (v0_7 p2 p1 p0 p3)), .val (.int (v0_8 p2 p1 p0 p3)), .val (.int (v0_9 p2)), .val (.ref b5), .val (.ref b14), .val (.ref b21), .val (.ref b31), .val (.ref b34), .val (.ref b36), .val (.int (v0_22 p0 p2 p1 p3)), .val (.int (v0_38 p0 p2 p1 p3))] [(.int (v0_9 p2)), (.ref b21), (.ref b14), (.int (v0_4 p1 p0))])) _
            refine XS.aload X130.here hx rfl (hb hby at_433) rfl rfl ?_
            refine XS.iload X130.here hx rfl (hb hby at_435) rfl ?_
            show Steps p.tables e below (T130.setTop (mkF m 437 #[.val (.int p0), .val (.int p1), .val (.int p2), .val (.int p3), .val (.long q0), .second, .val (.int (v0_1 p0)), .val (.int (v0_2 p1 p0)), .val (.int (v0_3 p1 p0)), .val (.int (v0_4 p1 p0)), .val (.int (v0_5 p2 p1 p0 p3)), .val (.int (v0_6 p2 p1 p0 p3)), .val (.int (v0_7 p2 p1 p0 p3)), .val (.int (v0_8 p2 p1 p0 p3)), .val (.int (v0_9 p2)), .val (.ref b5), .val (.ref b14), .val (.ref b21), .val (.ref b31), .val (.ref b34), .val (.ref b36), .val (.int (v0_22 p0 p2 p1 p3)), .val (.int (v0_38 p0 p2 p1 p3))] [(.int (v0_22 p0 p2 p1 p3)), (.ref b31), (.int (v0_9 p2)), (.ref b21), (.ref b14), (.int (v0_4 p1 p0))])) _
            refine st133 _ ?_
            show Steps p.tables e below (T133.setTop (mkF m 440 #[.val (.int p0), .val (.int p1), .val (.int p2), .val (.int p3), .val (.long q0), .second, .val (.int (v0_1 p0)), .val (.int (v0_2 p1 p0)), .val (.int (v0_3 p1 p0)), .val (.int (v0_4 p1 p0)), .val (.int (v0_5 p2 p1 p0 p3)), .val (.int (v0_6 p2 p1 p0 p3)), .val (.int (v0_7 p2 p1 p0 p3)), .val (.int (v0_8 p2 p1 p0 p3)), .val (.int (v0_9 p2)), .val (.ref b5), .val (.ref b14), .val (.ref b21), .val (.ref b31), .val (.ref b34), .val (.ref b36), .val (.int (v0_22 p0 p2 p1 p3)), .val (.int (v0_38 p0 p2 p1 p3))] [(.int (v0_28 p1 p0 p2 p3))])) _
            exact k)
          by_cases hc440_135 : (v0_28 p1 p0 p2 p3) = (0 : Int32)
          · have hv : (f0 p0 p1 p2 p3 q0) = (0 : Int32) := by simp only [f0, if_neg hc347_58, if_neg hc369_93, if_neg hc404_129, if_neg hc422_132, if_pos hc440_135]
            obtain ⟨fs, hr, hrun, hended, hW, hsame⟩ := X133.leave (v := some (.int (0 : Int32))) (fun h => nomatch (Bd.returns.symm.trans h)) hlk
            refine ⟨_, _, pre134 _ ?_, hrun, hended, _, _, rfl, ?_, ⟨_, rfl⟩, hW, hsame.mono (by decide) (by decide)⟩
            · show Steps p.tables e below (T133.setTop (mkF m 440 #[.val (.int p0), .val (.int p1), .val (.int p2), .val (.int p3), .val (.long q0), .second, .val (.int (v0_1 p0)), .val (.int (v0_2 p1 p0)), .val (.int (v0_3 p1 p0)), .val (.int (v0_4 p1 p0)), .val (.int (v0_5 p2 p1 p0 p3)), .val (.int (v0_6 p2 p1 p0 p3)), .val (.int (v0_7 p2 p1 p0 p3)), .val (.int (v0_8 p2 p1 p0 p3)), .val (.int (v0_9 p2)), .val (.ref b5), .val (.ref b14), .val (.ref b21), .val (.ref b31), .val (.ref b34), .val (.ref b36), .val (.int (v0_22 p0 p2 p1 p3)), .val (.int (v0_38 p0 p2 p1 p3))] [(.int (v0_28 p1 p0 p2 p3))])) _
              refine XS.ifYes X133.here hx rfl (pc0 := 440) (pc' := 544) rfl (hb hby at_440) rfl ((if0 _ _).trans (teq hc440_135).1) (by decide) (by decide) ?_
              refine XS.iconst X133.here hx rfl (hb hby at_544) ?_
              show Steps p.tables e below (T133.setTop (mkF m 545 #[.val (.int p0), .val (.int p1), .val (.int p2), .val (.int p3), .val (.long q0), .second, .val (.int (v0_1 p0)), .val (.int (v0_2 p1 p0)), .val (.int (v0_3 p1 p0)), .val (.int (v0_4 p1 p0)), .val (.int (v0_5 p2 p1 p0 p3)), .val (.int (v0_6 p2 p1 p0 p3)), .val (.int (v0_7 p2 p1 p0 p3)), .val (.int (v0_8 p2 p1 p0 p3)), .val (.int (v0_9 p2)), .val (.ref b5), .val (.ref b14), .val (.ref b21), .val (.ref b31), .val (.ref b34), .val (.ref b36), .val (.int (v0_22 p0 p2 p1 p3)), .val (.int (v0_38 p0 p2 p1 p3))] [(.int (0 : Int32))])) _
              exact retN X133 hx (t := .boolean) Bd.returns (by simp) (hb hby at_545) hr
            · show Q0 Z p0 p1 p2 p3 q0 h0 n0 _ T133.heap _
              rw [e133]
              exact ⟨by rw [hv], N133⟩
          · obtain ⟨_, _, ⟨T136, L136, k136, n136⟩, -, X136, ⟨Lc136, hQ136, l136, y136, z136⟩, st136⟩ := Jvm.LawKit.callS X133 hx (y := (⟨"com/example/knotwork/knotwork/generate/FreeNumbersFreePinLaw", "ok", "(I[I[II[II)Z"⟩ : MethodName)) hown (mvT hZ (hw _ (List.mem_of_getElem? (i := 57) rfl))) (mvT hZ (hw _ (List.mem_of_getElem? (i := 58) rfl))) (mvT hZ (hw _ (List.mem_of_getElem? (i := 2) rfl))) (mvT hZ (hw _ (List.mem_of_getElem? (i := 59) rfl))) (by decide) (backOf (W := 0) (rm11 l Z a0 hw [] (v0_5 p2 p1 p0 p3) b14 b21 (v0_9 p2) b31 (v0_22 p0 p2 p1 p3) k14 (w0_16 p1 p0) k21 (w0_13 p2 p1 p0 p3) k31 (own_into p0 p1 p2 p3) T52.heap n0 Z52 ((M48.keep Kq52 (ninS ne_b14_b36 (ninS ne_b14_ta (ninS ne_b14_b31 nin0))))) ((M49.keep Kq52 (ninS ne_b21_b36 (ninS ne_b21_ta (ninS ne_b21_b31 nin0))))) (Vr52) (own_hid (own_rd p0 p1 p2 p3))) hZ (hw _ (List.mem_of_getElem? (i := 59) rfl)) (hw _ (List.mem_of_getElem? (i := 2) rfl)) (by decide) (by decide)) (g := (mkF m 455 #[.val (.int p0), .val (.int p1), .val (.int p2), .val (.int p3), .val (.long q0), .second, .val (.int (v0_1 p0)), .val (.int (v0_2 p1 p0)), .val (.int (v0_3 p1 p0)), .val (.int (v0_4 p1 p0)), .val (.int (v0_5 p2 p1 p0 p3)), .val (.int (v0_6 p2 p1 p0 p3)), .val (.int (v0_7 p2 p1 p0 p3)), .val (.int (v0_8 p2 p1 p0 p3)), .val (.int (v0_9 p2)), .val (.ref b5), .val (.ref b14), .val (.ref b21), .val (.ref b31), .val (.ref b34), .val (.ref b36), .val (.int (v0_22 p0 p2 p1 p3)), .val (.int (v0_38 p0 p2 p1 p3))] [(.int (v0_22 p0 p2 p1 p3)), (.ref b31), (.int (v0_9 p2)), (.ref b21), (.ref b14), (.int (v0_5 p2 p1 p0 p3))])) rfl (by rw [hml]; rfl) (argsL := [(.int (v0_5 p2 p1 p0 p3)), (.ref b14), (.ref b21), (.int (v0_9 p2)), (.ref b31), (.int (v0_22 p0 p2 p1 p3))]) (rest := []) (lenOf pd_10 rfl) rfl (by show 2 * 0 + _ ≤ _; exact Nat.le_of_eq rfl) (hb hby at_455) (fun _ _ => ⟨rfl, e133, (by decide : 8 + 0 ≤ _), (by decide : 146 + 0 ≤ _)⟩)
            dsimp only [Pt.U, Pt.locs, Pt.cells, Pt.slots] at X136 l136 y136 z136 st136 hQ136
            rw [l136, y136, z136] at X136
            obtain ⟨rfl, N136q, e136⟩ := hQ136
            have N136 := Fr.app N133 N136q
            have pre137 : ∀ t, Steps p.tables e below (T136.setTop (mkF m 458 #[.val (.int p0), .val (.int p1), .val (.int p2), .val (.int p3), .val (.long q0), .second, .val (.int (v0_1 p0)), .val (.int (v0_2 p1 p0)), .val (.int (v0_3 p1 p0)), .val (.int (v0_4 p1 p0)), .val (.int (v0_5 p2 p1 p0 p3)), .val (.int (v0_6 p2 p1 p0 p3)), .val (.int (v0_7 p2 p1 p0 p3)), .val (.int (v0_8 p2 p1 p0 p3)), .val (.int (v0_9 p2)), .val (.ref b5), .val (.ref b14), .val (.ref b21), .val (.ref b31), .val (.ref b34), .val (.ref b36), .val (.int (v0_22 p0 p2 p1 p3)), .val (.int (v0_38 p0 p2 p1 p3))] [(.int (v0_29 p2 p1 p0 p3))])) t → Steps p.tables e below (s₁.setTop (entryFrame m #[(.int p0), (.int p1), (.int p2), (.int p3), (.long q0)] maxLocals)) t := fun t k => pre134 t (by
              show Steps p.tables e below (T133.setTop (mkF m 440 #[.val (.int p0), .val (.int p1), .val (.int p2), .val (.int p3), .val (.long q0), .second, .val (.int (v0_1 p0)), .val (.int (v0_2 p1 p0)), .val (.int (v0_3 p1 p0)), .val (.int (v0_4 p1 p0)), .val (.int (v0_5 p2 p1 p0 p3)), .val (.int (v0_6 p2 p1 p0 p3)), .val (.int (v0_7 p2 p1 p0 p3)), .val (.int (v0_8 p2 p1 p0 p3)), .val (.int (v0_9 p2)), .val (.ref b5), .val (.ref b14), .val (.ref b21), .val (.ref b31), .val (.ref b34), .val (.ref b36), .val (.int (v0_22 p0 p2 p1 p3)), .val (.int (v0_38 p0 p2 p1 p3))] [(.int (v0_28 p1 p0 p2 p3))])) _
              refine XS.ifNo X133.here hx rfl (hb hby at_440) rfl ((if0 _ _).trans (feq hc440_135).1) ?_
              refine XS.iload X133.here hx rfl (hb hby at_443) rfl ?_
              refine XS.aload X133.here hx rfl (hb hby at_445) rfl rfl ?_
              refine XS.aload X133.here hx rfl (hb hby at_447) rfl rfl ?_
              show Steps p.tables e below (T133.setTop (mkF m 449 #[.val (.int p0), .val (.int p1), .val (.int p2), .val (.int p3), .val (.long q0), .second, .val (.int (v0_1 p0)), .val (.int (v0_2 p1 p0)), .val (.int (v0_3 p1 p0)), .val (.int (v0_4 p1 p0)), .val (.int (v0_5 p2 p1 p0 p3)), .val (.int (v0_6 p2 p1 p0 p3)), .val (.int (v0_7 p2 p1 p0 p3)), .val (.int (v0_8 p2 p1 p0 p3)), .val (.int (v0_9 p2)), .val (.ref b5), .val (.ref b14), .val (.ref b21), .val (.ref b31), .val (.ref b34), .val (.ref b36), .val (.int (v0_22 p0 p2 p1 p3)), .val (.int (v0_38 p0 p2 p1 p3))] [(.ref b21), (.ref b14), (.int (v0_5 p2 p1 p0 p3))])) _
              refine XS.iload X133.here hx rfl (hb hby at_449) rfl ?_
              refine XS.aload X133.here hx rfl (hb hby at_451) rfl rfl ?_
              refine XS.iload X133.here hx rfl (hb hby at_453) rfl ?_
              show Steps p.tables e below (T133.setTop (mkF m 455 #[.val (.int p0), .val (.int p1), .val (.int p2), .val (.int p3), .val (.long q0), .second, .val (.int (v0_1 p0)), .val (.int (v0_2 p1 p0)), .val (.int (v0_3 p1 p0)), .val (.int (v0_4 p1 p0)), .val (.int (v0_5 p2 p1 p0 p3)), .val (.int (v0_6 p2 p1 p0 p3)), .val (.int (v0_7 p2 p1 p0 p3)), .val (.int (v0_8 p2 p1 p0 p3)), .val (.int (v0_9 p2)), .val (.ref b5), .val (.ref b14), .val (.ref b21), .val (.ref b31), .val (.ref b34), .val (.ref b36), .val (.int (v0_22 p0 p2 p1 p3)), .val (.int (v0_38 p0 p2 p1 p3))] [(.int (v0_22 p0 p2 p1 p3)), (.ref b31), (.int (v0_9 p2)), (.ref b21), (.ref b14), (.int (v0_5 p2 p1 p0 p3))])) _
              refine st136 _ ?_
              show Steps p.tables e below (T136.setTop (mkF m 458 #[.val (.int p0), .val (.int p1), .val (.int p2), .val (.int p3), .val (.long q0), .second, .val (.int (v0_1 p0)), .val (.int (v0_2 p1 p0)), .val (.int (v0_3 p1 p0)), .val (.int (v0_4 p1 p0)), .val (.int (v0_5 p2 p1 p0 p3)), .val (.int (v0_6 p2 p1 p0 p3)), .val (.int (v0_7 p2 p1 p0 p3)), .val (.int (v0_8 p2 p1 p0 p3)), .val (.int (v0_9 p2)), .val (.ref b5), .val (.ref b14), .val (.ref b21), .val (.ref b31), .val (.ref b34), .val (.ref b36), .val (.int (v0_22 p0 p2 p1 p3)), .val (.int (v0_38 p0 p2 p1 p3))] [(.int (v0_29 p2 p1 p0 p3))])) _
              exact k)
            by_cases hc458_138 : (v0_29 p2 p1 p0 p3) = (0 : Int32)
            · have hv : (f0 p0 p1 p2 p3 q0) = (0 : Int32) := by simp only [f0, if_neg hc347_58, if_neg hc369_93, if_neg hc404_129, if_neg hc422_132, if_neg hc440_135, if_pos hc458_138]
              obtain ⟨fs, hr, hrun, hended, hW, hsame⟩ := X136.leave (v := some (.int (0 : Int32))) (fun h => nomatch (Bd.returns.symm.trans h)) hlk
              refine ⟨_, _, pre137 _ ?_, hrun, hended, _, _, rfl, ?_, ⟨_, rfl⟩, hW, hsame.mono (by decide) (by decide)⟩
              · show Steps p.tables e below (T136.setTop (mkF m 458 #[.val (.int p0), .val (.int p1), .val (.int p2), .val (.int p3), .val (.long q0), .second, .val (.int (v0_1 p0)), .val (.int (v0_2 p1 p0)), .val (.int (v0_3 p1 p0)), .val (.int (v0_4 p1 p0)), .val (.int (v0_5 p2 p1 p0 p3)), .val (.int (v0_6 p2 p1 p0 p3)), .val (.int (v0_7 p2 p1 p0 p3)), .val (.int (v0_8 p2 p1 p0 p3)), .val (.int (v0_9 p2)), .val (.ref b5), .val (.ref b14), .val (.ref b21), .val (.ref b31), .val (.ref b34), .val (.ref b36), .val (.int (v0_22 p0 p2 p1 p3)), .val (.int (v0_38 p0 p2 p1 p3))] [(.int (v0_29 p2 p1 p0 p3))])) _
                refine XS.ifYes X136.here hx rfl (pc0 := 458) (pc' := 544) rfl (hb hby at_458) rfl ((if0 _ _).trans (teq hc458_138).1) (by decide) (by decide) ?_
                show Steps p.tables e below (T136.setTop (mkF m 544 #[.val (.int p0), .val (.int p1), .val (.int p2), .val (.int p3), .val (.long q0), .second, .val (.int (v0_1 p0)), .val (.int (v0_2 p1 p0)), .val (.int (v0_3 p1 p0)), .val (.int (v0_4 p1 p0)), .val (.int (v0_5 p2 p1 p0 p3)), .val (.int (v0_6 p2 p1 p0 p3)), .val (.int (v0_7 p2 p1 p0 p3)), .val (.int (v0_8 p2 p1 p0 p3)), .val (.int (v0_9 p2)), .val (.ref b5), .val (.ref b14), .val (.ref b21), .val (.ref b31), .val (.ref b34), .val (.ref b36), .val (.int (v0_22 p0 p2 p1 p3)), .val (.int (v0_38 p0 p2 p1 p3))] [])) _
                refine XS.iconst X136.here hx rfl (hb hby at_544) ?_
                show Steps p.tables e below (T136.setTop (mkF m 545 #[.val (.int p0), .val (.int p1), .val (.int p2), .val (.int p3), .val (.long q0), .second, .val (.int (v0_1 p0)), .val (.int (v0_2 p1 p0)), .val (.int (v0_3 p1 p0)), .val (.int (v0_4 p1 p0)), .val (.int (v0_5 p2 p1 p0 p3)), .val (.int (v0_6 p2 p1 p0 p3)), .val (.int (v0_7 p2 p1 p0 p3)), .val (.int (v0_8 p2 p1 p0 p3)), .val (.int (v0_9 p2)), .val (.ref b5), .val (.ref b14), .val (.ref b21), .val (.ref b31), .val (.ref b34), .val (.ref b36), .val (.int (v0_22 p0 p2 p1 p3)), .val (.int (v0_38 p0 p2 p1 p3))] [(.int (0 : Int32))])) _
                exact retN X136 hx (t := .boolean) Bd.returns (by simp) (hb hby at_545) hr
              · show Q0 Z p0 p1 p2 p3 q0 h0 n0 _ T136.heap _
                rw [e136]
                exact ⟨by rw [hv], N136⟩
            · obtain ⟨_, _, ⟨T139, L139, k139, n139⟩, -, X139, ⟨Lc139, hQ139, l139, y139, z139⟩, st139⟩ := Jvm.LawKit.callS X136 hx (y := (⟨"com/example/knotwork/knotwork/generate/FreeNumbersFreePinLaw", "ok", "(I[I[II[II)Z"⟩ : MethodName)) hown (mvT hZ (hw _ (List.mem_of_getElem? (i := 57) rfl))) (mvT hZ (hw _ (List.mem_of_getElem? (i := 58) rfl))) (mvT hZ (hw _ (List.mem_of_getElem? (i := 2) rfl))) (mvT hZ (hw _ (List.mem_of_getElem? (i := 59) rfl))) (by decide) (backOf (W := 0) (rm11 l Z a0 hw [] (v0_6 p2 p1 p0 p3) b14 b21 (v0_9 p2) b31 (v0_22 p0 p2 p1 p3) k14 (w0_16 p1 p0) k21 (w0_13 p2 p1 p0 p3) k31 (own_into p0 p1 p2 p3) T52.heap n0 Z52 ((M48.keep Kq52 (ninS ne_b14_b36 (ninS ne_b14_ta (ninS ne_b14_b31 nin0))))) ((M49.keep Kq52 (ninS ne_b21_b36 (ninS ne_b21_ta (ninS ne_b21_b31 nin0))))) (Vr52) (own_hid (own_re p0 p1 p2 p3))) hZ (hw _ (List.mem_of_getElem? (i := 59) rfl)) (hw _ (List.mem_of_getElem? (i := 2) rfl)) (by decide) (by decide)) (g := (mkF m 473 #[.val (.int p0), .val (.int p1), .val (.int p2), .val (.int p3), .val (.long q0), .second, .val (.int (v0_1 p0)), .val (.int (v0_2 p1 p0)), .val (.int (v0_3 p1 p0)), .val (.int (v0_4 p1 p0)), .val (.int (v0_5 p2 p1 p0 p3)), .val (.int (v0_6 p2 p1 p0 p3)), .val (.int (v0_7 p2 p1 p0 p3)), .val (.int (v0_8 p2 p1 p0 p3)), .val (.int (v0_9 p2)), .val (.ref b5), .val (.ref b14), .val (.ref b21), .val (.ref b31), .val (.ref b34), .val (.ref b36), .val (.int (v0_22 p0 p2 p1 p3)), .val (.int (v0_38 p0 p2 p1 p3))] [(.int (v0_22 p0 p2 p1 p3)), (.ref b31), (.int (v0_9 p2)), (.ref b21), (.ref b14), (.int (v0_6 p2 p1 p0 p3))])) rfl (by rw [hml]; rfl) (argsL := [(.int (v0_6 p2 p1 p0 p3)), (.ref b14), (.ref b21), (.int (v0_9 p2)), (.ref b31), (.int (v0_22 p0 p2 p1 p3))]) (rest := []) (lenOf pd_10 rfl) rfl (by show 2 * 0 + _ ≤ _; exact Nat.le_of_eq rfl) (hb hby at_473) (fun _ _ => ⟨rfl, e136, (by decide : 8 + 0 ≤ _), (by decide : 146 + 0 ≤ _)⟩)
              dsimp only [Pt.U, Pt.locs, Pt.cells, Pt.slots] at X139 l139 y139 z139 st139 hQ139
              rw [l139, y139, z139] at X139
              obtain ⟨rfl, N139q, e139⟩ := hQ139
              have N139 := Fr.app N136 N139q
              have pre140 : ∀ t, Steps p.tables e below (T139.setTop (mkF m 476 #[.val (.int p0), .val (.int p1), .val (.int p2), .val (.int p3), .val (.long q0), .second, .val (.int (v0_1 p0)), .val (.int (v0_2 p1 p0)), .val (.int (v0_3 p1 p0)), .val (.int (v0_4 p1 p0)), .val (.int (v0_5 p2 p1 p0 p3)), .val (.int (v0_6 p2 p1 p0 p3)), .val (.int (v0_7 p2 p1 p0 p3)), .val (.int (v0_8 p2 p1 p0 p3)), .val (.int (v0_9 p2)), .val (.ref b5), .val (.ref b14), .val (.ref b21), .val (.ref b31), .val (.ref b34), .val (.ref b36), .val (.int (v0_22 p0 p2 p1 p3)), .val (.int (v0_38 p0 p2 p1 p3))] [(.int (v0_30 p2 p1 p0 p3))])) t → Steps p.tables e below (s₁.setTop (entryFrame m #[(.int p0), (.int p1), (.int p2), (.int p3), (.long q0)] maxLocals)) t := fun t k => pre137 t (by
                show Steps p.tables e below (T136.setTop (mkF m 458 #[.val (.int p0), .val (.int p1), .val (.int p2), .val (.int p3), .val (.long q0), .second, .val (.int (v0_1 p0)), .val (.int (v0_2 p1 p0)), .val (.int (v0_3 p1 p0)), .val (.int (v0_4 p1 p0)), .val (.int (v0_5 p2 p1 p0 p3)), .val (.int (v0_6 p2 p1 p0 p3)), .val (.int (v0_7 p2 p1 p0 p3)), .val (.int (v0_8 p2 p1 p0 p3)), .val (.int (v0_9 p2)), .val (.ref b5), .val (.ref b14), .val (.ref b21), .val (.ref b31), .val (.ref b34), .val (.ref b36), .val (.int (v0_22 p0 p2 p1 p3)), .val (.int (v0_38 p0 p2 p1 p3))] [(.int (v0_29 p2 p1 p0 p3))])) _
                refine XS.ifNo X136.here hx rfl (hb hby at_458) rfl ((if0 _ _).trans (feq hc458_138).1) ?_
                refine XS.iload X136.here hx rfl (hb hby at_461) rfl ?_
                refine XS.aload X136.here hx rfl (hb hby at_463) rfl rfl ?_
                show Steps p.tables e below (T136.setTop (mkF m 465 #[.val (.int p0), .val (.int p1), .val (.int p2), .val (.int p3), .val (.long q0), .second, .val (.int (v0_1 p0)), .val (.int (v0_2 p1 p0)), .val (.int (v0_3 p1 p0)), .val (.int (v0_4 p1 p0)), .val (.int (v0_5 p2 p1 p0 p3)), .val (.int (v0_6 p2 p1 p0 p3)), .val (.int (v0_7 p2 p1 p0 p3)), .val (.int (v0_8 p2 p1 p0 p3)), .val (.int (v0_9 p2)), .val (.ref b5), .val (.ref b14), .val (.ref b21), .val (.ref b31), .val (.ref b34), .val (.ref b36), .val (.int (v0_22 p0 p2 p1 p3)), .val (.int (v0_38 p0 p2 p1 p3))] [(.ref b14), (.int (v0_6 p2 p1 p0 p3))])) _
                refine XS.aload X136.here hx rfl (hb hby at_465) rfl rfl ?_
                refine XS.iload X136.here hx rfl (hb hby at_467) rfl ?_
                refine XS.aload X136.here hx rfl (hb hby at_469) rfl rfl ?_
                refine XS.iload X136.here hx rfl (hb hby at_471) rfl ?_
                show Steps p.tables e below (T136.setTop (mkF m 473 #[.val (.int p0), .val (.int p1), .val (.int p2), .val (.int p3), .val (.long q0), .second, .val (.int (v0_1 p0)), .val (.int (v0_2 p1 p0)), .val (.int (v0_3 p1 p0)), .val (.int (v0_4 p1 p0)), .val (.int (v0_5 p2 p1 p0 p3)), .val (.int (v0_6 p2 p1 p0 p3)), .val (.int (v0_7 p2 p1 p0 p3)), .val (.int (v0_8 p2 p1 p0 p3)), .val (.int (v0_9 p2)), .val (.ref b5), .val (.ref b14), .val (.ref b21), .val (.ref b31), .val (.ref b34), .val (.ref b36), .val (.int (v0_22 p0 p2 p1 p3)), .val (.int (v0_38 p0 p2 p1 p3))] [(.int (v0_22 p0 p2 p1 p3)), (.ref b31), (.int (v0_9 p2)), (.ref b21), (.ref b14), (.int (v0_6 p2 p1 p0 p3))])) _
                refine st139 _ ?_
                show Steps p.tables e below (T139.setTop (mkF m 476 #[.val (.int p0), .val (.int p1), .val (.int p2), .val (.int p3), .val (.long q0), .second, .val (.int (v0_1 p0)), .val (.int (v0_2 p1 p0)), .val (.int (v0_3 p1 p0)), .val (.int (v0_4 p1 p0)), .val (.int (v0_5 p2 p1 p0 p3)), .val (.int (v0_6 p2 p1 p0 p3)), .val (.int (v0_7 p2 p1 p0 p3)), .val (.int (v0_8 p2 p1 p0 p3)), .val (.int (v0_9 p2)), .val (.ref b5), .val (.ref b14), .val (.ref b21), .val (.ref b31), .val (.ref b34), .val (.ref b36), .val (.int (v0_22 p0 p2 p1 p3)), .val (.int (v0_38 p0 p2 p1 p3))] [(.int (v0_30 p2 p1 p0 p3))])) _
                exact k)
              by_cases hc476_141 : (v0_30 p2 p1 p0 p3) = (0 : Int32)
              · have hv : (f0 p0 p1 p2 p3 q0) = (0 : Int32) := by simp only [f0, if_neg hc347_58, if_neg hc369_93, if_neg hc404_129, if_neg hc422_132, if_neg hc440_135, if_neg hc458_138, if_pos hc476_141]
                obtain ⟨fs, hr, hrun, hended, hW, hsame⟩ := X139.leave (v := some (.int (0 : Int32))) (fun h => nomatch (Bd.returns.symm.trans h)) hlk
                refine ⟨_, _, pre140 _ ?_, hrun, hended, _, _, rfl, ?_, ⟨_, rfl⟩, hW, hsame.mono (by decide) (by decide)⟩
                · show Steps p.tables e below (T139.setTop (mkF m 476 #[.val (.int p0), .val (.int p1), .val (.int p2), .val (.int p3), .val (.long q0), .second, .val (.int (v0_1 p0)), .val (.int (v0_2 p1 p0)), .val (.int (v0_3 p1 p0)), .val (.int (v0_4 p1 p0)), .val (.int (v0_5 p2 p1 p0 p3)), .val (.int (v0_6 p2 p1 p0 p3)), .val (.int (v0_7 p2 p1 p0 p3)), .val (.int (v0_8 p2 p1 p0 p3)), .val (.int (v0_9 p2)), .val (.ref b5), .val (.ref b14), .val (.ref b21), .val (.ref b31), .val (.ref b34), .val (.ref b36), .val (.int (v0_22 p0 p2 p1 p3)), .val (.int (v0_38 p0 p2 p1 p3))] [(.int (v0_30 p2 p1 p0 p3))])) _
                  refine XS.ifYes X139.here hx rfl (pc0 := 476) (pc' := 544) rfl (hb hby at_476) rfl ((if0 _ _).trans (teq hc476_141).1) (by decide) (by decide) ?_
                  refine XS.iconst X139.here hx rfl (hb hby at_544) ?_
                  show Steps p.tables e below (T139.setTop (mkF m 545 #[.val (.int p0), .val (.int p1), .val (.int p2), .val (.int p3), .val (.long q0), .second, .val (.int (v0_1 p0)), .val (.int (v0_2 p1 p0)), .val (.int (v0_3 p1 p0)), .val (.int (v0_4 p1 p0)), .val (.int (v0_5 p2 p1 p0 p3)), .val (.int (v0_6 p2 p1 p0 p3)), .val (.int (v0_7 p2 p1 p0 p3)), .val (.int (v0_8 p2 p1 p0 p3)), .val (.int (v0_9 p2)), .val (.ref b5), .val (.ref b14), .val (.ref b21), .val (.ref b31), .val (.ref b34), .val (.ref b36), .val (.int (v0_22 p0 p2 p1 p3)), .val (.int (v0_38 p0 p2 p1 p3))] [(.int (0 : Int32))])) _
                  exact retN X139 hx (t := .boolean) Bd.returns (by simp) (hb hby at_545) hr
                · show Q0 Z p0 p1 p2 p3 q0 h0 n0 _ T139.heap _
                  rw [e139]
                  exact ⟨by rw [hv], N139⟩
              · obtain ⟨_, _, ⟨T142, L142, k142, n142⟩, -, X142, ⟨Lc142, hQ142, l142, y142, z142⟩, st142⟩ := Jvm.LawKit.callS X139 hx (y := (⟨"com/example/knotwork/knotwork/generate/FreeNumbersFreePinLaw", "ok", "(I[I[II[II)Z"⟩ : MethodName)) hown (mvT hZ (hw _ (List.mem_of_getElem? (i := 57) rfl))) (mvT hZ (hw _ (List.mem_of_getElem? (i := 58) rfl))) (mvT hZ (hw _ (List.mem_of_getElem? (i := 2) rfl))) (mvT hZ (hw _ (List.mem_of_getElem? (i := 59) rfl))) (by decide) (backOf (W := 0) (rm11 l Z a0 hw [] (v0_7 p2 p1 p0 p3) b14 b21 (v0_9 p2) b31 (v0_22 p0 p2 p1 p3) k14 (w0_16 p1 p0) k21 (w0_13 p2 p1 p0 p3) k31 (own_into p0 p1 p2 p3) T52.heap n0 Z52 ((M48.keep Kq52 (ninS ne_b14_b36 (ninS ne_b14_ta (ninS ne_b14_b31 nin0))))) ((M49.keep Kq52 (ninS ne_b21_b36 (ninS ne_b21_ta (ninS ne_b21_b31 nin0))))) (Vr52) (own_hid (own_rf p0 p1 p2 p3))) hZ (hw _ (List.mem_of_getElem? (i := 59) rfl)) (hw _ (List.mem_of_getElem? (i := 2) rfl)) (by decide) (by decide)) (g := (mkF m 491 #[.val (.int p0), .val (.int p1), .val (.int p2), .val (.int p3), .val (.long q0), .second, .val (.int (v0_1 p0)), .val (.int (v0_2 p1 p0)), .val (.int (v0_3 p1 p0)), .val (.int (v0_4 p1 p0)), .val (.int (v0_5 p2 p1 p0 p3)), .val (.int (v0_6 p2 p1 p0 p3)), .val (.int (v0_7 p2 p1 p0 p3)), .val (.int (v0_8 p2 p1 p0 p3)), .val (.int (v0_9 p2)), .val (.ref b5), .val (.ref b14), .val (.ref b21), .val (.ref b31), .val (.ref b34), .val (.ref b36), .val (.int (v0_22 p0 p2 p1 p3)), .val (.int (v0_38 p0 p2 p1 p3))] [(.int (v0_22 p0 p2 p1 p3)), (.ref b31), (.int (v0_9 p2)), (.ref b21), (.ref b14), (.int (v0_7 p2 p1 p0 p3))])) rfl (by rw [hml]; rfl) (argsL := [(.int (v0_7 p2 p1 p0 p3)), (.ref b14), (.ref b21), (.int (v0_9 p2)), (.ref b31), (.int (v0_22 p0 p2 p1 p3))]) (rest := []) (lenOf pd_10 rfl) rfl (by show 2 * 0 + _ ≤ _; exact Nat.le_of_eq rfl) (hb hby at_491) (fun _ _ => ⟨rfl, e139, (by decide : 8 + 0 ≤ _), (by decide : 146 + 0 ≤ _)⟩)
                dsimp only [Pt.U, Pt.locs, Pt.cells, Pt.slots] at X142 l142 y142 z142 st142 hQ142
                rw [l142, y142, z142] at X142
                obtain ⟨rfl, N142q, e142⟩ := hQ142
                have N142 := Fr.app N139 N142q
                have pre143 : ∀ t, Steps p.tables e below (T142.setTop (mkF m 494 #[.val (.int p0), .val (.int p1), .val (.int p2), .val (.int p3), .val (.long q0), .second, .val (.int (v0_1 p0)), .val (.int (v0_2 p1 p0)), .val (.int (v0_3 p1 p0)), .val (.int (v0_4 p1 p0)), .val (.int (v0_5 p2 p1 p0 p3)), .val (.int (v0_6 p2 p1 p0 p3)), .val (.int (v0_7 p2 p1 p0 p3)), .val (.int (v0_8 p2 p1 p0 p3)), .val (.int (v0_9 p2)), .val (.ref b5), .val (.ref b14), .val (.ref b21), .val (.ref b31), .val (.ref b34), .val (.ref b36), .val (.int (v0_22 p0 p2 p1 p3)), .val (.int (v0_38 p0 p2 p1 p3))] [(.int (v0_31 p2 p1 p0 p3))])) t → Steps p.tables e below (s₁.setTop (entryFrame m #[(.int p0), (.int p1), (.int p2), (.int p3), (.long q0)] maxLocals)) t := fun t k => pre140 t (by
                  show Steps p.tables e below (T139.setTop (mkF m 476 #[.val (.int p0), .val (.int p1), .val (.int p2), .val (.int p3), .val (.long q0), .second, .val (.int (v0_1 p0)), .val (.int (v0_2 p1 p0)), .val (.int (v0_3 p1 p0)), .val (.int (v0_4 p1 p0)), .val (.int (v0_5 p2 p1 p0 p3)), .val (.int (v0_6 p2 p1 p0 p3)), .val (.int (v0_7 p2 p1 p0 p3)), .val (.int (v0_8 p2 p1 p0 p3)), .val (.int (v0_9 p2)), .val (.ref b5), .val (.ref b14), .val (.ref b21), .val (.ref b31), .val (.ref b34), .val (.ref b36), .val (.int (v0_22 p0 p2 p1 p3)), .val (.int (v0_38 p0 p2 p1 p3))] [(.int (v0_30 p2 p1 p0 p3))])) _
                  refine XS.ifNo X139.here hx rfl (hb hby at_476) rfl ((if0 _ _).trans (feq hc476_141).1) ?_
                  refine XS.iload X139.here hx rfl (hb hby at_479) rfl ?_
                  show Steps p.tables e below (T139.setTop (mkF m 481 #[.val (.int p0), .val (.int p1), .val (.int p2), .val (.int p3), .val (.long q0), .second, .val (.int (v0_1 p0)), .val (.int (v0_2 p1 p0)), .val (.int (v0_3 p1 p0)), .val (.int (v0_4 p1 p0)), .val (.int (v0_5 p2 p1 p0 p3)), .val (.int (v0_6 p2 p1 p0 p3)), .val (.int (v0_7 p2 p1 p0 p3)), .val (.int (v0_8 p2 p1 p0 p3)), .val (.int (v0_9 p2)), .val (.ref b5), .val (.ref b14), .val (.ref b21), .val (.ref b31), .val (.ref b34), .val (.ref b36), .val (.int (v0_22 p0 p2 p1 p3)), .val (.int (v0_38 p0 p2 p1 p3))] [(.int (v0_7 p2 p1 p0 p3))])) _
                  refine XS.aload X139.here hx rfl (hb hby at_481) rfl rfl ?_
                  refine XS.aload X139.here hx rfl (hb hby at_483) rfl rfl ?_
                  refine XS.iload X139.here hx rfl (hb hby at_485) rfl ?_
                  refine XS.aload X139.here hx rfl (hb hby at_487) rfl rfl ?_
                  show Steps p.tables e below (T139.setTop (mkF m 489 #[.val (.int p0), .val (.int p1), .val (.int p2), .val (.int p3), .val (.long q0), .second, .val (.int (v0_1 p0)), .val (.int (v0_2 p1 p0)), .val (.int (v0_3 p1 p0)), .val (.int (v0_4 p1 p0)), .val (.int (v0_5 p2 p1 p0 p3)), .val (.int (v0_6 p2 p1 p0 p3)), .val (.int (v0_7 p2 p1 p0 p3)), .val (.int (v0_8 p2 p1 p0 p3)), .val (.int (v0_9 p2)), .val (.ref b5), .val (.ref b14), .val (.ref b21), .val (.ref b31), .val (.ref b34), .val (.ref b36), .val (.int (v0_22 p0 p2 p1 p3)), .val (.int (v0_38 p0 p2 p1 p3))] [(.ref b31), (.int (v0_9 p2)), (.ref b21), (.ref b14), (.int (v0_7 p2 p1 p0 p3))])) _
                  refine XS.iload X139.here hx rfl (hb hby at_489) rfl ?_
                  show Steps p.tables e below (T139.setTop (mkF m 491 #[.val (.int p0), .val (.int p1), .val (.int p2), .val (.int p3), .val (.long q0), .second, .val (.int (v0_1 p0)), .val (.int (v0_2 p1 p0)), .val (.int (v0_3 p1 p0)), .val (.int (v0_4 p1 p0)), .val (.int (v0_5 p2 p1 p0 p3)), .val (.int (v0_6 p2 p1 p0 p3)), .val (.int (v0_7 p2 p1 p0 p3)), .val (.int (v0_8 p2 p1 p0 p3)), .val (.int (v0_9 p2)), .val (.ref b5), .val (.ref b14), .val (.ref b21), .val (.ref b31), .val (.ref b34), .val (.ref b36), .val (.int (v0_22 p0 p2 p1 p3)), .val (.int (v0_38 p0 p2 p1 p3))] [(.int (v0_22 p0 p2 p1 p3)), (.ref b31), (.int (v0_9 p2)), (.ref b21), (.ref b14), (.int (v0_7 p2 p1 p0 p3))])) _
                  refine st142 _ ?_
                  show Steps p.tables e below (T142.setTop (mkF m 494 #[.val (.int p0), .val (.int p1), .val (.int p2), .val (.int p3), .val (.long q0), .second, .val (.int (v0_1 p0)), .val (.int (v0_2 p1 p0)), .val (.int (v0_3 p1 p0)), .val (.int (v0_4 p1 p0)), .val (.int (v0_5 p2 p1 p0 p3)), .val (.int (v0_6 p2 p1 p0 p3)), .val (.int (v0_7 p2 p1 p0 p3)), .val (.int (v0_8 p2 p1 p0 p3)), .val (.int (v0_9 p2)), .val (.ref b5), .val (.ref b14), .val (.ref b21), .val (.ref b31), .val (.ref b34), .val (.ref b36), .val (.int (v0_22 p0 p2 p1 p3)), .val (.int (v0_38 p0 p2 p1 p3))] [(.int (v0_31 p2 p1 p0 p3))])) _
                  exact k)
                by_cases hc494_144 : (v0_31 p2 p1 p0 p3) = (0 : Int32)
                · have hv : (f0 p0 p1 p2 p3 q0) = (0 : Int32) := by simp only [f0, if_neg hc347_58, if_neg hc369_93, if_neg hc404_129, if_neg hc422_132, if_neg hc440_135, if_neg hc458_138, if_neg hc476_141, if_pos hc494_144]
                  obtain ⟨fs, hr, hrun, hended, hW, hsame⟩ := X142.leave (v := some (.int (0 : Int32))) (fun h => nomatch (Bd.returns.symm.trans h)) hlk
                  refine ⟨_, _, pre143 _ ?_, hrun, hended, _, _, rfl, ?_, ⟨_, rfl⟩, hW, hsame.mono (by decide) (by decide)⟩
                  · show Steps p.tables e below (T142.setTop (mkF m 494 #[.val (.int p0), .val (.int p1), .val (.int p2), .val (.int p3), .val (.long q0), .second, .val (.int (v0_1 p0)), .val (.int (v0_2 p1 p0)), .val (.int (v0_3 p1 p0)), .val (.int (v0_4 p1 p0)), .val (.int (v0_5 p2 p1 p0 p3)), .val (.int (v0_6 p2 p1 p0 p3)), .val (.int (v0_7 p2 p1 p0 p3)), .val (.int (v0_8 p2 p1 p0 p3)), .val (.int (v0_9 p2)), .val (.ref b5), .val (.ref b14), .val (.ref b21), .val (.ref b31), .val (.ref b34), .val (.ref b36), .val (.int (v0_22 p0 p2 p1 p3)), .val (.int (v0_38 p0 p2 p1 p3))] [(.int (v0_31 p2 p1 p0 p3))])) _
                    refine XS.ifYes X142.here hx rfl (pc0 := 494) (pc' := 544) rfl (hb hby at_494) rfl ((if0 _ _).trans (teq hc494_144).1) (by decide) (by decide) ?_
                    refine XS.iconst X142.here hx rfl (hb hby at_544) ?_
                    show Steps p.tables e below (T142.setTop (mkF m 545 #[.val (.int p0), .val (.int p1), .val (.int p2), .val (.int p3), .val (.long q0), .second, .val (.int (v0_1 p0)), .val (.int (v0_2 p1 p0)), .val (.int (v0_3 p1 p0)), .val (.int (v0_4 p1 p0)), .val (.int (v0_5 p2 p1 p0 p3)), .val (.int (v0_6 p2 p1 p0 p3)), .val (.int (v0_7 p2 p1 p0 p3)), .val (.int (v0_8 p2 p1 p0 p3)), .val (.int (v0_9 p2)), .val (.ref b5), .val (.ref b14), .val (.ref b21), .val (.ref b31), .val (.ref b34), .val (.ref b36), .val (.int (v0_22 p0 p2 p1 p3)), .val (.int (v0_38 p0 p2 p1 p3))] [(.int (0 : Int32))])) _
                    exact retN X142 hx (t := .boolean) Bd.returns (by simp) (hb hby at_545) hr
                  · show Q0 Z p0 p1 p2 p3 q0 h0 n0 _ T142.heap _
                    rw [e142]
                    exact ⟨by rw [hv], N142⟩
                · obtain ⟨_, _, ⟨T145, L145, k145, n145⟩, -, X145, ⟨Lc145, hQ145, l145, y145, z145⟩, st145⟩ := Jvm.LawKit.callS X142 hx (y := (⟨"com/example/knotwork/knotwork/generate/FreeNumbersFreePinLaw", "ok", "(I[I[II[II)Z"⟩ : MethodName)) hown (mvT hZ (hw _ (List.mem_of_getElem? (i := 57) rfl))) (mvT hZ (hw _ (List.mem_of_getElem? (i := 58) rfl))) (mvT hZ (hw _ (List.mem_of_getElem? (i := 2) rfl))) (mvT hZ (hw _ (List.mem_of_getElem? (i := 59) rfl))) (by decide) (backOf (W := 0) (rm11 l Z a0 hw [] (v0_8 p2 p1 p0 p3) b14 b21 (v0_9 p2) b31 (v0_22 p0 p2 p1 p3) k14 (w0_16 p1 p0) k21 (w0_13 p2 p1 p0 p3) k31 (own_into p0 p1 p2 p3) T52.heap n0 Z52 ((M48.keep Kq52 (ninS ne_b14_b36 (ninS ne_b14_ta (ninS ne_b14_b31 nin0))))) ((M49.keep Kq52 (ninS ne_b21_b36 (ninS ne_b21_ta (ninS ne_b21_b31 nin0))))) (Vr52) (own_hid (own_rg p0 p1 p2 p3))) hZ (hw _ (List.mem_of_getElem? (i := 59) rfl)) (hw _ (List.mem_of_getElem? (i := 2) rfl)) (by decide) (by decide)) (g := (mkF m 509 #[.val (.int p0), .val (.int p1), .val (.int p2), .val (.int p3), .val (.long q0), .second, .val (.int (v0_1 p0)), .val (.int (v0_2 p1 p0)), .val (.int (v0_3 p1 p0)), .val (.int (v0_4 p1 p0)), .val (.int (v0_5 p2 p1 p0 p3)), .val (.int (v0_6 p2 p1 p0 p3)), .val (.int (v0_7 p2 p1 p0 p3)), .val (.int (v0_8 p2 p1 p0 p3)), .val (.int (v0_9 p2)), .val (.ref b5), .val (.ref b14), .val (.ref b21), .val (.ref b31), .val (.ref b34), .val (.ref b36), .val (.int (v0_22 p0 p2 p1 p3)), .val (.int (v0_38 p0 p2 p1 p3))] [(.int (v0_22 p0 p2 p1 p3)), (.ref b31), (.int (v0_9 p2)), (.ref b21), (.ref b14), (.int (v0_8 p2 p1 p0 p3))])) rfl (by rw [hml]; rfl) (argsL := [(.int (v0_8 p2 p1 p0 p3)), (.ref b14), (.ref b21), (.int (v0_9 p2)), (.ref b31), (.int (v0_22 p0 p2 p1 p3))]) (rest := []) (lenOf pd_10 rfl) rfl (by show 2 * 0 + _ ≤ _; exact Nat.le_of_eq rfl) (hb hby at_509) (fun _ _ => ⟨rfl, e142, (by decide : 8 + 0 ≤ _), (by decide : 146 + 0 ≤ _)⟩)
                  dsimp only [Pt.U, Pt.locs, Pt.cells, Pt.slots] at X145 l145 y145 z145 st145 hQ145
                  rw [l145, y145, z145] at X145
                  obtain ⟨rfl, N145q, e145⟩ := hQ145
                  have N145 := Fr.app N142 N145q
                  have pre146 : ∀ t, Steps p.tables e below (T145.setTop (mkF m 512 #[.val (.int p0), .val (.int p1), .val (.int p2), .val (.int p3), .val (.long q0), .second, .val (.int (v0_1 p0)), .val (.int (v0_2 p1 p0)), .val (.int (v0_3 p1 p0)), .val (.int (v0_4 p1 p0)), .val (.int (v0_5 p2 p1 p0 p3)), .val (.int (v0_6 p2 p1 p0 p3)), .val (.int (v0_7 p2 p1 p0 p3)), .val (.int (v0_8 p2 p1 p0 p3)), .val (.int (v0_9 p2)), .val (.ref b5), .val (.ref b14), .val (.ref b21), .val (.ref b31), .val (.ref b34), .val (.ref b36), .val (.int (v0_22 p0 p2 p1 p3)), .val (.int (v0_38 p0 p2 p1 p3))] [(.int (v0_32 p2 p1 p0 p3))])) t → Steps p.tables e below (s₁.setTop (entryFrame m #[(.int p0), (.int p1), (.int p2), (.int p3), (.long q0)] maxLocals)) t := fun t k => pre143 t (by
                    show Steps p.tables e below (T142.setTop (mkF m 494 #[.val (.int p0), .val (.int p1), .val (.int p2), .val (.int p3), .val (.long q0), .second, .val (.int (v0_1 p0)), .val (.int (v0_2 p1 p0)), .val (.int (v0_3 p1 p0)), .val (.int (v0_4 p1 p0)), .val (.int (v0_5 p2 p1 p0 p3)), .val (.int (v0_6 p2 p1 p0 p3)), .val (.int (v0_7 p2 p1 p0 p3)), .val (.int (v0_8 p2 p1 p0 p3)), .val (.int (v0_9 p2)), .val (.ref b5), .val (.ref b14), .val (.ref b21), .val (.ref b31), .val (.ref b34), .val (.ref b36), .val (.int (v0_22 p0 p2 p1 p3)), .val (.int (v0_38 p0 p2 p1 p3))] [(.int (v0_31 p2 p1 p0 p3))])) _
                    refine XS.ifNo X142.here hx rfl (hb hby at_494) rfl ((if0 _ _).trans (feq hc494_144).1) ?_
                    show Steps p.tables e below (T142.setTop (mkF m 497 #[.val (.int p0), .val (.int p1), .val (.int p2), .val (.int p3), .val (.long q0), .second, .val (.int (v0_1 p0)), .val (.int (v0_2 p1 p0)), .val (.int (v0_3 p1 p0)), .val (.int (v0_4 p1 p0)), .val (.int (v0_5 p2 p1 p0 p3)), .val (.int (v0_6 p2 p1 p0 p3)), .val (.int (v0_7 p2 p1 p0 p3)), .val (.int (v0_8 p2 p1 p0 p3)), .val (.int (v0_9 p2)), .val (.ref b5), .val (.ref b14), .val (.ref b21), .val (.ref b31), .val (.ref b34), .val (.ref b36), .val (.int (v0_22 p0 p2 p1 p3)), .val (.int (v0_38 p0 p2 p1 p3))] [])) _
                    refine XS.iload X142.here hx rfl (hb hby at_497) rfl ?_
                    refine XS.aload X142.here hx rfl (hb hby at_499) rfl rfl ?_
                    refine XS.aload X142.here hx rfl (hb hby at_501) rfl rfl ?_
                    refine XS.iload X142.here hx rfl (hb hby at_503) rfl ?_
                    show Steps p.tables e below (T142.setTop (mkF m 505 #[.val (.int p0), .val (.int p1), .val (.int p2), .val (.int p3), .val (.long q0), .second, .val (.int (v0_1 p0)), .val (.int (v0_2 p1 p0)), .val (.int (v0_3 p1 p0)), .val (.int (v0_4 p1 p0)), .val (.int (v0_5 p2 p1 p0 p3)), .val (.int (v0_6 p2 p1 p0 p3)), .val (.int (v0_7 p2 p1 p0 p3)), .val (.int (v0_8 p2 p1 p0 p3)), .val (.int (v0_9 p2)), .val (.ref b5), .val (.ref b14), .val (.ref b21), .val (.ref b31), .val (.ref b34), .val (.ref b36), .val (.int (v0_22 p0 p2 p1 p3)), .val (.int (v0_38 p0 p2 p1 p3))] [(.int (v0_9 p2)), (.ref b21), (.ref b14), (.int (v0_8 p2 p1 p0 p3))])) _
                    refine XS.aload X142.here hx rfl (hb hby at_505) rfl rfl ?_
                    refine XS.iload X142.here hx rfl (hb hby at_507) rfl ?_
                    show Steps p.tables e below (T142.setTop (mkF m 509 #[.val (.int p0), .val (.int p1), .val (.int p2), .val (.int p3), .val (.long q0), .second, .val (.int (v0_1 p0)), .val (.int (v0_2 p1 p0)), .val (.int (v0_3 p1 p0)), .val (.int (v0_4 p1 p0)), .val (.int (v0_5 p2 p1 p0 p3)), .val (.int (v0_6 p2 p1 p0 p3)), .val (.int (v0_7 p2 p1 p0 p3)), .val (.int (v0_8 p2 p1 p0 p3)), .val (.int (v0_9 p2)), .val (.ref b5), .val (.ref b14), .val (.ref b21), .val (.ref b31), .val (.ref b34), .val (.ref b36), .val (.int (v0_22 p0 p2 p1 p3)), .val (.int (v0_38 p0 p2 p1 p3))] [(.int (v0_22 p0 p2 p1 p3)), (.ref b31), (.int (v0_9 p2)), (.ref b21), (.ref b14), (.int (v0_8 p2 p1 p0 p3))])) _
                    refine st145 _ ?_
                    show Steps p.tables e below (T145.setTop (mkF m 512 #[.val (.int p0), .val (.int p1), .val (.int p2), .val (.int p3), .val (.long q0), .second, .val (.int (v0_1 p0)), .val (.int (v0_2 p1 p0)), .val (.int (v0_3 p1 p0)), .val (.int (v0_4 p1 p0)), .val (.int (v0_5 p2 p1 p0 p3)), .val (.int (v0_6 p2 p1 p0 p3)), .val (.int (v0_7 p2 p1 p0 p3)), .val (.int (v0_8 p2 p1 p0 p3)), .val (.int (v0_9 p2)), .val (.ref b5), .val (.ref b14), .val (.ref b21), .val (.ref b31), .val (.ref b34), .val (.ref b36), .val (.int (v0_22 p0 p2 p1 p3)), .val (.int (v0_38 p0 p2 p1 p3))] [(.int (v0_32 p2 p1 p0 p3))])) _
                    exact k)
                  by_cases hc512_147 : (v0_32 p2 p1 p0 p3) = (0 : Int32)
                  · have hv : (f0 p0 p1 p2 p3 q0) = (0 : Int32) := by simp only [f0, if_neg hc347_58, if_neg hc369_93, if_neg hc404_129, if_neg hc422_132, if_neg hc440_135, if_neg hc458_138, if_neg hc476_141, if_neg hc494_144, if_pos hc512_147]
                    obtain ⟨fs, hr, hrun, hended, hW, hsame⟩ := X145.leave (v := some (.int (0 : Int32))) (fun h => nomatch (Bd.returns.symm.trans h)) hlk
                    refine ⟨_, _, pre146 _ ?_, hrun, hended, _, _, rfl, ?_, ⟨_, rfl⟩, hW, hsame.mono (by decide) (by decide)⟩
                    · show Steps p.tables e below (T145.setTop (mkF m 512 #[.val (.int p0), .val (.int p1), .val (.int p2), .val (.int p3), .val (.long q0), .second, .val (.int (v0_1 p0)), .val (.int (v0_2 p1 p0)), .val (.int (v0_3 p1 p0)), .val (.int (v0_4 p1 p0)), .val (.int (v0_5 p2 p1 p0 p3)), .val (.int (v0_6 p2 p1 p0 p3)), .val (.int (v0_7 p2 p1 p0 p3)), .val (.int (v0_8 p2 p1 p0 p3)), .val (.int (v0_9 p2)), .val (.ref b5), .val (.ref b14), .val (.ref b21), .val (.ref b31), .val (.ref b34), .val (.ref b36), .val (.int (v0_22 p0 p2 p1 p3)), .val (.int (v0_38 p0 p2 p1 p3))] [(.int (v0_32 p2 p1 p0 p3))])) _
                      refine XS.ifYes X145.here hx rfl (pc0 := 512) (pc' := 544) rfl (hb hby at_512) rfl ((if0 _ _).trans (teq hc512_147).1) (by decide) (by decide) ?_
                      refine XS.iconst X145.here hx rfl (hb hby at_544) ?_
                      show Steps p.tables e below (T145.setTop (mkF m 545 #[.val (.int p0), .val (.int p1), .val (.int p2), .val (.int p3), .val (.long q0), .second, .val (.int (v0_1 p0)), .val (.int (v0_2 p1 p0)), .val (.int (v0_3 p1 p0)), .val (.int (v0_4 p1 p0)), .val (.int (v0_5 p2 p1 p0 p3)), .val (.int (v0_6 p2 p1 p0 p3)), .val (.int (v0_7 p2 p1 p0 p3)), .val (.int (v0_8 p2 p1 p0 p3)), .val (.int (v0_9 p2)), .val (.ref b5), .val (.ref b14), .val (.ref b21), .val (.ref b31), .val (.ref b34), .val (.ref b36), .val (.int (v0_22 p0 p2 p1 p3)), .val (.int (v0_38 p0 p2 p1 p3))] [(.int (0 : Int32))])) _
                      exact retN X145 hx (t := .boolean) Bd.returns (by simp) (hb hby at_545) hr
                    · show Q0 Z p0 p1 p2 p3 q0 h0 n0 _ T145.heap _
                      rw [e145]
                      exact ⟨by rw [hv], N145⟩
                  · have pre148 : ∀ t, Steps p.tables e below (T145.setTop (mkF m 517 #[.val (.int p0), .val (.int p1), .val (.int p2), .val (.int p3), .val (.long q0), .second, .val (.int (v0_1 p0)), .val (.int (v0_2 p1 p0)), .val (.int (v0_3 p1 p0)), .val (.int (v0_4 p1 p0)), .val (.int (v0_5 p2 p1 p0 p3)), .val (.int (v0_6 p2 p1 p0 p3)), .val (.int (v0_7 p2 p1 p0 p3)), .val (.int (v0_8 p2 p1 p0 p3)), .val (.int (v0_9 p2)), .val (.ref b5), .val (.ref b14), .val (.ref b21), .val (.ref b31), .val (.ref b34), .val (.ref b36), .val (.int (v0_22 p0 p2 p1 p3)), .val (.int (v0_38 p0 p2 p1 p3))] [(.int (v0_22 p0 p2 p1 p3))])) t → Steps p.tables e below (s₁.setTop (entryFrame m #[(.int p0), (.int p1), (.int p2), (.int p3), (.long q0)] maxLocals)) t := fun t k => pre146 t (by
                      show Steps p.tables e below (T145.setTop (mkF m 512 #[.val (.int p0), .val (.int p1), .val (.int p2), .val (.int p3), .val (.long q0), .second, .val (.int (v0_1 p0)), .val (.int (v0_2 p1 p0)), .val (.int (v0_3 p1 p0)), .val (.int (v0_4 p1 p0)), .val (.int (v0_5 p2 p1 p0 p3)), .val (.int (v0_6 p2 p1 p0 p3)), .val (.int (v0_7 p2 p1 p0 p3)), .val (.int (v0_8 p2 p1 p0 p3)), .val (.int (v0_9 p2)), .val (.ref b5), .val (.ref b14), .val (.ref b21), .val (.ref b31), .val (.ref b34), .val (.ref b36), .val (.int (v0_22 p0 p2 p1 p3)), .val (.int (v0_38 p0 p2 p1 p3))] [(.int (v0_32 p2 p1 p0 p3))])) _
                      refine XS.ifNo X145.here hx rfl (hb hby at_512) rfl ((if0 _ _).trans (feq hc512_147).1) ?_
                      refine XS.iload X145.here hx rfl (hb hby at_515) rfl ?_
                      show Steps p.tables e below (T145.setTop (mkF m 517 #[.val (.int p0), .val (.int p1), .val (.int p2), .val (.int p3), .val (.long q0), .second, .val (.int (v0_1 p0)), .val (.int (v0_2 p1 p0)), .val (.int (v0_3 p1 p0)), .val (.int (v0_4 p1 p0)), .val (.int (v0_5 p2 p1 p0 p3)), .val (.int (v0_6 p2 p1 p0 p3)), .val (.int (v0_7 p2 p1 p0 p3)), .val (.int (v0_8 p2 p1 p0 p3)), .val (.int (v0_9 p2)), .val (.ref b5), .val (.ref b14), .val (.ref b21), .val (.ref b31), .val (.ref b34), .val (.ref b36), .val (.int (v0_22 p0 p2 p1 p3)), .val (.int (v0_38 p0 p2 p1 p3))] [(.int (v0_22 p0 p2 p1 p3))])) _
                      exact k)
                    by_cases hc517_149 : (v0_22 p0 p2 p1 p3) = (0 : Int32)
                    · have hv : (f0 p0 p1 p2 p3 q0) = (1 : Int32) := by simp only [f0, if_neg hc347_58, if_neg hc369_93, if_neg hc404_129, if_neg hc422_132, if_neg hc440_135, if_neg hc458_138, if_neg hc476_141, if_neg hc494_144, if_neg hc512_147, if_pos hc517_149]
                      obtain ⟨fs, hr, hrun, hended, hW, hsame⟩ := X145.leave (v := some (.int (1 : Int32))) (fun h => nomatch (Bd.returns.symm.trans h)) hlk
                      refine ⟨_, _, pre148 _ ?_, hrun, hended, _, _, rfl, ?_, ⟨_, rfl⟩, hW, hsame.mono (by decide) (by decide)⟩
                      · show Steps p.tables e below (T145.setTop (mkF m 517 #[.val (.int p0), .val (.int p1), .val (.int p2), .val (.int p3), .val (.long q0), .second, .val (.int (v0_1 p0)), .val (.int (v0_2 p1 p0)), .val (.int (v0_3 p1 p0)), .val (.int (v0_4 p1 p0)), .val (.int (v0_5 p2 p1 p0 p3)), .val (.int (v0_6 p2 p1 p0 p3)), .val (.int (v0_7 p2 p1 p0 p3)), .val (.int (v0_8 p2 p1 p0 p3)), .val (.int (v0_9 p2)), .val (.ref b5), .val (.ref b14), .val (.ref b21), .val (.ref b31), .val (.ref b34), .val (.ref b36), .val (.int (v0_22 p0 p2 p1 p3)), .val (.int (v0_38 p0 p2 p1 p3))] [(.int (v0_22 p0 p2 p1 p3))])) _
                        refine XS.ifYes X145.here hx rfl (pc0 := 517) (pc' := 540) rfl (hb hby at_517) rfl ((if0 _ _).trans (teq hc517_149).1) (by decide) (by decide) ?_
                        refine XS.iconst X145.here hx rfl (hb hby at_540) ?_
                        show Steps p.tables e below (T145.setTop (mkF m 541 #[.val (.int p0), .val (.int p1), .val (.int p2), .val (.int p3), .val (.long q0), .second, .val (.int (v0_1 p0)), .val (.int (v0_2 p1 p0)), .val (.int (v0_3 p1 p0)), .val (.int (v0_4 p1 p0)), .val (.int (v0_5 p2 p1 p0 p3)), .val (.int (v0_6 p2 p1 p0 p3)), .val (.int (v0_7 p2 p1 p0 p3)), .val (.int (v0_8 p2 p1 p0 p3)), .val (.int (v0_9 p2)), .val (.ref b5), .val (.ref b14), .val (.ref b21), .val (.ref b31), .val (.ref b34), .val (.ref b36), .val (.int (v0_22 p0 p2 p1 p3)), .val (.int (v0_38 p0 p2 p1 p3))] [(.int (1 : Int32))])) _
                        refine XS.goto X145.here hx rfl (pc0 := 541) (pc' := 545) rfl (hb hby at_541) (by decide) (by decide) ?_
                        show Steps p.tables e below (T145.setTop (mkF m 545 #[.val (.int p0), .val (.int p1), .val (.int p2), .val (.int p3), .val (.long q0), .second, .val (.int (v0_1 p0)), .val (.int (v0_2 p1 p0)), .val (.int (v0_3 p1 p0)), .val (.int (v0_4 p1 p0)), .val (.int (v0_5 p2 p1 p0 p3)), .val (.int (v0_6 p2 p1 p0 p3)), .val (.int (v0_7 p2 p1 p0 p3)), .val (.int (v0_8 p2 p1 p0 p3)), .val (.int (v0_9 p2)), .val (.ref b5), .val (.ref b14), .val (.ref b21), .val (.ref b31), .val (.ref b34), .val (.ref b36), .val (.int (v0_22 p0 p2 p1 p3)), .val (.int (v0_38 p0 p2 p1 p3))] [(.int (1 : Int32))])) _
                        exact retN X145 hx (t := .boolean) Bd.returns (by simp) (hb hby at_545) hr
                      · show Q0 Z p0 p1 p2 p3 q0 h0 n0 _ T145.heap _
                        rw [e145]
                        exact ⟨by rw [hv], N145⟩
                    · obtain ⟨cl150, Ar150, hin150, hat150⟩ := Ia.get (Vr52) (j := ((v0_22 p0 p2 p1 p3) - (1 : Int32))) (own_fc1 p0 p1 p2 p3 hc517_149)
                      have pre151 : ∀ t, Steps p.tables e below (T145.setTop (mkF m 529 #[.val (.int p0), .val (.int p1), .val (.int p2), .val (.int p3), .val (.long q0), .second, .val (.int (v0_1 p0)), .val (.int (v0_2 p1 p0)), .val (.int (v0_3 p1 p0)), .val (.int (v0_4 p1 p0)), .val (.int (v0_5 p2 p1 p0 p3)), .val (.int (v0_6 p2 p1 p0 p3)), .val (.int (v0_7 p2 p1 p0 p3)), .val (.int (v0_8 p2 p1 p0 p3)), .val (.int (v0_9 p2)), .val (.ref b5), .val (.ref b14), .val (.ref b21), .val (.ref b31), .val (.ref b34), .val (.ref b36), .val (.int (v0_22 p0 p2 p1 p3)), .val (.int (v0_38 p0 p2 p1 p3))] [(.int (v0_38 p0 p2 p1 p3)), (.int (v0_33 p0 p1 p2 p3))])) t → Steps p.tables e below (s₁.setTop (entryFrame m #[(.int p0), (.int p1), (.int p2), (.int p3), (.long q0)] maxLocals)) t := fun t k => pre148 t (by
                        show Steps p.tables e below (T145.setTop (mkF m 517 #[.val (.int p0), .val (.int p1), .val (.int p2), .val (.int p3), .val (.long q0), .second, .val (.int (v0_1 p0)), .val (.int (v0_2 p1 p0)), .val (.int (v0_3 p1 p0)), .val (.int (v0_4 p1 p0)), .val (.int (v0_5 p2 p1 p0 p3)), .val (.int (v0_6 p2 p1 p0 p3)), .val (.int (v0_7 p2 p1 p0 p3)), .val (.int (v0_8 p2 p1 p0 p3)), .val (.int (v0_9 p2)), .val (.ref b5), .val (.ref b14), .val (.ref b21), .val (.ref b31), .val (.ref b34), .val (.ref b36), .val (.int (v0_22 p0 p2 p1 p3)), .val (.int (v0_38 p0 p2 p1 p3))] [(.int (v0_22 p0 p2 p1 p3))])) _
                        refine XS.ifNo X145.here hx rfl (hb hby at_517) rfl ((if0 _ _).trans (feq hc517_149).1) ?_
                        refine XS.aload X145.here hx rfl (hb hby at_520) rfl rfl ?_
                        refine XS.iload X145.here hx rfl (hb hby at_522) rfl ?_
                        show Steps p.tables e below (T145.setTop (mkF m 524 #[.val (.int p0), .val (.int p1), .val (.int p2), .val (.int p3), .val (.long q0), .second, .val (.int (v0_1 p0)), .val (.int (v0_2 p1 p0)), .val (.int (v0_3 p1 p0)), .val (.int (v0_4 p1 p0)), .val (.int (v0_5 p2 p1 p0 p3)), .val (.int (v0_6 p2 p1 p0 p3)), .val (.int (v0_7 p2 p1 p0 p3)), .val (.int (v0_8 p2 p1 p0 p3)), .val (.int (v0_9 p2)), .val (.ref b5), .val (.ref b14), .val (.ref b21), .val (.ref b31), .val (.ref b34), .val (.ref b36), .val (.int (v0_22 p0 p2 p1 p3)), .val (.int (v0_38 p0 p2 p1 p3))] [(.int (v0_22 p0 p2 p1 p3)), (.ref b31)])) _
                        refine XS.iconst X145.here hx rfl (hb hby at_524) ?_
                        refine XS.isub X145.here hx rfl (hb hby at_525) rfl ?_
                        refine X145.iaload hx (j := ((v0_22 p0 p2 p1 p3) - (1 : Int32))) (v := (.int (getI (own_into p0 p1 p2 p3) ((v0_22 p0 p2 p1 p3) - (1 : Int32))))) (by rw [e145]; exact Ar150.1) (State.isArrayOf_alike hZ.alike Ar150.2.1) Ar150.2.2 hin150 hat150 (g := (mkF m 526 #[.val (.int p0), .val (.int p1), .val (.int p2), .val (.int p3), .val (.long q0), .second, .val (.int (v0_1 p0)), .val (.int (v0_2 p1 p0)), .val (.int (v0_3 p1 p0)), .val (.int (v0_4 p1 p0)), .val (.int (v0_5 p2 p1 p0 p3)), .val (.int (v0_6 p2 p1 p0 p3)), .val (.int (v0_7 p2 p1 p0 p3)), .val (.int (v0_8 p2 p1 p0 p3)), .val (.int (v0_9 p2)), .val (.ref b5), .val (.ref b14), .val (.ref b21), .val (.ref b31), .val (.ref b34), .val (.ref b36), .val (.int (v0_22 p0 p2 p1 p3)), .val (.int (v0_38 p0 p2 p1 p3))] [(.int ((v0_22 p0 p2 p1 p3) - (1 : Int32))), (.ref b31)])) rfl rfl (hb hby at_526) _ ?_
                        refine XS.iload X145.here hx rfl (hb hby at_527) rfl ?_
                        show Steps p.tables e below (T145.setTop (mkF m 529 #[.val (.int p0), .val (.int p1), .val (.int p2), .val (.int p3), .val (.long q0), .second, .val (.int (v0_1 p0)), .val (.int (v0_2 p1 p0)), .val (.int (v0_3 p1 p0)), .val (.int (v0_4 p1 p0)), .val (.int (v0_5 p2 p1 p0 p3)), .val (.int (v0_6 p2 p1 p0 p3)), .val (.int (v0_7 p2 p1 p0 p3)), .val (.int (v0_8 p2 p1 p0 p3)), .val (.int (v0_9 p2)), .val (.ref b5), .val (.ref b14), .val (.ref b21), .val (.ref b31), .val (.ref b34), .val (.ref b36), .val (.int (v0_22 p0 p2 p1 p3)), .val (.int (v0_38 p0 p2 p1 p3))] [(.int (v0_38 p0 p2 p1 p3)), (.int (v0_33 p0 p1 p2 p3))])) _
                        exact k)
                      by_cases hc529_152 : (v0_33 p0 p1 p2 p3) = (v0_38 p0 p2 p1 p3)
                      · obtain ⟨cl153, Ar153, hin153, hat153⟩ := Ia.get (Vr52) (j := (v0_22 p0 p2 p1 p3)) (own_fc0 p0 p1 p2 p3)
                        have pre154 : ∀ t, Steps p.tables e below (T145.setTop (mkF m 537 #[.val (.int p0), .val (.int p1), .val (.int p2), .val (.int p3), .val (.long q0), .second, .val (.int (v0_1 p0)), .val (.int (v0_2 p1 p0)), .val (.int (v0_3 p1 p0)), .val (.int (v0_4 p1 p0)), .val (.int (v0_5 p2 p1 p0 p3)), .val (.int (v0_6 p2 p1 p0 p3)), .val (.int (v0_7 p2 p1 p0 p3)), .val (.int (v0_8 p2 p1 p0 p3)), .val (.int (v0_9 p2)), .val (.ref b5), .val (.ref b14), .val (.ref b21), .val (.ref b31), .val (.ref b34), .val (.ref b36), .val (.int (v0_22 p0 p2 p1 p3)), .val (.int (v0_38 p0 p2 p1 p3))] [(.int (v0_34 p0 p1 p2 p3))])) t → Steps p.tables e below (s₁.setTop (entryFrame m #[(.int p0), (.int p1), (.int p2), (.int p3), (.long q0)] maxLocals)) t := fun t k => pre151 t (by
                          show Steps p.tables e below (T145.setTop (mkF m 529 #[.val (.int p0), .val (.int p1), .val (.int p2), .val (.int p3), .val (.long q0), .second, .val (.int (v0_1 p0)), .val (.int (v0_2 p1 p0)), .val (.int (v0_3 p1 p0)), .val (.int (v0_4 p1 p0)), .val (.int (v0_5 p2 p1 p0 p3)), .val (.int (v0_6 p2 p1 p0 p3)), .val (.int (v0_7 p2 p1 p0 p3)), .val (.int (v0_8 p2 p1 p0 p3)), .val (.int (v0_9 p2)), .val (.ref b5), .val (.ref b14), .val (.ref b21), .val (.ref b31), .val (.ref b34), .val (.ref b36), .val (.int (v0_22 p0 p2 p1 p3)), .val (.int (v0_38 p0 p2 p1 p3))] [(.int (v0_38 p0 p2 p1 p3)), (.int (v0_33 p0 p1 p2 p3))])) _
                          refine XS.icmpNo X145.here hx rfl (hb hby at_529) rfl (teq hc529_152).2 ?_
                          refine XS.aload X145.here hx rfl (hb hby at_532) rfl rfl ?_
                          refine XS.iload X145.here hx rfl (hb hby at_534) rfl ?_
                          refine X145.iaload hx (j := (v0_22 p0 p2 p1 p3)) (v := (.int (getI (own_into p0 p1 p2 p3) (v0_22 p0 p2 p1 p3)))) (by rw [e145]; exact Ar153.1) (State.isArrayOf_alike hZ.alike Ar153.2.1) Ar153.2.2 hin153 hat153 (g := (mkF m 536 #[.val (.int p0), .val (.int p1), .val (.int p2), .val (.int p3), .val (.long q0), .second, .val (.int (v0_1 p0)), .val (.int (v0_2 p1 p0)), .val (.int (v0_3 p1 p0)), .val (.int (v0_4 p1 p0)), .val (.int (v0_5 p2 p1 p0 p3)), .val (.int (v0_6 p2 p1 p0 p3)), .val (.int (v0_7 p2 p1 p0 p3)), .val (.int (v0_8 p2 p1 p0 p3)), .val (.int (v0_9 p2)), .val (.ref b5), .val (.ref b14), .val (.ref b21), .val (.ref b31), .val (.ref b34), .val (.ref b36), .val (.int (v0_22 p0 p2 p1 p3)), .val (.int (v0_38 p0 p2 p1 p3))] [(.int (v0_22 p0 p2 p1 p3)), (.ref b31)])) rfl rfl (hb hby at_536) _ ?_
                          show Steps p.tables e below (T145.setTop (mkF m 537 #[.val (.int p0), .val (.int p1), .val (.int p2), .val (.int p3), .val (.long q0), .second, .val (.int (v0_1 p0)), .val (.int (v0_2 p1 p0)), .val (.int (v0_3 p1 p0)), .val (.int (v0_4 p1 p0)), .val (.int (v0_5 p2 p1 p0 p3)), .val (.int (v0_6 p2 p1 p0 p3)), .val (.int (v0_7 p2 p1 p0 p3)), .val (.int (v0_8 p2 p1 p0 p3)), .val (.int (v0_9 p2)), .val (.ref b5), .val (.ref b14), .val (.ref b21), .val (.ref b31), .val (.ref b34), .val (.ref b36), .val (.int (v0_22 p0 p2 p1 p3)), .val (.int (v0_38 p0 p2 p1 p3))] [(.int (v0_34 p0 p1 p2 p3))])) _
                          exact k)
                        by_cases hc537_155 : (v0_34 p0 p1 p2 p3) = (0 : Int32)
                        · have hv : (f0 p0 p1 p2 p3 q0) = (1 : Int32) := by simp only [f0, if_neg hc347_58, if_neg hc369_93, if_neg hc404_129, if_neg hc422_132, if_neg hc440_135, if_neg hc458_138, if_neg hc476_141, if_neg hc494_144, if_neg hc512_147, if_neg hc517_149, if_pos hc529_152, if_pos hc537_155]
                          obtain ⟨fs, hr, hrun, hended, hW, hsame⟩ := X145.leave (v := some (.int (1 : Int32))) (fun h => nomatch (Bd.returns.symm.trans h)) hlk
                          refine ⟨_, _, pre154 _ ?_, hrun, hended, _, _, rfl, ?_, ⟨_, rfl⟩, hW, hsame.mono (by decide) (by decide)⟩
                          · show Steps p.tables e below (T145.setTop (mkF m 537 #[.val (.int p0), .val (.int p1), .val (.int p2), .val (.int p3), .val (.long q0), .second, .val (.int (v0_1 p0)), .val (.int (v0_2 p1 p0)), .val (.int (v0_3 p1 p0)), .val (.int (v0_4 p1 p0)), .val (.int (v0_5 p2 p1 p0 p3)), .val (.int (v0_6 p2 p1 p0 p3)), .val (.int (v0_7 p2 p1 p0 p3)), .val (.int (v0_8 p2 p1 p0 p3)), .val (.int (v0_9 p2)), .val (.ref b5), .val (.ref b14), .val (.ref b21), .val (.ref b31), .val (.ref b34), .val (.ref b36), .val (.int (v0_22 p0 p2 p1 p3)), .val (.int (v0_38 p0 p2 p1 p3))] [(.int (v0_34 p0 p1 p2 p3))])) _
                            refine XS.ifNo X145.here hx rfl (hb hby at_537) rfl ((if0 _ _).trans (teq hc537_155).2) ?_
                            refine XS.iconst X145.here hx rfl (hb hby at_540) ?_
                            refine XS.goto X145.here hx rfl (pc0 := 541) (pc' := 545) rfl (hb hby at_541) (by decide) (by decide) ?_
                            show Steps p.tables e below (T145.setTop (mkF m 545 #[.val (.int p0), .val (.int p1), .val (.int p2), .val (.int p3), .val (.long q0), .second, .val (.int (v0_1 p0)), .val (.int (v0_2 p1 p0)), .val (.int (v0_3 p1 p0)), .val (.int (v0_4 p1 p0)), .val (.int (v0_5 p2 p1 p0 p3)), .val (.int (v0_6 p2 p1 p0 p3)), .val (.int (v0_7 p2 p1 p0 p3)), .val (.int (v0_8 p2 p1 p0 p3)), .val (.int (v0_9 p2)), .val (.ref b5), .val (.ref b14), .val (.ref b21), .val (.ref b31), .val (.ref b34), .val (.ref b36), .val (.int (v0_22 p0 p2 p1 p3)), .val (.int (v0_38 p0 p2 p1 p3))] [(.int (1 : Int32))])) _
                            exact retN X145 hx (t := .boolean) Bd.returns (by simp) (hb hby at_545) hr
                          · show Q0 Z p0 p1 p2 p3 q0 h0 n0 _ T145.heap _
                            rw [e145]
                            exact ⟨by rw [hv], N145⟩
                        · have hv : (f0 p0 p1 p2 p3 q0) = (0 : Int32) := by simp only [f0, if_neg hc347_58, if_neg hc369_93, if_neg hc404_129, if_neg hc422_132, if_neg hc440_135, if_neg hc458_138, if_neg hc476_141, if_neg hc494_144, if_neg hc512_147, if_neg hc517_149, if_pos hc529_152, if_neg hc537_155]
                          obtain ⟨fs, hr, hrun, hended, hW, hsame⟩ := X145.leave (v := some (.int (0 : Int32))) (fun h => nomatch (Bd.returns.symm.trans h)) hlk
                          refine ⟨_, _, pre154 _ ?_, hrun, hended, _, _, rfl, ?_, ⟨_, rfl⟩, hW, hsame.mono (by decide) (by decide)⟩
                          · show Steps p.tables e below (T145.setTop (mkF m 537 #[.val (.int p0), .val (.int p1), .val (.int p2), .val (.int p3), .val (.long q0), .second, .val (.int (v0_1 p0)), .val (.int (v0_2 p1 p0)), .val (.int (v0_3 p1 p0)), .val (.int (v0_4 p1 p0)), .val (.int (v0_5 p2 p1 p0 p3)), .val (.int (v0_6 p2 p1 p0 p3)), .val (.int (v0_7 p2 p1 p0 p3)), .val (.int (v0_8 p2 p1 p0 p3)), .val (.int (v0_9 p2)), .val (.ref b5), .val (.ref b14), .val (.ref b21), .val (.ref b31), .val (.ref b34), .val (.ref b36), .val (.int (v0_22 p0 p2 p1 p3)), .val (.int (v0_38 p0 p2 p1 p3))] [(.int (v0_34 p0 p1 p2 p3))])) _
                            refine XS.ifYes X145.here hx rfl (pc0 := 537) (pc' := 544) rfl (hb hby at_537) rfl ((if0 _ _).trans (feq hc537_155).2) (by decide) (by decide) ?_
                            show Steps p.tables e below (T145.setTop (mkF m 544 #[.val (.int p0), .val (.int p1), .val (.int p2), .val (.int p3), .val (.long q0), .second, .val (.int (v0_1 p0)), .val (.int (v0_2 p1 p0)), .val (.int (v0_3 p1 p0)), .val (.int (v0_4 p1 p0)), .val (.int (v0_5 p2 p1 p0 p3)), .val (.int (v0_6 p2 p1 p0 p3)), .val (.int (v0_7 p2 p1 p0 p3)), .val (.int (v0_8 p2 p1 p0 p3)), .val (.int (v0_9 p2)), .val (.ref b5), .val (.ref b14), .val (.ref b21), .val (.ref b31), .val (.ref b34), .val (.ref b36), .val (.int (v0_22 p0 p2 p1 p3)), .val (.int (v0_38 p0 p2 p1 p3))] [])) _
                            refine XS.iconst X145.here hx rfl (hb hby at_544) ?_
                            show Steps p.tables e below (T145.setTop (mkF m 545 #[.val (.int p0), .val (.int p1), .val (.int p2), .val (.int p3), .val (.long q0), .second, .val (.int (v0_1 p0)), .val (.int (v0_2 p1 p0)), .val (.int (v0_3 p1 p0)), .val (.int (v0_4 p1 p0)), .val (.int (v0_5 p2 p1 p0 p3)), .val (.int (v0_6 p2 p1 p0 p3)), .val (.int (v0_7 p2 p1 p0 p3)), .val (.int (v0_8 p2 p1 p0 p3)), .val (.int (v0_9 p2)), .val (.ref b5), .val (.ref b14), .val (.ref b21), .val (.ref b31), .val (.ref b34), .val (.ref b36), .val (.int (v0_22 p0 p2 p1 p3)), .val (.int (v0_38 p0 p2 p1 p3))] [(.int (0 : Int32))])) _
                            exact retN X145 hx (t := .boolean) Bd.returns (by simp) (hb hby at_545) hr
                          · show Q0 Z p0 p1 p2 p3 q0 h0 n0 _ T145.heap _
                            rw [e145]
                            exact ⟨by rw [hv], N145⟩
                      · have hv : (f0 p0 p1 p2 p3 q0) = (0 : Int32) := by simp only [f0, if_neg hc347_58, if_neg hc369_93, if_neg hc404_129, if_neg hc422_132, if_neg hc440_135, if_neg hc458_138, if_neg hc476_141, if_neg hc494_144, if_neg hc512_147, if_neg hc517_149, if_neg hc529_152]
                        obtain ⟨fs, hr, hrun, hended, hW, hsame⟩ := X145.leave (v := some (.int (0 : Int32))) (fun h => nomatch (Bd.returns.symm.trans h)) hlk
                        refine ⟨_, _, pre151 _ ?_, hrun, hended, _, _, rfl, ?_, ⟨_, rfl⟩, hW, hsame.mono (by decide) (by decide)⟩
                        · show Steps p.tables e below (T145.setTop (mkF m 529 #[.val (.int p0), .val (.int p1), .val (.int p2), .val (.int p3), .val (.long q0), .second, .val (.int (v0_1 p0)), .val (.int (v0_2 p1 p0)), .val (.int (v0_3 p1 p0)), .val (.int (v0_4 p1 p0)), .val (.int (v0_5 p2 p1 p0 p3)), .val (.int (v0_6 p2 p1 p0 p3)), .val (.int (v0_7 p2 p1 p0 p3)), .val (.int (v0_8 p2 p1 p0 p3)), .val (.int (v0_9 p2)), .val (.ref b5), .val (.ref b14), .val (.ref b21), .val (.ref b31), .val (.ref b34), .val (.ref b36), .val (.int (v0_22 p0 p2 p1 p3)), .val (.int (v0_38 p0 p2 p1 p3))] [(.int (v0_38 p0 p2 p1 p3)), (.int (v0_33 p0 p1 p2 p3))])) _
                          refine XS.icmpYes X145.here hx rfl (pc0 := 529) (pc' := 544) rfl (hb hby at_529) rfl (feq hc529_152).2 (by decide) (by decide) ?_
                          refine XS.iconst X145.here hx rfl (hb hby at_544) ?_
                          show Steps p.tables e below (T145.setTop (mkF m 545 #[.val (.int p0), .val (.int p1), .val (.int p2), .val (.int p3), .val (.long q0), .second, .val (.int (v0_1 p0)), .val (.int (v0_2 p1 p0)), .val (.int (v0_3 p1 p0)), .val (.int (v0_4 p1 p0)), .val (.int (v0_5 p2 p1 p0 p3)), .val (.int (v0_6 p2 p1 p0 p3)), .val (.int (v0_7 p2 p1 p0 p3)), .val (.int (v0_8 p2 p1 p0 p3)), .val (.int (v0_9 p2)), .val (.ref b5), .val (.ref b14), .val (.ref b21), .val (.ref b31), .val (.ref b34), .val (.ref b36), .val (.int (v0_22 p0 p2 p1 p3)), .val (.int (v0_38 p0 p2 p1 p3))] [(.int (0 : Int32))])) _
                          exact retN X145 hx (t := .boolean) Bd.returns (by simp) (hb hby at_545) hr
                        · show Q0 Z p0 p1 p2 p3 q0 h0 n0 _ T145.heap _
                          rw [e145]
                          exact ⟨by rw [hv], N145⟩

theorem own_ok {p0 p1 p2 p3 x : Int32} (h : rng p0 x) : f11 x (v0_9 p2) (v0_22 p0 p2 p1 p3) (w0_16 p1 p0) (w0_13 p2 p1 p0 p3) (own_into p0 p1 p2 p3) = 1 := by
  obtain ⟨e, l⟩ := own_rnat h
  have q := own_f11 (own_Hy p0 p1 p2 p3) x.toNatClampNeg l (v0_22 p0 p2 p1 p3) (own_fc p0 p1 p2 p3)
  rw [← e] at q
  exact q
theorem own_f9i (p0 p1 p2 p3 : Int32) (z : Nat) (hz : z < 2147483648) : f9 (Int32.ofNat z) (v0_9 p2) (w0_16 p1 p0) (w0_13 p2 p1 p0 p3) = (if own_TT p0 p1 p2 p3 z then 1 else 0) := own_f9 (own_Hy p0 p1 p2 p3) z hz
theorem own_dec {p0 p1 p2 p3 x : Int32} (z : Nat) (hz : z < 2147483647) (hx : x = Int32.ofNat z) : (if (f9 x (v0_9 p2) (w0_16 p1 p0) (w0_13 p2 p1 p0 p3)) = (0 : Int32) then x else x + (-1 : Int32)) = (if own_TT p0 p1 p2 p3 z then Int32.ofNat z + (-1 : Int32) else Int32.ofNat z) := by
  rw [hx, own_f9i p0 p1 p2 p3 z (by omega)]
  cases own_TT p0 p1 p2 p3 z with
  | false => rw [if_neg Bool.false_ne_true, if_pos rfl, if_neg Bool.false_ne_true]
  | true => rw [if_pos rfl, if_neg (show ¬ (1 : Int32) = (0 : Int32) by decide), if_pos rfl]
theorem own_pred1 {z : Nat} (hz : z < 2147483647) : Int32.ofNat (z + 1) + (-1 : Int32) = Int32.ofNat z := by
  rw [← own_succ hz, Int32.add_assoc, show (1 : Int32) + (-1 : Int32) = 0 by decide, Int32.add_zero]
theorem own_e33 (p0 p1 p2 p3 : Int32) (z : Nat) (hz : z < own_B p0) (hT : own_TT p0 p1 p2 p3 z = false) (hup : ∀ y, z < y → y < own_B p0 → own_TT p0 p1 p2 p3 y = true) : v0_33 p0 p1 p2 p3 = Int32.ofNat z := by
  unfold v0_33
  rw [own_fc p0 p1 p2 p3]
  exact own_top (own_Hy p0 p1 p2 p3) z hz hT hup
theorem own_S128 (p0 p1 p2 p3 : Int32) : cntN (own_S p0 p1 p2 p3) 128 = cntN (own_S p0 p1 p2 p3) (own_B p0) := by
  unfold own_S
  exact own_B128 _ _ _ _ _ _ (own_hB2 p0)
theorem own_e34 (p0 p1 p2 p3 : Int32) : v0_34 p0 p1 p2 p3 = 0 := by
  have c : cntN (own_S p0 p1 p2 p3) (own_B p0) < 2147483648 := Nat.lt_of_le_of_lt (own_fcb p0 p1 p2 p3) (by decide)
  unfold v0_34
  rw [own_fc p0 p1 p2 p3]
  exact (own_fillspec (own_S p0 p1 p2 p3)).2 _ (Nat.le_of_eq (own_S128 p0 p1 p2 p3)) c
theorem own_end (p0 p1 p2 p3 l : Int32) (h : v0_22 p0 p2 p1 p3 = 0 ∨ ∃ z, l = Int32.ofNat z ∧ z < own_B p0 ∧ own_TT p0 p1 p2 p3 z = false ∧ ∀ y, z < y → y < own_B p0 → own_TT p0 p1 p2 p3 y = true) :
    (if (v0_22 p0 p2 p1 p3) = (0 : Int32) then (1 : Int32) else (if (v0_33 p0 p1 p2 p3) = l then (if (v0_34 p0 p1 p2 p3) = (0 : Int32) then (1 : Int32) else (0 : Int32)) else (0 : Int32))) = 1 := by
  by_cases q : v0_22 p0 p2 p1 p3 = 0
  · rw [if_pos q]
  · rw [if_neg q]
    rcases h with h | ⟨z, e, hz, hT, hup⟩
    · exact absurd h q
    · rw [if_pos ((own_e33 p0 p1 p2 p3 z hz hT hup).trans e.symm), if_pos (own_e34 p0 p1 p2 p3)]
theorem own_fcz (p0 p1 p2 p3 : Int32) (hall : ∀ y, y < own_B p0 → own_TT p0 p1 p2 p3 y = true) : v0_22 p0 p2 p1 p3 = 0 := by
  rw [own_fc p0 p1 p2 p3, show cntN (own_S p0 p1 p2 p3) (own_B p0) = 0 from own_none (own_Hy p0 p1 p2 p3) hall]; rfl
theorem law_true (p0 p1 p2 p3 : Int32) (q0 : Int64) : f0 p0 p1 p2 p3 q0 = 1 := by
  have a26 : v0_26 p1 p0 p2 p3 = 1 := own_ok (own_ra p1 p0)
  have a27 : v0_27 p1 p0 p2 p3 = 1 := own_ok (own_rb p1 p0)
  have a28 : v0_28 p1 p0 p2 p3 = 1 := own_ok (own_rc p1 p0)
  have a29 : v0_29 p2 p1 p0 p3 = 1 := own_ok (own_rd p0 p1 p2 p3)
  have a30 : v0_30 p2 p1 p0 p3 = 1 := own_ok (own_re p0 p1 p2 p3)
  have a31 : v0_31 p2 p1 p0 p3 = 1 := own_ok (own_rf p0 p1 p2 p3)
  have a32 : v0_32 p2 p1 p0 p3 = 1 := own_ok (own_rg p0 p1 p2 p3)
  have n1 : ¬ (1 : Int32) = (0 : Int32) := by decide
  unfold f0
  rw [a26, a27, a28, a29, a30, a31, a32]
  simp only [if_neg n1]
  have b1 := own_hB1 p0; have b2 := own_hB2 p0
  obtain ⟨k, hk⟩ : ∃ k, own_B p0 = k + 1 := ⟨own_B p0 - 1, by omega⟩
  have e23 : v0_23 p0 = Int32.ofNat k := by
    unfold v0_23; rw [own_hB p0, hk, ← own_succ (by omega)]; exact Int32.add_sub_cancel _ _
  have e25 : v0_25 p0 p2 p1 p3 = (if own_TT p0 p1 p2 p3 k then Int32.ofNat k + (-1 : Int32) else Int32.ofNat k) := by
    unfold v0_25 v0_24; rw [own_dec k (by omega) e23]
  cases hT0 : own_TT p0 p1 p2 p3 k with
  | false =>
    rw [hT0] at e25
    have e25' : v0_25 p0 p2 p1 p3 = Int32.ofNat k := e25.trans (if_neg Bool.false_ne_true)
    have e36 : v0_36 p0 p2 p1 p3 = Int32.ofNat k := by
      unfold v0_36 v0_35; rw [own_dec k (by omega) e25', hT0]; exact if_neg Bool.false_ne_true
    have e38 : v0_38 p0 p2 p1 p3 = Int32.ofNat k := by
      unfold v0_38 v0_37; rw [own_dec k (by omega) e36, hT0]; exact if_neg Bool.false_ne_true
    rw [if_neg (by rw [e25']; exact own_nneg (by omega)), if_neg (by rw [e36]; exact own_nneg (by omega))]
    exact own_end p0 p1 p2 p3 _ (Or.inr ⟨k, e38, by omega, hT0, fun y h1 h2 => by omega⟩)
  | true =>
    rw [hT0] at e25
    have e25' : v0_25 p0 p2 p1 p3 = Int32.ofNat k + (-1 : Int32) := e25.trans (if_pos rfl)
    cases k with
    | zero =>
      rw [if_pos (by rw [e25']; decide)]
      exact own_end p0 p1 p2 p3 _ (Or.inl (own_fcz p0 p1 p2 p3 fun y hy => by rw [show y = 0 by omega]; exact hT0))
    | succ k1 =>
      rw [own_pred1 (by omega)] at e25'
      rw [if_neg (by rw [e25']; exact own_nneg (by omega))]
      have e36 : v0_36 p0 p2 p1 p3 = (if own_TT p0 p1 p2 p3 k1 then Int32.ofNat k1 + (-1 : Int32) else Int32.ofNat k1) := by
        unfold v0_36 v0_35; rw [own_dec k1 (by omega) e25']
      cases hT1 : own_TT p0 p1 p2 p3 k1 with
      | false =>
        rw [hT1] at e36
        have e36' : v0_36 p0 p2 p1 p3 = Int32.ofNat k1 := e36.trans (if_neg Bool.false_ne_true)
        have e38 : v0_38 p0 p2 p1 p3 = Int32.ofNat k1 := by
          unfold v0_38 v0_37; rw [own_dec k1 (by omega) e36', hT1]; exact if_neg Bool.false_ne_true
        rw [if_neg (by rw [e36']; exact own_nneg (by omega))]
        exact own_end p0 p1 p2 p3 _ (Or.inr ⟨k1, e38, by omega, hT1, fun y h1 h2 => by rw [show y = k1 + 1 by omega]; exact hT0⟩)
      | true =>
        rw [hT1] at e36
        have e36' : v0_36 p0 p2 p1 p3 = Int32.ofNat k1 + (-1 : Int32) := e36.trans (if_pos rfl)
        cases k1 with
        | zero =>
          rw [if_pos (by rw [e36']; decide)]
          exact own_end p0 p1 p2 p3 _ (Or.inl (own_fcz p0 p1 p2 p3 fun y hy => by
            have : y = 0 ∨ y = 1 := by omega
            rcases this with rfl | rfl
            · exact hT1
            · exact hT0))
        | succ k2 =>
          rw [own_pred1 (by omega)] at e36'
          rw [if_neg (by rw [e36']; exact own_nneg (by omega))]
          have e38 : v0_38 p0 p2 p1 p3 = (if own_TT p0 p1 p2 p3 k2 then Int32.ofNat k2 + (-1 : Int32) else Int32.ofNat k2) := by
            unfold v0_38 v0_37; rw [own_dec k2 (by omega) e36']
          cases hT2 : own_TT p0 p1 p2 p3 k2 with
          | false =>
            rw [hT2] at e38
            exact own_end p0 p1 p2 p3 _ (Or.inr ⟨k2, e38.trans (if_neg Bool.false_ne_true), by omega, hT2, fun y h1 h2 => by
              have : y = k2 + 1 ∨ y = k2 + 1 + 1 := by omega
              rcases this with rfl | rfl
              · exact hT1
              · exact hT0⟩)
          | true =>
            rw [hT2] at e38
            have e38' : v0_38 p0 p2 p1 p3 = Int32.ofNat k2 + (-1 : Int32) := e38.trans (if_pos rfl)
            cases k2 with
            | zero =>
              exact own_end p0 p1 p2 p3 _ (Or.inl (own_fcz p0 p1 p2 p3 fun y hy => by
                have : y = 0 ∨ y = 1 ∨ y = 2 := by omega
                rcases this with rfl | rfl | rfl
                · exact hT2
                · exact hT1
                · exact hT0))
            | succ k3 =>
              rw [own_pred1 (by omega)] at e38'
              have hT3 : own_TT p0 p1 p2 p3 k3 = false := by
                cases q : own_TT p0 p1 p2 p3 k3 with
                | false => rfl
                | true => exact (own_four hT0 hT1 hT2 q (by omega) (by omega) (by omega) (by omega) (by omega) (by omega)).elim
              exact own_end p0 p1 p2 p3 _ (Or.inr ⟨k3, e38', by omega, hT3, fun y h1 h2 => by
                have : y = k3 + 1 ∨ y = k3 + 1 + 1 ∨ y = k3 + 1 + 1 + 1 := by omega
                rcases this with rfl | rfl | rfl
                · exact hT2
                · exact hT1
                · exact hT0⟩)

set_option maxRecDepth 65536 in
set_option maxHeartbeats 40000000 in
theorem comes_1 {Post : Tables → Env → Array Value → State → Outcome → State → Prop} (hpost : ∀ tb e args s v u, (limb_1_1.after args s (.returned v) u = true ∧ limb_1_2.after args s (.returned v) u = true ∧ True) → FrameEnd s (.returned v) u (Jvm.fieldLocs frame_1_writes args s ++ Jvm.arrayLocs frame_1_arrays args s ++ Jvm.staticLocs frame_1_statics s) 24 384 → Post tb e args s (.returned v) u) :
    ArmFor flags0 classFile x code maxLocals ret World_1 tables_1 room_1 Calls_1 rest_1 Pre_1 Post := by
  intro l hfl _ _ p e ha hc hk s m args below hf hA hF happ hP
  obtain ⟨hcalls, hrest, hpre⟩ := hP
  obtain ⟨-, -, -, hnamed, -, -, -, hat⟩ := (Spec.applies_iff hf).mp happ
  obtain ⟨hg, hn⟩ := and_e (Cond.before_iff.mp (show (Jvm.Cond.and given_1 narrow_1).before args s = true from hpre))
  obtain ⟨g1, g2⟩ := and_e hg
  obtain ⟨g3, g4⟩ := and_e g2
  obtain ⟨g5, g6⟩ := and_e g4
  obtain ⟨g7, g8⟩ := and_e g6
  obtain ⟨g9, g10⟩ := and_e g8
  obtain ⟨w0, w1, w2, w3, w4, rfl⟩ : ∃ w0 w1 w2 w3 w4 : Value, args = #[w0, w1, w2, w3, w4] := by
    have hs : args.size = 5 := by simpa [Cond.value, given_1] using g1
    obtain ⟨L⟩ := args
    match L, hs with
    | [w0, w1, w2, w3, w4], _ => exact ⟨w0, w1, w2, w3, w4, rfl⟩
  have hw := fun d (hd : d ∈ tables_1) => atoms_spec (ws := Jvm.Cond.code x code maxLocals ret :: tables_1) hat d (List.mem_cons_of_mem _ hd)
  obtain ⟨i0, ei0⟩ := is_v g3
  obtain rfl : w0 = (.int i0) := Option.some.inj ei0
  obtain ⟨i1, ei1⟩ := is_v g5
  obtain rfl : w1 = (.int i1) := Option.some.inj ei1
  obtain ⟨i2, ei2⟩ := is_v g7
  obtain rfl : w2 = (.int i2) := Option.some.inj ei2
  obtain ⟨i3, ei3⟩ := is_v g9
  obtain rfl : w3 = (.int i3) := Option.some.inj ei3
  obtain ⟨i4, ei4⟩ := isL_v g10
  obtain rfl : w4 = (.long i4) := Option.some.inj ei4
  obtain ⟨n, o, h1, h2, h3, _, L, rfl, ⟨rfl, N⟩, hq⟩ := rm0 l s _ hw tables_1 i0 i1 i2 i3 i4 s.heap s.heap.size (Nat.le_refl _) p e ha hc hk s m _ below hf ((Spec.applies_iff_loose hf).mp happ).1 ⟨rfl, State.Warmed39.refl s, rfl⟩ trivial
  refine ⟨n, _, h1, h2, h3, hpost _ _ _ _ _ _ ⟨Cond.after_iff.mpr rfl, Cond.after_iff.mpr (eq_i res_at (Term.int_eval (1)) (congrArg Value.int (law_true i0 i1 i2 i3 i4))), trivial⟩ ⟨hq.1, hq.2.1, (hq.2.2.sift fun y hy => Or.inr (N y hy)).mono (by decide) (by decide)⟩⟩
theorem main_1_1 : Claimed_1_1 := comes_1 fun _ _ _ _ _ _ h hF => ⟨h.1, hF⟩
theorem main_1_2 : Claimed_1_2 := comes_1 fun _ _ _ _ _ _ h hF => ⟨h.2.1, hF⟩
end Jvm.Pilot.@@N@@
namespace Jvm.Pilot.@@N@@
open Jvm Jvm.ClassFile Sem Op Lib Jvm.Free Jvm.Stand Jvm.Pilot.@@N@@.Jvm.D
/-! MADE BY PROGRAM (witnessworld.py) out of the Statement's table words and the real class files: 18 classes; the members and pool entries that the words name. The judged class is class 1, her method 5. -/
namespace start1
open Jvm.ClassFile
def u (s : String) : CpInfo := .utf8 (stringToUtf16 s)
/-- a pool by its gaps: so many unusable entries, then the entry; so many at the end -/
def gap : Nat → List CpInfo → List CpInfo
  | 0, r => r
  | n + 1, r => .unusable :: gap n r
def poolList (es : List (Nat × CpInfo)) (last : Nat) : List CpInfo := es.foldr (fun e r => gap e.1 (e.2 :: r)) (gap last [])
def pool (es : List (Nat × CpInfo)) (last : Nat) : Array CpInfo := ⟨poolList es last⟩
def fileOf (pool : Array CpInfo) (this : Nat) (attrs : Array Attribute := #[]) (ms : Array MethodInfo := #[]) (fl : Nat := 33) (sup : Nat := 0) (ifs : Array Nat := #[]) (fds : Array FieldInfo := #[]) : ClassFile where
  minorVersion := 0
  majorVersion := 65
  constantPool := pool
  accessFlags := fl
  thisClass := this
  superClass := sup
  interfaces := ifs
  fields := fds
  methods := ms
  attributes := attrs
def plain (name : String) (sup : Option ClassId) : Class where
  name := name
  kind := .ordinary
  loader := none
  accessFlags := 33
  super := sup
  interfaces := #[]
  cf := none
  fields := #[]
  methods := #[]
  instanceTypes := #[]
  staticTypes := #[]
  resolved := #[]
  callSites := []
  init := .initialized
  statics := none
  mirror := none

def pool0 : Array CpInfo := pool [(5, u "<init>"), (0, u "()V"), (1, .class_ 10), (1, u "java/lang/Object")] 113

def k0c0 : Code := { maxStack := 0, maxLocals := 1, code := object_method_1_code, exceptionTable := #[], attributes := #[] }
def k0m0 : Method := { name := "<init>", desc := "()V", sig := { parameters := [], returnType := none }, accessFlags := 1, code := some k0c0 }
/-- java/lang/Object -/
def k0 : Class := { plain "java/lang/Object" none with
  accessFlags := 33
  interfaces := #[]
  cf := some (fileOf pool0 8 #[] #[{ accessFlags := 1, nameIndex := 5, descriptorIndex := 6, attributes := #[] }] 33 0 #[] #[])
  fields := #[]
  methods := #[k0m0]
  instanceTypes := #[]
  staticTypes := #[]
  resolved := Array.replicate 124 none
  statics := none }

def pool1 : Array CpInfo := pool [(2, .class_ 4), (1, u "java/lang/Object"), (0, u "<init>"), (0, u "()V"), (0, .methodref 8 9), (0, .class_ 10), (0, .nameAndType 11 12), (0, u "com/example/knotwork/knotwork/generate/FreeNumbersFreePinLaw"), (0, u "inT"), (0, u "(I[I[II)Z"), (0, .methodref 8 14), (0, .nameAndType 15 16), (0, u "below"), (0, u "(I[I[II)I"), (0, .methodref 8 18), (0, .nameAndType 19 20), (0, u "pick"), (0, u "(IIIII)I"), (0, .class_ 22), (0, u "com/example/knotwork/knotwork/generate/SeededRandom"), (0, .methodref 21 24), (0, .nameAndType 5 25), (0, u "(J)V"), (0, .class_ 27), (0, u "com/example/knotwork/knotwork/generate/FreeNumbers"), (0, .methodref 26 29), (0, .nameAndType 5 30), (0, u "(I)V"), (0, .methodref 26 32), (0, .nameAndType 33 30), (0, u "take"), (0, .methodref 26 35), (0, .nameAndType 36 37), (0, u "free"), (0, u "([II)V"), (0, .methodref 26 39), (0, .nameAndType 40 41), (0, u "takeDrawn"), (0, u "(ILjava/util/function/IntSupplier;Lcom/example/knotwork/knotwork/generate/SeededRandom;[II)V"), (0, .methodref 8 43), (0, .nameAndType 44 45), (0, u "ok"), (0, u "(I[I[II[II)Z"), (5, u "law"), (0, u "(IIIIJ)Z")] 2

def k1m0 : Method := { name := "<init>", desc := "()V", sig := { parameters := [], returnType := none }, accessFlags := 1, code := none }
def k1c1 : Code := { maxStack := 2, maxLocals := 5, code := method_2_code, exceptionTable := #[], attributes := #[] }
def k1m1 : Method := { name := "pick", desc := "(IIIII)I", sig := { parameters := [.int, .int, .int, .int, .int], returnType := some .int }, accessFlags := 10, code := some k1c1 }
def k1c2 : Code := { maxStack := 3, maxLocals := 6, code := method_3_code, exceptionTable := #[], attributes := #[] }
def k1m2 : Method := { name := "inT", desc := "(I[I[II)Z", sig := { parameters := [.int, (.array .int), (.array .int), .int], returnType := some .boolean }, accessFlags := 10, code := some k1c2 }
def k1c3 : Code := { maxStack := 4, maxLocals := 5, code := method_4_code, exceptionTable := #[], attributes := #[] }
def k1m3 : Method := { name := "below", desc := "(I[I[II)I", sig := { parameters := [.int, (.array .int), (.array .int), .int], returnType := some .int }, accessFlags := 10, code := some k1c3 }
def k1c4 : Code := { maxStack := 5, maxLocals := 8, code := method_5_code, exceptionTable := #[], attributes := #[] }
def k1m4 : Method := { name := "ok", desc := "(I[I[II[II)Z", sig := { parameters := [.int, (.array .int), (.array .int), .int, (.array .int), .int], returnType := some .boolean }, accessFlags := 10, code := some k1c4 }
def k1c5 : Code := { maxStack := 6, maxLocals := 23, code := code, exceptionTable := #[], attributes := #[] }
def k1m5 : Method := { name := "law", desc := "(IIIIJ)Z", sig := { parameters := [.int, .int, .int, .int, .long], returnType := some .boolean }, accessFlags := 9, code := some k1c5 }
/-- com/example/knotwork/knotwork/generate/FreeNumbersFreePinLaw -/
def k1 : Class := { plain "com/example/knotwork/knotwork/generate/FreeNumbersFreePinLaw" (some 0) with
  accessFlags := 49
  interfaces := #[]
  cf := some (fileOf pool1 8 #[] #[{ accessFlags := 1, nameIndex := 5, descriptorIndex := 6, attributes := #[] }, { accessFlags := 10, nameIndex := 19, descriptorIndex := 20, attributes := #[] }, { accessFlags := 10, nameIndex := 11, descriptorIndex := 12, attributes := #[] }, { accessFlags := 10, nameIndex := 15, descriptorIndex := 16, attributes := #[] }, { accessFlags := 10, nameIndex := 44, descriptorIndex := 45, attributes := #[] }, { accessFlags := 9, nameIndex := 51, descriptorIndex := 52, attributes := #[] }] 49 2 #[] #[])
  fields := #[]
  methods := #[k1m0, k1m1, k1m2, k1m3, k1m4, k1m5]
  instanceTypes := #[]
  staticTypes := #[]
  resolved := Array.replicate 55 none
  statics := none }

def pool2 : Array CpInfo := pool [(1, .methodref 2 3), (0, .class_ 4), (0, .nameAndType 5 6), (0, u "java/lang/Object"), (0, u "<init>"), (0, u "()V"), (0, .fieldref 8 9), (0, .class_ 10), (0, .nameAndType 11 12), (0, u "com/example/knotwork/knotwork/generate/SeededRandom"), (0, u "state"), (0, u "J"), (36, u "GAMMA"), (1, u "DOUBLE_UNIT"), (0, u "D"), (0, u "(J)V")] 10

def k2c0 : Code := { maxStack := 3, maxLocals := 3, code := prog_34_method_1_code, exceptionTable := #[], attributes := #[] }
def k2m0 : Method := { name := "<init>", desc := "(J)V", sig := { parameters := [.long], returnType := none }, accessFlags := 0, code := some k2c0 }
/-- com/example/knotwork/knotwork/generate/SeededRandom -/
def k2 : Class := { plain "com/example/knotwork/knotwork/generate/SeededRandom" (some 0) with
  accessFlags := 48
  interfaces := #[]
  cf := some (fileOf pool2 8 #[] #[{ accessFlags := 0, nameIndex := 5, descriptorIndex := 53, attributes := #[] }] 48 2 #[] #[{ accessFlags := 26, nameIndex := 49, descriptorIndex := 12, attributes := #[] }, { accessFlags := 26, nameIndex := 51, descriptorIndex := 52, attributes := #[] }, { accessFlags := 2, nameIndex := 11, descriptorIndex := 12, attributes := #[] }])
  fields := #[{ name := "GAMMA", type := .long, accessFlags := 26, slot := 0, constantValue := 0 }, { name := "DOUBLE_UNIT", type := .double, accessFlags := 26, slot := 1, constantValue := 0 }, { name := "state", type := .long, accessFlags := 2, slot := 0, constantValue := 0 }]
  methods := #[k2m0]
  instanceTypes := #[.long]
  staticTypes := #[.long, .double]
  resolved := Array.replicate 64 none
  statics := none }

def pool3 : Array CpInfo := pool [(1, .methodref 2 3), (0, .class_ 4), (0, .nameAndType 5 6), (0, u "java/lang/Object"), (0, u "<init>"), (0, u "()V"), (0, .fieldref 8 9), (0, .class_ 10), (0, .nameAndType 11 12), (0, u "com/example/knotwork/knotwork/generate/FreeNumbers"), (0, u "bound"), (0, u "I"), (0, .long 63), (1, .long 64), (1, .fieldref 8 18), (0, .nameAndType 19 20), (0, u "taken"), (0, u "[J"), (0, .methodref 8 22), (0, .nameAndType 23 24), (0, u "isTaken"), (0, u "(I)Z"), (0, .fieldref 8 26), (0, .nameAndType 27 12), (0, u "takenCount"), (0, .long 18446744073709551615), (7, .methodref 8 37), (0, .nameAndType 38 39), (0, u "take"), (0, u "(I)V"), (6, .methodref 47 48), (0, .class_ 49), (0, .nameAndType 50 51), (0, u "java/lang/Long"), (0, u "numberOfTrailingZeros"), (0, u "(J)I"), (0, .methodref 8 53), (0, .nameAndType 54 55), (0, u "free"), (0, u "([II)V"), (3, u "takeDrawn"), (0, u "(ILjava/util/function/IntSupplier;Lcom/example/knotwork/knotwork/generate/SeededRandom;[II)V")] 4

def k3c0 : Code := { maxStack := 5, maxLocals := 2, code := prog_27_method_1_code, exceptionTable := #[], attributes := #[] }
def k3m0 : Method := { name := "<init>", desc := "(I)V", sig := { parameters := [.int], returnType := none }, accessFlags := 0, code := some k3c0 }
def k3c1 : Code := { maxStack := 7, maxLocals := 2, code := prog_27_method_2_code, exceptionTable := #[], attributes := #[] }
def k3m1 : Method := { name := "take", desc := "(I)V", sig := { parameters := [.int], returnType := none }, accessFlags := 0, code := some k3c1 }
def k3c2 : Code := { maxStack := 8, maxLocals := 5, code := prog_27_method_3_code, exceptionTable := #[], attributes := #[] }
def k3m2 : Method := { name := "free", desc := "([II)V", sig := { parameters := [(.array .int), .int], returnType := none }, accessFlags := 0, code := some k3c2 }
def k3c3 : Code := { maxStack := 6, maxLocals := 13, code := prog_27_method_4_code, exceptionTable := #[], attributes := #[] }
def k3m3 : Method := { name := "takeDrawn", desc := "(ILjava/util/function/IntSupplier;Lcom/example/knotwork/knotwork/generate/SeededRandom;[II)V", sig := { parameters := [.int, (.object "java/util/function/IntSupplier"), (.object "com/example/knotwork/knotwork/generate/SeededRandom"), (.array .int), .int], returnType := none }, accessFlags := 0, code := some k3c3 }
def k3c4 : Code := { maxStack := 5, maxLocals := 2, code := prog_27_method_5_code, exceptionTable := #[], attributes := #[] }
def k3m4 : Method := { name := "isTaken", desc := "(I)Z", sig := { parameters := [.int], returnType := some .boolean }, accessFlags := 2, code := some k3c4 }
/-- com/example/knotwork/knotwork/generate/FreeNumbers -/
def k3 : Class := { plain "com/example/knotwork/knotwork/generate/FreeNumbers" (some 0) with
  accessFlags := 48
  interfaces := #[]
  cf := some (fileOf pool3 8 #[] #[{ accessFlags := 0, nameIndex := 5, descriptorIndex := 39, attributes := #[] }, { accessFlags := 0, nameIndex := 38, descriptorIndex := 39, attributes := #[] }, { accessFlags := 0, nameIndex := 54, descriptorIndex := 55, attributes := #[] }, { accessFlags := 0, nameIndex := 59, descriptorIndex := 60, attributes := #[] }, { accessFlags := 2, nameIndex := 23, descriptorIndex := 24, attributes := #[] }] 48 2 #[] #[{ accessFlags := 18, nameIndex := 11, descriptorIndex := 12, attributes := #[] }, { accessFlags := 18, nameIndex := 19, descriptorIndex := 20, attributes := #[] }, { accessFlags := 2, nameIndex := 27, descriptorIndex := 12, attributes := #[] }])
  fields := #[{ name := "bound", type := .int, accessFlags := 18, slot := 0, constantValue := 0 }, { name := "taken", type := (.array .long), accessFlags := 18, slot := 1, constantValue := 0 }, { name := "takenCount", type := .int, accessFlags := 2, slot := 2, constantValue := 0 }]
  methods := #[k3m0, k3m1, k3m2, k3m3, k3m4]
  instanceTypes := #[.int, (.array .long), .int]
  staticTypes := #[]
  resolved := Array.replicate 65 none
  statics := none }

def pool4 : Array CpInfo := pool [(1, .class_ 2), (0, u "java/io/Serializable"), (0, .class_ 4), (0, u "java/lang/Object")] 2

/-- java/io/Serializable -/
def k4 : Class := { plain "java/io/Serializable" (some 0) with
  accessFlags := 1537
  interfaces := #[]
  cf := some (fileOf pool4 1 #[] #[] 1537 3 #[] #[])
  fields := #[]
  methods := #[]
  instanceTypes := #[]
  staticTypes := #[]
  resolved := Array.replicate 7 none
  statics := none }

def pool5 : Array CpInfo := pool [(2, .class_ 4), (1, u "java/lang/Object"), (0, u "<init>"), (0, u "()V"), (1, .class_ 10), (1, u "java/lang/Number"), (2, .class_ 14), (0, u "java/io/Serializable"), (0, u "serialVersionUID"), (0, u "J")] 20

def k5m0 : Method := { name := "<init>", desc := "()V", sig := { parameters := [], returnType := none }, accessFlags := 1, code := none }
/-- java/lang/Number -/
def k5 : Class := { plain "java/lang/Number" (some 0) with
  accessFlags := 1057
  interfaces := #[4]
  cf := some (fileOf pool5 8 #[] #[{ accessFlags := 1, nameIndex := 5, descriptorIndex := 6, attributes := #[] }] 1057 2 #[13] #[{ accessFlags := 26, nameIndex := 15, descriptorIndex := 16, attributes := #[] }])
  fields := #[{ name := "serialVersionUID", type := .long, accessFlags := 26, slot := 0, constantValue := 0 }]
  methods := #[k5m0]
  instanceTypes := #[]
  staticTypes := #[.long]
  resolved := Array.replicate 37 none
  statics := none }

def pool6 : Array CpInfo := pool [(1, .class_ 2), (0, u "java/lang/Comparable"), (0, .class_ 4), (0, u "java/lang/Object")] 7

/-- java/lang/Comparable -/
def k6 : Class := { plain "java/lang/Comparable" (some 0) with
  accessFlags := 1537
  interfaces := #[]
  cf := some (fileOf pool6 1 #[] #[] 1537 3 #[] #[])
  fields := #[]
  methods := #[]
  instanceTypes := #[]
  staticTypes := #[]
  resolved := Array.replicate 12 none
  statics := none }

def pool7 : Array CpInfo := pool [(1, .class_ 2), (0, u "java/lang/constant/Constable"), (0, .class_ 4), (0, u "java/lang/Object")] 6

/-- java/lang/constant/Constable -/
def k7 : Class := { plain "java/lang/constant/Constable" (some 0) with
  accessFlags := 1537
  interfaces := #[]
  cf := some (fileOf pool7 1 #[] #[] 1537 3 #[] #[])
  fields := #[]
  methods := #[]
  instanceTypes := #[]
  staticTypes := #[]
  resolved := Array.replicate 11 none
  statics := none }

def pool8 : Array CpInfo := pool [(1, .class_ 2), (0, u "java/lang/constant/ConstantDesc"), (0, .class_ 4), (0, u "java/lang/Object")] 32

/-- java/lang/constant/ConstantDesc -/
def k8 : Class := { plain "java/lang/constant/ConstantDesc" (some 0) with
  accessFlags := 1537
  interfaces := #[]
  cf := some (fileOf pool8 1 #[] #[] 1537 3 #[] #[])
  fields := #[]
  methods := #[]
  instanceTypes := #[]
  staticTypes := #[]
  resolved := Array.replicate 37 none
  statics := none }

def pool9 : Array CpInfo := pool [(1, .class_ 2), (0, u "java/lang/Long"), (15, .class_ 20), (1, u "java/lang/Integer"), (80, u "(J)I"), (133, .class_ 237), (1, u "java/lang/Long$LongCache"), (33, .class_ 272), (0, u "java/lang/Number"), (2, u "value"), (0, u "J"), (33, u "(I)I"), (0, .methodref 18 312), (0, .nameAndType 313 310), (0, u "numberOfTrailingZeros"), (47, u "TYPE"), (0, u "Ljava/lang/Class;"), (0, .class_ 364), (0, u "java/lang/Comparable"), (0, .class_ 366), (0, u "java/lang/constant/Constable"), (0, .class_ 368), (0, u "java/lang/constant/ConstantDesc"), (0, u "MIN_VALUE"), (1, u "MAX_VALUE"), (4, u "SIZE"), (0, u "I"), (1, u "BYTES"), (1, u "serialVersionUID")] 142

def k9c0 : Code := { maxStack := 4, maxLocals := 3, code := jdk_35_method_49_code, exceptionTable := #[], attributes := #[] }
def k9m0 : Method := { name := "numberOfTrailingZeros", desc := "(J)I", sig := { parameters := [.long], returnType := some .int }, accessFlags := 9, code := some k9c0 }
/-- java/lang/Long -/
def k9 : Class := { plain "java/lang/Long" (some 5) with
  accessFlags := 49
  interfaces := #[6, 7, 8]
  cf := some (fileOf pool9 1 #[.nestMembers #[235]] #[{ accessFlags := 9, nameIndex := 313, descriptorIndex := 101, attributes := #[] }] 49 271 #[363, 365, 367] #[{ accessFlags := 25, nameIndex := 369, descriptorIndex := 276, attributes := #[] }, { accessFlags := 25, nameIndex := 371, descriptorIndex := 276, attributes := #[] }, { accessFlags := 25, nameIndex := 361, descriptorIndex := 362, attributes := #[] }, { accessFlags := 18, nameIndex := 275, descriptorIndex := 276, attributes := #[] }, { accessFlags := 25, nameIndex := 376, descriptorIndex := 377, attributes := #[] }, { accessFlags := 25, nameIndex := 379, descriptorIndex := 377, attributes := #[] }, { accessFlags := 26, nameIndex := 381, descriptorIndex := 276, attributes := #[] }])
  fields := #[{ name := "MIN_VALUE", type := .long, accessFlags := 25, slot := 0, constantValue := 0 }, { name := "MAX_VALUE", type := .long, accessFlags := 25, slot := 1, constantValue := 0 }, { name := "TYPE", type := (.object "java/lang/Class"), accessFlags := 25, slot := 2, constantValue := 0 }, { name := "value", type := .long, accessFlags := 18, slot := 0, constantValue := 0 }, { name := "SIZE", type := .int, accessFlags := 25, slot := 3, constantValue := 0 }, { name := "BYTES", type := .int, accessFlags := 25, slot := 4, constantValue := 0 }, { name := "serialVersionUID", type := .long, accessFlags := 26, slot := 5, constantValue := 0 }]
  methods := #[k9m0]
  instanceTypes := #[.long]
  staticTypes := #[.long, .long, (.object "java/lang/Class"), .int, .int, .long]
  resolved := Array.replicate 524 none
  statics := none }

def pool10 : Array CpInfo := pool [(1, .class_ 2), (0, u "java/lang/Integer"), (16, u "digits"), (0, u "[C"), (33, u "(I)I"), (30, u "DigitOnes"), (0, u "[B"), (2, u "DigitTens"), (99, .class_ 190), (0, u "java/lang/Integer$IntegerCache"), (3, u "I"), (8, .class_ 204), (0, u "java/lang/Number"), (2, u "value"), (56, .integer 65536), (37, u "TYPE"), (0, u "Ljava/lang/Class;"), (0, .class_ 305), (0, u "java/lang/Comparable"), (0, .class_ 307), (0, u "java/lang/constant/Constable"), (0, .class_ 309), (0, u "java/lang/constant/ConstantDesc"), (0, u "MIN_VALUE"), (1, u "MAX_VALUE"), (3, u "SIZE"), (1, u "BYTES"), (1, u "serialVersionUID"), (0, u "J"), (84, u "numberOfTrailingZeros")] 46

def k10c0 : Code := { maxStack := 3, maxLocals := 2, code := jdk_33_method_48_code, exceptionTable := #[], attributes := #[] }
def k10m0 : Method := { name := "numberOfTrailingZeros", desc := "(I)I", sig := { parameters := [.int], returnType := some .int }, accessFlags := 9, code := some k10c0 }
/-- java/lang/Integer -/
def k10 : Class := { plain "java/lang/Integer" (some 5) with
  accessFlags := 49
  interfaces := #[6, 7, 8]
  cf := some (fileOf pool10 1 #[.nestMembers #[189]] #[{ accessFlags := 9, nameIndex := 406, descriptorIndex := 54, attributes := #[] }] 49 203 #[304, 306, 308] #[{ accessFlags := 25, nameIndex := 310, descriptorIndex := 194, attributes := #[] }, { accessFlags := 25, nameIndex := 312, descriptorIndex := 194, attributes := #[] }, { accessFlags := 25, nameIndex := 302, descriptorIndex := 303, attributes := #[] }, { accessFlags := 24, nameIndex := 19, descriptorIndex := 20, attributes := #[] }, { accessFlags := 24, nameIndex := 89, descriptorIndex := 86, attributes := #[] }, { accessFlags := 24, nameIndex := 85, descriptorIndex := 86, attributes := #[] }, { accessFlags := 18, nameIndex := 207, descriptorIndex := 194, attributes := #[] }, { accessFlags := 25, nameIndex := 316, descriptorIndex := 194, attributes := #[] }, { accessFlags := 25, nameIndex := 318, descriptorIndex := 194, attributes := #[] }, { accessFlags := 26, nameIndex := 320, descriptorIndex := 321, attributes := #[] }])
  fields := #[{ name := "MIN_VALUE", type := .int, accessFlags := 25, slot := 0, constantValue := 0 }, { name := "MAX_VALUE", type := .int, accessFlags := 25, slot := 1, constantValue := 0 }, { name := "TYPE", type := (.object "java/lang/Class"), accessFlags := 25, slot := 2, constantValue := 0 }, { name := "digits", type := (.array .char), accessFlags := 24, slot := 3, constantValue := 0 }, { name := "DigitTens", type := (.array .byte), accessFlags := 24, slot := 4, constantValue := 0 }, { name := "DigitOnes", type := (.array .byte), accessFlags := 24, slot := 5, constantValue := 0 }, { name := "value", type := .int, accessFlags := 18, slot := 0, constantValue := 0 }, { name := "SIZE", type := .int, accessFlags := 25, slot := 6, constantValue := 0 }, { name := "BYTES", type := .int, accessFlags := 25, slot := 7, constantValue := 0 }, { name := "serialVersionUID", type := .long, accessFlags := 26, slot := 8, constantValue := 0 }]
  methods := #[k10m0]
  instanceTypes := #[.int]
  staticTypes := #[.int, .int, (.object "java/lang/Class"), (.array .char), (.array .byte), (.array .byte), .int, .int, .long]
  resolved := Array.replicate 453 none
  statics := none }

def pool11 : Array CpInfo := pool [(1, u "java/lang/Cloneable"), (0, .class_ 1), (0, u "java/lang/Object"), (0, .class_ 3)] 3

/-- java/lang/Cloneable -/
def k11 : Class := { plain "java/lang/Cloneable" (some 0) with
  accessFlags := 1537
  interfaces := #[]
  cf := some (fileOf pool11 2 #[] #[] 1537 4 #[] #[])
  fields := #[]
  methods := #[]
  instanceTypes := #[]
  staticTypes := #[]
  resolved := Array.replicate 8 none
  statics := none }

/-- the primitive byte -/
def k12 : Class := { plain "byte" none with kind := .primitive 'B', accessFlags := 0x411 }
/-- [B -/
def k13 : Class := { plain "[B" (some 0) with kind := .array 12 .byte, interfaces := #[11, 4], accessFlags := 1041 }

/-- the primitive int -/
def k14 : Class := { plain "int" none with kind := .primitive 'I', accessFlags := 0x411 }
/-- [I -/
def k15 : Class := { plain "[I" (some 0) with kind := .array 14 .int, interfaces := #[11, 4], accessFlags := 1041 }

/-- the primitive long -/
def k16 : Class := { plain "long" none with kind := .primitive 'J', accessFlags := 0x411 }
/-- [J -/
def k17 : Class := { plain "[J" (some 0) with kind := .array 16 .long, interfaces := #[11, 4], accessFlags := 1041 }

def heap : Heap := #[]
def classes : Array Class := #[k0, k1, k2, k3, k4, k5, k6, k7, k8, k9, k10, k11, k12, k13, k14, k15, k16, k17]
def interned : List (Array UInt16 × Addr) := []
def slotsUsed : Nat := 0
def theMethod : MethodId := ⟨1, 5⟩
def args0 : Array Value := #[.int 5, .int 7, .int 3, .int 9, .long 4]
def aboutOver (below : List Frame) : State where
  vm := { classes := classes, interned := interned.toArray }
  heap := heap
  slotsUsed := slotsUsed
  threads := #[{ frames := .invoking theMethod args0 :: below }]
def below0 : List Frame := [.native { method := ⟨0, 0⟩, args := #[] }]
def about1 : State := aboutOver below0
def p0 : Program := .bare "" "" ""
def e0 : Env := launch0.env 0 0 0
theorem w_frames : about1.frames = Frame.invoking theMethod args0 :: below0 := rfl
set_option maxRecDepth 65536 in
theorem w_args : argsFit about1.vm theMethod args0 = true := by decide +kernel
set_option maxRecDepth 65536 in
theorem w_heap : heapFits about1 = true := by decide +kernel
set_option maxRecDepth 65536 in
theorem w_runnable : about1.curStatus? = some .runnable := by decide +kernel
set_option maxRecDepth 65536 in
theorem w_alone : about1.alone = true := by decide +kernel
set_option maxRecDepth 65536 in
theorem w_named : about1.methodNamed? x = some theMethod := by decide +kernel
set_option maxRecDepth 65536 in
theorem w_hears : about1.hears theMethod below0 = true := by decide +kernel
set_option maxRecDepth 65536 in
theorem w_ripe : about1.ripe theMethod args0 below0 = true := by decide +kernel
theorem w_running : about1.status = .running := rfl
set_option maxRecDepth 65536 in
theorem w_room : about1.hasRoom e0.platform room_1 = true :=
  launch0.hasRoom_least _ room_1 (by decide +kernel) (by decide +kernel) (by decide +kernel) (by decide +kernel) (by decide +kernel) (by decide +kernel)
theorem allAtoms_all (ts : List Jvm.Cond) (a : Array Jvm.Value) (st : Jvm.State) : (allAtoms ts).before a st = ts.all (fun c => c.before a st) := by
  induction ts with
  | nil => rfl
  | cons c t ih =>
    show (Jvm.Cond.and c (allAtoms t)).before a st = _
    rw [Jvm.Cond.before_and, ih, List.all_cons]
def words1 : List Jvm.Cond := Jvm.Cond.code x code maxLocals ret :: tables_1
/-- a 'code' word, met by the world's own term for the bytes: nothing is compared byte by byte -/
theorem code_word {y : MethodName} {bytes : ByteArray} {mx : Nat} {rt : Option FieldType} {a : Array Value} {s : State} {m : MethodId} {meth : Method} {c : Code} (h1 : s.methodNamed? y = some m) (h2 : s.vm.method? m = some meth) (h3 : meth.code = some c) (h4 : c.code = bytes)
    (h5 : (c.maxLocals == mx && c.exceptionTable.isEmpty && decide (c.maxStack ≤ mostOperands) && decide (meth.sig.returnType = rt) && !meth.locks && decide (parseMethodDescriptor y.desc = some meth.sig)) = true) : (Jvm.Cond.code y bytes mx rt).before a s = true := by
  simp only [Bool.and_eq_true, beq_iff_eq, Bool.not_eq_true', decide_eq_true_eq] at h5
  obtain ⟨⟨⟨⟨⟨g1, g2⟩, g3⟩, g4⟩, g5⟩, g6⟩ := h5
  simp [Cond.before, Cond.holds, Cond.value, h1, h2, h3, h4, g1, g2, g3, g4, g5, g6]
def isCode : Jvm.Cond → Bool
  | .code _ _ _ _ => true
  | _ => false
theorem all_split {L : List Jvm.Cond} {P : Jvm.Cond → Bool} (h1 : L.all (fun c => isCode c || P c) = true) (h2 : ∀ c ∈ L.filter isCode, P c = true) : L.all P = true := by
  refine List.all_eq_true.mpr fun c hc => ?_
  have h := List.all_eq_true.mp h1 c hc
  rcases Bool.eq_false_or_eq_true (isCode c) with hi | hi
  · exact h2 c (List.mem_filter.mpr ⟨hc, hi⟩)
  · simpa [hi] using h
set_option maxRecDepth 65536 in
theorem w_c0 : (Jvm.Cond.code x code maxLocals ret).before args0 about1 = true := code_word (m := ⟨1, 5⟩) (meth := k1m5) (c := k1c5) (by decide +kernel) rfl rfl rfl (by decide +kernel)
set_option maxRecDepth 65536 in
theorem w_c1 : (Jvm.Cond.code ({ cls := "com/example/knotwork/knotwork/generate/FreeNumbersFreePinLaw", name := "pick", desc := "(IIIII)I" } : Jvm.MethodName) method_2_code (5 : Nat) (Option.some Jvm.ClassFile.FieldType.int)).before args0 about1 = true := code_word (m := ⟨1, 1⟩) (meth := k1m1) (c := k1c1) (by decide +kernel) rfl rfl rfl (by decide +kernel)
set_option maxRecDepth 65536 in
theorem w_c2 : (Jvm.Cond.code ({ cls := "com/example/knotwork/knotwork/generate/SeededRandom", name := "<init>", desc := "(J)V" } : Jvm.MethodName) prog_34_method_1_code (3 : Nat) (Option.none : Option Jvm.ClassFile.FieldType)).before args0 about1 = true := code_word (m := ⟨2, 0⟩) (meth := k2m0) (c := k2c0) (by decide +kernel) rfl rfl rfl (by decide +kernel)
set_option maxRecDepth 65536 in
theorem w_c3 : (Jvm.Cond.code ({ cls := "java/lang/Object", name := "<init>", desc := "()V" } : Jvm.MethodName) object_method_1_code (1 : Nat) (Option.none : Option Jvm.ClassFile.FieldType)).before args0 about1 = true := code_word (m := ⟨0, 0⟩) (meth := k0m0) (c := k0c0) (by decide +kernel) rfl rfl rfl (by decide +kernel)
set_option maxRecDepth 65536 in
theorem w_c4 : (Jvm.Cond.code ({ cls := "com/example/knotwork/knotwork/generate/FreeNumbers", name := "<init>", desc := "(I)V" } : Jvm.MethodName) prog_27_method_1_code (2 : Nat) (Option.none : Option Jvm.ClassFile.FieldType)).before args0 about1 = true := code_word (m := ⟨3, 0⟩) (meth := k3m0) (c := k3c0) (by decide +kernel) rfl rfl rfl (by decide +kernel)
set_option maxRecDepth 65536 in
theorem w_c5 : (Jvm.Cond.code ({ cls := "com/example/knotwork/knotwork/generate/FreeNumbers", name := "take", desc := "(I)V" } : Jvm.MethodName) prog_27_method_2_code (2 : Nat) (Option.none : Option Jvm.ClassFile.FieldType)).before args0 about1 = true := code_word (m := ⟨3, 1⟩) (meth := k3m1) (c := k3c1) (by decide +kernel) rfl rfl rfl (by decide +kernel)
set_option maxRecDepth 65536 in
theorem w_c6 : (Jvm.Cond.code ({ cls := "com/example/knotwork/knotwork/generate/FreeNumbers", name := "isTaken", desc := "(I)Z" } : Jvm.MethodName) prog_27_method_5_code (2 : Nat) (Option.some Jvm.ClassFile.FieldType.boolean)).before args0 about1 = true := code_word (m := ⟨3, 4⟩) (meth := k3m4) (c := k3c4) (by decide +kernel) rfl rfl rfl (by decide +kernel)
set_option maxRecDepth 65536 in
theorem w_c7 : (Jvm.Cond.code ({ cls := "com/example/knotwork/knotwork/generate/FreeNumbers", name := "free", desc := "([II)V" } : Jvm.MethodName) prog_27_method_3_code (5 : Nat) (Option.none : Option Jvm.ClassFile.FieldType)).before args0 about1 = true := code_word (m := ⟨3, 2⟩) (meth := k3m2) (c := k3c2) (by decide +kernel) rfl rfl rfl (by decide +kernel)
set_option maxRecDepth 65536 in
theorem w_c8 : (Jvm.Cond.code ({ cls := "com/example/knotwork/knotwork/generate/FreeNumbersFreePinLaw", name := "below", desc := "(I[I[II)I" } : Jvm.MethodName) method_4_code (5 : Nat) (Option.some Jvm.ClassFile.FieldType.int)).before args0 about1 = true := code_word (m := ⟨1, 3⟩) (meth := k1m3) (c := k1c3) (by decide +kernel) rfl rfl rfl (by decide +kernel)
set_option maxRecDepth 65536 in
theorem w_c9 : (Jvm.Cond.code ({ cls := "com/example/knotwork/knotwork/generate/FreeNumbersFreePinLaw", name := "inT", desc := "(I[I[II)Z" } : Jvm.MethodName) method_3_code (6 : Nat) (Option.some Jvm.ClassFile.FieldType.boolean)).before args0 about1 = true := code_word (m := ⟨1, 2⟩) (meth := k1m2) (c := k1c2) (by decide +kernel) rfl rfl rfl (by decide +kernel)
set_option maxRecDepth 65536 in
theorem w_c10 : (Jvm.Cond.code ({ cls := "com/example/knotwork/knotwork/generate/FreeNumbers", name := "takeDrawn", desc := "(ILjava/util/function/IntSupplier;Lcom/example/knotwork/knotwork/generate/SeededRandom;[II)V" } : Jvm.MethodName) prog_27_method_4_code (13 : Nat) (Option.none : Option Jvm.ClassFile.FieldType)).before args0 about1 = true := code_word (m := ⟨3, 3⟩) (meth := k3m3) (c := k3c3) (by decide +kernel) rfl rfl rfl (by decide +kernel)
set_option maxRecDepth 65536 in
theorem w_c11 : (Jvm.Cond.code ({ cls := "com/example/knotwork/knotwork/generate/FreeNumbersFreePinLaw", name := "ok", desc := "(I[I[II[II)Z" } : Jvm.MethodName) method_5_code (8 : Nat) (Option.some Jvm.ClassFile.FieldType.boolean)).before args0 about1 = true := code_word (m := ⟨1, 4⟩) (meth := k1m4) (c := k1c4) (by decide +kernel) rfl rfl rfl (by decide +kernel)
set_option maxRecDepth 65536 in
theorem w_c12 : (Jvm.Cond.code ({ cls := "java/lang/Long", name := "numberOfTrailingZeros", desc := "(J)I" } : Jvm.MethodName) jdk_35_method_49_code (3 : Nat) (Option.some Jvm.ClassFile.FieldType.int)).before args0 about1 = true := code_word (m := ⟨9, 0⟩) (meth := k9m0) (c := k9c0) (by decide +kernel) rfl rfl rfl (by decide +kernel)
set_option maxRecDepth 65536 in
theorem w_c13 : (Jvm.Cond.code ({ cls := "java/lang/Integer", name := "numberOfTrailingZeros", desc := "(I)I" } : Jvm.MethodName) jdk_33_method_48_code (2 : Nat) (Option.some Jvm.ClassFile.FieldType.int)).before args0 about1 = true := code_word (m := ⟨10, 0⟩) (meth := k10m0) (c := k10c0) (by decide +kernel) rfl rfl rfl (by decide +kernel)
def codes1 : List Jvm.Cond := [Jvm.Cond.code x code maxLocals ret, Jvm.Cond.code ({ cls := "com/example/knotwork/knotwork/generate/FreeNumbersFreePinLaw", name := "pick", desc := "(IIIII)I" } : Jvm.MethodName) method_2_code (5 : Nat) (Option.some Jvm.ClassFile.FieldType.int), Jvm.Cond.code ({ cls := "com/example/knotwork/knotwork/generate/SeededRandom", name := "<init>", desc := "(J)V" } : Jvm.MethodName) prog_34_method_1_code (3 : Nat) (Option.none : Option Jvm.ClassFile.FieldType), Jvm.Cond.code ({ cls := "java/lang/Object", name := "<init>", desc := "()V" } : Jvm.MethodName) object_method_1_code (1 : Nat) (Option.none : Option Jvm.ClassFile.FieldType), Jvm.Cond.code ({ cls := "com/example/knotwork/knotwork/generate/FreeNumbers", name := "<init>", desc := "(I)V" } : Jvm.MethodName) prog_27_method_1_code (2 : Nat) (Option.none : Option Jvm.ClassFile.FieldType), Jvm.Cond.code ({ cls := "com/example/knotwork/knotwork/generate/FreeNumbers", name := "take", desc := "(I)V" } : Jvm.MethodName) prog_27_method_2_code (2 : Nat) (Option.none : Option Jvm.ClassFile.FieldType), Jvm.Cond.code ({ cls := "com/example/knotwork/knotwork/generate/FreeNumbers", name := "isTaken", desc := "(I)Z" } : Jvm.MethodName) prog_27_method_5_code (2 : Nat) (Option.some Jvm.ClassFile.FieldType.boolean), Jvm.Cond.code ({ cls := "com/example/knotwork/knotwork/generate/FreeNumbers", name := "free", desc := "([II)V" } : Jvm.MethodName) prog_27_method_3_code (5 : Nat) (Option.none : Option Jvm.ClassFile.FieldType), Jvm.Cond.code ({ cls := "com/example/knotwork/knotwork/generate/FreeNumbersFreePinLaw", name := "below", desc := "(I[I[II)I" } : Jvm.MethodName) method_4_code (5 : Nat) (Option.some Jvm.ClassFile.FieldType.int), Jvm.Cond.code ({ cls := "com/example/knotwork/knotwork/generate/FreeNumbersFreePinLaw", name := "inT", desc := "(I[I[II)Z" } : Jvm.MethodName) method_3_code (6 : Nat) (Option.some Jvm.ClassFile.FieldType.boolean), Jvm.Cond.code ({ cls := "com/example/knotwork/knotwork/generate/FreeNumbers", name := "takeDrawn", desc := "(ILjava/util/function/IntSupplier;Lcom/example/knotwork/knotwork/generate/SeededRandom;[II)V" } : Jvm.MethodName) prog_27_method_4_code (13 : Nat) (Option.none : Option Jvm.ClassFile.FieldType), Jvm.Cond.code ({ cls := "com/example/knotwork/knotwork/generate/FreeNumbersFreePinLaw", name := "ok", desc := "(I[I[II[II)Z" } : Jvm.MethodName) method_5_code (8 : Nat) (Option.some Jvm.ClassFile.FieldType.boolean), Jvm.Cond.code ({ cls := "java/lang/Long", name := "numberOfTrailingZeros", desc := "(J)I" } : Jvm.MethodName) jdk_35_method_49_code (3 : Nat) (Option.some Jvm.ClassFile.FieldType.int), Jvm.Cond.code ({ cls := "java/lang/Integer", name := "numberOfTrailingZeros", desc := "(I)I" } : Jvm.MethodName) jdk_33_method_48_code (2 : Nat) (Option.some Jvm.ClassFile.FieldType.int)]
set_option maxRecDepth 65536 in
theorem codes_eq : words1.filter isCode = codes1 := rfl
theorem w_codes : ∀ c ∈ words1.filter isCode, c.before args0 about1 = true := by
  rw [codes_eq]
  intro c hc
  simp only [codes1, List.mem_cons, List.not_mem_nil, or_false] at hc
  rcases hc with rfl | rfl | rfl | rfl | rfl | rfl | rfl | rfl | rfl | rfl | rfl | rfl | rfl | rfl
  · exact w_c0
  · exact w_c1
  · exact w_c2
  · exact w_c3
  · exact w_c4
  · exact w_c5
  · exact w_c6
  · exact w_c7
  · exact w_c8
  · exact w_c9
  · exact w_c10
  · exact w_c11
  · exact w_c12
  · exact w_c13
set_option maxRecDepth 65536 in
theorem w_t1 : (words1.take 24).all (fun c => isCode c || c.before args0 about1) = true := by decide +kernel
set_option maxRecDepth 65536 in
theorem w_t2 : ((words1.drop 24).take 24).all (fun c => isCode c || c.before args0 about1) = true := by decide +kernel
set_option maxRecDepth 65536 in
theorem w_t3 : (((words1.drop 24).drop 24).take 24).all (fun c => isCode c || c.before args0 about1) = true := by decide +kernel
set_option maxRecDepth 65536 in
theorem w_t4 : (((words1.drop 24).drop 24).drop 24).all (fun c => isCode c || c.before args0 about1) = true := by decide +kernel
theorem w_tables : (allAtoms (Jvm.Cond.code x code maxLocals ret :: tables_1)).before args0 about1 = true := by
  rw [allAtoms_all]
  show words1.all (fun c => c.before args0 about1) = true
  refine all_split ?_ w_codes
  rw [← List.take_append_drop 24 words1, List.all_append, w_t1, ← List.take_append_drop 24 (words1.drop 24), List.all_append, w_t2, ← List.take_append_drop 24 ((words1.drop 24).drop 24), List.all_append, w_t3, w_t4]
  rfl
set_option maxRecDepth 65536 in
theorem w_case : (Jvm.Cond.and given_1 narrow_1).before args0 about1 = true := by decide +kernel
theorem w_applies : (headSpec (Jvm.Cond.code x code maxLocals ret :: tables_1) room_1).applies x e0.platform about1 = true :=
  (Spec.applies_iff w_frames).mpr ⟨w_running, w_runnable, w_alone, w_named, w_hears, w_ripe, w_room, w_tables⟩
theorem atStart : AtStart classFile x code maxLocals ret World_1 tables_1 room_1 Calls_1 rest_1 Pre_1 launch0 p0 e0 about1 theMethod args0 below0 :=
  ⟨lists_1, trivial, launch0.admits_env _ _ _, launch0.least_env, fairChoices_fair.cas, fairChoices_fair.clock, w_frames, w_args, w_heap, w_applies, trivial, trivial, w_case⟩
end start1
theorem witness_1 : WitnessClaimed_1 := ⟨start1.p0, start1.e0, start1.about1, start1.theMethod, start1.args0, start1.below0, start1.atStart⟩
end Jvm.Pilot.@@N@@
