import JvmDerived
import JvmDerived.Pilot.@@N@@Statement
import JvmDerived.Pilot.@@N@@Code
set_option linter.unusedVariables false
set_option linter.unusedSimpArgs false
namespace Jvm.RoadKit
open Sem ClassFile Op Lib Jvm.Stand Jvm.Free Jvm.LawKit
section New
variable {p : Program} {l : Launch} {e : Env} {R : Room} {s : State} {m : MethodId} {args : Array Value} {below : List Frame} {meth : Method} {c : Code} {T : State} {locs : List Loc} {cells slots : Nat}
theorem retI (X : Stand p l e R s m args below meth c T locs cells slots) (hx : p.tables.exec = Jvm.exec) {pc : Nat} {Ls : Array Slot} {z : Int32} {rest : List Value} (hret : meth.sig.returnType = some .int) (hd : decode c.code pc = .ok (.ireturn, 1)) {fs : List Frame}
    (hl : ∀ (f : JFrame) (acts : List Action), f.method = m → f.locked = none → f.entered = [] → (doReturn e (T.setTop f) acts (some (.int z))).1 = T.setFrames fs) : Steps p.tables e below (T.setTop (mkF m pc Ls (.int z :: rest))) (T.setFrames fs) := by
  have hm' : T.vm.method? m = some meth := X.method'
  have hn : narrow .int (.int z) = .int z := rfl
  show Steps p.tables e below (T.setTop { method := m, pc := pc, locals := Ls, stack := _ :: rest, locked := none }) _
  jvm_step X.here [X.here.top, hx, hd, hm', hret, hn]
  first | (intro acts; rw [hl _ acts rfl rfl rfl]) | rw [hl _ _ rfl rfl rfl]
  exact Steps.refl _
end New
end Jvm.RoadKit
namespace Jvm.Pilot.@@N@@
open Jvm Jvm.ClassFile Sem Op Lib Jvm.Free Jvm.Stand Jvm.LawKit Jvm.RoadKit Bundle Jvm.Pilot.@@N@@.Jvm.D
theorem pd_0 : parseMethodDescriptor "(I)I" = some ⟨[.int], some .int⟩ := by decide +kernel
theorem pd_1 : parseMethodDescriptor "(I)V" = some ⟨[.int], none⟩ := by decide +kernel
theorem pd_2 : parseMethodDescriptor "(II)V" = some ⟨[.int, .int], none⟩ := by decide +kernel
theorem pd_3 : parseMethodDescriptor "([I[III)V" = some ⟨[(.array .int), (.array .int), .int, .int], none⟩ := by decide +kernel
def getI (ps : List Int32) (j : Int32) : Int32 := ps.getD j.toNatClampNeg 0
def setI (ps : List Int32) (j x : Int32) : List Int32 := ps.set j.toNatClampNeg x
/-- an array of ints (or booleans) whose elements are all known -/
def Ia (Z : State) (h : Heap) (a : Addr) (k : ClassId) (ty : FieldType) (n : Int32) (ps : List Int32) : Prop := Arv Z h a k ty n (ps.map Value.int) (.int 0) ∧ ps.length = n.toNatClampNeg
section OwnArr
variable {Z : State} {h h' : Heap} {a b : Addr} {k : ClassId} {ty : FieldType} {n j x : Int32} {ps : List Int32} {v : Value} {sl : Nat} {ws : List Addr}
theorem Ia.lt (F : Ia Z h a k ty n ps) : a < h.size := F.1.lt
theorem Ia.ext (F : Ia Z h a k ty n ps) (E : Ext h h') : Ia Z h' a k ty n ps := ⟨F.1.ext E, F.2⟩
theorem Ia.other (F : Ia Z h b k ty n ps) (W : Wr h h' a sl v) (q : b ≠ a) : Ia Z h' b k ty n ps := ⟨F.1.other W q, F.2⟩
theorem Ia.keep (F : Ia Z h a k ty n ps) (K : Keep h h' ws) (q : a ∉ ws) : Ia Z h' a k ty n ps := ⟨F.1.keep K q, F.2⟩
theorem own_lenlt (hj : ¬ j < 0 ∧ j < n) : j.toNatClampNeg < n.toNatClampNeg := by
  obtain ⟨h1, h2⟩ := hj
  have e0 : (0 : Int32).toInt = 0 := rfl
  rw [Int32.lt_iff_toInt_lt] at h1 h2
  simp only [Int32.toNatClampNeg]; omega
theorem Ia.get (F : Ia Z h a k ty n ps) (hj : ¬ j < 0 ∧ j < n) : ∃ cl : Cell, Arr Z h a cl ty ∧ ¬ (j < 0 ∨ cl.slots.size ≤ j.toNatClampNeg) ∧ cl.slots[j.toNatClampNeg]? = some (.int (getI ps j)) := by
  obtain ⟨⟨cl, A, q1, S, q3, H, G⟩, hl⟩ := F
  have hin := inb_of S hj
  refine ⟨cl, A, hin, Has.at H hin ?_⟩
  simp only [getI, List.getD_eq_getElem?_getD, List.getElem?_map]
  cases ps[j.toNatClampNeg]? <;> rfl
theorem Ia.set (F : Ia Z h a k ty n ps) (hj : ¬ j < 0 ∧ j < n) (hv : fits ty (.int x) = true) (W : Wr h h' a j.toNatClampNeg (.int x)) : Ia Z h' a k ty n (setI ps j x) := by
  obtain ⟨⟨cl, A, q1, S, q3, H, G⟩, hl⟩ := F
  have hi : j.toNatClampNeg < (ps.map Value.int).length := by rw [List.length_map, hl]; exact own_lenlt hj
  have r := Arv.set A q1 S q3 H G hv W _ rfl hi
  refine ⟨?_, by rw [setI, List.length_set]; exact hl⟩
  rw [setI, List.map_set]; exact r
theorem Ia.new (A : Arr Z h a (newA k ty n) ty) (q : ¬ n < 0) (hd : defaultValue ty = .int 0) : Ia Z h a k ty n (List.replicate n.toNatClampNeg 0) := by
  refine ⟨?_, List.length_replicate⟩
  have r := Arv.new A q
  rw [hd] at r
  rw [List.map_replicate]
  exact r.pad (pad_rep [] (.int 0) n.toNatClampNeg)
theorem Ia.size (F : Ia Z h a k ty n ps) : ∃ cl : Cell, Arr Z h a cl ty ∧ cl.slots.size.toInt32 = n := by
  obtain ⟨⟨cl, A, q1, S, q3, H, G⟩, hl⟩ := F
  exact ⟨cl, A, len_of S q3⟩
end OwnArr

abbrev inr (x : Int32) : Prop := ¬ x < (0 : Int32) ∧ x < (4 : Int32)
abbrev RokA (ps : List Int32) (x : Int32) : Prop := inr x ∧ inr (getI ps x) ∧ inr (getI ps (getI ps x)) ∧ getI ps (getI ps (getI ps x)) = getI ps (getI ps x)
def Rok (ps : List Int32) (x : Int32) : Prop := RokA ps x
theorem own_gs {ps : List Int32} {j x : Int32} (hl : ps.length = (4 : Int32).toNatClampNeg) (hj : inr j) : getI (setI ps j x) j = x := by
  have h : j.toNatClampNeg < ps.length := by rw [hl]; exact own_lenlt hj
  simp only [getI, setI, List.getD_eq_getElem?_getD]
  rw [List.getElem?_set_self h]; rfl
theorem own_stop {ps : List Int32} {x : Int32} (hl : ps.length = (4 : Int32).toNatClampNeg) (hR : Rok ps x) : getI (setI ps x (getI ps (getI ps x))) (getI ps (getI ps x)) = getI ps (getI ps x) := by
  have h : x.toNatClampNeg < ps.length := by rw [hl]; exact own_lenlt hR.1
  have e := hR.2.2.2
  generalize getI ps (getI ps x) = z at *
  simp only [getI, setI, List.getD_eq_getElem?_getD] at e ⊢
  by_cases q : x.toNatClampNeg = z.toNatClampNeg
  · rw [← q, List.getElem?_set_self h]; rfl
  · rw [List.getElem?_set_ne q]; exact e

theorem d1_0 : decode prog_24_method_1_code 0 = .ok (.aload_n 0, 1) := by decide +kernel
theorem d1_1 : decode prog_24_method_1_code 1 = .ok (.invokespecial 1, 3) := by decide +kernel
theorem d1_4 : decode prog_24_method_1_code 4 = .ok (.aload_n 0, 1) := by decide +kernel
theorem d1_5 : decode prog_24_method_1_code 5 = .ok (.iload_n 1, 1) := by decide +kernel
theorem d1_6 : decode prog_24_method_1_code 6 = .ok (.newarray .int, 2) := by decide +kernel
theorem d1_8 : decode prog_24_method_1_code 8 = .ok (.putfield 7, 3) := by decide +kernel
theorem d1_11 : decode prog_24_method_1_code 11 = .ok (.aload_n 0, 1) := by decide +kernel
theorem d1_12 : decode prog_24_method_1_code 12 = .ok (.iload_n 1, 1) := by decide +kernel
theorem d1_13 : decode prog_24_method_1_code 13 = .ok (.newarray .int, 2) := by decide +kernel
theorem d1_15 : decode prog_24_method_1_code 15 = .ok (.putfield 13, 3) := by decide +kernel
theorem d1_18 : decode prog_24_method_1_code 18 = .ok (.iconst 0, 1) := by decide +kernel
theorem d1_19 : decode prog_24_method_1_code 19 = .ok (.istore_n 2, 1) := by decide +kernel
theorem d1_20 : decode prog_24_method_1_code 20 = .ok (.iload_n 2, 1) := by decide +kernel
theorem d1_21 : decode prog_24_method_1_code 21 = .ok (.iload_n 1, 1) := by decide +kernel
theorem d1_22 : decode prog_24_method_1_code 22 = .ok (.if_icmp .ge 23, 3) := by decide +kernel
theorem d1_25 : decode prog_24_method_1_code 25 = .ok (.aload_n 0, 1) := by decide +kernel
theorem d1_26 : decode prog_24_method_1_code 26 = .ok (.getfield 7, 3) := by decide +kernel
theorem d1_29 : decode prog_24_method_1_code 29 = .ok (.iload_n 2, 1) := by decide +kernel
theorem d1_30 : decode prog_24_method_1_code 30 = .ok (.iload_n 2, 1) := by decide +kernel
theorem d1_31 : decode prog_24_method_1_code 31 = .ok (.iastore, 1) := by decide +kernel
theorem d1_32 : decode prog_24_method_1_code 32 = .ok (.aload_n 0, 1) := by decide +kernel
theorem d1_33 : decode prog_24_method_1_code 33 = .ok (.getfield 13, 3) := by decide +kernel
theorem d1_36 : decode prog_24_method_1_code 36 = .ok (.iload_n 2, 1) := by decide +kernel
theorem d1_37 : decode prog_24_method_1_code 37 = .ok (.iconst 1, 1) := by decide +kernel
theorem d1_38 : decode prog_24_method_1_code 38 = .ok (.iastore, 1) := by decide +kernel
theorem d1_39 : decode prog_24_method_1_code 39 = .ok (.iinc 2 1, 3) := by decide +kernel
theorem d1_42 : decode prog_24_method_1_code 42 = .ok (.goto (-22), 3) := by decide +kernel
theorem d1_45 : decode prog_24_method_1_code 45 = .ok (.return_, 1) := by decide +kernel
theorem pn_1 : plainName "com/example/shingle/shingle/Joined" = true := by first | (simp [plainName, overriddenIn]; done) | decide +kernel
theorem ef_1 (m : MethodId) (x0 : Addr) (x1 : Int32) : entryFrame m #[(.ref x0), (.int x1)] 3 = mkF m 0 #[.val (.ref x0), .val (.int x1), .unset] [] := by first | (simp [entryFrame, mkF, argsToLocals, Value.category]; done) | rfl
def Q1 (Z : State) (o0 : Addr) (u_parent : Value) (u_size : Value) (h0 : Heap) (n0 : Nat) (v : Option Value) (h : Heap) (L : List Loc) : Prop := v = none ∧ Fr n0 L ∧ ∃ (pa sa : Addr) (ka kb : ClassId), n0 ≤ pa ∧ n0 ≤ sa ∧ h0.size ≤ pa ∧ h0.size ≤ sa ∧ o0 ≠ pa ∧ o0 ≠ sa ∧ pa ≠ sa ∧ Keep h0 h [o0] ∧ Fld Z h o0 "com/example/shingle/shingle/Joined" "parent" "[I" (.ref pa) ∧ Fld Z h o0 "com/example/shingle/shingle/Joined" "size" "[I" (.ref sa) ∧ Ia Z h pa ka .int 4 (setI (setI (setI (setI (List.replicate (4 : Int32).toNatClampNeg 0) (0 : Int32) (0 : Int32)) (1 : Int32) (1 : Int32)) (2 : Int32) (2 : Int32)) (3 : Int32) (3 : Int32)) ∧ Ia Z h sa kb .int 4 (setI (setI (setI (setI (List.replicate (4 : Int32).toNatClampNeg 0) (0 : Int32) (1 : Int32)) (1 : Int32) (1 : Int32)) (2 : Int32) (1 : Int32)) (3 : Int32) (1 : Int32))
set_option maxRecDepth 65536 in
set_option maxHeartbeats 40000000 in
theorem rm1 (l : Launch) (Z : State) (a0 : Array Value) (hw : ∀ d ∈ tables_1, d.before a0 Z = true) (ws : List Jvm.Cond) (o0 : Addr) (u_parent : Value) (u_size : Value) (h0 : Heap) (n0 : Nat) (Z0 : n0 ≤ h0.size) (E_o0 : Exa Z h0 o0 "com/example/shingle/shingle/Joined") (g_o0 : n0 ≤ o0) (F_parent_o0 : Fld Z h0 o0 "com/example/shingle/shingle/Joined" "parent" "[I" u_parent) (F_size_o0 : Fld Z h0 o0 "com/example/shingle/shingle/Joined" "size" "[I" u_size)  :
    MetFree l (⟨"com/example/shingle/shingle/Joined", "<init>", "(I)V"⟩ : MethodName) (head1 (Jvm.Cond.code (⟨"com/example/shingle/shingle/Joined", "<init>", "(I)V"⟩ : MethodName) prog_24_method_1_code 3 none :: ws) ({ frames := 1, cells := 2, slots := 8, locals := 12 } : Room)) (fun a U => a = #[(.ref o0), (.int (4 : Int32))] ∧ Z.Warmed39 U.vm ∧ U.heap = h0) (fun _ _ _ _ _ => True) (fun _ U o U' => ∃ v L, o = .returned v ∧ Q1 Z o0 u_parent u_size h0 n0 v U'.heap L ∧ FrameEnd U o U' L ({ frames := 1, cells := 2, slots := 8, locals := 12 } : Room).cells ({ frames := 1, cells := 2, slots := 8, locals := 12 } : Room).slots) := by
  refine MetFree.of_bodySF (plainFor_of_name pn_1) hisR ?_
  intro p e s m args below meth c s₁ Bd hml0 hP hK
  obtain ⟨rfl, hZ, hh⟩ := hP
  have hx := Bd.exec
  have hby := Bd.bytes
  have hml : c.maxLocals = 3 := hml0
  have hown : s.vm.findClass "com/example/shingle/shingle/Joined" = some m.cls := findClass_of_methodNamed Bd.named
  have hnm := (name_of_methodNamed Bd.named Bd.method).1
  have X0 : Stand p l e ({ frames := 1, cells := 2, slots := 8, locals := 12 } : Room) s m #[(.ref o0), (.int (4 : Int32))] below meth c s₁ [] 0 0 := Stand.of_body Bd
  have e0 : s₁.heap = h0 := by rw [← hh, Bd.state]; rfl
  have N0 := Fr.nil n0
  have hlk : meth.locks = false := by first | exact BodyLoose.notSynchronized Bd | exact Body.notSynchronized Bd
  have pre0 : ∀ t, Steps p.tables e below (s₁.setTop (mkF m 0 #[.val (.ref o0), .val (.int (4 : Int32)), .unset] [])) t → Steps p.tables e below (s₁.setTop (entryFrame m #[(.ref o0), (.int (4 : Int32))] 3)) t := fun t k => castTop (ef_1 m o0 (4 : Int32)) k
  obtain ⟨T1, X1, e1, st1⟩ := initO X0 hx hZ hown (hw _ (List.mem_of_getElem? (i := 7) rfl)) (hw _ (List.mem_of_getElem? (i := 8) rfl)) (hw _ (List.mem_of_getElem? (i := 9) rfl)) e0 (g := (mkF m 1 #[.val (.ref o0), .val (.int (4 : Int32)), .unset] [(.ref o0)])) rfl (by rw [hml]; rfl) rfl (hb hby d1_1) (by decide) (W := 0) (by show 2 * 0 + _ ≤ _; exact Nat.le_of_eq rfl) (by decide)
  obtain ⟨T2, h2, k2, X2, e2, E2, A2, st2⟩ := newP X1 hx hZ (hw _ (List.mem_of_getElem? (i := 0) rfl)) e1 (g := (mkF m 6 #[.val (.ref o0), .val (.int (4 : Int32)), .unset] [(.int (4 : Int32)), (.ref o0)])) rfl (hb hby d1_6) rfl (by decide) (cap := 4) (by decide) (by decide) (by decide) (by decide)
  obtain ⟨b2, g2⟩ : ∃ z, z = h0.size := ⟨_, rfl⟩
  rw [← g2] at A2 st2
  have g_b2 : n0 ≤ b2 := Nat.le_trans Z0 (Nat.le_of_eq g2.symm)
  have sz_b2 : h0.size ≤ b2 := Nat.le_trans ((Keep.refl h0 [o0])).1 (Nat.le_of_eq g2.symm)
  have ne_o0_b2 : o0 ≠ b2 := Nat.ne_of_lt (Nat.lt_of_lt_of_le (E_o0).lt (Nat.le_of_eq g2.symm))
  have Z2 : n0 ≤ h2.size := Nat.le_trans Z0 E2.1
  have K2 : Keep h0 h2 [o0] := ((Keep.refl h0 [o0])).ext E2
  have V_b2 := Ia.new A2 (by decide) rfl
  obtain ⟨T3, h3, X3, e3, W3, st3⟩ := putF X2 hx hZ hown (host := "") (Or.inl (hw _ (List.mem_of_getElem? (i := 10) rfl))) Via.refl e2 ((F_parent_o0.ext E2)) ((E_o0.ext E2)) (Or.inr ⟨(hw _ (List.mem_of_getElem? (i := 11) rfl)), rfl, hnm⟩) (hw _ (List.mem_of_getElem? (i := 2) rfl)) (ty := (.array .int)) (by decide) rfl rfl (g := (mkF m 8 #[.val (.ref o0), .val (.int (4 : Int32)), .unset] [(.ref b2), (.ref o0)])) rfl rfl (hb hby d1_8)
  have Fw3 := ((F_parent_o0.ext E2)).same W3
  have N3 := Fr.snoc X3 N0 g_o0
  have Z3 : n0 ≤ h3.size := Nat.le_trans Z2 (Keep.of_wr W3).1
  have K3 : Keep h0 h3 [o0] := (K2).wr W3 (Or.inl (List.mem_of_getElem? (i := 0) rfl))
  obtain ⟨T4, h4, k4, X4, e4, E4, A4, st4⟩ := newP X3 hx hZ (hw _ (List.mem_of_getElem? (i := 0) rfl)) e3 (g := (mkF m 13 #[.val (.ref o0), .val (.int (4 : Int32)), .unset] [(.int (4 : Int32)), (.ref o0)])) rfl (hb hby d1_13) rfl (by decide) (cap := 4) (by decide) (by decide) (by decide) (by decide)
  obtain ⟨b4, g4⟩ : ∃ z, z = h3.size := ⟨_, rfl⟩
  rw [← g4] at A4 st4
  have g_b4 : n0 ≤ b4 := Nat.le_trans Z3 (Nat.le_of_eq g4.symm)
  have sz_b4 : h0.size ≤ b4 := Nat.le_trans (K3).1 (Nat.le_of_eq g4.symm)
  have ne_o0_b4 : o0 ≠ b4 := Nat.ne_of_lt (Nat.lt_of_lt_of_le (((E_o0.ext E2).wr W3)).lt (Nat.le_of_eq g4.symm))
  have ne_b2_b4 : b2 ≠ b4 := Nat.ne_of_lt (Nat.lt_of_lt_of_le ((V_b2.other W3 (Ne.symm ne_o0_b2))).lt (Nat.le_of_eq g4.symm))
  have Z4 : n0 ≤ h4.size := Nat.le_trans Z3 E4.1
  have K4 : Keep h0 h4 [o0] := (K3).ext E4
  have V_b4 := Ia.new A4 (by decide) rfl
  obtain ⟨T5, h5, X5, e5, W5, st5⟩ := putF X4 hx hZ hown (host := "") (Or.inl (hw _ (List.mem_of_getElem? (i := 12) rfl))) Via.refl e4 ((((F_size_o0.ext E2).other W3 (Or.inr (slot_ne (Or.inr (hw _ (List.mem_of_getElem? (i := 13) rfl))) (Or.inr (hw _ (List.mem_of_getElem? (i := 11) rfl))) (by decide) (t := (.array .int)) (t' := (.array .int)) (by decide) (by decide)))).ext E4)) ((((E_o0.ext E2).wr W3).ext E4)) (Or.inr ⟨(hw _ (List.mem_of_getElem? (i := 13) rfl)), rfl, hnm⟩) (hw _ (List.mem_of_getElem? (i := 2) rfl)) (ty := (.array .int)) (by decide) rfl rfl (g := (mkF m 15 #[.val (.ref o0), .val (.int (4 : Int32)), .unset] [(.ref b4), (.ref o0)])) rfl rfl (hb hby d1_15)
  have Fw5 := ((((F_size_o0.ext E2).other W3 (Or.inr (slot_ne (Or.inr (hw _ (List.mem_of_getElem? (i := 13) rfl))) (Or.inr (hw _ (List.mem_of_getElem? (i := 11) rfl))) (by decide) (t := (.array .int)) (t' := (.array .int)) (by decide) (by decide)))).ext E4)).same W5
  have N5 := Fr.snoc X5 N3 g_o0
  have Z5 : n0 ≤ h5.size := Nat.le_trans Z4 (Keep.of_wr W5).1
  have K5 : Keep h0 h5 [o0] := (K4).wr W5 (Or.inl (List.mem_of_getElem? (i := 0) rfl))
  obtain ⟨T6, X6, e6, st6⟩ := getF X5 hx hZ hown (host := "") (Or.inl (hw _ (List.mem_of_getElem? (i := 10) rfl))) Via.refl e5 (((Fw3.ext E4).other W5 (Or.inr (slot_ne (Or.inr (hw _ (List.mem_of_getElem? (i := 11) rfl))) (Or.inr (hw _ (List.mem_of_getElem? (i := 13) rfl))) (by decide) (t := (.array .int)) (t' := (.array .int)) (by decide) (by decide))))) (g := (mkF m 26 #[.val (.ref o0), .val (.int (4 : Int32)), .val (.int (0 : Int32))] [(.ref o0)])) rfl rfl (hb hby d1_26)
  obtain ⟨cl7, Ar7, hin7, hat7⟩ := Ia.get ((((V_b2.other W3 (Ne.symm ne_o0_b2)).ext E4).other W5 (Ne.symm ne_o0_b2))) (j := (0 : Int32)) ⟨by decide, by decide⟩
  obtain ⟨T8, h8, X8, e8, W8, st8⟩ := stI X6 hx hZ e6 Ar7 (j := (0 : Int32)) hin7 (g := (mkF m 31 #[.val (.ref o0), .val (.int (4 : Int32)), .val (.int (0 : Int32))] [(.int (0 : Int32)), (.int (0 : Int32)), (.ref b2)])) rfl rfl (hb hby d1_31)
  have Vw8 := Ia.set ((((V_b2.other W3 (Ne.symm ne_o0_b2)).ext E4).other W5 (Ne.symm ne_o0_b2))) (j := (0 : Int32)) (x := (0 : Int32)) ⟨by decide, by decide⟩ rfl W8
  have N8 := Fr.snoc X8 N5 g_b2
  have Z8 : n0 ≤ h8.size := Nat.le_trans Z5 (Keep.of_wr W8).1
  have K8 : Keep h0 h8 [o0] := (K5).wr W8 (Or.inr sz_b2)
  obtain ⟨T9, X9, e9, st9⟩ := getF X8 hx hZ hown (host := "") (Or.inl (hw _ (List.mem_of_getElem? (i := 12) rfl))) Via.refl e8 ((Fw5.other W8 (Or.inl ne_o0_b2))) (g := (mkF m 33 #[.val (.ref o0), .val (.int (4 : Int32)), .val (.int (0 : Int32))] [(.ref o0)])) rfl rfl (hb hby d1_33)
  obtain ⟨cl10, Ar10, hin10, hat10⟩ := Ia.get (((V_b4.other W5 (Ne.symm ne_o0_b4)).other W8 (Ne.symm ne_b2_b4))) (j := (0 : Int32)) ⟨by decide, by decide⟩
  obtain ⟨T11, h11, X11, e11, W11, st11⟩ := stI X9 hx hZ e9 Ar10 (j := (0 : Int32)) hin10 (g := (mkF m 38 #[.val (.ref o0), .val (.int (4 : Int32)), .val (.int (0 : Int32))] [(.int (1 : Int32)), (.int (0 : Int32)), (.ref b4)])) rfl rfl (hb hby d1_38)
  have Vw11 := Ia.set (((V_b4.other W5 (Ne.symm ne_o0_b4)).other W8 (Ne.symm ne_b2_b4))) (j := (0 : Int32)) (x := (1 : Int32)) ⟨by decide, by decide⟩ rfl W11
  have N11 := Fr.snoc X11 N8 g_b4
  have Z11 : n0 ≤ h11.size := Nat.le_trans Z8 (Keep.of_wr W11).1
  have K11 : Keep h0 h11 [o0] := (K8).wr W11 (Or.inr sz_b4)
  obtain ⟨T12, X12, e12, st12⟩ := getF X11 hx hZ hown (host := "") (Or.inl (hw _ (List.mem_of_getElem? (i := 10) rfl))) Via.refl e11 (((((Fw3.ext E4).other W5 (Or.inr (slot_ne (Or.inr (hw _ (List.mem_of_getElem? (i := 11) rfl))) (Or.inr (hw _ (List.mem_of_getElem? (i := 13) rfl))) (by decide) (t := (.array .int)) (t' := (.array .int)) (by decide) (by decide)))).other W8 (Or.inl ne_o0_b2)).other W11 (Or.inl ne_o0_b4))) (g := (mkF m 26 #[.val (.ref o0), .val (.int (4 : Int32)), .val (.int (1 : Int32))] [(.ref o0)])) rfl rfl (hb hby d1_26)
  obtain ⟨cl13, Ar13, hin13, hat13⟩ := Ia.get ((Vw8.other W11 ne_b2_b4)) (j := (1 : Int32)) ⟨by decide, by decide⟩
  obtain ⟨T14, h14, X14, e14, W14, st14⟩ := stI X12 hx hZ e12 Ar13 (j := (1 : Int32)) hin13 (g := (mkF m 31 #[.val (.ref o0), .val (.int (4 : Int32)), .val (.int (1 : Int32))] [(.int (1 : Int32)), (.int (1 : Int32)), (.ref b2)])) rfl rfl (hb hby d1_31)
  have Vw14 := Ia.set ((Vw8.other W11 ne_b2_b4)) (j := (1 : Int32)) (x := (1 : Int32)) ⟨by decide, by decide⟩ rfl W14
  have N14 := Fr.snoc X14 N11 g_b2
  have Z14 : n0 ≤ h14.size := Nat.le_trans Z11 (Keep.of_wr W14).1
  have K14 : Keep h0 h14 [o0] := (K11).wr W14 (Or.inr sz_b2)
  obtain ⟨T15, X15, e15, st15⟩ := getF X14 hx hZ hown (host := "") (Or.inl (hw _ (List.mem_of_getElem? (i := 12) rfl))) Via.refl e14 ((((Fw5.other W8 (Or.inl ne_o0_b2)).other W11 (Or.inl ne_o0_b4)).other W14 (Or.inl ne_o0_b2))) (g := (mkF m 33 #[.val (.ref o0), .val (.int (4 : Int32)), .val (.int (1 : Int32))] [(.ref o0)])) rfl rfl (hb hby d1_33)
  obtain ⟨cl16, Ar16, hin16, hat16⟩ := Ia.get ((Vw11.other W14 (Ne.symm ne_b2_b4))) (j := (1 : Int32)) ⟨by decide, by decide⟩
  obtain ⟨T17, h17, X17, e17, W17, st17⟩ := stI X15 hx hZ e15 Ar16 (j := (1 : Int32)) hin16 (g := (mkF m 38 #[.val (.ref o0), .val (.int (4 : Int32)), .val (.int (1 : Int32))] [(.int (1 : Int32)), (.int (1 : Int32)), (.ref b4)])) rfl rfl (hb hby d1_38)
  have Vw17 := Ia.set ((Vw11.other W14 (Ne.symm ne_b2_b4))) (j := (1 : Int32)) (x := (1 : Int32)) ⟨by decide, by decide⟩ rfl W17
  have N17 := Fr.snoc X17 N14 g_b4
  have Z17 : n0 ≤ h17.size := Nat.le_trans Z14 (Keep.of_wr W17).1
  have K17 : Keep h0 h17 [o0] := (K14).wr W17 (Or.inr sz_b4)
  obtain ⟨T18, X18, e18, st18⟩ := getF X17 hx hZ hown (host := "") (Or.inl (hw _ (List.mem_of_getElem? (i := 10) rfl))) Via.refl e17 (((((((Fw3.ext E4).other W5 (Or.inr (slot_ne (Or.inr (hw _ (List.mem_of_getElem? (i := 11) rfl))) (Or.inr (hw _ (List.mem_of_getElem? (i := 13) rfl))) (by decide) (t := (.array .int)) (t' := (.array .int)) (by decide) (by decide)))).other W8 (Or.inl ne_o0_b2)).other W11 (Or.inl ne_o0_b4)).other W14 (Or.inl ne_o0_b2)).other W17 (Or.inl ne_o0_b4))) (g := (mkF m 26 #[.val (.ref o0), .val (.int (4 : Int32)), .val (.int (2 : Int32))] [(.ref o0)])) rfl rfl (hb hby d1_26)
  obtain ⟨cl19, Ar19, hin19, hat19⟩ := Ia.get ((Vw14.other W17 ne_b2_b4)) (j := (2 : Int32)) ⟨by decide, by decide⟩
  obtain ⟨T20, h20, X20, e20, W20, st20⟩ := stI X18 hx hZ e18 Ar19 (j := (2 : Int32)) hin19 (g := (mkF m 31 #[.val (.ref o0), .val (.int (4 : Int32)), .val (.int (2 : Int32))] [(.int (2 : Int32)), (.int (2 : Int32)), (.ref b2)])) rfl rfl (hb hby d1_31)
  have Vw20 := Ia.set ((Vw14.other W17 ne_b2_b4)) (j := (2 : Int32)) (x := (2 : Int32)) ⟨by decide, by decide⟩ rfl W20
  have N20 := Fr.snoc X20 N17 g_b2
  have Z20 : n0 ≤ h20.size := Nat.le_trans Z17 (Keep.of_wr W20).1
  have K20 : Keep h0 h20 [o0] := (K17).wr W20 (Or.inr sz_b2)
  obtain ⟨T21, X21, e21, st21⟩ := getF X20 hx hZ hown (host := "") (Or.inl (hw _ (List.mem_of_getElem? (i := 12) rfl))) Via.refl e20 ((((((Fw5.other W8 (Or.inl ne_o0_b2)).other W11 (Or.inl ne_o0_b4)).other W14 (Or.inl ne_o0_b2)).other W17 (Or.inl ne_o0_b4)).other W20 (Or.inl ne_o0_b2))) (g := (mkF m 33 #[.val (.ref o0), .val (.int (4 : Int32)), .val (.int (2 : Int32))] [(.ref o0)])) rfl rfl (hb hby d1_33)
  obtain ⟨cl22, Ar22, hin22, hat22⟩ := Ia.get ((Vw17.other W20 (Ne.symm ne_b2_b4))) (j := (2 : Int32)) ⟨by decide, by decide⟩
  obtain ⟨T23, h23, X23, e23, W23, st23⟩ := stI X21 hx hZ e21 Ar22 (j := (2 : Int32)) hin22 (g := (mkF m 38 #[.val (.ref o0), .val (.int (4 : Int32)), .val (.int (2 : Int32))] [(.int (1 : Int32)), (.int (2 : Int32)), (.ref b4)])) rfl rfl (hb hby d1_38)
  have Vw23 := Ia.set ((Vw17.other W20 (Ne.symm ne_b2_b4))) (j := (2 : Int32)) (x := (1 : Int32)) ⟨by decide, by decide⟩ rfl W23
  have N23 := Fr.snoc X23 N20 g_b4
  have Z23 : n0 ≤ h23.size := Nat.le_trans Z20 (Keep.of_wr W23).1
  have K23 : Keep h0 h23 [o0] := (K20).wr W23 (Or.inr sz_b4)
  obtain ⟨T24, X24, e24, st24⟩ := getF X23 hx hZ hown (host := "") (Or.inl (hw _ (List.mem_of_getElem? (i := 10) rfl))) Via.refl e23 (((((((((Fw3.ext E4).other W5 (Or.inr (slot_ne (Or.inr (hw _ (List.mem_of_getElem? (i := 11) rfl))) (Or.inr (hw _ (List.mem_of_getElem? (i := 13) rfl))) (by decide) (t := (.array .int)) (t' := (.array .int)) (by decide) (by decide)))).other W8 (Or.inl ne_o0_b2)).other W11 (Or.inl ne_o0_b4)).other W14 (Or.inl ne_o0_b2)).other W17 (Or.inl ne_o0_b4)).other W20 (Or.inl ne_o0_b2)).other W23 (Or.inl ne_o0_b4))) (g := (mkF m 26 #[.val (.ref o0), .val (.int (4 : Int32)), .val (.int (3 : Int32))] [(.ref o0)])) rfl rfl (hb hby d1_26)
  obtain ⟨cl25, Ar25, hin25, hat25⟩ := Ia.get ((Vw20.other W23 ne_b2_b4)) (j := (3 : Int32)) ⟨by decide, by decide⟩
  obtain ⟨T26, h26, X26, e26, W26, st26⟩ := stI X24 hx hZ e24 Ar25 (j := (3 : Int32)) hin25 (g := (mkF m 31 #[.val (.ref o0), .val (.int (4 : Int32)), .val (.int (3 : Int32))] [(.int (3 : Int32)), (.int (3 : Int32)), (.ref b2)])) rfl rfl (hb hby d1_31)
  have Vw26 := Ia.set ((Vw20.other W23 ne_b2_b4)) (j := (3 : Int32)) (x := (3 : Int32)) ⟨by decide, by decide⟩ rfl W26
  have N26 := Fr.snoc X26 N23 g_b2
  have Z26 : n0 ≤ h26.size := Nat.le_trans Z23 (Keep.of_wr W26).1
  have K26 : Keep h0 h26 [o0] := (K23).wr W26 (Or.inr sz_b2)
  obtain ⟨T27, X27, e27, st27⟩ := getF X26 hx hZ hown (host := "") (Or.inl (hw _ (List.mem_of_getElem? (i := 12) rfl))) Via.refl e26 ((((((((Fw5.other W8 (Or.inl ne_o0_b2)).other W11 (Or.inl ne_o0_b4)).other W14 (Or.inl ne_o0_b2)).other W17 (Or.inl ne_o0_b4)).other W20 (Or.inl ne_o0_b2)).other W23 (Or.inl ne_o0_b4)).other W26 (Or.inl ne_o0_b2))) (g := (mkF m 33 #[.val (.ref o0), .val (.int (4 : Int32)), .val (.int (3 : Int32))] [(.ref o0)])) rfl rfl (hb hby d1_33)
  obtain ⟨cl28, Ar28, hin28, hat28⟩ := Ia.get ((Vw23.other W26 (Ne.symm ne_b2_b4))) (j := (3 : Int32)) ⟨by decide, by decide⟩
  obtain ⟨T29, h29, X29, e29, W29, st29⟩ := stI X27 hx hZ e27 Ar28 (j := (3 : Int32)) hin28 (g := (mkF m 38 #[.val (.ref o0), .val (.int (4 : Int32)), .val (.int (3 : Int32))] [(.int (1 : Int32)), (.int (3 : Int32)), (.ref b4)])) rfl rfl (hb hby d1_38)
  have Vw29 := Ia.set ((Vw23.other W26 (Ne.symm ne_b2_b4))) (j := (3 : Int32)) (x := (1 : Int32)) ⟨by decide, by decide⟩ rfl W29
  have N29 := Fr.snoc X29 N26 g_b4
  have Z29 : n0 ≤ h29.size := Nat.le_trans Z26 (Keep.of_wr W29).1
  have K29 : Keep h0 h29 [o0] := (K26).wr W29 (Or.inr sz_b4)
  obtain ⟨fs, hr, hrun, hended, hW, hsame⟩ := X29.leave (v := none) (fun _ => rfl) hlk
  refine ⟨_, _, pre0 _ ?_, hrun, hended, _, _, rfl, ?_, ⟨_, rfl⟩, hW, hsame.mono (by decide) (by decide)⟩
  · show Steps p.tables e below (s₁.setTop (mkF m 0 #[.val (.ref o0), .val (.int (4 : Int32)), .unset] [])) _
    refine XS.aloadN X0.here hx rfl (hb hby d1_0) rfl rfl ?_
    show Steps p.tables e below (s₁.setTop (mkF m 1 #[.val (.ref o0), .val (.int (4 : Int32)), .unset] [(.ref o0)])) _
    refine st1 _ ?_
    show Steps p.tables e below (T1.setTop (mkF m 4 #[.val (.ref o0), .val (.int (4 : Int32)), .unset] [])) _
    refine XS.aloadN X1.here hx rfl (hb hby d1_4) rfl rfl ?_
    show Steps p.tables e below (T1.setTop (mkF m 5 #[.val (.ref o0), .val (.int (4 : Int32)), .unset] [(.ref o0)])) _
    refine XS.iloadN X1.here hx rfl (hb hby d1_5) rfl ?_
    show Steps p.tables e below (T1.setTop (mkF m 6 #[.val (.ref o0), .val (.int (4 : Int32)), .unset] [(.int (4 : Int32)), (.ref o0)])) _
    refine st2 _ ?_
    show Steps p.tables e below (T2.setTop (mkF m 8 #[.val (.ref o0), .val (.int (4 : Int32)), .unset] [(.ref b2), (.ref o0)])) _
    refine st3 _ ?_
    show Steps p.tables e below (T3.setTop (mkF m 11 #[.val (.ref o0), .val (.int (4 : Int32)), .unset] [])) _
    refine XS.aloadN X3.here hx rfl (hb hby d1_11) rfl rfl ?_
    show Steps p.tables e below (T3.setTop (mkF m 12 #[.val (.ref o0), .val (.int (4 : Int32)), .unset] [(.ref o0)])) _
    refine XS.iloadN X3.here hx rfl (hb hby d1_12) rfl ?_
    show Steps p.tables e below (T3.setTop (mkF m 13 #[.val (.ref o0), .val (.int (4 : Int32)), .unset] [(.int (4 : Int32)), (.ref o0)])) _
    refine st4 _ ?_
    show Steps p.tables e below (T4.setTop (mkF m 15 #[.val (.ref o0), .val (.int (4 : Int32)), .unset] [(.ref b4), (.ref o0)])) _
    refine st5 _ ?_
    show Steps p.tables e below (T5.setTop (mkF m 18 #[.val (.ref o0), .val (.int (4 : Int32)), .unset] [])) _
    refine XS.iconst X5.here hx rfl (hb hby d1_18) ?_
    show Steps p.tables e below (T5.setTop (mkF m 19 #[.val (.ref o0), .val (.int (4 : Int32)), .unset] [(.int (0 : Int32))])) _
    refine XS.istoreN X5.here hx rfl (hb hby d1_19) rfl (l' := #[.val (.ref o0), .val (.int (4 : Int32)), .val (.int (0 : Int32))]) rfl ?_
    show Steps p.tables e below (T5.setTop (mkF m 20 #[.val (.ref o0), .val (.int (4 : Int32)), .val (.int (0 : Int32))] [])) _
    refine XS.iloadN X5.here hx rfl (hb hby d1_20) rfl ?_
    show Steps p.tables e below (T5.setTop (mkF m 21 #[.val (.ref o0), .val (.int (4 : Int32)), .val (.int (0 : Int32))] [(.int (0 : Int32))])) _
    refine XS.iloadN X5.here hx rfl (hb hby d1_21) rfl ?_
    show Steps p.tables e below (T5.setTop (mkF m 22 #[.val (.ref o0), .val (.int (4 : Int32)), .val (.int (0 : Int32))] [(.int (4 : Int32)), (.int (0 : Int32))])) _
    refine XS.icmpNo X5.here hx rfl (hb hby d1_22) rfl (tlt (by decide : (0 : Int32) < (4 : Int32))).2.1 ?_
    show Steps p.tables e below (T5.setTop (mkF m 25 #[.val (.ref o0), .val (.int (4 : Int32)), .val (.int (0 : Int32))] [])) _
    refine XS.aloadN X5.here hx rfl (hb hby d1_25) rfl rfl ?_
    show Steps p.tables e below (T5.setTop (mkF m 26 #[.val (.ref o0), .val (.int (4 : Int32)), .val (.int (0 : Int32))] [(.ref o0)])) _
    refine st6 _ ?_
    show Steps p.tables e below (T6.setTop (mkF m 29 #[.val (.ref o0), .val (.int (4 : Int32)), .val (.int (0 : Int32))] [(.ref b2)])) _
    refine XS.iloadN X6.here hx rfl (hb hby d1_29) rfl ?_
    show Steps p.tables e below (T6.setTop (mkF m 30 #[.val (.ref o0), .val (.int (4 : Int32)), .val (.int (0 : Int32))] [(.int (0 : Int32)), (.ref b2)])) _
    refine XS.iloadN X6.here hx rfl (hb hby d1_30) rfl ?_
    show Steps p.tables e below (T6.setTop (mkF m 31 #[.val (.ref o0), .val (.int (4 : Int32)), .val (.int (0 : Int32))] [(.int (0 : Int32)), (.int (0 : Int32)), (.ref b2)])) _
    refine st8 _ ?_
    show Steps p.tables e below (T8.setTop (mkF m 32 #[.val (.ref o0), .val (.int (4 : Int32)), .val (.int (0 : Int32))] [])) _
    refine XS.aloadN X8.here hx rfl (hb hby d1_32) rfl rfl ?_
    show Steps p.tables e below (T8.setTop (mkF m 33 #[.val (.ref o0), .val (.int (4 : Int32)), .val (.int (0 : Int32))] [(.ref o0)])) _
    refine st9 _ ?_
    show Steps p.tables e below (T9.setTop (mkF m 36 #[.val (.ref o0), .val (.int (4 : Int32)), .val (.int (0 : Int32))] [(.ref b4)])) _
    refine XS.iloadN X9.here hx rfl (hb hby d1_36) rfl ?_
    show Steps p.tables e below (T9.setTop (mkF m 37 #[.val (.ref o0), .val (.int (4 : Int32)), .val (.int (0 : Int32))] [(.int (0 : Int32)), (.ref b4)])) _
    refine XS.iconst X9.here hx rfl (hb hby d1_37) ?_
    show Steps p.tables e below (T9.setTop (mkF m 38 #[.val (.ref o0), .val (.int (4 : Int32)), .val (.int (0 : Int32))] [(.int (1 : Int32)), (.int (0 : Int32)), (.ref b4)])) _
    refine st11 _ ?_
    show Steps p.tables e below (T11.setTop (mkF m 39 #[.val (.ref o0), .val (.int (4 : Int32)), .val (.int (0 : Int32))] [])) _
    refine XS.iinc X11.here hx rfl (hb hby d1_39) rfl (l' := #[.val (.ref o0), .val (.int (4 : Int32)), .val (.int (1 : Int32))]) rfl ?_
    show Steps p.tables e below (T11.setTop (mkF m 42 #[.val (.ref o0), .val (.int (4 : Int32)), .val (.int (1 : Int32))] [])) _
    refine XS.goto X11.here hx rfl (pc0 := 42) (pc' := 20) rfl (hb hby d1_42) (by decide) (by decide) ?_
    show Steps p.tables e below (T11.setTop (mkF m 20 #[.val (.ref o0), .val (.int (4 : Int32)), .val (.int (1 : Int32))] [])) _
    refine XS.iloadN X11.here hx rfl (hb hby d1_20) rfl ?_
    show Steps p.tables e below (T11.setTop (mkF m 21 #[.val (.ref o0), .val (.int (4 : Int32)), .val (.int (1 : Int32))] [(.int (1 : Int32))])) _
    refine XS.iloadN X11.here hx rfl (hb hby d1_21) rfl ?_
    show Steps p.tables e below (T11.setTop (mkF m 22 #[.val (.ref o0), .val (.int (4 : Int32)), .val (.int (1 : Int32))] [(.int (4 : Int32)), (.int (1 : Int32))])) _
    refine XS.icmpNo X11.here hx rfl (hb hby d1_22) rfl (tlt (by decide : (1 : Int32) < (4 : Int32))).2.1 ?_
    show Steps p.tables e below (T11.setTop (mkF m 25 #[.val (.ref o0), .val (.int (4 : Int32)), .val (.int (1 : Int32))] [])) _
    refine XS.aloadN X11.here hx rfl (hb hby d1_25) rfl rfl ?_
    show Steps p.tables e below (T11.setTop (mkF m 26 #[.val (.ref o0), .val (.int (4 : Int32)), .val (.int (1 : Int32))] [(.ref o0)])) _
    refine st12 _ ?_
    show Steps p.tables e below (T12.setTop (mkF m 29 #[.val (.ref o0), .val (.int (4 : Int32)), .val (.int (1 : Int32))] [(.ref b2)])) _
    refine XS.iloadN X12.here hx rfl (hb hby d1_29) rfl ?_
    show Steps p.tables e below (T12.setTop (mkF m 30 #[.val (.ref o0), .val (.int (4 : Int32)), .val (.int (1 : Int32))] [(.int (1 : Int32)), (.ref b2)])) _
    refine XS.iloadN X12.here hx rfl (hb hby d1_30) rfl ?_
    show Steps p.tables e below (T12.setTop (mkF m 31 #[.val (.ref o0), .val (.int (4 : Int32)), .val (.int (1 : Int32))] [(.int (1 : Int32)), (.int (1 : Int32)), (.ref b2)])) _
    refine st14 _ ?_
    show Steps p.tables e below (T14.setTop (mkF m 32 #[.val (.ref o0), .val (.int (4 : Int32)), .val (.int (1 : Int32))] [])) _
    refine XS.aloadN X14.here hx rfl (hb hby d1_32) rfl rfl ?_
    show Steps p.tables e below (T14.setTop (mkF m 33 #[.val (.ref o0), .val (.int (4 : Int32)), .val (.int (1 : Int32))] [(.ref o0)])) _
    refine st15 _ ?_
    show Steps p.tables e below (T15.setTop (mkF m 36 #[.val (.ref o0), .val (.int (4 : Int32)), .val (.int (1 : Int32))] [(.ref b4)])) _
    refine XS.iloadN X15.here hx rfl (hb hby d1_36) rfl ?_
    show Steps p.tables e below (T15.setTop (mkF m 37 #[.val (.ref o0), .val (.int (4 : Int32)), .val (.int (1 : Int32))] [(.int (1 : Int32)), (.ref b4)])) _
    refine XS.iconst X15.here hx rfl (hb hby d1_37) ?_
    show Steps p.tables e below (T15.setTop (mkF m 38 #[.val (.ref o0), .val (.int (4 : Int32)), .val (.int (1 : Int32))] [(.int (1 : Int32)), (.int (1 : Int32)), (.ref b4)])) _
    refine st17 _ ?_
    show Steps p.tables e below (T17.setTop (mkF m 39 #[.val (.ref o0), .val (.int (4 : Int32)), .val (.int (1 : Int32))] [])) _
    refine XS.iinc X17.here hx rfl (hb hby d1_39) rfl (l' := #[.val (.ref o0), .val (.int (4 : Int32)), .val (.int (2 : Int32))]) rfl ?_
    show Steps p.tables e below (T17.setTop (mkF m 42 #[.val (.ref o0), .val (.int (4 : Int32)), .val (.int (2 : Int32))] [])) _
    refine XS.goto X17.here hx rfl (pc0 := 42) (pc' := 20) rfl (hb hby d1_42) (by decide) (by decide) ?_
    show Steps p.tables e below (T17.setTop (mkF m 20 #[.val (.ref o0), .val (.int (4 : Int32)), .val (.int (2 : Int32))] [])) _
    refine XS.iloadN X17.here hx rfl (hb hby d1_20) rfl ?_
    show Steps p.tables e below (T17.setTop (mkF m 21 #[.val (.ref o0), .val (.int (4 : Int32)), .val (.int (2 : Int32))] [(.int (2 : Int32))])) _
    refine XS.iloadN X17.here hx rfl (hb hby d1_21) rfl ?_
    show Steps p.tables e below (T17.setTop (mkF m 22 #[.val (.ref o0), .val (.int (4 : Int32)), .val (.int (2 : Int32))] [(.int (4 : Int32)), (.int (2 : Int32))])) _
    refine XS.icmpNo X17.here hx rfl (hb hby d1_22) rfl (tlt (by decide : (2 : Int32) < (4 : Int32))).2.1 ?_
    show Steps p.tables e below (T17.setTop (mkF m 25 #[.val (.ref o0), .val (.int (4 : Int32)), .val (.int (2 : Int32))] [])) _
    refine XS.aloadN X17.here hx rfl (hb hby d1_25) rfl rfl ?_
    show Steps p.tables e below (T17.setTop (mkF m 26 #[.val (.ref o0), .val (.int (4 : Int32)), .val (.int (2 : Int32))] [(.ref o0)])) _
    refine st18 _ ?_
    show Steps p.tables e below (T18.setTop (mkF m 29 #[.val (.ref o0), .val (.int (4 : Int32)), .val (.int (2 : Int32))] [(.ref b2)])) _
    refine XS.iloadN X18.here hx rfl (hb hby d1_29) rfl ?_
    show Steps p.tables e below (T18.setTop (mkF m 30 #[.val (.ref o0), .val (.int (4 : Int32)), .val (.int (2 : Int32))] [(.int (2 : Int32)), (.ref b2)])) _
    refine XS.iloadN X18.here hx rfl (hb hby d1_30) rfl ?_
    show Steps p.tables e below (T18.setTop (mkF m 31 #[.val (.ref o0), .val (.int (4 : Int32)), .val (.int (2 : Int32))] [(.int (2 : Int32)), (.int (2 : Int32)), (.ref b2)])) _
    refine st20 _ ?_
    show Steps p.tables e below (T20.setTop (mkF m 32 #[.val (.ref o0), .val (.int (4 : Int32)), .val (.int (2 : Int32))] [])) _
    refine XS.aloadN X20.here hx rfl (hb hby d1_32) rfl rfl ?_
    show Steps p.tables e below (T20.setTop (mkF m 33 #[.val (.ref o0), .val (.int (4 : Int32)), .val (.int (2 : Int32))] [(.ref o0)])) _
    refine st21 _ ?_
    show Steps p.tables e below (T21.setTop (mkF m 36 #[.val (.ref o0), .val (.int (4 : Int32)), .val (.int (2 : Int32))] [(.ref b4)])) _
    refine XS.iloadN X21.here hx rfl (hb hby d1_36) rfl ?_
    show Steps p.tables e below (T21.setTop (mkF m 37 #[.val (.ref o0), .val (.int (4 : Int32)), .val (.int (2 : Int32))] [(.int (2 : Int32)), (.ref b4)])) _
    refine XS.iconst X21.here hx rfl (hb hby d1_37) ?_
    show Steps p.tables e below (T21.setTop (mkF m 38 #[.val (.ref o0), .val (.int (4 : Int32)), .val (.int (2 : Int32))] [(.int (1 : Int32)), (.int (2 : Int32)), (.ref b4)])) _
    refine st23 _ ?_
    show Steps p.tables e below (T23.setTop (mkF m 39 #[.val (.ref o0), .val (.int (4 : Int32)), .val (.int (2 : Int32))] [])) _
    refine XS.iinc X23.here hx rfl (hb hby d1_39) rfl (l' := #[.val (.ref o0), .val (.int (4 : Int32)), .val (.int (3 : Int32))]) rfl ?_
    show Steps p.tables e below (T23.setTop (mkF m 42 #[.val (.ref o0), .val (.int (4 : Int32)), .val (.int (3 : Int32))] [])) _
    refine XS.goto X23.here hx rfl (pc0 := 42) (pc' := 20) rfl (hb hby d1_42) (by decide) (by decide) ?_
    show Steps p.tables e below (T23.setTop (mkF m 20 #[.val (.ref o0), .val (.int (4 : Int32)), .val (.int (3 : Int32))] [])) _
    refine XS.iloadN X23.here hx rfl (hb hby d1_20) rfl ?_
    show Steps p.tables e below (T23.setTop (mkF m 21 #[.val (.ref o0), .val (.int (4 : Int32)), .val (.int (3 : Int32))] [(.int (3 : Int32))])) _
    refine XS.iloadN X23.here hx rfl (hb hby d1_21) rfl ?_
    show Steps p.tables e below (T23.setTop (mkF m 22 #[.val (.ref o0), .val (.int (4 : Int32)), .val (.int (3 : Int32))] [(.int (4 : Int32)), (.int (3 : Int32))])) _
    refine XS.icmpNo X23.here hx rfl (hb hby d1_22) rfl (tlt (by decide : (3 : Int32) < (4 : Int32))).2.1 ?_
    show Steps p.tables e below (T23.setTop (mkF m 25 #[.val (.ref o0), .val (.int (4 : Int32)), .val (.int (3 : Int32))] [])) _
    refine XS.aloadN X23.here hx rfl (hb hby d1_25) rfl rfl ?_
    show Steps p.tables e below (T23.setTop (mkF m 26 #[.val (.ref o0), .val (.int (4 : Int32)), .val (.int (3 : Int32))] [(.ref o0)])) _
    refine st24 _ ?_
    show Steps p.tables e below (T24.setTop (mkF m 29 #[.val (.ref o0), .val (.int (4 : Int32)), .val (.int (3 : Int32))] [(.ref b2)])) _
    refine XS.iloadN X24.here hx rfl (hb hby d1_29) rfl ?_
    show Steps p.tables e below (T24.setTop (mkF m 30 #[.val (.ref o0), .val (.int (4 : Int32)), .val (.int (3 : Int32))] [(.int (3 : Int32)), (.ref b2)])) _
    refine XS.iloadN X24.here hx rfl (hb hby d1_30) rfl ?_
    show Steps p.tables e below (T24.setTop (mkF m 31 #[.val (.ref o0), .val (.int (4 : Int32)), .val (.int (3 : Int32))] [(.int (3 : Int32)), (.int (3 : Int32)), (.ref b2)])) _
    refine st26 _ ?_
    show Steps p.tables e below (T26.setTop (mkF m 32 #[.val (.ref o0), .val (.int (4 : Int32)), .val (.int (3 : Int32))] [])) _
    refine XS.aloadN X26.here hx rfl (hb hby d1_32) rfl rfl ?_
    show Steps p.tables e below (T26.setTop (mkF m 33 #[.val (.ref o0), .val (.int (4 : Int32)), .val (.int (3 : Int32))] [(.ref o0)])) _
    refine st27 _ ?_
    show Steps p.tables e below (T27.setTop (mkF m 36 #[.val (.ref o0), .val (.int (4 : Int32)), .val (.int (3 : Int32))] [(.ref b4)])) _
    refine XS.iloadN X27.here hx rfl (hb hby d1_36) rfl ?_
    show Steps p.tables e below (T27.setTop (mkF m 37 #[.val (.ref o0), .val (.int (4 : Int32)), .val (.int (3 : Int32))] [(.int (3 : Int32)), (.ref b4)])) _
    refine XS.iconst X27.here hx rfl (hb hby d1_37) ?_
    show Steps p.tables e below (T27.setTop (mkF m 38 #[.val (.ref o0), .val (.int (4 : Int32)), .val (.int (3 : Int32))] [(.int (1 : Int32)), (.int (3 : Int32)), (.ref b4)])) _
    refine st29 _ ?_
    show Steps p.tables e below (T29.setTop (mkF m 39 #[.val (.ref o0), .val (.int (4 : Int32)), .val (.int (3 : Int32))] [])) _
    refine XS.iinc X29.here hx rfl (hb hby d1_39) rfl (l' := #[.val (.ref o0), .val (.int (4 : Int32)), .val (.int (4 : Int32))]) rfl ?_
    show Steps p.tables e below (T29.setTop (mkF m 42 #[.val (.ref o0), .val (.int (4 : Int32)), .val (.int (4 : Int32))] [])) _
    refine XS.goto X29.here hx rfl (pc0 := 42) (pc' := 20) rfl (hb hby d1_42) (by decide) (by decide) ?_
    show Steps p.tables e below (T29.setTop (mkF m 20 #[.val (.ref o0), .val (.int (4 : Int32)), .val (.int (4 : Int32))] [])) _
    refine XS.iloadN X29.here hx rfl (hb hby d1_20) rfl ?_
    show Steps p.tables e below (T29.setTop (mkF m 21 #[.val (.ref o0), .val (.int (4 : Int32)), .val (.int (4 : Int32))] [(.int (4 : Int32))])) _
    refine XS.iloadN X29.here hx rfl (hb hby d1_21) rfl ?_
    show Steps p.tables e below (T29.setTop (mkF m 22 #[.val (.ref o0), .val (.int (4 : Int32)), .val (.int (4 : Int32))] [(.int (4 : Int32)), (.int (4 : Int32))])) _
    refine XS.icmpYes X29.here hx rfl (pc0 := 22) (pc' := 45) rfl (hb hby d1_22) rfl (flt (by decide : ¬ ((4 : Int32) < (4 : Int32)))).2.1 (by decide) (by decide) ?_
    show Steps p.tables e below (T29.setTop (mkF m 45 #[.val (.ref o0), .val (.int (4 : Int32)), .val (.int (4 : Int32))] [])) _
    exact X29.returnOut hx Bd.returns (hb hby d1_45) hr
  · show Q1 Z o0 u_parent u_size h0 n0 _ T29.heap _
    rw [e29]
    exact ⟨rfl, N29, b2, b4, k2, k4, g_b2, g_b4, sz_b2, sz_b4, ne_o0_b2, ne_o0_b4, ne_b2_b4, K29, ((((((((((Fw3.ext E4).other W5 (Or.inr (slot_ne (Or.inr (hw _ (List.mem_of_getElem? (i := 11) rfl))) (Or.inr (hw _ (List.mem_of_getElem? (i := 13) rfl))) (by decide) (t := (.array .int)) (t' := (.array .int)) (by decide) (by decide)))).other W8 (Or.inl ne_o0_b2)).other W11 (Or.inl ne_o0_b4)).other W14 (Or.inl ne_o0_b2)).other W17 (Or.inl ne_o0_b4)).other W20 (Or.inl ne_o0_b2)).other W23 (Or.inl ne_o0_b4)).other W26 (Or.inl ne_o0_b2)).other W29 (Or.inl ne_o0_b4)), ((((((((Fw5.other W8 (Or.inl ne_o0_b2)).other W11 (Or.inl ne_o0_b4)).other W14 (Or.inl ne_o0_b2)).other W17 (Or.inl ne_o0_b4)).other W20 (Or.inl ne_o0_b2)).other W23 (Or.inl ne_o0_b4)).other W26 (Or.inl ne_o0_b2)).other W29 (Or.inl ne_o0_b4)), (Vw26.other W29 ne_b2_b4), Vw29⟩
theorem d4_0 : decode prog_24_method_2_code 0 = .ok (.iload_n 1, 1) := by decide +kernel
theorem d4_1 : decode prog_24_method_2_code 1 = .ok (.istore_n 2, 1) := by decide +kernel
theorem d4_2 : decode prog_24_method_2_code 2 = .ok (.aload_n 0, 1) := by decide +kernel
theorem d4_3 : decode prog_24_method_2_code 3 = .ok (.getfield 7, 3) := by decide +kernel
theorem d4_6 : decode prog_24_method_2_code 6 = .ok (.iload_n 2, 1) := by decide +kernel
theorem d4_7 : decode prog_24_method_2_code 7 = .ok (.iaload, 1) := by decide +kernel
theorem d4_8 : decode prog_24_method_2_code 8 = .ok (.iload_n 2, 1) := by decide +kernel
theorem d4_9 : decode prog_24_method_2_code 9 = .ok (.if_icmp .eq 30, 3) := by decide +kernel
theorem d4_12 : decode prog_24_method_2_code 12 = .ok (.aload_n 0, 1) := by decide +kernel
theorem d4_13 : decode prog_24_method_2_code 13 = .ok (.getfield 7, 3) := by decide +kernel
theorem d4_16 : decode prog_24_method_2_code 16 = .ok (.iload_n 2, 1) := by decide +kernel
theorem d4_17 : decode prog_24_method_2_code 17 = .ok (.aload_n 0, 1) := by decide +kernel
theorem d4_18 : decode prog_24_method_2_code 18 = .ok (.getfield 7, 3) := by decide +kernel
theorem d4_21 : decode prog_24_method_2_code 21 = .ok (.aload_n 0, 1) := by decide +kernel
theorem d4_22 : decode prog_24_method_2_code 22 = .ok (.getfield 7, 3) := by decide +kernel
theorem d4_25 : decode prog_24_method_2_code 25 = .ok (.iload_n 2, 1) := by decide +kernel
theorem d4_26 : decode prog_24_method_2_code 26 = .ok (.iaload, 1) := by decide +kernel
theorem d4_27 : decode prog_24_method_2_code 27 = .ok (.iaload, 1) := by decide +kernel
theorem d4_28 : decode prog_24_method_2_code 28 = .ok (.iastore, 1) := by decide +kernel
theorem d4_29 : decode prog_24_method_2_code 29 = .ok (.aload_n 0, 1) := by decide +kernel
theorem d4_30 : decode prog_24_method_2_code 30 = .ok (.getfield 7, 3) := by decide +kernel
theorem d4_33 : decode prog_24_method_2_code 33 = .ok (.iload_n 2, 1) := by decide +kernel
theorem d4_34 : decode prog_24_method_2_code 34 = .ok (.iaload, 1) := by decide +kernel
theorem d4_35 : decode prog_24_method_2_code 35 = .ok (.istore_n 2, 1) := by decide +kernel
theorem d4_36 : decode prog_24_method_2_code 36 = .ok (.goto (-34), 3) := by decide +kernel
theorem d4_39 : decode prog_24_method_2_code 39 = .ok (.iload_n 2, 1) := by decide +kernel
theorem d4_40 : decode prog_24_method_2_code 40 = .ok (.ireturn, 1) := by decide +kernel
theorem pn_4 : plainName "com/example/shingle/shingle/Joined" = true := by first | (simp [plainName, overriddenIn]; done) | decide +kernel
theorem ef_4 (m : MethodId) (x0 : Addr) (x1 : Int32) : entryFrame m #[(.ref x0), (.int x1)] 3 = mkF m 0 #[.val (.ref x0), .val (.int x1), .unset] [] := by first | (simp [entryFrame, mkF, argsToLocals, Value.category]; done) | rfl
def f4 (p0 : Int32) (ps : List Int32) : Int32 := (if (getI ps p0) = p0 then p0 else (getI ps (getI ps p0)))
def g4_pa (p0 : Int32) (ps : List Int32) : List Int32 := (if (getI ps p0) = p0 then ps else (setI ps p0 (getI ps (getI ps p0))))
def Q4 (Z : State) (o0 : Addr) (p0 : Int32) (pa : Addr) (ka : ClassId) (ps : List Int32) (h0 : Heap) (n0 : Nat) (v : Option Value) (h : Heap) (L : List Loc) : Prop := v = some (.int (f4 p0 ps)) ∧ Fr n0 L ∧ Keep h0 h [pa] ∧ Fld Z h o0 "com/example/shingle/shingle/Joined" "parent" "[I" (.ref pa) ∧ Ia Z h pa ka .int (4 : Int32) (g4_pa p0 ps)
set_option maxRecDepth 65536 in
set_option maxHeartbeats 40000000 in
theorem rm4 (l : Launch) (Z : State) (a0 : Array Value) (hw : ∀ d ∈ tables_1, d.before a0 Z = true) (ws : List Jvm.Cond) (o0 : Addr) (p0 : Int32) (pa : Addr) (ka : ClassId) (ps : List Int32) (h0 : Heap) (n0 : Nat) (Z0 : n0 ≤ h0.size) (E_o0 : Exa Z h0 o0 "com/example/shingle/shingle/Joined") (F_parent_o0 : Fld Z h0 o0 "com/example/shingle/shingle/Joined" "parent" "[I" (.ref pa)) (V_pa : Ia Z h0 pa ka .int (4 : Int32) ps) (g_pa : n0 ≤ pa) (ne_o0_pa : o0 ≠ pa) (hR : Rok ps p0) :
    MetFree l (⟨"com/example/shingle/shingle/Joined", "root", "(I)I"⟩ : MethodName) (head1 (Jvm.Cond.code (⟨"com/example/shingle/shingle/Joined", "root", "(I)I"⟩ : MethodName) prog_24_method_2_code 3 (some .int) :: ws) ({ frames := 0, cells := 0, slots := 0, locals := 0 } : Room)) (fun a U => a = #[(.ref o0), (.int p0)] ∧ Z.Warmed39 U.vm ∧ U.heap = h0) (fun _ _ _ _ _ => True) (fun _ U o U' => ∃ v L, o = .returned v ∧ Q4 Z o0 p0 pa ka ps h0 n0 v U'.heap L ∧ FrameEnd U o U' L ({ frames := 0, cells := 0, slots := 0, locals := 0 } : Room).cells ({ frames := 0, cells := 0, slots := 0, locals := 0 } : Room).slots) := by
  refine MetFree.of_bodySF (plainFor_of_name pn_4) hisR ?_
  intro p e s m args below meth c s₁ Bd hml0 hP hK
  obtain ⟨rfl, hZ, hh⟩ := hP
  have hx := Bd.exec
  have hby := Bd.bytes
  have hml : c.maxLocals = 3 := hml0
  have hown : s.vm.findClass "com/example/shingle/shingle/Joined" = some m.cls := findClass_of_methodNamed Bd.named
  have hnm := (name_of_methodNamed Bd.named Bd.method).1
  have X0 : Stand p l e ({ frames := 0, cells := 0, slots := 0, locals := 0 } : Room) s m #[(.ref o0), (.int p0)] below meth c s₁ [] 0 0 := Stand.of_body Bd
  have e0 : s₁.heap = h0 := by rw [← hh, Bd.state]; rfl
  have N0 := Fr.nil n0
  have hlk : meth.locks = false := by first | exact BodyLoose.notSynchronized Bd | exact Body.notSynchronized Bd
  have pre0 : ∀ t, Steps p.tables e below (s₁.setTop (mkF m 0 #[.val (.ref o0), .val (.int p0), .unset] [])) t → Steps p.tables e below (s₁.setTop (entryFrame m #[(.ref o0), (.int p0)] 3)) t := fun t k => castTop (ef_4 m o0 p0) k
  obtain ⟨T1, X1, e1, st1⟩ := getF X0 hx hZ hown (host := "") (Or.inl (hw _ (List.mem_of_getElem? (i := 10) rfl))) Via.refl e0 (F_parent_o0) (g := (mkF m 3 #[.val (.ref o0), .val (.int p0), .val (.int p0)] [(.ref o0)])) rfl rfl (hb hby d4_3)
  obtain ⟨cl2, Ar2, hin2, hat2⟩ := Ia.get (V_pa) (j := p0) hR.1
  have pre3 : ∀ t, Steps p.tables e below (T1.setTop (mkF m 9 #[.val (.ref o0), .val (.int p0), .val (.int p0)] [(.int p0), (.int (getI ps p0))])) t → Steps p.tables e below (s₁.setTop (entryFrame m #[(.ref o0), (.int p0)] 3)) t := fun t k => pre0 t (by
    show Steps p.tables e below (s₁.setTop (mkF m 0 #[.val (.ref o0), .val (.int p0), .unset] [])) _
    refine XS.iloadN X0.here hx rfl (hb hby d4_0) rfl ?_
    show Steps p.tables e below (s₁.setTop (mkF m 1 #[.val (.ref o0), .val (.int p0), .unset] [(.int p0)])) _
    refine XS.istoreN X0.here hx rfl (hb hby d4_1) rfl (l' := #[.val (.ref o0), .val (.int p0), .val (.int p0)]) rfl ?_
    show Steps p.tables e below (s₁.setTop (mkF m 2 #[.val (.ref o0), .val (.int p0), .val (.int p0)] [])) _
    refine XS.aloadN X0.here hx rfl (hb hby d4_2) rfl rfl ?_
    show Steps p.tables e below (s₁.setTop (mkF m 3 #[.val (.ref o0), .val (.int p0), .val (.int p0)] [(.ref o0)])) _
    refine st1 _ ?_
    show Steps p.tables e below (T1.setTop (mkF m 6 #[.val (.ref o0), .val (.int p0), .val (.int p0)] [(.ref pa)])) _
    refine XS.iloadN X1.here hx rfl (hb hby d4_6) rfl ?_
    show Steps p.tables e below (T1.setTop (mkF m 7 #[.val (.ref o0), .val (.int p0), .val (.int p0)] [(.int p0), (.ref pa)])) _
    refine X1.iaload hx (j := p0) (v := (.int (getI ps p0))) (by rw [e1]; exact Ar2.1) (State.isArrayOf_alike hZ.alike Ar2.2.1) Ar2.2.2 hin2 hat2 (g := (mkF m 7 #[.val (.ref o0), .val (.int p0), .val (.int p0)] [(.int p0), (.ref pa)])) rfl rfl (hb hby d4_7) _ ?_
    show Steps p.tables e below (T1.setTop (mkF m 8 #[.val (.ref o0), .val (.int p0), .val (.int p0)] [(.int (getI ps p0))])) _
    refine XS.iloadN X1.here hx rfl (hb hby d4_8) rfl ?_
    show Steps p.tables e below (T1.setTop (mkF m 9 #[.val (.ref o0), .val (.int p0), .val (.int p0)] [(.int p0), (.int (getI ps p0))])) _
    exact k)
  by_cases hc9_4 : (getI ps p0) = p0
  · have hv : (f4 p0 ps) = p0 := by simp only [f4, if_pos hc9_4]
    obtain ⟨fs, hr, hrun, hended, hW, hsame⟩ := X1.leave (v := some (.int p0)) (fun h => nomatch (Bd.returns.symm.trans h)) hlk
    refine ⟨_, _, pre3 _ ?_, hrun, hended, _, _, rfl, ?_, ⟨_, rfl⟩, hW, hsame.mono (by decide) (by decide)⟩
    · show Steps p.tables e below (T1.setTop (mkF m 9 #[.val (.ref o0), .val (.int p0), .val (.int p0)] [(.int p0), (.int (getI ps p0))])) _
      refine XS.icmpYes X1.here hx rfl (pc0 := 9) (pc' := 39) rfl (hb hby d4_9) rfl (teq hc9_4).1 (by decide) (by decide) ?_
      show Steps p.tables e below (T1.setTop (mkF m 39 #[.val (.ref o0), .val (.int p0), .val (.int p0)] [])) _
      refine XS.iloadN X1.here hx rfl (hb hby d4_39) rfl ?_
      show Steps p.tables e below (T1.setTop (mkF m 40 #[.val (.ref o0), .val (.int p0), .val (.int p0)] [(.int p0)])) _
      exact retI X1 hx Bd.returns (hb hby d4_40) hr
    · show Q4 Z o0 p0 pa ka ps h0 n0 _ T1.heap _
      rw [e1]
      have hg5 : (g4_pa p0 ps) = ps := by simp only [g4_pa, if_pos hc9_4]
      exact ⟨by rw [hv], N0, (Keep.refl h0 [pa]), F_parent_o0, (by rw [hg5]; exact V_pa)⟩
  · obtain ⟨T6, X6, e6, st6⟩ := getF X1 hx hZ hown (host := "") (Or.inl (hw _ (List.mem_of_getElem? (i := 10) rfl))) Via.refl e1 (F_parent_o0) (g := (mkF m 13 #[.val (.ref o0), .val (.int p0), .val (.int p0)] [(.ref o0)])) rfl rfl (hb hby d4_13)
    obtain ⟨T7, X7, e7, st7⟩ := getF X6 hx hZ hown (host := "") (Or.inl (hw _ (List.mem_of_getElem? (i := 10) rfl))) Via.refl e6 (F_parent_o0) (g := (mkF m 18 #[.val (.ref o0), .val (.int p0), .val (.int p0)] [(.ref o0), (.int p0), (.ref pa)])) rfl rfl (hb hby d4_18)
    obtain ⟨T8, X8, e8, st8⟩ := getF X7 hx hZ hown (host := "") (Or.inl (hw _ (List.mem_of_getElem? (i := 10) rfl))) Via.refl e7 (F_parent_o0) (g := (mkF m 22 #[.val (.ref o0), .val (.int p0), .val (.int p0)] [(.ref o0), (.ref pa), (.int p0), (.ref pa)])) rfl rfl (hb hby d4_22)
    obtain ⟨cl9, Ar9, hin9, hat9⟩ := Ia.get (V_pa) (j := p0) hR.1
    obtain ⟨cl10, Ar10, hin10, hat10⟩ := Ia.get (V_pa) (j := (getI ps p0)) hR.2.1
    obtain ⟨cl11, Ar11, hin11, hat11⟩ := Ia.get (V_pa) (j := p0) hR.1
    obtain ⟨T12, h12, X12, e12, W12, st12⟩ := stI X8 hx hZ e8 Ar11 (j := p0) hin11 (g := (mkF m 28 #[.val (.ref o0), .val (.int p0), .val (.int p0)] [(.int (getI ps (getI ps p0))), (.int p0), (.ref pa)])) rfl rfl (hb hby d4_28)
    have Vw12 := Ia.set (V_pa) (j := p0) (x := (getI ps (getI ps p0))) hR.1 rfl W12
    have N12 := Fr.snoc X12 N0 g_pa
    have Z12 : n0 ≤ h12.size := Nat.le_trans Z0 (Keep.of_wr W12).1
    have K12 : Keep h0 h12 [pa] := ((Keep.refl h0 [pa])).wr W12 (Or.inl (List.mem_of_getElem? (i := 0) rfl))
    obtain ⟨T13, X13, e13, st13⟩ := getF X12 hx hZ hown (host := "") (Or.inl (hw _ (List.mem_of_getElem? (i := 10) rfl))) Via.refl e12 ((F_parent_o0.other W12 (Or.inl ne_o0_pa))) (g := (mkF m 30 #[.val (.ref o0), .val (.int p0), .val (.int p0)] [(.ref o0)])) rfl rfl (hb hby d4_30)
    obtain ⟨cl14, Ar14, hin14, hat14⟩ := Ia.get (Vw12) (j := p0) hR.1
    rw [show (getI (setI ps p0 (getI ps (getI ps p0))) p0) = (getI ps (getI ps p0)) from own_gs V_pa.2 hR.1] at hat14
    obtain ⟨T15, X15, e15, st15⟩ := getF X13 hx hZ hown (host := "") (Or.inl (hw _ (List.mem_of_getElem? (i := 10) rfl))) Via.refl e13 ((F_parent_o0.other W12 (Or.inl ne_o0_pa))) (g := (mkF m 3 #[.val (.ref o0), .val (.int p0), .val (.int (getI ps (getI ps p0)))] [(.ref o0)])) rfl rfl (hb hby d4_3)
    obtain ⟨cl16, Ar16, hin16, hat16⟩ := Ia.get (Vw12) (j := (getI ps (getI ps p0))) hR.2.2.1
    rw [show (getI (setI ps p0 (getI ps (getI ps p0))) (getI ps (getI ps p0))) = (getI ps (getI ps p0)) from own_stop V_pa.2 hR] at hat16
    have hv : (f4 p0 ps) = (getI ps (getI ps p0)) := by simp only [f4, if_neg hc9_4]
    obtain ⟨fs, hr, hrun, hended, hW, hsame⟩ := X15.leave (v := some (.int (getI ps (getI ps p0)))) (fun h => nomatch (Bd.returns.symm.trans h)) hlk
    refine ⟨_, _, pre3 _ ?_, hrun, hended, _, _, rfl, ?_, ⟨_, rfl⟩, hW, hsame.mono (by decide) (by decide)⟩
    · show Steps p.tables e below (T1.setTop (mkF m 9 #[.val (.ref o0), .val (.int p0), .val (.int p0)] [(.int p0), (.int (getI ps p0))])) _
      refine XS.icmpNo X1.here hx rfl (hb hby d4_9) rfl (feq hc9_4).1 ?_
      show Steps p.tables e below (T1.setTop (mkF m 12 #[.val (.ref o0), .val (.int p0), .val (.int p0)] [])) _
      refine XS.aloadN X1.here hx rfl (hb hby d4_12) rfl rfl ?_
      show Steps p.tables e below (T1.setTop (mkF m 13 #[.val (.ref o0), .val (.int p0), .val (.int p0)] [(.ref o0)])) _
      refine st6 _ ?_
      show Steps p.tables e below (T6.setTop (mkF m 16 #[.val (.ref o0), .val (.int p0), .val (.int p0)] [(.ref pa)])) _
      refine XS.iloadN X6.here hx rfl (hb hby d4_16) rfl ?_
      show Steps p.tables e below (T6.setTop (mkF m 17 #[.val (.ref o0), .val (.int p0), .val (.int p0)] [(.int p0), (.ref pa)])) _
      refine XS.aloadN X6.here hx rfl (hb hby d4_17) rfl rfl ?_
      show Steps p.tables e below (T6.setTop (mkF m 18 #[.val (.ref o0), .val (.int p0), .val (.int p0)] [(.ref o0), (.int p0), (.ref pa)])) _
      refine st7 _ ?_
      show Steps p.tables e below (T7.setTop (mkF m 21 #[.val (.ref o0), .val (.int p0), .val (.int p0)] [(.ref pa), (.int p0), (.ref pa)])) _
      refine XS.aloadN X7.here hx rfl (hb hby d4_21) rfl rfl ?_
      show Steps p.tables e below (T7.setTop (mkF m 22 #[.val (.ref o0), .val (.int p0), .val (.int p0)] [(.ref o0), (.ref pa), (.int p0), (.ref pa)])) _
      refine st8 _ ?_
      show Steps p.tables e below (T8.setTop (mkF m 25 #[.val (.ref o0), .val (.int p0), .val (.int p0)] [(.ref pa), (.ref pa), (.int p0), (.ref pa)])) _
      refine XS.iloadN X8.here hx rfl (hb hby d4_25) rfl ?_
      show Steps p.tables e below (T8.setTop (mkF m 26 #[.val (.ref o0), .val (.int p0), .val (.int p0)] [(.int p0), (.ref pa), (.ref pa), (.int p0), (.ref pa)])) _
      refine X8.iaload hx (j := p0) (v := (.int (getI ps p0))) (by rw [e8]; exact Ar9.1) (State.isArrayOf_alike hZ.alike Ar9.2.1) Ar9.2.2 hin9 hat9 (g := (mkF m 26 #[.val (.ref o0), .val (.int p0), .val (.int p0)] [(.int p0), (.ref pa), (.ref pa), (.int p0), (.ref pa)])) rfl rfl (hb hby d4_26) _ ?_
      show Steps p.tables e below (T8.setTop (mkF m 27 #[.val (.ref o0), .val (.int p0), .val (.int p0)] [(.int (getI ps p0)), (.ref pa), (.int p0), (.ref pa)])) _
      refine X8.iaload hx (j := (getI ps p0)) (v := (.int (getI ps (getI ps p0)))) (by rw [e8]; exact Ar10.1) (State.isArrayOf_alike hZ.alike Ar10.2.1) Ar10.2.2 hin10 hat10 (g := (mkF m 27 #[.val (.ref o0), .val (.int p0), .val (.int p0)] [(.int (getI ps p0)), (.ref pa), (.int p0), (.ref pa)])) rfl rfl (hb hby d4_27) _ ?_
      show Steps p.tables e below (T8.setTop (mkF m 28 #[.val (.ref o0), .val (.int p0), .val (.int p0)] [(.int (getI ps (getI ps p0))), (.int p0), (.ref pa)])) _
      refine st12 _ ?_
      show Steps p.tables e below (T12.setTop (mkF m 29 #[.val (.ref o0), .val (.int p0), .val (.int p0)] [])) _
      refine XS.aloadN X12.here hx rfl (hb hby d4_29) rfl rfl ?_
      show Steps p.tables e below (T12.setTop (mkF m 30 #[.val (.ref o0), .val (.int p0), .val (.int p0)] [(.ref o0)])) _
      refine st13 _ ?_
      show Steps p.tables e below (T13.setTop (mkF m 33 #[.val (.ref o0), .val (.int p0), .val (.int p0)] [(.ref pa)])) _
      refine XS.iloadN X13.here hx rfl (hb hby d4_33) rfl ?_
      show Steps p.tables e below (T13.setTop (mkF m 34 #[.val (.ref o0), .val (.int p0), .val (.int p0)] [(.int p0), (.ref pa)])) _
      refine X13.iaload hx (j := p0) (v := (.int (getI ps (getI ps p0)))) (by rw [e13]; exact Ar14.1) (State.isArrayOf_alike hZ.alike Ar14.2.1) Ar14.2.2 hin14 hat14 (g := (mkF m 34 #[.val (.ref o0), .val (.int p0), .val (.int p0)] [(.int p0), (.ref pa)])) rfl rfl (hb hby d4_34) _ ?_
      show Steps p.tables e below (T13.setTop (mkF m 35 #[.val (.ref o0), .val (.int p0), .val (.int p0)] [(.int (getI ps (getI ps p0)))])) _
      refine XS.istoreN X13.here hx rfl (hb hby d4_35) rfl (l' := #[.val (.ref o0), .val (.int p0), .val (.int (getI ps (getI ps p0)))]) rfl ?_
      show Steps p.tables e below (T13.setTop (mkF m 36 #[.val (.ref o0), .val (.int p0), .val (.int (getI ps (getI ps p0)))] [])) _
      refine XS.goto X13.here hx rfl (pc0 := 36) (pc' := 2) rfl (hb hby d4_36) (by decide) (by decide) ?_
      show Steps p.tables e below (T13.setTop (mkF m 2 #[.val (.ref o0), .val (.int p0), .val (.int (getI ps (getI ps p0)))] [])) _
      refine XS.aloadN X13.here hx rfl (hb hby d4_2) rfl rfl ?_
      show Steps p.tables e below (T13.setTop (mkF m 3 #[.val (.ref o0), .val (.int p0), .val (.int (getI ps (getI ps p0)))] [(.ref o0)])) _
      refine st15 _ ?_
      show Steps p.tables e below (T15.setTop (mkF m 6 #[.val (.ref o0), .val (.int p0), .val (.int (getI ps (getI ps p0)))] [(.ref pa)])) _
      refine XS.iloadN X15.here hx rfl (hb hby d4_6) rfl ?_
      show Steps p.tables e below (T15.setTop (mkF m 7 #[.val (.ref o0), .val (.int p0), .val (.int (getI ps (getI ps p0)))] [(.int (getI ps (getI ps p0))), (.ref pa)])) _
      refine X15.iaload hx (j := (getI ps (getI ps p0))) (v := (.int (getI ps (getI ps p0)))) (by rw [e15]; exact Ar16.1) (State.isArrayOf_alike hZ.alike Ar16.2.1) Ar16.2.2 hin16 hat16 (g := (mkF m 7 #[.val (.ref o0), .val (.int p0), .val (.int (getI ps (getI ps p0)))] [(.int (getI ps (getI ps p0))), (.ref pa)])) rfl rfl (hb hby d4_7) _ ?_
      show Steps p.tables e below (T15.setTop (mkF m 8 #[.val (.ref o0), .val (.int p0), .val (.int (getI ps (getI ps p0)))] [(.int (getI ps (getI ps p0)))])) _
      refine XS.iloadN X15.here hx rfl (hb hby d4_8) rfl ?_
      show Steps p.tables e below (T15.setTop (mkF m 9 #[.val (.ref o0), .val (.int p0), .val (.int (getI ps (getI ps p0)))] [(.int (getI ps (getI ps p0))), (.int (getI ps (getI ps p0)))])) _
      refine XS.icmpYes X15.here hx rfl (pc0 := 9) (pc' := 39) rfl (hb hby d4_9) rfl (teq (rfl : (getI ps (getI ps p0)) = (getI ps (getI ps p0)))).1 (by decide) (by decide) ?_
      show Steps p.tables e below (T15.setTop (mkF m 39 #[.val (.ref o0), .val (.int p0), .val (.int (getI ps (getI ps p0)))] [])) _
      refine XS.iloadN X15.here hx rfl (hb hby d4_39) rfl ?_
      show Steps p.tables e below (T15.setTop (mkF m 40 #[.val (.ref o0), .val (.int p0), .val (.int (getI ps (getI ps p0)))] [(.int (getI ps (getI ps p0)))])) _
      exact retI X15 hx Bd.returns (hb hby d4_40) hr
    · show Q4 Z o0 p0 pa ka ps h0 n0 _ T15.heap _
      rw [e15]
      have hg17 : (g4_pa p0 ps) = (setI ps p0 (getI ps (getI ps p0))) := by simp only [g4_pa, if_neg hc9_4]
      exact ⟨by rw [hv], N12, K12, (F_parent_o0.other W12 (Or.inl ne_o0_pa)), (by rw [hg17]; exact Vw12)⟩

def Jok (ps : List Int32) (p0 p1 : Int32) : Prop := Rok ps p0 ∧ Rok (g4_pa p0 ps) p1
def Bok (ls : List Int32) (p0 p1 : Int32) : Prop := inr p0 ∧ inr p1 ∧ inr (getI ls p0) ∧ inr (getI ls p1)
theorem own_fin {ps : List Int32} {x : Int32} (h : Rok ps x) : inr (f4 x ps) := by
  unfold f4
  by_cases q : getI ps x = x
  · rw [if_pos q]; exact h.1
  · rw [if_neg q]; exact h.2.2.1
theorem own_ite {p : Prop} [Decidable p] {x y : Int32} (hx : inr x) (hy : inr y) : inr (if p then x else y) := by
  by_cases q : p
  · rw [if_pos q]; exact hx
  · rw [if_neg q]; exact hy

theorem d3_0 : decode prog_24_method_3_code 0 = .ok (.aload_n 0, 1) := by decide +kernel
theorem d3_1 : decode prog_24_method_3_code 1 = .ok (.iload_n 1, 1) := by decide +kernel
theorem d3_2 : decode prog_24_method_3_code 2 = .ok (.invokevirtual 16, 3) := by decide +kernel
theorem d3_5 : decode prog_24_method_3_code 5 = .ok (.istore_n 3, 1) := by decide +kernel
theorem d3_6 : decode prog_24_method_3_code 6 = .ok (.aload_n 0, 1) := by decide +kernel
theorem d3_7 : decode prog_24_method_3_code 7 = .ok (.iload_n 2, 1) := by decide +kernel
theorem d3_8 : decode prog_24_method_3_code 8 = .ok (.invokevirtual 16, 3) := by decide +kernel
theorem d3_11 : decode prog_24_method_3_code 11 = .ok (.istore 4, 2) := by decide +kernel
theorem d3_13 : decode prog_24_method_3_code 13 = .ok (.iload_n 3, 1) := by decide +kernel
theorem d3_14 : decode prog_24_method_3_code 14 = .ok (.iload 4, 2) := by decide +kernel
theorem d3_16 : decode prog_24_method_3_code 16 = .ok (.if_icmp .ne 4, 3) := by decide +kernel
theorem d3_19 : decode prog_24_method_3_code 19 = .ok (.return_, 1) := by decide +kernel
theorem d3_20 : decode prog_24_method_3_code 20 = .ok (.aload_n 0, 1) := by decide +kernel
theorem d3_21 : decode prog_24_method_3_code 21 = .ok (.getfield 13, 3) := by decide +kernel
theorem d3_24 : decode prog_24_method_3_code 24 = .ok (.iload_n 3, 1) := by decide +kernel
theorem d3_25 : decode prog_24_method_3_code 25 = .ok (.iaload, 1) := by decide +kernel
theorem d3_26 : decode prog_24_method_3_code 26 = .ok (.aload_n 0, 1) := by decide +kernel
theorem d3_27 : decode prog_24_method_3_code 27 = .ok (.getfield 13, 3) := by decide +kernel
theorem d3_30 : decode prog_24_method_3_code 30 = .ok (.iload 4, 2) := by decide +kernel
theorem d3_32 : decode prog_24_method_3_code 32 = .ok (.iaload, 1) := by decide +kernel
theorem d3_33 : decode prog_24_method_3_code 33 = .ok (.if_icmp .ge 13, 3) := by decide +kernel
theorem d3_36 : decode prog_24_method_3_code 36 = .ok (.iload_n 3, 1) := by decide +kernel
theorem d3_37 : decode prog_24_method_3_code 37 = .ok (.istore 5, 2) := by decide +kernel
theorem d3_39 : decode prog_24_method_3_code 39 = .ok (.iload 4, 2) := by decide +kernel
theorem d3_41 : decode prog_24_method_3_code 41 = .ok (.istore_n 3, 1) := by decide +kernel
theorem d3_42 : decode prog_24_method_3_code 42 = .ok (.iload 5, 2) := by decide +kernel
theorem d3_44 : decode prog_24_method_3_code 44 = .ok (.istore 4, 2) := by decide +kernel
theorem d3_46 : decode prog_24_method_3_code 46 = .ok (.aload_n 0, 1) := by decide +kernel
theorem d3_47 : decode prog_24_method_3_code 47 = .ok (.getfield 7, 3) := by decide +kernel
theorem d3_50 : decode prog_24_method_3_code 50 = .ok (.iload 4, 2) := by decide +kernel
theorem d3_52 : decode prog_24_method_3_code 52 = .ok (.iload_n 3, 1) := by decide +kernel
theorem d3_53 : decode prog_24_method_3_code 53 = .ok (.iastore, 1) := by decide +kernel
theorem d3_54 : decode prog_24_method_3_code 54 = .ok (.aload_n 0, 1) := by decide +kernel
theorem d3_55 : decode prog_24_method_3_code 55 = .ok (.getfield 13, 3) := by decide +kernel
theorem d3_58 : decode prog_24_method_3_code 58 = .ok (.iload_n 3, 1) := by decide +kernel
theorem d3_59 : decode prog_24_method_3_code 59 = .ok (.dup2, 1) := by decide +kernel
theorem d3_60 : decode prog_24_method_3_code 60 = .ok (.iaload, 1) := by decide +kernel
theorem d3_61 : decode prog_24_method_3_code 61 = .ok (.aload_n 0, 1) := by decide +kernel
theorem d3_62 : decode prog_24_method_3_code 62 = .ok (.getfield 13, 3) := by decide +kernel
theorem d3_65 : decode prog_24_method_3_code 65 = .ok (.iload 4, 2) := by decide +kernel
theorem d3_67 : decode prog_24_method_3_code 67 = .ok (.iaload, 1) := by decide +kernel
theorem d3_68 : decode prog_24_method_3_code 68 = .ok (.iadd, 1) := by decide +kernel
theorem d3_69 : decode prog_24_method_3_code 69 = .ok (.iastore, 1) := by decide +kernel
theorem d3_70 : decode prog_24_method_3_code 70 = .ok (.return_, 1) := by decide +kernel
theorem pn_3 : plainName "com/example/shingle/shingle/Joined" = true := by first | (simp [plainName, overriddenIn]; done) | decide +kernel
theorem ef_3 (m : MethodId) (x0 : Addr) (x1 : Int32) (x2 : Int32) : entryFrame m #[(.ref x0), (.int x1), (.int x2)] 6 = mkF m 0 #[.val (.ref x0), .val (.int x1), .val (.int x2), .unset, .unset, .unset] [] := by first | (simp [entryFrame, mkF, argsToLocals, Value.category]; done) | rfl
def v3_1 (ss : List Int32) (p0 : Int32) (ps : List Int32) (p1 : Int32) : Int32 := (if (getI ss (f4 p0 ps)) < (getI ss (f4 p1 (g4_pa p0 ps))) then (f4 p1 (g4_pa p0 ps)) else (f4 p0 ps))
def v3_2 (ss : List Int32) (p0 : Int32) (ps : List Int32) (p1 : Int32) : Int32 := (if (getI ss (f4 p0 ps)) < (getI ss (f4 p1 (g4_pa p0 ps))) then (f4 p0 ps) else (f4 p1 (g4_pa p0 ps)))
def g3_pa (p0 : Int32) (p1 : Int32) (ps : List Int32) (ss : List Int32) : List Int32 := (if (f4 p0 ps) = (f4 p1 (g4_pa p0 ps)) then (g4_pa p1 (g4_pa p0 ps)) else (setI (g4_pa p1 (g4_pa p0 ps)) (v3_2 ss p0 ps p1) (v3_1 ss p0 ps p1)))
def g3_sa (p0 : Int32) (p1 : Int32) (ps : List Int32) (ss : List Int32) : List Int32 := (if (f4 p0 ps) = (f4 p1 (g4_pa p0 ps)) then ss else (setI ss (v3_1 ss p0 ps p1) ((getI ss (v3_1 ss p0 ps p1)) + (getI ss (v3_2 ss p0 ps p1)))))
def Q3 (Z : State) (o0 : Addr) (p0 : Int32) (p1 : Int32) (pa : Addr) (sa : Addr) (ka : ClassId) (ps : List Int32) (kb : ClassId) (ss : List Int32) (h0 : Heap) (n0 : Nat) (v : Option Value) (h : Heap) (L : List Loc) : Prop := v = none ∧ Fr n0 L ∧ Keep h0 h [pa, sa] ∧ Fld Z h o0 "com/example/shingle/shingle/Joined" "parent" "[I" (.ref pa) ∧ Fld Z h o0 "com/example/shingle/shingle/Joined" "size" "[I" (.ref sa) ∧ Ia Z h pa ka .int (4 : Int32) (g3_pa p0 p1 ps ss) ∧ Ia Z h sa kb .int (4 : Int32) (g3_sa p0 p1 ps ss)
set_option maxRecDepth 65536 in
set_option maxHeartbeats 40000000 in
theorem rm3 (l : Launch) (Z : State) (a0 : Array Value) (hw : ∀ d ∈ tables_1, d.before a0 Z = true) (ws : List Jvm.Cond) (o0 : Addr) (p0 : Int32) (p1 : Int32) (pa : Addr) (sa : Addr) (ka : ClassId) (ps : List Int32) (kb : ClassId) (ss : List Int32) (h0 : Heap) (n0 : Nat) (Z0 : n0 ≤ h0.size) (E_o0 : Exa Z h0 o0 "com/example/shingle/shingle/Joined") (F_parent_o0 : Fld Z h0 o0 "com/example/shingle/shingle/Joined" "parent" "[I" (.ref pa)) (F_size_o0 : Fld Z h0 o0 "com/example/shingle/shingle/Joined" "size" "[I" (.ref sa)) (V_pa : Ia Z h0 pa ka .int (4 : Int32) ps) (g_pa : n0 ≤ pa) (V_sa : Ia Z h0 sa kb .int (4 : Int32) ss) (g_sa : n0 ≤ sa) (ne_o0_pa : o0 ≠ pa) (ne_o0_sa : o0 ≠ sa) (ne_pa_sa : pa ≠ sa) (hJ : Jok ps p0 p1) :
    MetFree l (⟨"com/example/shingle/shingle/Joined", "join", "(II)V"⟩ : MethodName) (head1 (Jvm.Cond.code (⟨"com/example/shingle/shingle/Joined", "join", "(II)V"⟩ : MethodName) prog_24_method_3_code 6 none :: ws) ({ frames := 1, cells := 0, slots := 0, locals := 14 } : Room)) (fun a U => a = #[(.ref o0), (.int p0), (.int p1)] ∧ Z.Warmed39 U.vm ∧ U.heap = h0) (fun _ _ _ _ _ => True) (fun _ U o U' => ∃ v L, o = .returned v ∧ Q3 Z o0 p0 p1 pa sa ka ps kb ss h0 n0 v U'.heap L ∧ FrameEnd U o U' L ({ frames := 1, cells := 0, slots := 0, locals := 14 } : Room).cells ({ frames := 1, cells := 0, slots := 0, locals := 14 } : Room).slots) := by
  refine MetFree.of_bodySF (plainFor_of_name pn_3) hisR ?_
  intro p e s m args below meth c s₁ Bd hml0 hP hK
  obtain ⟨rfl, hZ, hh⟩ := hP
  have hx := Bd.exec
  have hby := Bd.bytes
  have hml : c.maxLocals = 6 := hml0
  have hown : s.vm.findClass "com/example/shingle/shingle/Joined" = some m.cls := findClass_of_methodNamed Bd.named
  have hnm := (name_of_methodNamed Bd.named Bd.method).1
  have X0 : Stand p l e ({ frames := 1, cells := 0, slots := 0, locals := 14 } : Room) s m #[(.ref o0), (.int p0), (.int p1)] below meth c s₁ [] 0 0 := Stand.of_body Bd
  have e0 : s₁.heap = h0 := by rw [← hh, Bd.state]; rfl
  have N0 := Fr.nil n0
  have hlk : meth.locks = false := by first | exact BodyLoose.notSynchronized Bd | exact Body.notSynchronized Bd
  have pre0 : ∀ t, Steps p.tables e below (s₁.setTop (mkF m 0 #[.val (.ref o0), .val (.int p0), .val (.int p1), .unset, .unset, .unset] [])) t → Steps p.tables e below (s₁.setTop (entryFrame m #[(.ref o0), (.int p0), (.int p1)] 6)) t := fun t k => castTop (ef_3 m o0 p0 p1) k
  obtain ⟨cq1, kq1, q1a, q1b, q1c⟩ := isOf hZ e0 (E_o0)
  obtain ⟨_, _, ⟨T1, L1, k1, n1⟩, -, X1, ⟨Lc1, hQ1, l1, y1, z1⟩, st1⟩ := X0.virtualBack hx (y := (⟨"com/example/shingle/shingle/Joined", "root", "(I)I"⟩ : MethodName)) (z := (⟨"com/example/shingle/shingle/Joined", "root", "(I)I"⟩ : MethodName)) hown (mvT hZ (hw _ (List.mem_of_getElem? (i := 19) rfl))) (mvT hZ (hw _ (List.mem_of_getElem? (i := 20) rfl))) (notFace_of_selects (args := #[]) (mvT hZ (hw _ (List.mem_of_getElem? (i := 22) rfl)))) (mvT hZ (hw _ (List.mem_of_getElem? (i := 22) rfl))) (mvT hZ (hw _ (List.mem_of_getElem? (i := 21) rfl))) (by decide) (backOf (W := 0) (rm4 l Z a0 hw [] o0 p0 pa ka ps h0 n0 Z0 (E_o0) (F_parent_o0) (V_pa) g_pa (ne_o0_pa) hJ.1) hZ (hw _ (List.mem_of_getElem? (i := 23) rfl)) (hw _ (List.mem_of_getElem? (i := 3) rfl)) (by decide) (by decide)) q1a q1c (g := (mkF m 2 #[.val (.ref o0), .val (.int p0), .val (.int p1), .unset, .unset, .unset] [(.int p0), (.ref o0)])) rfl (by rw [hml]; rfl) (Steps.refl _) (argsL := [(.int p0)]) (rest := []) (lenOf pd_0 rfl) rfl (by show 2 * 0 + _ ≤ _; exact Nat.le_of_eq rfl) (hb hby d3_2) (fun _ _ => ⟨rfl, e0, (by decide : 0 + 0 ≤ _), (by decide : 0 + 0 ≤ _)⟩)
  dsimp only [Pt.U, Pt.locs, Pt.cells, Pt.slots] at X1 l1 y1 z1 st1 hQ1
  subst l1 y1 z1
  obtain ⟨rfl, N1q, Kq1, Fq1_0, Vq1_0⟩ := hQ1
  have N1 := Fr.app N0 N1q
  have Z1 : n0 ≤ T1.heap.size := Nat.le_trans Z0 Kq1.1
  have K1 : Keep h0 T1.heap [pa, sa] := ((Keep.refl h0 [pa, sa])).trans Kq1 (allS (Or.inl (List.mem_of_getElem? (i := 0) rfl)) all0)
  obtain ⟨cq2, kq2, q2a, q2b, q2c⟩ := isOf hZ rfl ((E_o0.keep Kq1))
  obtain ⟨_, _, ⟨T2, L2, k2, n2⟩, -, X2, ⟨Lc2, hQ2, l2, y2, z2⟩, st2⟩ := X1.virtualBack hx (y := (⟨"com/example/shingle/shingle/Joined", "root", "(I)I"⟩ : MethodName)) (z := (⟨"com/example/shingle/shingle/Joined", "root", "(I)I"⟩ : MethodName)) hown (mvT hZ (hw _ (List.mem_of_getElem? (i := 19) rfl))) (mvT hZ (hw _ (List.mem_of_getElem? (i := 20) rfl))) (notFace_of_selects (args := #[]) (mvT hZ (hw _ (List.mem_of_getElem? (i := 22) rfl)))) (mvT hZ (hw _ (List.mem_of_getElem? (i := 22) rfl))) (mvT hZ (hw _ (List.mem_of_getElem? (i := 21) rfl))) (by decide) (backOf (W := 0) (rm4 l Z a0 hw [] o0 p1 pa ka (g4_pa p0 ps) T1.heap n0 Z1 ((E_o0.keep Kq1)) (Fq1_0) (Vq1_0) g_pa (ne_o0_pa) hJ.2) hZ (hw _ (List.mem_of_getElem? (i := 23) rfl)) (hw _ (List.mem_of_getElem? (i := 3) rfl)) (by decide) (by decide)) q2a q2c (g := (mkF m 8 #[.val (.ref o0), .val (.int p0), .val (.int p1), .val (.int (f4 p0 ps)), .unset, .unset] [(.int p1), (.ref o0)])) rfl (by rw [hml]; rfl) (Steps.refl _) (argsL := [(.int p1)]) (rest := []) (lenOf pd_0 rfl) rfl (by show 2 * 0 + _ ≤ _; exact Nat.le_of_eq rfl) (hb hby d3_8) (fun _ _ => ⟨rfl, rfl, (by decide : 0 + 0 ≤ _), (by decide : 0 + 0 ≤ _)⟩)
  dsimp only [Pt.U, Pt.locs, Pt.cells, Pt.slots] at X2 l2 y2 z2 st2 hQ2
  subst l2 y2 z2
  obtain ⟨rfl, N2q, Kq2, Fq2_0, Vq2_0⟩ := hQ2
  have N2 := Fr.app N1 N2q
  have Z2 : n0 ≤ T2.heap.size := Nat.le_trans Z1 Kq2.1
  have K2 : Keep h0 T2.heap [pa, sa] := (K1).trans Kq2 (allS (Or.inl (List.mem_of_getElem? (i := 0) rfl)) all0)
  have pre3 : ∀ t, Steps p.tables e below (T2.setTop (mkF m 16 #[.val (.ref o0), .val (.int p0), .val (.int p1), .val (.int (f4 p0 ps)), .val (.int (f4 p1 (g4_pa p0 ps))), .unset] [(.int (f4 p1 (g4_pa p0 ps))), (.int (f4 p0 ps))])) t → Steps p.tables e below (s₁.setTop (entryFrame m #[(.ref o0), (.int p0), (.int p1)] 6)) t := fun t k => pre0 t (by
    show Steps p.tables e below (s₁.setTop (mkF m 0 #[.val (.ref o0), .val (.int p0), .val (.int p1), .unset, .unset, .unset] [])) _
    refine XS.aloadN X0.here hx rfl (hb hby d3_0) rfl rfl ?_
    show Steps p.tables e below (s₁.setTop (mkF m 1 #[.val (.ref o0), .val (.int p0), .val (.int p1), .unset, .unset, .unset] [(.ref o0)])) _
    refine XS.iloadN X0.here hx rfl (hb hby d3_1) rfl ?_
    show Steps p.tables e below (s₁.setTop (mkF m 2 #[.val (.ref o0), .val (.int p0), .val (.int p1), .unset, .unset, .unset] [(.int p0), (.ref o0)])) _
    refine st1.trans ?_
    show Steps p.tables e below (T1.setTop (mkF m 5 #[.val (.ref o0), .val (.int p0), .val (.int p1), .unset, .unset, .unset] [(.int (f4 p0 ps))])) _
    refine XS.istoreN X1.here hx rfl (hb hby d3_5) rfl (l' := #[.val (.ref o0), .val (.int p0), .val (.int p1), .val (.int (f4 p0 ps)), .unset, .unset]) rfl ?_
    show Steps p.tables e below (T1.setTop (mkF m 6 #[.val (.ref o0), .val (.int p0), .val (.int p1), .val (.int (f4 p0 ps)), .unset, .unset] [])) _
    refine XS.aloadN X1.here hx rfl (hb hby d3_6) rfl rfl ?_
    show Steps p.tables e below (T1.setTop (mkF m 7 #[.val (.ref o0), .val (.int p0), .val (.int p1), .val (.int (f4 p0 ps)), .unset, .unset] [(.ref o0)])) _
    refine XS.iloadN X1.here hx rfl (hb hby d3_7) rfl ?_
    show Steps p.tables e below (T1.setTop (mkF m 8 #[.val (.ref o0), .val (.int p0), .val (.int p1), .val (.int (f4 p0 ps)), .unset, .unset] [(.int p1), (.ref o0)])) _
    refine st2.trans ?_
    show Steps p.tables e below (T2.setTop (mkF m 11 #[.val (.ref o0), .val (.int p0), .val (.int p1), .val (.int (f4 p0 ps)), .unset, .unset] [(.int (f4 p1 (g4_pa p0 ps)))])) _
    refine XS.istore X2.here hx rfl (hb hby d3_11) rfl (l' := #[.val (.ref o0), .val (.int p0), .val (.int p1), .val (.int (f4 p0 ps)), .val (.int (f4 p1 (g4_pa p0 ps))), .unset]) rfl ?_
    show Steps p.tables e below (T2.setTop (mkF m 13 #[.val (.ref o0), .val (.int p0), .val (.int p1), .val (.int (f4 p0 ps)), .val (.int (f4 p1 (g4_pa p0 ps))), .unset] [])) _
    refine XS.iloadN X2.here hx rfl (hb hby d3_13) rfl ?_
    show Steps p.tables e below (T2.setTop (mkF m 14 #[.val (.ref o0), .val (.int p0), .val (.int p1), .val (.int (f4 p0 ps)), .val (.int (f4 p1 (g4_pa p0 ps))), .unset] [(.int (f4 p0 ps))])) _
    refine XS.iload X2.here hx rfl (hb hby d3_14) rfl ?_
    show Steps p.tables e below (T2.setTop (mkF m 16 #[.val (.ref o0), .val (.int p0), .val (.int p1), .val (.int (f4 p0 ps)), .val (.int (f4 p1 (g4_pa p0 ps))), .unset] [(.int (f4 p1 (g4_pa p0 ps))), (.int (f4 p0 ps))])) _
    exact k)
  by_cases hc16_4 : (f4 p0 ps) = (f4 p1 (g4_pa p0 ps))
  · obtain ⟨fs, hr, hrun, hended, hW, hsame⟩ := X2.leave (v := none) (fun _ => rfl) hlk
    refine ⟨_, _, pre3 _ ?_, hrun, hended, _, _, rfl, ?_, ⟨_, rfl⟩, hW, hsame.mono (by decide) (by decide)⟩
    · show Steps p.tables e below (T2.setTop (mkF m 16 #[.val (.ref o0), .val (.int p0), .val (.int p1), .val (.int (f4 p0 ps)), .val (.int (f4 p1 (g4_pa p0 ps))), .unset] [(.int (f4 p1 (g4_pa p0 ps))), (.int (f4 p0 ps))])) _
      refine XS.icmpNo X2.here hx rfl (hb hby d3_16) rfl (teq hc16_4).2 ?_
      show Steps p.tables e below (T2.setTop (mkF m 19 #[.val (.ref o0), .val (.int p0), .val (.int p1), .val (.int (f4 p0 ps)), .val (.int (f4 p1 (g4_pa p0 ps))), .unset] [])) _
      exact X2.returnOut hx Bd.returns (hb hby d3_19) hr
    · show Q3 Z o0 p0 p1 pa sa ka ps kb ss h0 n0 _ T2.heap _
      have hg5 : (g3_pa p0 p1 ps ss) = (g4_pa p1 (g4_pa p0 ps)) := by simp only [g3_pa, if_pos hc16_4]
      have hg6 : (g3_sa p0 p1 ps ss) = ss := by simp only [g3_sa, if_pos hc16_4]
      exact ⟨rfl, N2, K2, Fq2_0, ((F_size_o0.keep Kq1 (ninS ne_o0_pa nin0)).keep Kq2 (ninS ne_o0_pa nin0)), (by rw [hg5]; exact Vq2_0), (by rw [hg6]; exact ((V_sa.keep Kq1 (ninS (Ne.symm ne_pa_sa) nin0)).keep Kq2 (ninS (Ne.symm ne_pa_sa) nin0)))⟩
  · obtain ⟨T7, X7, e7, st7⟩ := getF X2 hx hZ hown (host := "") (Or.inl (hw _ (List.mem_of_getElem? (i := 12) rfl))) Via.refl rfl (((F_size_o0.keep Kq1 (ninS ne_o0_pa nin0)).keep Kq2 (ninS ne_o0_pa nin0))) (g := (mkF m 21 #[.val (.ref o0), .val (.int p0), .val (.int p1), .val (.int (f4 p0 ps)), .val (.int (f4 p1 (g4_pa p0 ps))), .unset] [(.ref o0)])) rfl rfl (hb hby d3_21)
    obtain ⟨cl8, Ar8, hin8, hat8⟩ := Ia.get (((V_sa.keep Kq1 (ninS (Ne.symm ne_pa_sa) nin0)).keep Kq2 (ninS (Ne.symm ne_pa_sa) nin0))) (j := (f4 p0 ps)) (own_fin hJ.1)
    obtain ⟨T9, X9, e9, st9⟩ := getF X7 hx hZ hown (host := "") (Or.inl (hw _ (List.mem_of_getElem? (i := 12) rfl))) Via.refl e7 (((F_size_o0.keep Kq1 (ninS ne_o0_pa nin0)).keep Kq2 (ninS ne_o0_pa nin0))) (g := (mkF m 27 #[.val (.ref o0), .val (.int p0), .val (.int p1), .val (.int (f4 p0 ps)), .val (.int (f4 p1 (g4_pa p0 ps))), .unset] [(.ref o0), (.int (getI ss (f4 p0 ps)))])) rfl rfl (hb hby d3_27)
    obtain ⟨cl10, Ar10, hin10, hat10⟩ := Ia.get (((V_sa.keep Kq1 (ninS (Ne.symm ne_pa_sa) nin0)).keep Kq2 (ninS (Ne.symm ne_pa_sa) nin0))) (j := (f4 p1 (g4_pa p0 ps))) (own_fin hJ.2)
    have pre11 : ∀ t, Steps p.tables e below (T9.setTop (mkF m 33 #[.val (.ref o0), .val (.int p0), .val (.int p1), .val (.int (f4 p0 ps)), .val (.int (f4 p1 (g4_pa p0 ps))), .unset] [(.int (getI ss (f4 p1 (g4_pa p0 ps)))), (.int (getI ss (f4 p0 ps)))])) t → Steps p.tables e below (s₁.setTop (entryFrame m #[(.ref o0), (.int p0), (.int p1)] 6)) t := fun t k => pre3 t (by
      show Steps p.tables e below (T2.setTop (mkF m 16 #[.val (.ref o0), .val (.int p0), .val (.int p1), .val (.int (f4 p0 ps)), .val (.int (f4 p1 (g4_pa p0 ps))), .unset] [(.int (f4 p1 (g4_pa p0 ps))), (.int (f4 p0 ps))])) _
      refine XS.icmpYes X2.here hx rfl (pc0 := 16) (pc' := 20) rfl (hb hby d3_16) rfl (feq hc16_4).2 (by decide) (by decide) ?_
      show Steps p.tables e below (T2.setTop (mkF m 20 #[.val (.ref o0), .val (.int p0), .val (.int p1), .val (.int (f4 p0 ps)), .val (.int (f4 p1 (g4_pa p0 ps))), .unset] [])) _
      refine XS.aloadN X2.here hx rfl (hb hby d3_20) rfl rfl ?_
      show Steps p.tables e below (T2.setTop (mkF m 21 #[.val (.ref o0), .val (.int p0), .val (.int p1), .val (.int (f4 p0 ps)), .val (.int (f4 p1 (g4_pa p0 ps))), .unset] [(.ref o0)])) _
      refine st7 _ ?_
      show Steps p.tables e below (T7.setTop (mkF m 24 #[.val (.ref o0), .val (.int p0), .val (.int p1), .val (.int (f4 p0 ps)), .val (.int (f4 p1 (g4_pa p0 ps))), .unset] [(.ref sa)])) _
      refine XS.iloadN X7.here hx rfl (hb hby d3_24) rfl ?_
      show Steps p.tables e below (T7.setTop (mkF m 25 #[.val (.ref o0), .val (.int p0), .val (.int p1), .val (.int (f4 p0 ps)), .val (.int (f4 p1 (g4_pa p0 ps))), .unset] [(.int (f4 p0 ps)), (.ref sa)])) _
      refine X7.iaload hx (j := (f4 p0 ps)) (v := (.int (getI ss (f4 p0 ps)))) (by rw [e7]; exact Ar8.1) (State.isArrayOf_alike hZ.alike Ar8.2.1) Ar8.2.2 hin8 hat8 (g := (mkF m 25 #[.val (.ref o0), .val (.int p0), .val (.int p1), .val (.int (f4 p0 ps)), .val (.int (f4 p1 (g4_pa p0 ps))), .unset] [(.int (f4 p0 ps)), (.ref sa)])) rfl rfl (hb hby d3_25) _ ?_
      show Steps p.tables e below (T7.setTop (mkF m 26 #[.val (.ref o0), .val (.int p0), .val (.int p1), .val (.int (f4 p0 ps)), .val (.int (f4 p1 (g4_pa p0 ps))), .unset] [(.int (getI ss (f4 p0 ps)))])) _
      refine XS.aloadN X7.here hx rfl (hb hby d3_26) rfl rfl ?_
      show Steps p.tables e below (T7.setTop (mkF m 27 #[.val (.ref o0), .val (.int p0), .val (.int p1), .val (.int (f4 p0 ps)), .val (.int (f4 p1 (g4_pa p0 ps))), .unset] [(.ref o0), (.int (getI ss (f4 p0 ps)))])) _
      refine st9 _ ?_
      show Steps p.tables e below (T9.setTop (mkF m 30 #[.val (.ref o0), .val (.int p0), .val (.int p1), .val (.int (f4 p0 ps)), .val (.int (f4 p1 (g4_pa p0 ps))), .unset] [(.ref sa), (.int (getI ss (f4 p0 ps)))])) _
      refine XS.iload X9.here hx rfl (hb hby d3_30) rfl ?_
      show Steps p.tables e below (T9.setTop (mkF m 32 #[.val (.ref o0), .val (.int p0), .val (.int p1), .val (.int (f4 p0 ps)), .val (.int (f4 p1 (g4_pa p0 ps))), .unset] [(.int (f4 p1 (g4_pa p0 ps))), (.ref sa), (.int (getI ss (f4 p0 ps)))])) _
      refine X9.iaload hx (j := (f4 p1 (g4_pa p0 ps))) (v := (.int (getI ss (f4 p1 (g4_pa p0 ps))))) (by rw [e9]; exact Ar10.1) (State.isArrayOf_alike hZ.alike Ar10.2.1) Ar10.2.2 hin10 hat10 (g := (mkF m 32 #[.val (.ref o0), .val (.int p0), .val (.int p1), .val (.int (f4 p0 ps)), .val (.int (f4 p1 (g4_pa p0 ps))), .unset] [(.int (f4 p1 (g4_pa p0 ps))), (.ref sa), (.int (getI ss (f4 p0 ps)))])) rfl rfl (hb hby d3_32) _ ?_
      show Steps p.tables e below (T9.setTop (mkF m 33 #[.val (.ref o0), .val (.int p0), .val (.int p1), .val (.int (f4 p0 ps)), .val (.int (f4 p1 (g4_pa p0 ps))), .unset] [(.int (getI ss (f4 p1 (g4_pa p0 ps)))), (.int (getI ss (f4 p0 ps)))])) _
      exact k)
    have pre13 : ∀ t, Steps p.tables e below (T9.setTop (mkF m 46 #[.val (.ref o0), .val (.int p0), .val (.int p1), .val (.int (if (getI ss (f4 p0 ps)) < (getI ss (f4 p1 (g4_pa p0 ps))) then (f4 p1 (g4_pa p0 ps)) else (f4 p0 ps))), .val (.int (if (getI ss (f4 p0 ps)) < (getI ss (f4 p1 (g4_pa p0 ps))) then (f4 p0 ps) else (f4 p1 (g4_pa p0 ps)))), (if (getI ss (f4 p0 ps)) < (getI ss (f4 p1 (g4_pa p0 ps))) then .val (.int (f4 p0 ps)) else .unset)] [])) t → Steps p.tables e below (s₁.setTop (entryFrame m #[(.ref o0), (.int p0), (.int p1)] 6)) t := fun t k => pre11 t (by
      show Steps p.tables e below (T9.setTop (mkF m 33 #[.val (.ref o0), .val (.int p0), .val (.int p1), .val (.int (f4 p0 ps)), .val (.int (f4 p1 (g4_pa p0 ps))), .unset] [(.int (getI ss (f4 p1 (g4_pa p0 ps)))), (.int (getI ss (f4 p0 ps)))])) _
      by_cases hd33_12 : (getI ss (f4 p0 ps)) < (getI ss (f4 p1 (g4_pa p0 ps)))
      · try simp only [if_pos hd33_12] at k
        show Steps p.tables e below (T9.setTop (mkF m 33 #[.val (.ref o0), .val (.int p0), .val (.int p1), .val (.int (f4 p0 ps)), .val (.int (f4 p1 (g4_pa p0 ps))), .unset] [(.int (getI ss (f4 p1 (g4_pa p0 ps)))), (.int (getI ss (f4 p0 ps)))])) _
        refine XS.icmpNo X9.here hx rfl (hb hby d3_33) rfl (tlt hd33_12).2.1 ?_
        show Steps p.tables e below (T9.setTop (mkF m 36 #[.val (.ref o0), .val (.int p0), .val (.int p1), .val (.int (f4 p0 ps)), .val (.int (f4 p1 (g4_pa p0 ps))), .unset] [])) _
        refine XS.iloadN X9.here hx rfl (hb hby d3_36) rfl ?_
        show Steps p.tables e below (T9.setTop (mkF m 37 #[.val (.ref o0), .val (.int p0), .val (.int p1), .val (.int (f4 p0 ps)), .val (.int (f4 p1 (g4_pa p0 ps))), .unset] [(.int (f4 p0 ps))])) _
        refine XS.istore X9.here hx rfl (hb hby d3_37) rfl (l' := #[.val (.ref o0), .val (.int p0), .val (.int p1), .val (.int (f4 p0 ps)), .val (.int (f4 p1 (g4_pa p0 ps))), .val (.int (f4 p0 ps))]) rfl ?_
        show Steps p.tables e below (T9.setTop (mkF m 39 #[.val (.ref o0), .val (.int p0), .val (.int p1), .val (.int (f4 p0 ps)), .val (.int (f4 p1 (g4_pa p0 ps))), .val (.int (f4 p0 ps))] [])) _
        refine XS.iload X9.here hx rfl (hb hby d3_39) rfl ?_
        show Steps p.tables e below (T9.setTop (mkF m 41 #[.val (.ref o0), .val (.int p0), .val (.int p1), .val (.int (f4 p0 ps)), .val (.int (f4 p1 (g4_pa p0 ps))), .val (.int (f4 p0 ps))] [(.int (f4 p1 (g4_pa p0 ps)))])) _
        refine XS.istoreN X9.here hx rfl (hb hby d3_41) rfl (l' := #[.val (.ref o0), .val (.int p0), .val (.int p1), .val (.int (f4 p1 (g4_pa p0 ps))), .val (.int (f4 p1 (g4_pa p0 ps))), .val (.int (f4 p0 ps))]) rfl ?_
        show Steps p.tables e below (T9.setTop (mkF m 42 #[.val (.ref o0), .val (.int p0), .val (.int p1), .val (.int (f4 p1 (g4_pa p0 ps))), .val (.int (f4 p1 (g4_pa p0 ps))), .val (.int (f4 p0 ps))] [])) _
        refine XS.iload X9.here hx rfl (hb hby d3_42) rfl ?_
        show Steps p.tables e below (T9.setTop (mkF m 44 #[.val (.ref o0), .val (.int p0), .val (.int p1), .val (.int (f4 p1 (g4_pa p0 ps))), .val (.int (f4 p1 (g4_pa p0 ps))), .val (.int (f4 p0 ps))] [(.int (f4 p0 ps))])) _
        refine XS.istore X9.here hx rfl (hb hby d3_44) rfl (l' := #[.val (.ref o0), .val (.int p0), .val (.int p1), .val (.int (f4 p1 (g4_pa p0 ps))), .val (.int (f4 p0 ps)), .val (.int (f4 p0 ps))]) rfl ?_
        exact k
      · try simp only [if_neg hd33_12] at k
        show Steps p.tables e below (T9.setTop (mkF m 33 #[.val (.ref o0), .val (.int p0), .val (.int p1), .val (.int (f4 p0 ps)), .val (.int (f4 p1 (g4_pa p0 ps))), .unset] [(.int (getI ss (f4 p1 (g4_pa p0 ps)))), (.int (getI ss (f4 p0 ps)))])) _
        refine XS.icmpYes X9.here hx rfl (pc0 := 33) (pc' := 46) rfl (hb hby d3_33) rfl (flt hd33_12).2.1 (by decide) (by decide) ?_
        exact k
      )
    obtain ⟨T14, X14, e14, st14⟩ := getF X9 hx hZ hown (host := "") (Or.inl (hw _ (List.mem_of_getElem? (i := 10) rfl))) Via.refl e9 (Fq2_0) (g := (mkF m 47 #[.val (.ref o0), .val (.int p0), .val (.int p1), .val (.int (v3_1 ss p0 ps p1)), .val (.int (v3_2 ss p0 ps p1)), (if (getI ss (f4 p0 ps)) < (getI ss (f4 p1 (g4_pa p0 ps))) then .val (.int (f4 p0 ps)) else .unset)] [(.ref o0)])) rfl rfl (hb hby d3_47)
    obtain ⟨cl15, Ar15, hin15, hat15⟩ := Ia.get (Vq2_0) (j := (v3_2 ss p0 ps p1)) (by first | exact own_ite (own_fin hJ.2) (own_fin hJ.1) | exact own_ite (own_fin hJ.1) (own_fin hJ.2))
    obtain ⟨T16, h16, X16, e16, W16, st16⟩ := stI X14 hx hZ e14 Ar15 (j := (v3_2 ss p0 ps p1)) hin15 (g := (mkF m 53 #[.val (.ref o0), .val (.int p0), .val (.int p1), .val (.int (v3_1 ss p0 ps p1)), .val (.int (v3_2 ss p0 ps p1)), (if (getI ss (f4 p0 ps)) < (getI ss (f4 p1 (g4_pa p0 ps))) then .val (.int (f4 p0 ps)) else .unset)] [(.int (v3_1 ss p0 ps p1)), (.int (v3_2 ss p0 ps p1)), (.ref pa)])) rfl rfl (hb hby d3_53)
    have Vw16 := Ia.set (Vq2_0) (j := (v3_2 ss p0 ps p1)) (x := (v3_1 ss p0 ps p1)) (by first | exact own_ite (own_fin hJ.2) (own_fin hJ.1) | exact own_ite (own_fin hJ.1) (own_fin hJ.2)) rfl W16
    have N16 := Fr.snoc X16 N2 g_pa
    have Z16 : n0 ≤ h16.size := Nat.le_trans Z2 (Keep.of_wr W16).1
    have K16 : Keep h0 h16 [pa, sa] := (K2).wr W16 (Or.inl (List.mem_of_getElem? (i := 0) rfl))
    obtain ⟨T17, X17, e17, st17⟩ := getF X16 hx hZ hown (host := "") (Or.inl (hw _ (List.mem_of_getElem? (i := 12) rfl))) Via.refl e16 ((((F_size_o0.keep Kq1 (ninS ne_o0_pa nin0)).keep Kq2 (ninS ne_o0_pa nin0)).other W16 (Or.inl ne_o0_pa))) (g := (mkF m 55 #[.val (.ref o0), .val (.int p0), .val (.int p1), .val (.int (v3_1 ss p0 ps p1)), .val (.int (v3_2 ss p0 ps p1)), (if (getI ss (f4 p0 ps)) < (getI ss (f4 p1 (g4_pa p0 ps))) then .val (.int (f4 p0 ps)) else .unset)] [(.ref o0)])) rfl rfl (hb hby d3_55)
    obtain ⟨cl18, Ar18, hin18, hat18⟩ := Ia.get ((((V_sa.keep Kq1 (ninS (Ne.symm ne_pa_sa) nin0)).keep Kq2 (ninS (Ne.symm ne_pa_sa) nin0)).other W16 (Ne.symm ne_pa_sa))) (j := (v3_1 ss p0 ps p1)) (by first | exact own_ite (own_fin hJ.2) (own_fin hJ.1) | exact own_ite (own_fin hJ.1) (own_fin hJ.2))
    obtain ⟨T19, X19, e19, st19⟩ := getF X17 hx hZ hown (host := "") (Or.inl (hw _ (List.mem_of_getElem? (i := 12) rfl))) Via.refl e17 ((((F_size_o0.keep Kq1 (ninS ne_o0_pa nin0)).keep Kq2 (ninS ne_o0_pa nin0)).other W16 (Or.inl ne_o0_pa))) (g := (mkF m 62 #[.val (.ref o0), .val (.int p0), .val (.int p1), .val (.int (v3_1 ss p0 ps p1)), .val (.int (v3_2 ss p0 ps p1)), (if (getI ss (f4 p0 ps)) < (getI ss (f4 p1 (g4_pa p0 ps))) then .val (.int (f4 p0 ps)) else .unset)] [(.ref o0), (.int (getI ss (v3_1 ss p0 ps p1))), (.int (v3_1 ss p0 ps p1)), (.ref sa)])) rfl rfl (hb hby d3_62)
    obtain ⟨cl20, Ar20, hin20, hat20⟩ := Ia.get ((((V_sa.keep Kq1 (ninS (Ne.symm ne_pa_sa) nin0)).keep Kq2 (ninS (Ne.symm ne_pa_sa) nin0)).other W16 (Ne.symm ne_pa_sa))) (j := (v3_2 ss p0 ps p1)) (by first | exact own_ite (own_fin hJ.2) (own_fin hJ.1) | exact own_ite (own_fin hJ.1) (own_fin hJ.2))
    obtain ⟨cl21, Ar21, hin21, hat21⟩ := Ia.get ((((V_sa.keep Kq1 (ninS (Ne.symm ne_pa_sa) nin0)).keep Kq2 (ninS (Ne.symm ne_pa_sa) nin0)).other W16 (Ne.symm ne_pa_sa))) (j := (v3_1 ss p0 ps p1)) (by first | exact own_ite (own_fin hJ.2) (own_fin hJ.1) | exact own_ite (own_fin hJ.1) (own_fin hJ.2))
    obtain ⟨T22, h22, X22, e22, W22, st22⟩ := stI X19 hx hZ e19 Ar21 (j := (v3_1 ss p0 ps p1)) hin21 (g := (mkF m 69 #[.val (.ref o0), .val (.int p0), .val (.int p1), .val (.int (v3_1 ss p0 ps p1)), .val (.int (v3_2 ss p0 ps p1)), (if (getI ss (f4 p0 ps)) < (getI ss (f4 p1 (g4_pa p0 ps))) then .val (.int (f4 p0 ps)) else .unset)] [(.int ((getI ss (v3_1 ss p0 ps p1)) + (getI ss (v3_2 ss p0 ps p1)))), (.int (v3_1 ss p0 ps p1)), (.ref sa)])) rfl rfl (hb hby d3_69)
    have Vw22 := Ia.set ((((V_sa.keep Kq1 (ninS (Ne.symm ne_pa_sa) nin0)).keep Kq2 (ninS (Ne.symm ne_pa_sa) nin0)).other W16 (Ne.symm ne_pa_sa))) (j := (v3_1 ss p0 ps p1)) (x := ((getI ss (v3_1 ss p0 ps p1)) + (getI ss (v3_2 ss p0 ps p1)))) (by first | exact own_ite (own_fin hJ.2) (own_fin hJ.1) | exact own_ite (own_fin hJ.1) (own_fin hJ.2)) rfl W22
    have N22 := Fr.snoc X22 N16 g_sa
    have Z22 : n0 ≤ h22.size := Nat.le_trans Z16 (Keep.of_wr W22).1
    have K22 : Keep h0 h22 [pa, sa] := (K16).wr W22 (Or.inl (List.mem_of_getElem? (i := 1) rfl))
    obtain ⟨fs, hr, hrun, hended, hW, hsame⟩ := X22.leave (v := none) (fun _ => rfl) hlk
    refine ⟨_, _, pre13 _ ?_, hrun, hended, _, _, rfl, ?_, ⟨_, rfl⟩, hW, hsame.mono (by decide) (by decide)⟩
    · show Steps p.tables e below (T9.setTop (mkF m 46 #[.val (.ref o0), .val (.int p0), .val (.int p1), .val (.int (v3_1 ss p0 ps p1)), .val (.int (v3_2 ss p0 ps p1)), (if (getI ss (f4 p0 ps)) < (getI ss (f4 p1 (g4_pa p0 ps))) then .val (.int (f4 p0 ps)) else .unset)] [])) _
      refine XS.aloadN X9.here hx rfl (hb hby d3_46) rfl rfl ?_
      show Steps p.tables e below (T9.setTop (mkF m 47 #[.val (.ref o0), .val (.int p0), .val (.int p1), .val (.int (v3_1 ss p0 ps p1)), .val (.int (v3_2 ss p0 ps p1)), (if (getI ss (f4 p0 ps)) < (getI ss (f4 p1 (g4_pa p0 ps))) then .val (.int (f4 p0 ps)) else .unset)] [(.ref o0)])) _
      refine st14 _ ?_
      show Steps p.tables e below (T14.setTop (mkF m 50 #[.val (.ref o0), .val (.int p0), .val (.int p1), .val (.int (v3_1 ss p0 ps p1)), .val (.int (v3_2 ss p0 ps p1)), (if (getI ss (f4 p0 ps)) < (getI ss (f4 p1 (g4_pa p0 ps))) then .val (.int (f4 p0 ps)) else .unset)] [(.ref pa)])) _
      refine XS.iload X14.here hx rfl (hb hby d3_50) rfl ?_
      show Steps p.tables e below (T14.setTop (mkF m 52 #[.val (.ref o0), .val (.int p0), .val (.int p1), .val (.int (v3_1 ss p0 ps p1)), .val (.int (v3_2 ss p0 ps p1)), (if (getI ss (f4 p0 ps)) < (getI ss (f4 p1 (g4_pa p0 ps))) then .val (.int (f4 p0 ps)) else .unset)] [(.int (v3_2 ss p0 ps p1)), (.ref pa)])) _
      refine XS.iloadN X14.here hx rfl (hb hby d3_52) rfl ?_
      show Steps p.tables e below (T14.setTop (mkF m 53 #[.val (.ref o0), .val (.int p0), .val (.int p1), .val (.int (v3_1 ss p0 ps p1)), .val (.int (v3_2 ss p0 ps p1)), (if (getI ss (f4 p0 ps)) < (getI ss (f4 p1 (g4_pa p0 ps))) then .val (.int (f4 p0 ps)) else .unset)] [(.int (v3_1 ss p0 ps p1)), (.int (v3_2 ss p0 ps p1)), (.ref pa)])) _
      refine st16 _ ?_
      show Steps p.tables e below (T16.setTop (mkF m 54 #[.val (.ref o0), .val (.int p0), .val (.int p1), .val (.int (v3_1 ss p0 ps p1)), .val (.int (v3_2 ss p0 ps p1)), (if (getI ss (f4 p0 ps)) < (getI ss (f4 p1 (g4_pa p0 ps))) then .val (.int (f4 p0 ps)) else .unset)] [])) _
      refine XS.aloadN X16.here hx rfl (hb hby d3_54) rfl rfl ?_
      show Steps p.tables e below (T16.setTop (mkF m 55 #[.val (.ref o0), .val (.int p0), .val (.int p1), .val (.int (v3_1 ss p0 ps p1)), .val (.int (v3_2 ss p0 ps p1)), (if (getI ss (f4 p0 ps)) < (getI ss (f4 p1 (g4_pa p0 ps))) then .val (.int (f4 p0 ps)) else .unset)] [(.ref o0)])) _
      refine st17 _ ?_
      show Steps p.tables e below (T17.setTop (mkF m 58 #[.val (.ref o0), .val (.int p0), .val (.int p1), .val (.int (v3_1 ss p0 ps p1)), .val (.int (v3_2 ss p0 ps p1)), (if (getI ss (f4 p0 ps)) < (getI ss (f4 p1 (g4_pa p0 ps))) then .val (.int (f4 p0 ps)) else .unset)] [(.ref sa)])) _
      refine XS.iloadN X17.here hx rfl (hb hby d3_58) rfl ?_
      show Steps p.tables e below (T17.setTop (mkF m 59 #[.val (.ref o0), .val (.int p0), .val (.int p1), .val (.int (v3_1 ss p0 ps p1)), .val (.int (v3_2 ss p0 ps p1)), (if (getI ss (f4 p0 ps)) < (getI ss (f4 p1 (g4_pa p0 ps))) then .val (.int (f4 p0 ps)) else .unset)] [(.int (v3_1 ss p0 ps p1)), (.ref sa)])) _
      refine XT.dup2 X17.here hx rfl (hb hby d3_59) rfl rfl rfl ?_
      show Steps p.tables e below (T17.setTop (mkF m 60 #[.val (.ref o0), .val (.int p0), .val (.int p1), .val (.int (v3_1 ss p0 ps p1)), .val (.int (v3_2 ss p0 ps p1)), (if (getI ss (f4 p0 ps)) < (getI ss (f4 p1 (g4_pa p0 ps))) then .val (.int (f4 p0 ps)) else .unset)] [(.int (v3_1 ss p0 ps p1)), (.ref sa), (.int (v3_1 ss p0 ps p1)), (.ref sa)])) _
      refine X17.iaload hx (j := (v3_1 ss p0 ps p1)) (v := (.int (getI ss (v3_1 ss p0 ps p1)))) (by rw [e17]; exact Ar18.1) (State.isArrayOf_alike hZ.alike Ar18.2.1) Ar18.2.2 hin18 hat18 (g := (mkF m 60 #[.val (.ref o0), .val (.int p0), .val (.int p1), .val (.int (v3_1 ss p0 ps p1)), .val (.int (v3_2 ss p0 ps p1)), (if (getI ss (f4 p0 ps)) < (getI ss (f4 p1 (g4_pa p0 ps))) then .val (.int (f4 p0 ps)) else .unset)] [(.int (v3_1 ss p0 ps p1)), (.ref sa), (.int (v3_1 ss p0 ps p1)), (.ref sa)])) rfl rfl (hb hby d3_60) _ ?_
      show Steps p.tables e below (T17.setTop (mkF m 61 #[.val (.ref o0), .val (.int p0), .val (.int p1), .val (.int (v3_1 ss p0 ps p1)), .val (.int (v3_2 ss p0 ps p1)), (if (getI ss (f4 p0 ps)) < (getI ss (f4 p1 (g4_pa p0 ps))) then .val (.int (f4 p0 ps)) else .unset)] [(.int (getI ss (v3_1 ss p0 ps p1))), (.int (v3_1 ss p0 ps p1)), (.ref sa)])) _
      refine XS.aloadN X17.here hx rfl (hb hby d3_61) rfl rfl ?_
      show Steps p.tables e below (T17.setTop (mkF m 62 #[.val (.ref o0), .val (.int p0), .val (.int p1), .val (.int (v3_1 ss p0 ps p1)), .val (.int (v3_2 ss p0 ps p1)), (if (getI ss (f4 p0 ps)) < (getI ss (f4 p1 (g4_pa p0 ps))) then .val (.int (f4 p0 ps)) else .unset)] [(.ref o0), (.int (getI ss (v3_1 ss p0 ps p1))), (.int (v3_1 ss p0 ps p1)), (.ref sa)])) _
      refine st19 _ ?_
      show Steps p.tables e below (T19.setTop (mkF m 65 #[.val (.ref o0), .val (.int p0), .val (.int p1), .val (.int (v3_1 ss p0 ps p1)), .val (.int (v3_2 ss p0 ps p1)), (if (getI ss (f4 p0 ps)) < (getI ss (f4 p1 (g4_pa p0 ps))) then .val (.int (f4 p0 ps)) else .unset)] [(.ref sa), (.int (getI ss (v3_1 ss p0 ps p1))), (.int (v3_1 ss p0 ps p1)), (.ref sa)])) _
      refine XS.iload X19.here hx rfl (hb hby d3_65) rfl ?_
      show Steps p.tables e below (T19.setTop (mkF m 67 #[.val (.ref o0), .val (.int p0), .val (.int p1), .val (.int (v3_1 ss p0 ps p1)), .val (.int (v3_2 ss p0 ps p1)), (if (getI ss (f4 p0 ps)) < (getI ss (f4 p1 (g4_pa p0 ps))) then .val (.int (f4 p0 ps)) else .unset)] [(.int (v3_2 ss p0 ps p1)), (.ref sa), (.int (getI ss (v3_1 ss p0 ps p1))), (.int (v3_1 ss p0 ps p1)), (.ref sa)])) _
      refine X19.iaload hx (j := (v3_2 ss p0 ps p1)) (v := (.int (getI ss (v3_2 ss p0 ps p1)))) (by rw [e19]; exact Ar20.1) (State.isArrayOf_alike hZ.alike Ar20.2.1) Ar20.2.2 hin20 hat20 (g := (mkF m 67 #[.val (.ref o0), .val (.int p0), .val (.int p1), .val (.int (v3_1 ss p0 ps p1)), .val (.int (v3_2 ss p0 ps p1)), (if (getI ss (f4 p0 ps)) < (getI ss (f4 p1 (g4_pa p0 ps))) then .val (.int (f4 p0 ps)) else .unset)] [(.int (v3_2 ss p0 ps p1)), (.ref sa), (.int (getI ss (v3_1 ss p0 ps p1))), (.int (v3_1 ss p0 ps p1)), (.ref sa)])) rfl rfl (hb hby d3_67) _ ?_
      show Steps p.tables e below (T19.setTop (mkF m 68 #[.val (.ref o0), .val (.int p0), .val (.int p1), .val (.int (v3_1 ss p0 ps p1)), .val (.int (v3_2 ss p0 ps p1)), (if (getI ss (f4 p0 ps)) < (getI ss (f4 p1 (g4_pa p0 ps))) then .val (.int (f4 p0 ps)) else .unset)] [(.int (getI ss (v3_2 ss p0 ps p1))), (.int (getI ss (v3_1 ss p0 ps p1))), (.int (v3_1 ss p0 ps p1)), (.ref sa)])) _
      refine XS.iadd X19.here hx rfl (hb hby d3_68) rfl ?_
      show Steps p.tables e below (T19.setTop (mkF m 69 #[.val (.ref o0), .val (.int p0), .val (.int p1), .val (.int (v3_1 ss p0 ps p1)), .val (.int (v3_2 ss p0 ps p1)), (if (getI ss (f4 p0 ps)) < (getI ss (f4 p1 (g4_pa p0 ps))) then .val (.int (f4 p0 ps)) else .unset)] [(.int ((getI ss (v3_1 ss p0 ps p1)) + (getI ss (v3_2 ss p0 ps p1)))), (.int (v3_1 ss p0 ps p1)), (.ref sa)])) _
      refine st22 _ ?_
      show Steps p.tables e below (T22.setTop (mkF m 70 #[.val (.ref o0), .val (.int p0), .val (.int p1), .val (.int (v3_1 ss p0 ps p1)), .val (.int (v3_2 ss p0 ps p1)), (if (getI ss (f4 p0 ps)) < (getI ss (f4 p1 (g4_pa p0 ps))) then .val (.int (f4 p0 ps)) else .unset)] [])) _
      exact X22.returnOut hx Bd.returns (hb hby d3_70) hr
    · show Q3 Z o0 p0 p1 pa sa ka ps kb ss h0 n0 _ T22.heap _
      rw [e22]
      have hg23 : (g3_pa p0 p1 ps ss) = (setI (g4_pa p1 (g4_pa p0 ps)) (v3_2 ss p0 ps p1) (v3_1 ss p0 ps p1)) := by simp only [g3_pa, if_neg hc16_4]
      have hg24 : (g3_sa p0 p1 ps ss) = (setI ss (v3_1 ss p0 ps p1) ((getI ss (v3_1 ss p0 ps p1)) + (getI ss (v3_2 ss p0 ps p1)))) := by simp only [g3_sa, if_neg hc16_4]
      exact ⟨rfl, N22, K22, ((Fq2_0.other W16 (Or.inl ne_o0_pa)).other W22 (Or.inl ne_o0_sa)), ((((F_size_o0.keep Kq1 (ninS ne_o0_pa nin0)).keep Kq2 (ninS ne_o0_pa nin0)).other W16 (Or.inl ne_o0_pa)).other W22 (Or.inl ne_o0_sa)), (by rw [hg23]; exact (Vw16.other W22 ne_pa_sa)), (by rw [hg24]; exact Vw22)⟩
theorem d5_0 : decode method_3_code 0 = .ok (.aload_n 0, 1) := by decide +kernel
theorem d5_1 : decode method_3_code 1 = .ok (.iload_n 2, 1) := by decide +kernel
theorem d5_2 : decode method_3_code 2 = .ok (.iaload, 1) := by decide +kernel
theorem d5_3 : decode method_3_code 3 = .ok (.istore 4, 2) := by decide +kernel
theorem d5_5 : decode method_3_code 5 = .ok (.aload_n 0, 1) := by decide +kernel
theorem d5_6 : decode method_3_code 6 = .ok (.iload_n 3, 1) := by decide +kernel
theorem d5_7 : decode method_3_code 7 = .ok (.iaload, 1) := by decide +kernel
theorem d5_8 : decode method_3_code 8 = .ok (.istore 5, 2) := by decide +kernel
theorem d5_10 : decode method_3_code 10 = .ok (.iload 4, 2) := by decide +kernel
theorem d5_12 : decode method_3_code 12 = .ok (.iload 5, 2) := by decide +kernel
theorem d5_14 : decode method_3_code 14 = .ok (.if_icmp .ne 4, 3) := by decide +kernel
theorem d5_17 : decode method_3_code 17 = .ok (.return_, 1) := by decide +kernel
theorem d5_18 : decode method_3_code 18 = .ok (.aload_n 1, 1) := by decide +kernel
theorem d5_19 : decode method_3_code 19 = .ok (.iload 4, 2) := by decide +kernel
theorem d5_21 : decode method_3_code 21 = .ok (.iaload, 1) := by decide +kernel
theorem d5_22 : decode method_3_code 22 = .ok (.aload_n 1, 1) := by decide +kernel
theorem d5_23 : decode method_3_code 23 = .ok (.iload 5, 2) := by decide +kernel
theorem d5_25 : decode method_3_code 25 = .ok (.iaload, 1) := by decide +kernel
theorem d5_26 : decode method_3_code 26 = .ok (.if_icmp .ge 15, 3) := by decide +kernel
theorem d5_29 : decode method_3_code 29 = .ok (.iload 4, 2) := by decide +kernel
theorem d5_31 : decode method_3_code 31 = .ok (.istore 6, 2) := by decide +kernel
theorem d5_33 : decode method_3_code 33 = .ok (.iload 5, 2) := by decide +kernel
theorem d5_35 : decode method_3_code 35 = .ok (.istore 4, 2) := by decide +kernel
theorem d5_37 : decode method_3_code 37 = .ok (.iload 6, 2) := by decide +kernel
theorem d5_39 : decode method_3_code 39 = .ok (.istore 5, 2) := by decide +kernel
theorem d5_41 : decode method_3_code 41 = .ok (.aload_n 0, 1) := by decide +kernel
theorem d5_42 : decode method_3_code 42 = .ok (.iconst 0, 1) := by decide +kernel
theorem d5_43 : decode method_3_code 43 = .ok (.iaload, 1) := by decide +kernel
theorem d5_44 : decode method_3_code 44 = .ok (.iload 5, 2) := by decide +kernel
theorem d5_46 : decode method_3_code 46 = .ok (.if_icmp .ne 8, 3) := by decide +kernel
theorem d5_49 : decode method_3_code 49 = .ok (.aload_n 0, 1) := by decide +kernel
theorem d5_50 : decode method_3_code 50 = .ok (.iconst 0, 1) := by decide +kernel
theorem d5_51 : decode method_3_code 51 = .ok (.iload 4, 2) := by decide +kernel
theorem d5_53 : decode method_3_code 53 = .ok (.iastore, 1) := by decide +kernel
theorem d5_54 : decode method_3_code 54 = .ok (.aload_n 0, 1) := by decide +kernel
theorem d5_55 : decode method_3_code 55 = .ok (.iconst 1, 1) := by decide +kernel
theorem d5_56 : decode method_3_code 56 = .ok (.iaload, 1) := by decide +kernel
theorem d5_57 : decode method_3_code 57 = .ok (.iload 5, 2) := by decide +kernel
theorem d5_59 : decode method_3_code 59 = .ok (.if_icmp .ne 8, 3) := by decide +kernel
theorem d5_62 : decode method_3_code 62 = .ok (.aload_n 0, 1) := by decide +kernel
theorem d5_63 : decode method_3_code 63 = .ok (.iconst 1, 1) := by decide +kernel
theorem d5_64 : decode method_3_code 64 = .ok (.iload 4, 2) := by decide +kernel
theorem d5_66 : decode method_3_code 66 = .ok (.iastore, 1) := by decide +kernel
theorem d5_67 : decode method_3_code 67 = .ok (.aload_n 0, 1) := by decide +kernel
theorem d5_68 : decode method_3_code 68 = .ok (.iconst 2, 1) := by decide +kernel
theorem d5_69 : decode method_3_code 69 = .ok (.iaload, 1) := by decide +kernel
theorem d5_70 : decode method_3_code 70 = .ok (.iload 5, 2) := by decide +kernel
theorem d5_72 : decode method_3_code 72 = .ok (.if_icmp .ne 8, 3) := by decide +kernel
theorem d5_75 : decode method_3_code 75 = .ok (.aload_n 0, 1) := by decide +kernel
theorem d5_76 : decode method_3_code 76 = .ok (.iconst 2, 1) := by decide +kernel
theorem d5_77 : decode method_3_code 77 = .ok (.iload 4, 2) := by decide +kernel
theorem d5_79 : decode method_3_code 79 = .ok (.iastore, 1) := by decide +kernel
theorem d5_80 : decode method_3_code 80 = .ok (.aload_n 0, 1) := by decide +kernel
theorem d5_81 : decode method_3_code 81 = .ok (.iconst 3, 1) := by decide +kernel
theorem d5_82 : decode method_3_code 82 = .ok (.iaload, 1) := by decide +kernel
theorem d5_83 : decode method_3_code 83 = .ok (.iload 5, 2) := by decide +kernel
theorem d5_85 : decode method_3_code 85 = .ok (.if_icmp .ne 8, 3) := by decide +kernel
theorem d5_88 : decode method_3_code 88 = .ok (.aload_n 0, 1) := by decide +kernel
theorem d5_89 : decode method_3_code 89 = .ok (.iconst 3, 1) := by decide +kernel
theorem d5_90 : decode method_3_code 90 = .ok (.iload 4, 2) := by decide +kernel
theorem d5_92 : decode method_3_code 92 = .ok (.iastore, 1) := by decide +kernel
theorem d5_93 : decode method_3_code 93 = .ok (.aload_n 1, 1) := by decide +kernel
theorem d5_94 : decode method_3_code 94 = .ok (.iload 4, 2) := by decide +kernel
theorem d5_96 : decode method_3_code 96 = .ok (.dup2, 1) := by decide +kernel
theorem d5_97 : decode method_3_code 97 = .ok (.iaload, 1) := by decide +kernel
theorem d5_98 : decode method_3_code 98 = .ok (.aload_n 1, 1) := by decide +kernel
theorem d5_99 : decode method_3_code 99 = .ok (.iload 5, 2) := by decide +kernel
theorem d5_101 : decode method_3_code 101 = .ok (.iaload, 1) := by decide +kernel
theorem d5_102 : decode method_3_code 102 = .ok (.iadd, 1) := by decide +kernel
theorem d5_103 : decode method_3_code 103 = .ok (.iastore, 1) := by decide +kernel
theorem d5_104 : decode method_3_code 104 = .ok (.return_, 1) := by decide +kernel
theorem pn_5 : plainName "com/example/shingle/shingle/JoinedRootPinLaw" = true := by first | (simp [plainName, overriddenIn]; done) | decide +kernel
theorem ef_5 (m : MethodId) (x0 : Addr) (x1 : Addr) (x2 : Int32) (x3 : Int32) : entryFrame m #[(.ref x0), (.ref x1), (.int x2), (.int x3)] 7 = mkF m 0 #[.val (.ref x0), .val (.ref x1), .val (.int x2), .val (.int x3), .unset, .unset, .unset] [] := by first | (simp [entryFrame, mkF, argsToLocals, Value.category]; done) | rfl
def v5_1 (zs : List Int32) (ls : List Int32) (p0 : Int32) (p1 : Int32) : Int32 := (if (getI zs (getI ls p0)) < (getI zs (getI ls p1)) then (getI ls p1) else (getI ls p0))
def v5_2 (zs : List Int32) (ls : List Int32) (p0 : Int32) (p1 : Int32) : Int32 := (if (getI zs (getI ls p0)) < (getI zs (getI ls p1)) then (getI ls p0) else (getI ls p1))
def v5_3 (ls : List Int32) (zs : List Int32) (p0 : Int32) (p1 : Int32) : Int32 := (getI (setI (setI ls (0 : Int32) (v5_1 zs ls p0 p1)) (1 : Int32) (v5_1 zs ls p0 p1)) (2 : Int32))
def v5_4 (ls : List Int32) (zs : List Int32) (p0 : Int32) (p1 : Int32) : Int32 := (getI (setI (setI (setI ls (0 : Int32) (v5_1 zs ls p0 p1)) (1 : Int32) (v5_1 zs ls p0 p1)) (2 : Int32) (v5_1 zs ls p0 p1)) (3 : Int32))
def v5_5 (ls : List Int32) (zs : List Int32) (p0 : Int32) (p1 : Int32) : Int32 := (getI (setI (setI ls (0 : Int32) (v5_1 zs ls p0 p1)) (1 : Int32) (v5_1 zs ls p0 p1)) (3 : Int32))
def v5_6 (ls : List Int32) (zs : List Int32) (p0 : Int32) (p1 : Int32) : Int32 := (getI (setI (setI ls (0 : Int32) (v5_1 zs ls p0 p1)) (2 : Int32) (v5_1 zs ls p0 p1)) (3 : Int32))
def v5_7 (ls : List Int32) (zs : List Int32) (p0 : Int32) (p1 : Int32) : Int32 := (getI (setI (setI ls (1 : Int32) (v5_1 zs ls p0 p1)) (2 : Int32) (v5_1 zs ls p0 p1)) (3 : Int32))
def g5_o0 (p0 : Int32) (p1 : Int32) (ls : List Int32) (zs : List Int32) : List Int32 := (if (getI ls p0) = (getI ls p1) then ls else (if (getI ls (0 : Int32)) = (v5_2 zs ls p0 p1) then (if (getI (setI ls (0 : Int32) (v5_1 zs ls p0 p1)) (1 : Int32)) = (v5_2 zs ls p0 p1) then (if (v5_3 ls zs p0 p1) = (v5_2 zs ls p0 p1) then (if (v5_4 ls zs p0 p1) = (v5_2 zs ls p0 p1) then (setI (setI (setI (setI ls (0 : Int32) (v5_1 zs ls p0 p1)) (1 : Int32) (v5_1 zs ls p0 p1)) (2 : Int32) (v5_1 zs ls p0 p1)) (3 : Int32) (v5_1 zs ls p0 p1)) else (setI (setI (setI ls (0 : Int32) (v5_1 zs ls p0 p1)) (1 : Int32) (v5_1 zs ls p0 p1)) (2 : Int32) (v5_1 zs ls p0 p1))) else (if (v5_5 ls zs p0 p1) = (v5_2 zs ls p0 p1) then (setI (setI (setI ls (0 : Int32) (v5_1 zs ls p0 p1)) (1 : Int32) (v5_1 zs ls p0 p1)) (3 : Int32) (v5_1 zs ls p0 p1)) else (setI (setI ls (0 : Int32) (v5_1 zs ls p0 p1)) (1 : Int32) (v5_1 zs ls p0 p1)))) else (if (getI (setI ls (0 : Int32) (v5_1 zs ls p0 p1)) (2 : Int32)) = (v5_2 zs ls p0 p1) then (if (v5_6 ls zs p0 p1) = (v5_2 zs ls p0 p1) then (setI (setI (setI ls (0 : Int32) (v5_1 zs ls p0 p1)) (2 : Int32) (v5_1 zs ls p0 p1)) (3 : Int32) (v5_1 zs ls p0 p1)) else (setI (setI ls (0 : Int32) (v5_1 zs ls p0 p1)) (2 : Int32) (v5_1 zs ls p0 p1))) else (if (getI (setI ls (0 : Int32) (v5_1 zs ls p0 p1)) (3 : Int32)) = (v5_2 zs ls p0 p1) then (setI (setI ls (0 : Int32) (v5_1 zs ls p0 p1)) (3 : Int32) (v5_1 zs ls p0 p1)) else (setI ls (0 : Int32) (v5_1 zs ls p0 p1))))) else (if (getI ls (1 : Int32)) = (v5_2 zs ls p0 p1) then (if (getI (setI ls (1 : Int32) (v5_1 zs ls p0 p1)) (2 : Int32)) = (v5_2 zs ls p0 p1) then (if (v5_7 ls zs p0 p1) = (v5_2 zs ls p0 p1) then (setI (setI (setI ls (1 : Int32) (v5_1 zs ls p0 p1)) (2 : Int32) (v5_1 zs ls p0 p1)) (3 : Int32) (v5_1 zs ls p0 p1)) else (setI (setI ls (1 : Int32) (v5_1 zs ls p0 p1)) (2 : Int32) (v5_1 zs ls p0 p1))) else (if (getI (setI ls (1 : Int32) (v5_1 zs ls p0 p1)) (3 : Int32)) = (v5_2 zs ls p0 p1) then (setI (setI ls (1 : Int32) (v5_1 zs ls p0 p1)) (3 : Int32) (v5_1 zs ls p0 p1)) else (setI ls (1 : Int32) (v5_1 zs ls p0 p1)))) else (if (getI ls (2 : Int32)) = (v5_2 zs ls p0 p1) then (if (getI (setI ls (2 : Int32) (v5_1 zs ls p0 p1)) (3 : Int32)) = (v5_2 zs ls p0 p1) then (setI (setI ls (2 : Int32) (v5_1 zs ls p0 p1)) (3 : Int32) (v5_1 zs ls p0 p1)) else (setI ls (2 : Int32) (v5_1 zs ls p0 p1))) else (if (getI ls (3 : Int32)) = (v5_2 zs ls p0 p1) then (setI ls (3 : Int32) (v5_1 zs ls p0 p1)) else ls)))))
def g5_o1 (p0 : Int32) (p1 : Int32) (ls : List Int32) (zs : List Int32) : List Int32 := (if (getI ls p0) = (getI ls p1) then zs else (if (getI ls (0 : Int32)) = (v5_2 zs ls p0 p1) then (if (getI (setI ls (0 : Int32) (v5_1 zs ls p0 p1)) (1 : Int32)) = (v5_2 zs ls p0 p1) then (if (v5_3 ls zs p0 p1) = (v5_2 zs ls p0 p1) then (if (v5_4 ls zs p0 p1) = (v5_2 zs ls p0 p1) then (setI zs (v5_1 zs ls p0 p1) ((getI zs (v5_1 zs ls p0 p1)) + (getI zs (v5_2 zs ls p0 p1)))) else (setI zs (v5_1 zs ls p0 p1) ((getI zs (v5_1 zs ls p0 p1)) + (getI zs (v5_2 zs ls p0 p1))))) else (if (v5_5 ls zs p0 p1) = (v5_2 zs ls p0 p1) then (setI zs (v5_1 zs ls p0 p1) ((getI zs (v5_1 zs ls p0 p1)) + (getI zs (v5_2 zs ls p0 p1)))) else (setI zs (v5_1 zs ls p0 p1) ((getI zs (v5_1 zs ls p0 p1)) + (getI zs (v5_2 zs ls p0 p1)))))) else (if (getI (setI ls (0 : Int32) (v5_1 zs ls p0 p1)) (2 : Int32)) = (v5_2 zs ls p0 p1) then (if (v5_6 ls zs p0 p1) = (v5_2 zs ls p0 p1) then (setI zs (v5_1 zs ls p0 p1) ((getI zs (v5_1 zs ls p0 p1)) + (getI zs (v5_2 zs ls p0 p1)))) else (setI zs (v5_1 zs ls p0 p1) ((getI zs (v5_1 zs ls p0 p1)) + (getI zs (v5_2 zs ls p0 p1))))) else (if (getI (setI ls (0 : Int32) (v5_1 zs ls p0 p1)) (3 : Int32)) = (v5_2 zs ls p0 p1) then (setI zs (v5_1 zs ls p0 p1) ((getI zs (v5_1 zs ls p0 p1)) + (getI zs (v5_2 zs ls p0 p1)))) else (setI zs (v5_1 zs ls p0 p1) ((getI zs (v5_1 zs ls p0 p1)) + (getI zs (v5_2 zs ls p0 p1))))))) else (if (getI ls (1 : Int32)) = (v5_2 zs ls p0 p1) then (if (getI (setI ls (1 : Int32) (v5_1 zs ls p0 p1)) (2 : Int32)) = (v5_2 zs ls p0 p1) then (if (v5_7 ls zs p0 p1) = (v5_2 zs ls p0 p1) then (setI zs (v5_1 zs ls p0 p1) ((getI zs (v5_1 zs ls p0 p1)) + (getI zs (v5_2 zs ls p0 p1)))) else (setI zs (v5_1 zs ls p0 p1) ((getI zs (v5_1 zs ls p0 p1)) + (getI zs (v5_2 zs ls p0 p1))))) else (if (getI (setI ls (1 : Int32) (v5_1 zs ls p0 p1)) (3 : Int32)) = (v5_2 zs ls p0 p1) then (setI zs (v5_1 zs ls p0 p1) ((getI zs (v5_1 zs ls p0 p1)) + (getI zs (v5_2 zs ls p0 p1)))) else (setI zs (v5_1 zs ls p0 p1) ((getI zs (v5_1 zs ls p0 p1)) + (getI zs (v5_2 zs ls p0 p1)))))) else (if (getI ls (2 : Int32)) = (v5_2 zs ls p0 p1) then (if (getI (setI ls (2 : Int32) (v5_1 zs ls p0 p1)) (3 : Int32)) = (v5_2 zs ls p0 p1) then (setI zs (v5_1 zs ls p0 p1) ((getI zs (v5_1 zs ls p0 p1)) + (getI zs (v5_2 zs ls p0 p1)))) else (setI zs (v5_1 zs ls p0 p1) ((getI zs (v5_1 zs ls p0 p1)) + (getI zs (v5_2 zs ls p0 p1))))) else (if (getI ls (3 : Int32)) = (v5_2 zs ls p0 p1) then (setI zs (v5_1 zs ls p0 p1) ((getI zs (v5_1 zs ls p0 p1)) + (getI zs (v5_2 zs ls p0 p1)))) else (setI zs (v5_1 zs ls p0 p1) ((getI zs (v5_1 zs ls p0 p1)) + (getI zs (v5_2 zs ls p0 p1)))))))))
def Q5 (Z : State) (o0 : Addr) (o1 : Addr) (p0 : Int32) (p1 : Int32) (ka : ClassId) (ls : List Int32) (kb : ClassId) (zs : List Int32) (h0 : Heap) (n0 : Nat) (v : Option Value) (h : Heap) (L : List Loc) : Prop := v = none ∧ Fr n0 L ∧ Keep h0 h [o0, o1] ∧ Ia Z h o0 ka .int (4 : Int32) (g5_o0 p0 p1 ls zs) ∧ Ia Z h o1 kb .int (4 : Int32) (g5_o1 p0 p1 ls zs)
set_option maxRecDepth 65536 in
set_option maxHeartbeats 40000000 in
theorem rm5 (l : Launch) (Z : State) (a0 : Array Value) (hw : ∀ d ∈ tables_1, d.before a0 Z = true) (ws : List Jvm.Cond) (o0 : Addr) (o1 : Addr) (p0 : Int32) (p1 : Int32) (ka : ClassId) (ls : List Int32) (kb : ClassId) (zs : List Int32) (h0 : Heap) (n0 : Nat) (Z0 : n0 ≤ h0.size) (V_o0 : Ia Z h0 o0 ka .int (4 : Int32) ls) (g_o0 : n0 ≤ o0) (V_o1 : Ia Z h0 o1 kb .int (4 : Int32) zs) (g_o1 : n0 ≤ o1) (ne_o0_o1 : o0 ≠ o1) (hB : Bok ls p0 p1) :
    MetFree l (⟨"com/example/shingle/shingle/JoinedRootPinLaw", "refJoin", "([I[III)V"⟩ : MethodName) (head1 (Jvm.Cond.code (⟨"com/example/shingle/shingle/JoinedRootPinLaw", "refJoin", "([I[III)V"⟩ : MethodName) method_3_code 7 none :: ws) ({ frames := 0, cells := 0, slots := 0, locals := 0 } : Room)) (fun a U => a = #[(.ref o0), (.ref o1), (.int p0), (.int p1)] ∧ Z.Warmed39 U.vm ∧ U.heap = h0) (fun _ _ _ _ _ => True) (fun _ U o U' => ∃ v L, o = .returned v ∧ Q5 Z o0 o1 p0 p1 ka ls kb zs h0 n0 v U'.heap L ∧ FrameEnd U o U' L ({ frames := 0, cells := 0, slots := 0, locals := 0 } : Room).cells ({ frames := 0, cells := 0, slots := 0, locals := 0 } : Room).slots) := by
  refine MetFree.of_bodySF (plainFor_of_name pn_5) hisR ?_
  intro p e s m args below meth c s₁ Bd hml0 hP hK
  obtain ⟨rfl, hZ, hh⟩ := hP
  have hx := Bd.exec
  have hby := Bd.bytes
  have hml : c.maxLocals = 7 := hml0
  have hown : s.vm.findClass "com/example/shingle/shingle/JoinedRootPinLaw" = some m.cls := findClass_of_methodNamed Bd.named
  have hnm := (name_of_methodNamed Bd.named Bd.method).1
  have X0 : Stand p l e ({ frames := 0, cells := 0, slots := 0, locals := 0 } : Room) s m #[(.ref o0), (.ref o1), (.int p0), (.int p1)] below meth c s₁ [] 0 0 := Stand.of_body Bd
  have e0 : s₁.heap = h0 := by rw [← hh, Bd.state]; rfl
  have N0 := Fr.nil n0
  have hlk : meth.locks = false := by first | exact BodyLoose.notSynchronized Bd | exact Body.notSynchronized Bd
  have pre0 : ∀ t, Steps p.tables e below (s₁.setTop (mkF m 0 #[.val (.ref o0), .val (.ref o1), .val (.int p0), .val (.int p1), .unset, .unset, .unset] [])) t → Steps p.tables e below (s₁.setTop (entryFrame m #[(.ref o0), (.ref o1), (.int p0), (.int p1)] 7)) t := fun t k => castTop (ef_5 m o0 o1 p0 p1) k
  obtain ⟨cl1, Ar1, hin1, hat1⟩ := Ia.get (V_o0) (j := p0) hB.1
  obtain ⟨cl2, Ar2, hin2, hat2⟩ := Ia.get (V_o0) (j := p1) hB.2.1
  have pre3 : ∀ t, Steps p.tables e below (s₁.setTop (mkF m 14 #[.val (.ref o0), .val (.ref o1), .val (.int p0), .val (.int p1), .val (.int (getI ls p0)), .val (.int (getI ls p1)), .unset] [(.int (getI ls p1)), (.int (getI ls p0))])) t → Steps p.tables e below (s₁.setTop (entryFrame m #[(.ref o0), (.ref o1), (.int p0), (.int p1)] 7)) t := fun t k => pre0 t (by
    show Steps p.tables e below (s₁.setTop (mkF m 0 #[.val (.ref o0), .val (.ref o1), .val (.int p0), .val (.int p1), .unset, .unset, .unset] [])) _
    refine XS.aloadN X0.here hx rfl (hb hby d5_0) rfl rfl ?_
    show Steps p.tables e below (s₁.setTop (mkF m 1 #[.val (.ref o0), .val (.ref o1), .val (.int p0), .val (.int p1), .unset, .unset, .unset] [(.ref o0)])) _
    refine XS.iloadN X0.here hx rfl (hb hby d5_1) rfl ?_
    show Steps p.tables e below (s₁.setTop (mkF m 2 #[.val (.ref o0), .val (.ref o1), .val (.int p0), .val (.int p1), .unset, .unset, .unset] [(.int p0), (.ref o0)])) _
    refine X0.iaload hx (j := p0) (v := (.int (getI ls p0))) (by rw [e0]; exact Ar1.1) (State.isArrayOf_alike hZ.alike Ar1.2.1) Ar1.2.2 hin1 hat1 (g := (mkF m 2 #[.val (.ref o0), .val (.ref o1), .val (.int p0), .val (.int p1), .unset, .unset, .unset] [(.int p0), (.ref o0)])) rfl rfl (hb hby d5_2) _ ?_
    show Steps p.tables e below (s₁.setTop (mkF m 3 #[.val (.ref o0), .val (.ref o1), .val (.int p0), .val (.int p1), .unset, .unset, .unset] [(.int (getI ls p0))])) _
    refine XS.istore X0.here hx rfl (hb hby d5_3) rfl (l' := #[.val (.ref o0), .val (.ref o1), .val (.int p0), .val (.int p1), .val (.int (getI ls p0)), .unset, .unset]) rfl ?_
    show Steps p.tables e below (s₁.setTop (mkF m 5 #[.val (.ref o0), .val (.ref o1), .val (.int p0), .val (.int p1), .val (.int (getI ls p0)), .unset, .unset] [])) _
    refine XS.aloadN X0.here hx rfl (hb hby d5_5) rfl rfl ?_
    show Steps p.tables e below (s₁.setTop (mkF m 6 #[.val (.ref o0), .val (.ref o1), .val (.int p0), .val (.int p1), .val (.int (getI ls p0)), .unset, .unset] [(.ref o0)])) _
    refine XS.iloadN X0.here hx rfl (hb hby d5_6) rfl ?_
    show Steps p.tables e below (s₁.setTop (mkF m 7 #[.val (.ref o0), .val (.ref o1), .val (.int p0), .val (.int p1), .val (.int (getI ls p0)), .unset, .unset] [(.int p1), (.ref o0)])) _
    refine X0.iaload hx (j := p1) (v := (.int (getI ls p1))) (by rw [e0]; exact Ar2.1) (State.isArrayOf_alike hZ.alike Ar2.2.1) Ar2.2.2 hin2 hat2 (g := (mkF m 7 #[.val (.ref o0), .val (.ref o1), .val (.int p0), .val (.int p1), .val (.int (getI ls p0)), .unset, .unset] [(.int p1), (.ref o0)])) rfl rfl (hb hby d5_7) _ ?_
    show Steps p.tables e below (s₁.setTop (mkF m 8 #[.val (.ref o0), .val (.ref o1), .val (.int p0), .val (.int p1), .val (.int (getI ls p0)), .unset, .unset] [(.int (getI ls p1))])) _
    refine XS.istore X0.here hx rfl (hb hby d5_8) rfl (l' := #[.val (.ref o0), .val (.ref o1), .val (.int p0), .val (.int p1), .val (.int (getI ls p0)), .val (.int (getI ls p1)), .unset]) rfl ?_
    show Steps p.tables e below (s₁.setTop (mkF m 10 #[.val (.ref o0), .val (.ref o1), .val (.int p0), .val (.int p1), .val (.int (getI ls p0)), .val (.int (getI ls p1)), .unset] [])) _
    refine XS.iload X0.here hx rfl (hb hby d5_10) rfl ?_
    show Steps p.tables e below (s₁.setTop (mkF m 12 #[.val (.ref o0), .val (.ref o1), .val (.int p0), .val (.int p1), .val (.int (getI ls p0)), .val (.int (getI ls p1)), .unset] [(.int (getI ls p0))])) _
    refine XS.iload X0.here hx rfl (hb hby d5_12) rfl ?_
    show Steps p.tables e below (s₁.setTop (mkF m 14 #[.val (.ref o0), .val (.ref o1), .val (.int p0), .val (.int p1), .val (.int (getI ls p0)), .val (.int (getI ls p1)), .unset] [(.int (getI ls p1)), (.int (getI ls p0))])) _
    exact k)
  by_cases hc14_4 : (getI ls p0) = (getI ls p1)
  · obtain ⟨fs, hr, hrun, hended, hW, hsame⟩ := X0.leave (v := none) (fun _ => rfl) hlk
    refine ⟨_, _, pre3 _ ?_, hrun, hended, _, _, rfl, ?_, ⟨_, rfl⟩, hW, hsame.mono (by decide) (by decide)⟩
    · show Steps p.tables e below (s₁.setTop (mkF m 14 #[.val (.ref o0), .val (.ref o1), .val (.int p0), .val (.int p1), .val (.int (getI ls p0)), .val (.int (getI ls p1)), .unset] [(.int (getI ls p1)), (.int (getI ls p0))])) _
      refine XS.icmpNo X0.here hx rfl (hb hby d5_14) rfl (teq hc14_4).2 ?_
      show Steps p.tables e below (s₁.setTop (mkF m 17 #[.val (.ref o0), .val (.ref o1), .val (.int p0), .val (.int p1), .val (.int (getI ls p0)), .val (.int (getI ls p1)), .unset] [])) _
      exact X0.returnOut hx Bd.returns (hb hby d5_17) hr
    · show Q5 Z o0 o1 p0 p1 ka ls kb zs h0 n0 _ s₁.heap _
      rw [e0]
      have hg5 : (g5_o0 p0 p1 ls zs) = ls := by simp only [g5_o0, if_pos hc14_4]
      have hg6 : (g5_o1 p0 p1 ls zs) = zs := by simp only [g5_o1, if_pos hc14_4]
      exact ⟨rfl, N0, (Keep.refl h0 [o0, o1]), (by rw [hg5]; exact V_o0), (by rw [hg6]; exact V_o1)⟩
  · obtain ⟨cl7, Ar7, hin7, hat7⟩ := Ia.get (V_o1) (j := (getI ls p0)) hB.2.2.1
    obtain ⟨cl8, Ar8, hin8, hat8⟩ := Ia.get (V_o1) (j := (getI ls p1)) hB.2.2.2
    have pre9 : ∀ t, Steps p.tables e below (s₁.setTop (mkF m 26 #[.val (.ref o0), .val (.ref o1), .val (.int p0), .val (.int p1), .val (.int (getI ls p0)), .val (.int (getI ls p1)), .unset] [(.int (getI zs (getI ls p1))), (.int (getI zs (getI ls p0)))])) t → Steps p.tables e below (s₁.setTop (entryFrame m #[(.ref o0), (.ref o1), (.int p0), (.int p1)] 7)) t := fun t k => pre3 t (by
      show Steps p.tables e below (s₁.setTop (mkF m 14 #[.val (.ref o0), .val (.ref o1), .val (.int p0), .val (.int p1), .val (.int (getI ls p0)), .val (.int (getI ls p1)), .unset] [(.int (getI ls p1)), (.int (getI ls p0))])) _
      refine XS.icmpYes X0.here hx rfl (pc0 := 14) (pc' := 18) rfl (hb hby d5_14) rfl (feq hc14_4).2 (by decide) (by decide) ?_
      show Steps p.tables e below (s₁.setTop (mkF m 18 #[.val (.ref o0), .val (.ref o1), .val (.int p0), .val (.int p1), .val (.int (getI ls p0)), .val (.int (getI ls p1)), .unset] [])) _
      refine XS.aloadN X0.here hx rfl (hb hby d5_18) rfl rfl ?_
      show Steps p.tables e below (s₁.setTop (mkF m 19 #[.val (.ref o0), .val (.ref o1), .val (.int p0), .val (.int p1), .val (.int (getI ls p0)), .val (.int (getI ls p1)), .unset] [(.ref o1)])) _
      refine XS.iload X0.here hx rfl (hb hby d5_19) rfl ?_
      show Steps p.tables e below (s₁.setTop (mkF m 21 #[.val (.ref o0), .val (.ref o1), .val (.int p0), .val (.int p1), .val (.int (getI ls p0)), .val (.int (getI ls p1)), .unset] [(.int (getI ls p0)), (.ref o1)])) _
      refine X0.iaload hx (j := (getI ls p0)) (v := (.int (getI zs (getI ls p0)))) (by rw [e0]; exact Ar7.1) (State.isArrayOf_alike hZ.alike Ar7.2.1) Ar7.2.2 hin7 hat7 (g := (mkF m 21 #[.val (.ref o0), .val (.ref o1), .val (.int p0), .val (.int p1), .val (.int (getI ls p0)), .val (.int (getI ls p1)), .unset] [(.int (getI ls p0)), (.ref o1)])) rfl rfl (hb hby d5_21) _ ?_
      show Steps p.tables e below (s₁.setTop (mkF m 22 #[.val (.ref o0), .val (.ref o1), .val (.int p0), .val (.int p1), .val (.int (getI ls p0)), .val (.int (getI ls p1)), .unset] [(.int (getI zs (getI ls p0)))])) _
      refine XS.aloadN X0.here hx rfl (hb hby d5_22) rfl rfl ?_
      show Steps p.tables e below (s₁.setTop (mkF m 23 #[.val (.ref o0), .val (.ref o1), .val (.int p0), .val (.int p1), .val (.int (getI ls p0)), .val (.int (getI ls p1)), .unset] [(.ref o1), (.int (getI zs (getI ls p0)))])) _
      refine XS.iload X0.here hx rfl (hb hby d5_23) rfl ?_
      show Steps p.tables e below (s₁.setTop (mkF m 25 #[.val (.ref o0), .val (.ref o1), .val (.int p0), .val (.int p1), .val (.int (getI ls p0)), .val (.int (getI ls p1)), .unset] [(.int (getI ls p1)), (.ref o1), (.int (getI zs (getI ls p0)))])) _
      refine X0.iaload hx (j := (getI ls p1)) (v := (.int (getI zs (getI ls p1)))) (by rw [e0]; exact Ar8.1) (State.isArrayOf_alike hZ.alike Ar8.2.1) Ar8.2.2 hin8 hat8 (g := (mkF m 25 #[.val (.ref o0), .val (.ref o1), .val (.int p0), .val (.int p1), .val (.int (getI ls p0)), .val (.int (getI ls p1)), .unset] [(.int (getI ls p1)), (.ref o1), (.int (getI zs (getI ls p0)))])) rfl rfl (hb hby d5_25) _ ?_
      show Steps p.tables e below (s₁.setTop (mkF m 26 #[.val (.ref o0), .val (.ref o1), .val (.int p0), .val (.int p1), .val (.int (getI ls p0)), .val (.int (getI ls p1)), .unset] [(.int (getI zs (getI ls p1))), (.int (getI zs (getI ls p0)))])) _
      exact k)
    have pre11 : ∀ t, Steps p.tables e below (s₁.setTop (mkF m 41 #[.val (.ref o0), .val (.ref o1), .val (.int p0), .val (.int p1), .val (.int (if (getI zs (getI ls p0)) < (getI zs (getI ls p1)) then (getI ls p1) else (getI ls p0))), .val (.int (if (getI zs (getI ls p0)) < (getI zs (getI ls p1)) then (getI ls p0) else (getI ls p1))), (if (getI zs (getI ls p0)) < (getI zs (getI ls p1)) then .val (.int (getI ls p0)) else .unset)] [])) t → Steps p.tables e below (s₁.setTop (entryFrame m #[(.ref o0), (.ref o1), (.int p0), (.int p1)] 7)) t := fun t k => pre9 t (by
      show Steps p.tables e below (s₁.setTop (mkF m 26 #[.val (.ref o0), .val (.ref o1), .val (.int p0), .val (.int p1), .val (.int (getI ls p0)), .val (.int (getI ls p1)), .unset] [(.int (getI zs (getI ls p1))), (.int (getI zs (getI ls p0)))])) _
      by_cases hd26_10 : (getI zs (getI ls p0)) < (getI zs (getI ls p1))
      · try simp only [if_pos hd26_10] at k
        show Steps p.tables e below (s₁.setTop (mkF m 26 #[.val (.ref o0), .val (.ref o1), .val (.int p0), .val (.int p1), .val (.int (getI ls p0)), .val (.int (getI ls p1)), .unset] [(.int (getI zs (getI ls p1))), (.int (getI zs (getI ls p0)))])) _
        refine XS.icmpNo X0.here hx rfl (hb hby d5_26) rfl (tlt hd26_10).2.1 ?_
        show Steps p.tables e below (s₁.setTop (mkF m 29 #[.val (.ref o0), .val (.ref o1), .val (.int p0), .val (.int p1), .val (.int (getI ls p0)), .val (.int (getI ls p1)), .unset] [])) _
        refine XS.iload X0.here hx rfl (hb hby d5_29) rfl ?_
        show Steps p.tables e below (s₁.setTop (mkF m 31 #[.val (.ref o0), .val (.ref o1), .val (.int p0), .val (.int p1), .val (.int (getI ls p0)), .val (.int (getI ls p1)), .unset] [(.int (getI ls p0))])) _
        refine XS.istore X0.here hx rfl (hb hby d5_31) rfl (l' := #[.val (.ref o0), .val (.ref o1), .val (.int p0), .val (.int p1), .val (.int (getI ls p0)), .val (.int (getI ls p1)), .val (.int (getI ls p0))]) rfl ?_
        show Steps p.tables e below (s₁.setTop (mkF m 33 #[.val (.ref o0), .val (.ref o1), .val (.int p0), .val (.int p1), .val (.int (getI ls p0)), .val (.int (getI ls p1)), .val (.int (getI ls p0))] [])) _
        refine XS.iload X0.here hx rfl (hb hby d5_33) rfl ?_
        show Steps p.tables e below (s₁.setTop (mkF m 35 #[.val (.ref o0), .val (.ref o1), .val (.int p0), .val (.int p1), .val (.int (getI ls p0)), .val (.int (getI ls p1)), .val (.int (getI ls p0))] [(.int (getI ls p1))])) _
        refine XS.istore X0.here hx rfl (hb hby d5_35) rfl (l' := #[.val (.ref o0), .val (.ref o1), .val (.int p0), .val (.int p1), .val (.int (getI ls p1)), .val (.int (getI ls p1)), .val (.int (getI ls p0))]) rfl ?_
        show Steps p.tables e below (s₁.setTop (mkF m 37 #[.val (.ref o0), .val (.ref o1), .val (.int p0), .val (.int p1), .val (.int (getI ls p1)), .val (.int (getI ls p1)), .val (.int (getI ls p0))] [])) _
        refine XS.iload X0.here hx rfl (hb hby d5_37) rfl ?_
        show Steps p.tables e below (s₁.setTop (mkF m 39 #[.val (.ref o0), .val (.ref o1), .val (.int p0), .val (.int p1), .val (.int (getI ls p1)), .val (.int (getI ls p1)), .val (.int (getI ls p0))] [(.int (getI ls p0))])) _
        refine XS.istore X0.here hx rfl (hb hby d5_39) rfl (l' := #[.val (.ref o0), .val (.ref o1), .val (.int p0), .val (.int p1), .val (.int (getI ls p1)), .val (.int (getI ls p0)), .val (.int (getI ls p0))]) rfl ?_
        exact k
      · try simp only [if_neg hd26_10] at k
        show Steps p.tables e below (s₁.setTop (mkF m 26 #[.val (.ref o0), .val (.ref o1), .val (.int p0), .val (.int p1), .val (.int (getI ls p0)), .val (.int (getI ls p1)), .unset] [(.int (getI zs (getI ls p1))), (.int (getI zs (getI ls p0)))])) _
        refine XS.icmpYes X0.here hx rfl (pc0 := 26) (pc' := 41) rfl (hb hby d5_26) rfl (flt hd26_10).2.1 (by decide) (by decide) ?_
        exact k
      )
    obtain ⟨cl12, Ar12, hin12, hat12⟩ := Ia.get (V_o0) (j := (0 : Int32)) ⟨by decide, by decide⟩
    have pre13 : ∀ t, Steps p.tables e below (s₁.setTop (mkF m 46 #[.val (.ref o0), .val (.ref o1), .val (.int p0), .val (.int p1), .val (.int (v5_1 zs ls p0 p1)), .val (.int (v5_2 zs ls p0 p1)), (if (getI zs (getI ls p0)) < (getI zs (getI ls p1)) then .val (.int (getI ls p0)) else .unset)] [(.int (v5_2 zs ls p0 p1)), (.int (getI ls (0 : Int32)))])) t → Steps p.tables e below (s₁.setTop (entryFrame m #[(.ref o0), (.ref o1), (.int p0), (.int p1)] 7)) t := fun t k => pre11 t (by
      show Steps p.tables e below (s₁.setTop (mkF m 41 #[.val (.ref o0), .val (.ref o1), .val (.int p0), .val (.int p1), .val (.int (v5_1 zs ls p0 p1)), .val (.int (v5_2 zs ls p0 p1)), (if (getI zs (getI ls p0)) < (getI zs (getI ls p1)) then .val (.int (getI ls p0)) else .unset)] [])) _
      refine XS.aloadN X0.here hx rfl (hb hby d5_41) rfl rfl ?_
      show Steps p.tables e below (s₁.setTop (mkF m 42 #[.val (.ref o0), .val (.ref o1), .val (.int p0), .val (.int p1), .val (.int (v5_1 zs ls p0 p1)), .val (.int (v5_2 zs ls p0 p1)), (if (getI zs (getI ls p0)) < (getI zs (getI ls p1)) then .val (.int (getI ls p0)) else .unset)] [(.ref o0)])) _
      refine XS.iconst X0.here hx rfl (hb hby d5_42) ?_
      show Steps p.tables e below (s₁.setTop (mkF m 43 #[.val (.ref o0), .val (.ref o1), .val (.int p0), .val (.int p1), .val (.int (v5_1 zs ls p0 p1)), .val (.int (v5_2 zs ls p0 p1)), (if (getI zs (getI ls p0)) < (getI zs (getI ls p1)) then .val (.int (getI ls p0)) else .unset)] [(.int (0 : Int32)), (.ref o0)])) _
      refine X0.iaload hx (j := (0 : Int32)) (v := (.int (getI ls (0 : Int32)))) (by rw [e0]; exact Ar12.1) (State.isArrayOf_alike hZ.alike Ar12.2.1) Ar12.2.2 hin12 hat12 (g := (mkF m 43 #[.val (.ref o0), .val (.ref o1), .val (.int p0), .val (.int p1), .val (.int (v5_1 zs ls p0 p1)), .val (.int (v5_2 zs ls p0 p1)), (if (getI zs (getI ls p0)) < (getI zs (getI ls p1)) then .val (.int (getI ls p0)) else .unset)] [(.int (0 : Int32)), (.ref o0)])) rfl rfl (hb hby d5_43) _ ?_
      show Steps p.tables e below (s₁.setTop (mkF m 44 #[.val (.ref o0), .val (.ref o1), .val (.int p0), .val (.int p1), .val (.int (v5_1 zs ls p0 p1)), .val (.int (v5_2 zs ls p0 p1)), (if (getI zs (getI ls p0)) < (getI zs (getI ls p1)) then .val (.int (getI ls p0)) else .unset)] [(.int (getI ls (0 : Int32)))])) _
      refine XS.iload X0.here hx rfl (hb hby d5_44) rfl ?_
      show Steps p.tables e below (s₁.setTop (mkF m 46 #[.val (.ref o0), .val (.ref o1), .val (.int p0), .val (.int p1), .val (.int (v5_1 zs ls p0 p1)), .val (.int (v5_2 zs ls p0 p1)), (if (getI zs (getI ls p0)) < (getI zs (getI ls p1)) then .val (.int (getI ls p0)) else .unset)] [(.int (v5_2 zs ls p0 p1)), (.int (getI ls (0 : Int32)))])) _
      exact k)
    by_cases hc46_14 : (getI ls (0 : Int32)) = (v5_2 zs ls p0 p1)
    · obtain ⟨cl15, Ar15, hin15, hat15⟩ := Ia.get (V_o0) (j := (0 : Int32)) ⟨by decide, by decide⟩
      obtain ⟨T16, h16, X16, e16, W16, st16⟩ := stI X0 hx hZ e0 Ar15 (j := (0 : Int32)) hin15 (g := (mkF m 53 #[.val (.ref o0), .val (.ref o1), .val (.int p0), .val (.int p1), .val (.int (v5_1 zs ls p0 p1)), .val (.int (v5_2 zs ls p0 p1)), (if (getI zs (getI ls p0)) < (getI zs (getI ls p1)) then .val (.int (getI ls p0)) else .unset)] [(.int (v5_1 zs ls p0 p1)), (.int (0 : Int32)), (.ref o0)])) rfl rfl (hb hby d5_53)
      have Vw16 := Ia.set (V_o0) (j := (0 : Int32)) (x := (v5_1 zs ls p0 p1)) ⟨by decide, by decide⟩ rfl W16
      have N16 := Fr.snoc X16 N0 g_o0
      have Z16 : n0 ≤ h16.size := Nat.le_trans Z0 (Keep.of_wr W16).1
      have K16 : Keep h0 h16 [o0, o1] := ((Keep.refl h0 [o0, o1])).wr W16 (Or.inl (List.mem_of_getElem? (i := 0) rfl))
      obtain ⟨cl17, Ar17, hin17, hat17⟩ := Ia.get (Vw16) (j := (1 : Int32)) ⟨by decide, by decide⟩
      have pre18 : ∀ t, Steps p.tables e below (T16.setTop (mkF m 59 #[.val (.ref o0), .val (.ref o1), .val (.int p0), .val (.int p1), .val (.int (v5_1 zs ls p0 p1)), .val (.int (v5_2 zs ls p0 p1)), (if (getI zs (getI ls p0)) < (getI zs (getI ls p1)) then .val (.int (getI ls p0)) else .unset)] [(.int (v5_2 zs ls p0 p1)), (.int (getI (setI ls (0 : Int32) (v5_1 zs ls p0 p1)) (1 : Int32)))])) t → Steps p.tables e below (s₁.setTop (entryFrame m #[(.ref o0), (.ref o1), (.int p0), (.int p1)] 7)) t := fun t k => pre13 t (by
        show Steps p.tables e below (s₁.setTop (mkF m 46 #[.val (.ref o0), .val (.ref o1), .val (.int p0), .val (.int p1), .val (.int (v5_1 zs ls p0 p1)), .val (.int (v5_2 zs ls p0 p1)), (if (getI zs (getI ls p0)) < (getI zs (getI ls p1)) then .val (.int (getI ls p0)) else .unset)] [(.int (v5_2 zs ls p0 p1)), (.int (getI ls (0 : Int32)))])) _
        refine XS.icmpNo X0.here hx rfl (hb hby d5_46) rfl (teq hc46_14).2 ?_
        show Steps p.tables e below (s₁.setTop (mkF m 49 #[.val (.ref o0), .val (.ref o1), .val (.int p0), .val (.int p1), .val (.int (v5_1 zs ls p0 p1)), .val (.int (v5_2 zs ls p0 p1)), (if (getI zs (getI ls p0)) < (getI zs (getI ls p1)) then .val (.int (getI ls p0)) else .unset)] [])) _
        refine XS.aloadN X0.here hx rfl (hb hby d5_49) rfl rfl ?_
        show Steps p.tables e below (s₁.setTop (mkF m 50 #[.val (.ref o0), .val (.ref o1), .val (.int p0), .val (.int p1), .val (.int (v5_1 zs ls p0 p1)), .val (.int (v5_2 zs ls p0 p1)), (if (getI zs (getI ls p0)) < (getI zs (getI ls p1)) then .val (.int (getI ls p0)) else .unset)] [(.ref o0)])) _
        refine XS.iconst X0.here hx rfl (hb hby d5_50) ?_
        show Steps p.tables e below (s₁.setTop (mkF m 51 #[.val (.ref o0), .val (.ref o1), .val (.int p0), .val (.int p1), .val (.int (v5_1 zs ls p0 p1)), .val (.int (v5_2 zs ls p0 p1)), (if (getI zs (getI ls p0)) < (getI zs (getI ls p1)) then .val (.int (getI ls p0)) else .unset)] [(.int (0 : Int32)), (.ref o0)])) _
        refine XS.iload X0.here hx rfl (hb hby d5_51) rfl ?_
        show Steps p.tables e below (s₁.setTop (mkF m 53 #[.val (.ref o0), .val (.ref o1), .val (.int p0), .val (.int p1), .val (.int (v5_1 zs ls p0 p1)), .val (.int (v5_2 zs ls p0 p1)), (if (getI zs (getI ls p0)) < (getI zs (getI ls p1)) then .val (.int (getI ls p0)) else .unset)] [(.int (v5_1 zs ls p0 p1)), (.int (0 : Int32)), (.ref o0)])) _
        refine st16 _ ?_
        show Steps p.tables e below (T16.setTop (mkF m 54 #[.val (.ref o0), .val (.ref o1), .val (.int p0), .val (.int p1), .val (.int (v5_1 zs ls p0 p1)), .val (.int (v5_2 zs ls p0 p1)), (if (getI zs (getI ls p0)) < (getI zs (getI ls p1)) then .val (.int (getI ls p0)) else .unset)] [])) _
        refine XS.aloadN X16.here hx rfl (hb hby d5_54) rfl rfl ?_
        show Steps p.tables e below (T16.setTop (mkF m 55 #[.val (.ref o0), .val (.ref o1), .val (.int p0), .val (.int p1), .val (.int (v5_1 zs ls p0 p1)), .val (.int (v5_2 zs ls p0 p1)), (if (getI zs (getI ls p0)) < (getI zs (getI ls p1)) then .val (.int (getI ls p0)) else .unset)] [(.ref o0)])) _
        refine XS.iconst X16.here hx rfl (hb hby d5_55) ?_
        show Steps p.tables e below (T16.setTop (mkF m 56 #[.val (.ref o0), .val (.ref o1), .val (.int p0), .val (.int p1), .val (.int (v5_1 zs ls p0 p1)), .val (.int (v5_2 zs ls p0 p1)), (if (getI zs (getI ls p0)) < (getI zs (getI ls p1)) then .val (.int (getI ls p0)) else .unset)] [(.int (1 : Int32)), (.ref o0)])) _
        refine X16.iaload hx (j := (1 : Int32)) (v := (.int (getI (setI ls (0 : Int32) (v5_1 zs ls p0 p1)) (1 : Int32)))) (by rw [e16]; exact Ar17.1) (State.isArrayOf_alike hZ.alike Ar17.2.1) Ar17.2.2 hin17 hat17 (g := (mkF m 56 #[.val (.ref o0), .val (.ref o1), .val (.int p0), .val (.int p1), .val (.int (v5_1 zs ls p0 p1)), .val (.int (v5_2 zs ls p0 p1)), (if (getI zs (getI ls p0)) < (getI zs (getI ls p1)) then .val (.int (getI ls p0)) else .unset)] [(.int (1 : Int32)), (.ref o0)])) rfl rfl (hb hby d5_56) _ ?_
        show Steps p.tables e below (T16.setTop (mkF m 57 #[.val (.ref o0), .val (.ref o1), .val (.int p0), .val (.int p1), .val (.int (v5_1 zs ls p0 p1)), .val (.int (v5_2 zs ls p0 p1)), (if (getI zs (getI ls p0)) < (getI zs (getI ls p1)) then .val (.int (getI ls p0)) else .unset)] [(.int (getI (setI ls (0 : Int32) (v5_1 zs ls p0 p1)) (1 : Int32)))])) _
        refine XS.iload X16.here hx rfl (hb hby d5_57) rfl ?_
        show Steps p.tables e below (T16.setTop (mkF m 59 #[.val (.ref o0), .val (.ref o1), .val (.int p0), .val (.int p1), .val (.int (v5_1 zs ls p0 p1)), .val (.int (v5_2 zs ls p0 p1)), (if (getI zs (getI ls p0)) < (getI zs (getI ls p1)) then .val (.int (getI ls p0)) else .unset)] [(.int (v5_2 zs ls p0 p1)), (.int (getI (setI ls (0 : Int32) (v5_1 zs ls p0 p1)) (1 : Int32)))])) _
        exact k)
      by_cases hc59_19 : (getI (setI ls (0 : Int32) (v5_1 zs ls p0 p1)) (1 : Int32)) = (v5_2 zs ls p0 p1)
      · obtain ⟨cl20, Ar20, hin20, hat20⟩ := Ia.get (Vw16) (j := (1 : Int32)) ⟨by decide, by decide⟩
        obtain ⟨T21, h21, X21, e21, W21, st21⟩ := stI X16 hx hZ e16 Ar20 (j := (1 : Int32)) hin20 (g := (mkF m 66 #[.val (.ref o0), .val (.ref o1), .val (.int p0), .val (.int p1), .val (.int (v5_1 zs ls p0 p1)), .val (.int (v5_2 zs ls p0 p1)), (if (getI zs (getI ls p0)) < (getI zs (getI ls p1)) then .val (.int (getI ls p0)) else .unset)] [(.int (v5_1 zs ls p0 p1)), (.int (1 : Int32)), (.ref o0)])) rfl rfl (hb hby d5_66)
        have Vw21 := Ia.set (Vw16) (j := (1 : Int32)) (x := (v5_1 zs ls p0 p1)) ⟨by decide, by decide⟩ rfl W21
        have N21 := Fr.snoc X21 N16 g_o0
        have Z21 : n0 ≤ h21.size := Nat.le_trans Z16 (Keep.of_wr W21).1
        have K21 : Keep h0 h21 [o0, o1] := (K16).wr W21 (Or.inl (List.mem_of_getElem? (i := 0) rfl))
        obtain ⟨cl22, Ar22, hin22, hat22⟩ := Ia.get (Vw21) (j := (2 : Int32)) ⟨by decide, by decide⟩
        have pre23 : ∀ t, Steps p.tables e below (T21.setTop (mkF m 72 #[.val (.ref o0), .val (.ref o1), .val (.int p0), .val (.int p1), .val (.int (v5_1 zs ls p0 p1)), .val (.int (v5_2 zs ls p0 p1)), (if (getI zs (getI ls p0)) < (getI zs (getI ls p1)) then .val (.int (getI ls p0)) else .unset)] [(.int (v5_2 zs ls p0 p1)), (.int (v5_3 ls zs p0 p1))])) t → Steps p.tables e below (s₁.setTop (entryFrame m #[(.ref o0), (.ref o1), (.int p0), (.int p1)] 7)) t := fun t k => pre18 t (by
          show Steps p.tables e below (T16.setTop (mkF m 59 #[.val (.ref o0), .val (.ref o1), .val (.int p0), .val (.int p1), .val (.int (v5_1 zs ls p0 p1)), .val (.int (v5_2 zs ls p0 p1)), (if (getI zs (getI ls p0)) < (getI zs (getI ls p1)) then .val (.int (getI ls p0)) else .unset)] [(.int (v5_2 zs ls p0 p1)), (.int (getI (setI ls (0 : Int32) (v5_1 zs ls p0 p1)) (1 : Int32)))])) _
          refine XS.icmpNo X16.here hx rfl (hb hby d5_59) rfl (teq hc59_19).2 ?_
          show Steps p.tables e below (T16.setTop (mkF m 62 #[.val (.ref o0), .val (.ref o1), .val (.int p0), .val (.int p1), .val (.int (v5_1 zs ls p0 p1)), .val (.int (v5_2 zs ls p0 p1)), (if (getI zs (getI ls p0)) < (getI zs (getI ls p1)) then .val (.int (getI ls p0)) else .unset)] [])) _
          refine XS.aloadN X16.here hx rfl (hb hby d5_62) rfl rfl ?_
          show Steps p.tables e below (T16.setTop (mkF m 63 #[.val (.ref o0), .val (.ref o1), .val (.int p0), .val (.int p1), .val (.int (v5_1 zs ls p0 p1)), .val (.int (v5_2 zs ls p0 p1)), (if (getI zs (getI ls p0)) < (getI zs (getI ls p1)) then .val (.int (getI ls p0)) else .unset)] [(.ref o0)])) _
          refine XS.iconst X16.here hx rfl (hb hby d5_63) ?_
          show Steps p.tables e below (T16.setTop (mkF m 64 #[.val (.ref o0), .val (.ref o1), .val (.int p0), .val (.int p1), .val (.int (v5_1 zs ls p0 p1)), .val (.int (v5_2 zs ls p0 p1)), (if (getI zs (getI ls p0)) < (getI zs (getI ls p1)) then .val (.int (getI ls p0)) else .unset)] [(.int (1 : Int32)), (.ref o0)])) _
          refine XS.iload X16.here hx rfl (hb hby d5_64) rfl ?_
          show Steps p.tables e below (T16.setTop (mkF m 66 #[.val (.ref o0), .val (.ref o1), .val (.int p0), .val (.int p1), .val (.int (v5_1 zs ls p0 p1)), .val (.int (v5_2 zs ls p0 p1)), (if (getI zs (getI ls p0)) < (getI zs (getI ls p1)) then .val (.int (getI ls p0)) else .unset)] [(.int (v5_1 zs ls p0 p1)), (.int (1 : Int32)), (.ref o0)])) _
          refine st21 _ ?_
          show Steps p.tables e below (T21.setTop (mkF m 67 #[.val (.ref o0), .val (.ref o1), .val (.int p0), .val (.int p1), .val (.int (v5_1 zs ls p0 p1)), .val (.int (v5_2 zs ls p0 p1)), (if (getI zs (getI ls p0)) < (getI zs (getI ls p1)) then .val (.int (getI ls p0)) else .unset)] [])) _
          refine XS.aloadN X21.here hx rfl (hb hby d5_67) rfl rfl ?_
          show Steps p.tables e below (T21.setTop (mkF m 68 #[.val (.ref o0), .val (.ref o1), .val (.int p0), .val (.int p1), .val (.int (v5_1 zs ls p0 p1)), .val (.int (v5_2 zs ls p0 p1)), (if (getI zs (getI ls p0)) < (getI zs (getI ls p1)) then .val (.int (getI ls p0)) else .unset)] [(.ref o0)])) _
          refine XS.iconst X21.here hx rfl (hb hby d5_68) ?_
          show Steps p.tables e below (T21.setTop (mkF m 69 #[.val (.ref o0), .val (.ref o1), .val (.int p0), .val (.int p1), .val (.int (v5_1 zs ls p0 p1)), .val (.int (v5_2 zs ls p0 p1)), (if (getI zs (getI ls p0)) < (getI zs (getI ls p1)) then .val (.int (getI ls p0)) else .unset)] [(.int (2 : Int32)), (.ref o0)])) _
          refine X21.iaload hx (j := (2 : Int32)) (v := (.int (getI (setI (setI ls (0 : Int32) (v5_1 zs ls p0 p1)) (1 : Int32) (v5_1 zs ls p0 p1)) (2 : Int32)))) (by rw [e21]; exact Ar22.1) (State.isArrayOf_alike hZ.alike Ar22.2.1) Ar22.2.2 hin22 hat22 (g := (mkF m 69 #[.val (.ref o0), .val (.ref o1), .val (.int p0), .val (.int p1), .val (.int (v5_1 zs ls p0 p1)), .val (.int (v5_2 zs ls p0 p1)), (if (getI zs (getI ls p0)) < (getI zs (getI ls p1)) then .val (.int (getI ls p0)) else .unset)] [(.int (2 : Int32)), (.ref o0)])) rfl rfl (hb hby d5_69) _ ?_
          show Steps p.tables e below (T21.setTop (mkF m 70 #[.val (.ref o0), .val (.ref o1), .val (.int p0), .val (.int p1), .val (.int (v5_1 zs ls p0 p1)), .val (.int (v5_2 zs ls p0 p1)), (if (getI zs (getI ls p0)) < (getI zs (getI ls p1)) then .val (.int (getI ls p0)) else .unset)] [(.int (v5_3 ls zs p0 p1))])) _
          refine XS.iload X21.here hx rfl (hb hby d5_70) rfl ?_
          show Steps p.tables e below (T21.setTop (mkF m 72 #[.val (.ref o0), .val (.ref o1), .val (.int p0), .val (.int p1), .val (.int (v5_1 zs ls p0 p1)), .val (.int (v5_2 zs ls p0 p1)), (if (getI zs (getI ls p0)) < (getI zs (getI ls p1)) then .val (.int (getI ls p0)) else .unset)] [(.int (v5_2 zs ls p0 p1)), (.int (v5_3 ls zs p0 p1))])) _
          exact k)
        by_cases hc72_24 : (v5_3 ls zs p0 p1) = (v5_2 zs ls p0 p1)
        · obtain ⟨cl25, Ar25, hin25, hat25⟩ := Ia.get (Vw21) (j := (2 : Int32)) ⟨by decide, by decide⟩
          obtain ⟨T26, h26, X26, e26, W26, st26⟩ := stI X21 hx hZ e21 Ar25 (j := (2 : Int32)) hin25 (g := (mkF m 79 #[.val (.ref o0), .val (.ref o1), .val (.int p0), .val (.int p1), .val (.int (v5_1 zs ls p0 p1)), .val (.int (v5_2 zs ls p0 p1)), (if (getI zs (getI ls p0)) < (getI zs (getI ls p1)) then .val (.int (getI ls p0)) else .unset)] [(.int (v5_1 zs ls p0 p1)), (.int (2 : Int32)), (.ref o0)])) rfl rfl (hb hby d5_79)
          have Vw26 := Ia.set (Vw21) (j := (2 : Int32)) (x := (v5_1 zs ls p0 p1)) ⟨by decide, by decide⟩ rfl W26
          have N26 := Fr.snoc X26 N21 g_o0
          have Z26 : n0 ≤ h26.size := Nat.le_trans Z21 (Keep.of_wr W26).1
          have K26 : Keep h0 h26 [o0, o1] := (K21).wr W26 (Or.inl (List.mem_of_getElem? (i := 0) rfl))
          obtain ⟨cl27, Ar27, hin27, hat27⟩ := Ia.get (Vw26) (j := (3 : Int32)) ⟨by decide, by decide⟩
          have pre28 : ∀ t, Steps p.tables e below (T26.setTop (mkF m 85 #[.val (.ref o0), .val (.ref o1), .val (.int p0), .val (.int p1), .val (.int (v5_1 zs ls p0 p1)), .val (.int (v5_2 zs ls p0 p1)), (if (getI zs (getI ls p0)) < (getI zs (getI ls p1)) then .val (.int (getI ls p0)) else .unset)] [(.int (v5_2 zs ls p0 p1)), (.int (v5_4 ls zs p0 p1))])) t → Steps p.tables e below (s₁.setTop (entryFrame m #[(.ref o0), (.ref o1), (.int p0), (.int p1)] 7)) t := fun t k => pre23 t (by
            show Steps p.tables e below (T21.setTop (mkF m 72 #[.val (.ref o0), .val (.ref o1), .val (.int p0), .val (.int p1), .val (.int (v5_1 zs ls p0 p1)), .val (.int (v5_2 zs ls p0 p1)), (if (getI zs (getI ls p0)) < (getI zs (getI ls p1)) then .val (.int (getI ls p0)) else .unset)] [(.int (v5_2 zs ls p0 p1)), (.int (v5_3 ls zs p0 p1))])) _
            refine XS.icmpNo X21.here hx rfl (hb hby d5_72) rfl (teq hc72_24).2 ?_
            show Steps p.tables e below (T21.setTop (mkF m 75 #[.val (.ref o0), .val (.ref o1), .val (.int p0), .val (.int p1), .val (.int (v5_1 zs ls p0 p1)), .val (.int (v5_2 zs ls p0 p1)), (if (getI zs (getI ls p0)) < (getI zs (getI ls p1)) then .val (.int (getI ls p0)) else .unset)] [])) _
            refine XS.aloadN X21.here hx rfl (hb hby d5_75) rfl rfl ?_
            show Steps p.tables e below (T21.setTop (mkF m 76 #[.val (.ref o0), .val (.ref o1), .val (.int p0), .val (.int p1), .val (.int (v5_1 zs ls p0 p1)), .val (.int (v5_2 zs ls p0 p1)), (if (getI zs (getI ls p0)) < (getI zs (getI ls p1)) then .val (.int (getI ls p0)) else .unset)] [(.ref o0)])) _
            refine XS.iconst X21.here hx rfl (hb hby d5_76) ?_
            show Steps p.tables e below (T21.setTop (mkF m 77 #[.val (.ref o0), .val (.ref o1), .val (.int p0), .val (.int p1), .val (.int (v5_1 zs ls p0 p1)), .val (.int (v5_2 zs ls p0 p1)), (if (getI zs (getI ls p0)) < (getI zs (getI ls p1)) then .val (.int (getI ls p0)) else .unset)] [(.int (2 : Int32)), (.ref o0)])) _
            refine XS.iload X21.here hx rfl (hb hby d5_77) rfl ?_
            show Steps p.tables e below (T21.setTop (mkF m 79 #[.val (.ref o0), .val (.ref o1), .val (.int p0), .val (.int p1), .val (.int (v5_1 zs ls p0 p1)), .val (.int (v5_2 zs ls p0 p1)), (if (getI zs (getI ls p0)) < (getI zs (getI ls p1)) then .val (.int (getI ls p0)) else .unset)] [(.int (v5_1 zs ls p0 p1)), (.int (2 : Int32)), (.ref o0)])) _
            refine st26 _ ?_
            show Steps p.tables e below (T26.setTop (mkF m 80 #[.val (.ref o0), .val (.ref o1), .val (.int p0), .val (.int p1), .val (.int (v5_1 zs ls p0 p1)), .val (.int (v5_2 zs ls p0 p1)), (if (getI zs (getI ls p0)) < (getI zs (getI ls p1)) then .val (.int (getI ls p0)) else .unset)] [])) _
            refine XS.aloadN X26.here hx rfl (hb hby d5_80) rfl rfl ?_
            show Steps p.tables e below (T26.setTop (mkF m 81 #[.val (.ref o0), .val (.ref o1), .val (.int p0), .val (.int p1), .val (.int (v5_1 zs ls p0 p1)), .val (.int (v5_2 zs ls p0 p1)), (if (getI zs (getI ls p0)) < (getI zs (getI ls p1)) then .val (.int (getI ls p0)) else .unset)] [(.ref o0)])) _
            refine XS.iconst X26.here hx rfl (hb hby d5_81) ?_
            show Steps p.tables e below (T26.setTop (mkF m 82 #[.val (.ref o0), .val (.ref o1), .val (.int p0), .val (.int p1), .val (.int (v5_1 zs ls p0 p1)), .val (.int (v5_2 zs ls p0 p1)), (if (getI zs (getI ls p0)) < (getI zs (getI ls p1)) then .val (.int (getI ls p0)) else .unset)] [(.int (3 : Int32)), (.ref o0)])) _
            refine X26.iaload hx (j := (3 : Int32)) (v := (.int (getI (setI (setI (setI ls (0 : Int32) (v5_1 zs ls p0 p1)) (1 : Int32) (v5_1 zs ls p0 p1)) (2 : Int32) (v5_1 zs ls p0 p1)) (3 : Int32)))) (by rw [e26]; exact Ar27.1) (State.isArrayOf_alike hZ.alike Ar27.2.1) Ar27.2.2 hin27 hat27 (g := (mkF m 82 #[.val (.ref o0), .val (.ref o1), .val (.int p0), .val (.int p1), .val (.int (v5_1 zs ls p0 p1)), .val (.int (v5_2 zs ls p0 p1)), (if (getI zs (getI ls p0)) < (getI zs (getI ls p1)) then .val (.int (getI ls p0)) else .unset)] [(.int (3 : Int32)), (.ref o0)])) rfl rfl (hb hby d5_82) _ ?_
            show Steps p.tables e below (T26.setTop (mkF m 83 #[.val (.ref o0), .val (.ref o1), .val (.int p0), .val (.int p1), .val (.int (v5_1 zs ls p0 p1)), .val (.int (v5_2 zs ls p0 p1)), (if (getI zs (getI ls p0)) < (getI zs (getI ls p1)) then .val (.int (getI ls p0)) else .unset)] [(.int (v5_4 ls zs p0 p1))])) _
            refine XS.iload X26.here hx rfl (hb hby d5_83) rfl ?_
            show Steps p.tables e below (T26.setTop (mkF m 85 #[.val (.ref o0), .val (.ref o1), .val (.int p0), .val (.int p1), .val (.int (v5_1 zs ls p0 p1)), .val (.int (v5_2 zs ls p0 p1)), (if (getI zs (getI ls p0)) < (getI zs (getI ls p1)) then .val (.int (getI ls p0)) else .unset)] [(.int (v5_2 zs ls p0 p1)), (.int (v5_4 ls zs p0 p1))])) _
            exact k)
          by_cases hc85_29 : (v5_4 ls zs p0 p1) = (v5_2 zs ls p0 p1)
          · obtain ⟨cl30, Ar30, hin30, hat30⟩ := Ia.get (Vw26) (j := (3 : Int32)) ⟨by decide, by decide⟩
            obtain ⟨T31, h31, X31, e31, W31, st31⟩ := stI X26 hx hZ e26 Ar30 (j := (3 : Int32)) hin30 (g := (mkF m 92 #[.val (.ref o0), .val (.ref o1), .val (.int p0), .val (.int p1), .val (.int (v5_1 zs ls p0 p1)), .val (.int (v5_2 zs ls p0 p1)), (if (getI zs (getI ls p0)) < (getI zs (getI ls p1)) then .val (.int (getI ls p0)) else .unset)] [(.int (v5_1 zs ls p0 p1)), (.int (3 : Int32)), (.ref o0)])) rfl rfl (hb hby d5_92)
            have Vw31 := Ia.set (Vw26) (j := (3 : Int32)) (x := (v5_1 zs ls p0 p1)) ⟨by decide, by decide⟩ rfl W31
            have N31 := Fr.snoc X31 N26 g_o0
            have Z31 : n0 ≤ h31.size := Nat.le_trans Z26 (Keep.of_wr W31).1
            have K31 : Keep h0 h31 [o0, o1] := (K26).wr W31 (Or.inl (List.mem_of_getElem? (i := 0) rfl))
            obtain ⟨cl32, Ar32, hin32, hat32⟩ := Ia.get (((((V_o1.other W16 (Ne.symm ne_o0_o1)).other W21 (Ne.symm ne_o0_o1)).other W26 (Ne.symm ne_o0_o1)).other W31 (Ne.symm ne_o0_o1))) (j := (v5_1 zs ls p0 p1)) (by first | exact own_ite hB.2.2.2 hB.2.2.1 | exact own_ite hB.2.2.1 hB.2.2.2)
            obtain ⟨cl33, Ar33, hin33, hat33⟩ := Ia.get (((((V_o1.other W16 (Ne.symm ne_o0_o1)).other W21 (Ne.symm ne_o0_o1)).other W26 (Ne.symm ne_o0_o1)).other W31 (Ne.symm ne_o0_o1))) (j := (v5_2 zs ls p0 p1)) (by first | exact own_ite hB.2.2.2 hB.2.2.1 | exact own_ite hB.2.2.1 hB.2.2.2)
            obtain ⟨cl34, Ar34, hin34, hat34⟩ := Ia.get (((((V_o1.other W16 (Ne.symm ne_o0_o1)).other W21 (Ne.symm ne_o0_o1)).other W26 (Ne.symm ne_o0_o1)).other W31 (Ne.symm ne_o0_o1))) (j := (v5_1 zs ls p0 p1)) (by first | exact own_ite hB.2.2.2 hB.2.2.1 | exact own_ite hB.2.2.1 hB.2.2.2)
            obtain ⟨T35, h35, X35, e35, W35, st35⟩ := stI X31 hx hZ e31 Ar34 (j := (v5_1 zs ls p0 p1)) hin34 (g := (mkF m 103 #[.val (.ref o0), .val (.ref o1), .val (.int p0), .val (.int p1), .val (.int (v5_1 zs ls p0 p1)), .val (.int (v5_2 zs ls p0 p1)), (if (getI zs (getI ls p0)) < (getI zs (getI ls p1)) then .val (.int (getI ls p0)) else .unset)] [(.int ((getI zs (v5_1 zs ls p0 p1)) + (getI zs (v5_2 zs ls p0 p1)))), (.int (v5_1 zs ls p0 p1)), (.ref o1)])) rfl rfl (hb hby d5_103)
            have Vw35 := Ia.set (((((V_o1.other W16 (Ne.symm ne_o0_o1)).other W21 (Ne.symm ne_o0_o1)).other W26 (Ne.symm ne_o0_o1)).other W31 (Ne.symm ne_o0_o1))) (j := (v5_1 zs ls p0 p1)) (x := ((getI zs (v5_1 zs ls p0 p1)) + (getI zs (v5_2 zs ls p0 p1)))) (by first | exact own_ite hB.2.2.2 hB.2.2.1 | exact own_ite hB.2.2.1 hB.2.2.2) rfl W35
            have N35 := Fr.snoc X35 N31 g_o1
            have Z35 : n0 ≤ h35.size := Nat.le_trans Z31 (Keep.of_wr W35).1
            have K35 : Keep h0 h35 [o0, o1] := (K31).wr W35 (Or.inl (List.mem_of_getElem? (i := 1) rfl))
            obtain ⟨fs, hr, hrun, hended, hW, hsame⟩ := X35.leave (v := none) (fun _ => rfl) hlk
            refine ⟨_, _, pre28 _ ?_, hrun, hended, _, _, rfl, ?_, ⟨_, rfl⟩, hW, hsame.mono (by decide) (by decide)⟩
            · show Steps p.tables e below (T26.setTop (mkF m 85 #[.val (.ref o0), .val (.ref o1), .val (.int p0), .val (.int p1), .val (.int (v5_1 zs ls p0 p1)), .val (.int (v5_2 zs ls p0 p1)), (if (getI zs (getI ls p0)) < (getI zs (getI ls p1)) then .val (.int (getI ls p0)) else .unset)] [(.int (v5_2 zs ls p0 p1)), (.int (v5_4 ls zs p0 p1))])) _
              refine XS.icmpNo X26.here hx rfl (hb hby d5_85) rfl (teq hc85_29).2 ?_
              show Steps p.tables e below (T26.setTop (mkF m 88 #[.val (.ref o0), .val (.ref o1), .val (.int p0), .val (.int p1), .val (.int (v5_1 zs ls p0 p1)), .val (.int (v5_2 zs ls p0 p1)), (if (getI zs (getI ls p0)) < (getI zs (getI ls p1)) then .val (.int (getI ls p0)) else .unset)] [])) _
              refine XS.aloadN X26.here hx rfl (hb hby d5_88) rfl rfl ?_
              show Steps p.tables e below (T26.setTop (mkF m 89 #[.val (.ref o0), .val (.ref o1), .val (.int p0), .val (.int p1), .val (.int (v5_1 zs ls p0 p1)), .val (.int (v5_2 zs ls p0 p1)), (if (getI zs (getI ls p0)) < (getI zs (getI ls p1)) then .val (.int (getI ls p0)) else .unset)] [(.ref o0)])) _
              refine XS.iconst X26.here hx rfl (hb hby d5_89) ?_
              show Steps p.tables e below (T26.setTop (mkF m 90 #[.val (.ref o0), .val (.ref o1), .val (.int p0), .val (.int p1), .val (.int (v5_1 zs ls p0 p1)), .val (.int (v5_2 zs ls p0 p1)), (if (getI zs (getI ls p0)) < (getI zs (getI ls p1)) then .val (.int (getI ls p0)) else .unset)] [(.int (3 : Int32)), (.ref o0)])) _
              refine XS.iload X26.here hx rfl (hb hby d5_90) rfl ?_
              show Steps p.tables e below (T26.setTop (mkF m 92 #[.val (.ref o0), .val (.ref o1), .val (.int p0), .val (.int p1), .val (.int (v5_1 zs ls p0 p1)), .val (.int (v5_2 zs ls p0 p1)), (if (getI zs (getI ls p0)) < (getI zs (getI ls p1)) then .val (.int (getI ls p0)) else .unset)] [(.int (v5_1 zs ls p0 p1)), (.int (3 : Int32)), (.ref o0)])) _
              refine st31 _ ?_
              show Steps p.tables e below (T31.setTop (mkF m 93 #[.val (.ref o0), .val (.ref o1), .val (.int p0), .val (.int p1), .val (.int (v5_1 zs ls p0 p1)), .val (.int (v5_2 zs ls p0 p1)), (if (getI zs (getI ls p0)) < (getI zs (getI ls p1)) then .val (.int (getI ls p0)) else .unset)] [])) _
              refine XS.aloadN X31.here hx rfl (hb hby d5_93) rfl rfl ?_
              show Steps p.tables e below (T31.setTop (mkF m 94 #[.val (.ref o0), .val (.ref o1), .val (.int p0), .val (.int p1), .val (.int (v5_1 zs ls p0 p1)), .val (.int (v5_2 zs ls p0 p1)), (if (getI zs (getI ls p0)) < (getI zs (getI ls p1)) then .val (.int (getI ls p0)) else .unset)] [(.ref o1)])) _
              refine XS.iload X31.here hx rfl (hb hby d5_94) rfl ?_
              show Steps p.tables e below (T31.setTop (mkF m 96 #[.val (.ref o0), .val (.ref o1), .val (.int p0), .val (.int p1), .val (.int (v5_1 zs ls p0 p1)), .val (.int (v5_2 zs ls p0 p1)), (if (getI zs (getI ls p0)) < (getI zs (getI ls p1)) then .val (.int (getI ls p0)) else .unset)] [(.int (v5_1 zs ls p0 p1)), (.ref o1)])) _
              refine XT.dup2 X31.here hx rfl (hb hby d5_96) rfl rfl rfl ?_
              show Steps p.tables e below (T31.setTop (mkF m 97 #[.val (.ref o0), .val (.ref o1), .val (.int p0), .val (.int p1), .val (.int (v5_1 zs ls p0 p1)), .val (.int (v5_2 zs ls p0 p1)), (if (getI zs (getI ls p0)) < (getI zs (getI ls p1)) then .val (.int (getI ls p0)) else .unset)] [(.int (v5_1 zs ls p0 p1)), (.ref o1), (.int (v5_1 zs ls p0 p1)), (.ref o1)])) _
              refine X31.iaload hx (j := (v5_1 zs ls p0 p1)) (v := (.int (getI zs (v5_1 zs ls p0 p1)))) (by rw [e31]; exact Ar32.1) (State.isArrayOf_alike hZ.alike Ar32.2.1) Ar32.2.2 hin32 hat32 (g := (mkF m 97 #[.val (.ref o0), .val (.ref o1), .val (.int p0), .val (.int p1), .val (.int (v5_1 zs ls p0 p1)), .val (.int (v5_2 zs ls p0 p1)), (if (getI zs (getI ls p0)) < (getI zs (getI ls p1)) then .val (.int (getI ls p0)) else .unset)] [(.int (v5_1 zs ls p0 p1)), (.ref o1), (.int (v5_1 zs ls p0 p1)), (.ref o1)])) rfl rfl (hb hby d5_97) _ ?_
              show Steps p.tables e below (T31.setTop (mkF m 98 #[.val (.ref o0), .val (.ref o1), .val (.int p0), .val (.int p1), .val (.int (v5_1 zs ls p0 p1)), .val (.int (v5_2 zs ls p0 p1)), (if (getI zs (getI ls p0)) < (getI zs (getI ls p1)) then .val (.int (getI ls p0)) else .unset)] [(.int (getI zs (v5_1 zs ls p0 p1))), (.int (v5_1 zs ls p0 p1)), (.ref o1)])) _
              refine XS.aloadN X31.here hx rfl (hb hby d5_98) rfl rfl ?_
              show Steps p.tables e below (T31.setTop (mkF m 99 #[.val (.ref o0), .val (.ref o1), .val (.int p0), .val (.int p1), .val (.int (v5_1 zs ls p0 p1)), .val (.int (v5_2 zs ls p0 p1)), (if (getI zs (getI ls p0)) < (getI zs (getI ls p1)) then .val (.int (getI ls p0)) else .unset)] [(.ref o1), (.int (getI zs (v5_1 zs ls p0 p1))), (.int (v5_1 zs ls p0 p1)), (.ref o1)])) _
              refine XS.iload X31.here hx rfl (hb hby d5_99) rfl ?_
              show Steps p.tables e below (T31.setTop (mkF m 101 #[.val (.ref o0), .val (.ref o1), .val (.int p0), .val (.int p1), .val (.int (v5_1 zs ls p0 p1)), .val (.int (v5_2 zs ls p0 p1)), (if (getI zs (getI ls p0)) < (getI zs (getI ls p1)) then .val (.int (getI ls p0)) else .unset)] [(.int (v5_2 zs ls p0 p1)), (.ref o1), (.int (getI zs (v5_1 zs ls p0 p1))), (.int (v5_1 zs ls p0 p1)), (.ref o1)])) _
              refine X31.iaload hx (j := (v5_2 zs ls p0 p1)) (v := (.int (getI zs (v5_2 zs ls p0 p1)))) (by rw [e31]; exact Ar33.1) (State.isArrayOf_alike hZ.alike Ar33.2.1) Ar33.2.2 hin33 hat33 (g := (mkF m 101 #[.val (.ref o0), .val (.ref o1), .val (.int p0), .val (.int p1), .val (.int (v5_1 zs ls p0 p1)), .val (.int (v5_2 zs ls p0 p1)), (if (getI zs (getI ls p0)) < (getI zs (getI ls p1)) then .val (.int (getI ls p0)) else .unset)] [(.int (v5_2 zs ls p0 p1)), (.ref o1), (.int (getI zs (v5_1 zs ls p0 p1))), (.int (v5_1 zs ls p0 p1)), (.ref o1)])) rfl rfl (hb hby d5_101) _ ?_
              show Steps p.tables e below (T31.setTop (mkF m 102 #[.val (.ref o0), .val (.ref o1), .val (.int p0), .val (.int p1), .val (.int (v5_1 zs ls p0 p1)), .val (.int (v5_2 zs ls p0 p1)), (if (getI zs (getI ls p0)) < (getI zs (getI ls p1)) then .val (.int (getI ls p0)) else .unset)] [(.int (getI zs (v5_2 zs ls p0 p1))), (.int (getI zs (v5_1 zs ls p0 p1))), (.int (v5_1 zs ls p0 p1)), (.ref o1)])) _
              refine XS.iadd X31.here hx rfl (hb hby d5_102) rfl ?_
              show Steps p.tables e below (T31.setTop (mkF m 103 #[.val (.ref o0), .val (.ref o1), .val (.int p0), .val (.int p1), .val (.int (v5_1 zs ls p0 p1)), .val (.int (v5_2 zs ls p0 p1)), (if (getI zs (getI ls p0)) < (getI zs (getI ls p1)) then .val (.int (getI ls p0)) else .unset)] [(.int ((getI zs (v5_1 zs ls p0 p1)) + (getI zs (v5_2 zs ls p0 p1)))), (.int (v5_1 zs ls p0 p1)), (.ref o1)])) _
              refine st35 _ ?_
              show Steps p.tables e below (T35.setTop (mkF m 104 #[.val (.ref o0), .val (.ref o1), .val (.int p0), .val (.int p1), .val (.int (v5_1 zs ls p0 p1)), .val (.int (v5_2 zs ls p0 p1)), (if (getI zs (getI ls p0)) < (getI zs (getI ls p1)) then .val (.int (getI ls p0)) else .unset)] [])) _
              exact X35.returnOut hx Bd.returns (hb hby d5_104) hr
            · show Q5 Z o0 o1 p0 p1 ka ls kb zs h0 n0 _ T35.heap _
              rw [e35]
              have hg36 : (g5_o0 p0 p1 ls zs) = (setI (setI (setI (setI ls (0 : Int32) (v5_1 zs ls p0 p1)) (1 : Int32) (v5_1 zs ls p0 p1)) (2 : Int32) (v5_1 zs ls p0 p1)) (3 : Int32) (v5_1 zs ls p0 p1)) := by simp only [g5_o0, if_neg hc14_4, if_pos hc46_14, if_pos hc59_19, if_pos hc72_24, if_pos hc85_29]
              have hg37 : (g5_o1 p0 p1 ls zs) = (setI zs (v5_1 zs ls p0 p1) ((getI zs (v5_1 zs ls p0 p1)) + (getI zs (v5_2 zs ls p0 p1)))) := by simp only [g5_o1, if_neg hc14_4, if_pos hc46_14, if_pos hc59_19, if_pos hc72_24, if_pos hc85_29]
              exact ⟨rfl, N35, K35, (by rw [hg36]; exact (Vw31.other W35 ne_o0_o1)), (by rw [hg37]; exact Vw35)⟩
          · obtain ⟨cl38, Ar38, hin38, hat38⟩ := Ia.get ((((V_o1.other W16 (Ne.symm ne_o0_o1)).other W21 (Ne.symm ne_o0_o1)).other W26 (Ne.symm ne_o0_o1))) (j := (v5_1 zs ls p0 p1)) (by first | exact own_ite hB.2.2.2 hB.2.2.1 | exact own_ite hB.2.2.1 hB.2.2.2)
            obtain ⟨cl39, Ar39, hin39, hat39⟩ := Ia.get ((((V_o1.other W16 (Ne.symm ne_o0_o1)).other W21 (Ne.symm ne_o0_o1)).other W26 (Ne.symm ne_o0_o1))) (j := (v5_2 zs ls p0 p1)) (by first | exact own_ite hB.2.2.2 hB.2.2.1 | exact own_ite hB.2.2.1 hB.2.2.2)
            obtain ⟨cl40, Ar40, hin40, hat40⟩ := Ia.get ((((V_o1.other W16 (Ne.symm ne_o0_o1)).other W21 (Ne.symm ne_o0_o1)).other W26 (Ne.symm ne_o0_o1))) (j := (v5_1 zs ls p0 p1)) (by first | exact own_ite hB.2.2.2 hB.2.2.1 | exact own_ite hB.2.2.1 hB.2.2.2)
            obtain ⟨T41, h41, X41, e41, W41, st41⟩ := stI X26 hx hZ e26 Ar40 (j := (v5_1 zs ls p0 p1)) hin40 (g := (mkF m 103 #[.val (.ref o0), .val (.ref o1), .val (.int p0), .val (.int p1), .val (.int (v5_1 zs ls p0 p1)), .val (.int (v5_2 zs ls p0 p1)), (if (getI zs (getI ls p0)) < (getI zs (getI ls p1)) then .val (.int (getI ls p0)) else .unset)] [(.int ((getI zs (v5_1 zs ls p0 p1)) + (getI zs (v5_2 zs ls p0 p1)))), (.int (v5_1 zs ls p0 p1)), (.ref o1)])) rfl rfl (hb hby d5_103)
            have Vw41 := Ia.set ((((V_o1.other W16 (Ne.symm ne_o0_o1)).other W21 (Ne.symm ne_o0_o1)).other W26 (Ne.symm ne_o0_o1))) (j := (v5_1 zs ls p0 p1)) (x := ((getI zs (v5_1 zs ls p0 p1)) + (getI zs (v5_2 zs ls p0 p1)))) (by first | exact own_ite hB.2.2.2 hB.2.2.1 | exact own_ite hB.2.2.1 hB.2.2.2) rfl W41
            have N41 := Fr.snoc X41 N26 g_o1
            have Z41 : n0 ≤ h41.size := Nat.le_trans Z26 (Keep.of_wr W41).1
            have K41 : Keep h0 h41 [o0, o1] := (K26).wr W41 (Or.inl (List.mem_of_getElem? (i := 1) rfl))
            obtain ⟨fs, hr, hrun, hended, hW, hsame⟩ := X41.leave (v := none) (fun _ => rfl) hlk
            refine ⟨_, _, pre28 _ ?_, hrun, hended, _, _, rfl, ?_, ⟨_, rfl⟩, hW, hsame.mono (by decide) (by decide)⟩
            · show Steps p.tables e below (T26.setTop (mkF m 85 #[.val (.ref o0), .val (.ref o1), .val (.int p0), .val (.int p1), .val (.int (v5_1 zs ls p0 p1)), .val (.int (v5_2 zs ls p0 p1)), (if (getI zs (getI ls p0)) < (getI zs (getI ls p1)) then .val (.int (getI ls p0)) else .unset)] [(.int (v5_2 zs ls p0 p1)), (.int (v5_4 ls zs p0 p1))])) _
              refine XS.icmpYes X26.here hx rfl (pc0 := 85) (pc' := 93) rfl (hb hby d5_85) rfl (feq hc85_29).2 (by decide) (by decide) ?_
              show Steps p.tables e below (T26.setTop (mkF m 93 #[.val (.ref o0), .val (.ref o1), .val (.int p0), .val (.int p1), .val (.int (v5_1 zs ls p0 p1)), .val (.int (v5_2 zs ls p0 p1)), (if (getI zs (getI ls p0)) < (getI zs (getI ls p1)) then .val (.int (getI ls p0)) else .unset)] [])) _
              refine XS.aloadN X26.here hx rfl (hb hby d5_93) rfl rfl ?_
              show Steps p.tables e below (T26.setTop (mkF m 94 #[.val (.ref o0), .val (.ref o1), .val (.int p0), .val (.int p1), .val (.int (v5_1 zs ls p0 p1)), .val (.int (v5_2 zs ls p0 p1)), (if (getI zs (getI ls p0)) < (getI zs (getI ls p1)) then .val (.int (getI ls p0)) else .unset)] [(.ref o1)])) _
              refine XS.iload X26.here hx rfl (hb hby d5_94) rfl ?_
              show Steps p.tables e below (T26.setTop (mkF m 96 #[.val (.ref o0), .val (.ref o1), .val (.int p0), .val (.int p1), .val (.int (v5_1 zs ls p0 p1)), .val (.int (v5_2 zs ls p0 p1)), (if (getI zs (getI ls p0)) < (getI zs (getI ls p1)) then .val (.int (getI ls p0)) else .unset)] [(.int (v5_1 zs ls p0 p1)), (.ref o1)])) _
              refine XT.dup2 X26.here hx rfl (hb hby d5_96) rfl rfl rfl ?_
              show Steps p.tables e below (T26.setTop (mkF m 97 #[.val (.ref o0), .val (.ref o1), .val (.int p0), .val (.int p1), .val (.int (v5_1 zs ls p0 p1)), .val (.int (v5_2 zs ls p0 p1)), (if (getI zs (getI ls p0)) < (getI zs (getI ls p1)) then .val (.int (getI ls p0)) else .unset)] [(.int (v5_1 zs ls p0 p1)), (.ref o1), (.int (v5_1 zs ls p0 p1)), (.ref o1)])) _
              refine X26.iaload hx (j := (v5_1 zs ls p0 p1)) (v := (.int (getI zs (v5_1 zs ls p0 p1)))) (by rw [e26]; exact Ar38.1) (State.isArrayOf_alike hZ.alike Ar38.2.1) Ar38.2.2 hin38 hat38 (g := (mkF m 97 #[.val (.ref o0), .val (.ref o1), .val (.int p0), .val (.int p1), .val (.int (v5_1 zs ls p0 p1)), .val (.int (v5_2 zs ls p0 p1)), (if (getI zs (getI ls p0)) < (getI zs (getI ls p1)) then .val (.int (getI ls p0)) else .unset)] [(.int (v5_1 zs ls p0 p1)), (.ref o1), (.int (v5_1 zs ls p0 p1)), (.ref o1)])) rfl rfl (hb hby d5_97) _ ?_
              show Steps p.tables e below (T26.setTop (mkF m 98 #[.val (.ref o0), .val (.ref o1), .val (.int p0), .val (.int p1), .val (.int (v5_1 zs ls p0 p1)), .val (.int (v5_2 zs ls p0 p1)), (if (getI zs (getI ls p0)) < (getI zs (getI ls p1)) then .val (.int (getI ls p0)) else .unset)] [(.int (getI zs (v5_1 zs ls p0 p1))), (.int (v5_1 zs ls p0 p1)), (.ref o1)])) _
              refine XS.aloadN X26.here hx rfl (hb hby d5_98) rfl rfl ?_
              show Steps p.tables e below (T26.setTop (mkF m 99 #[.val (.ref o0), .val (.ref o1), .val (.int p0), .val (.int p1), .val (.int (v5_1 zs ls p0 p1)), .val (.int (v5_2 zs ls p0 p1)), (if (getI zs (getI ls p0)) < (getI zs (getI ls p1)) then .val (.int (getI ls p0)) else .unset)] [(.ref o1), (.int (getI zs (v5_1 zs ls p0 p1))), (.int (v5_1 zs ls p0 p1)), (.ref o1)])) _
              refine XS.iload X26.here hx rfl (hb hby d5_99) rfl ?_
              show Steps p.tables e below (T26.setTop (mkF m 101 #[.val (.ref o0), .val (.ref o1), .val (.int p0), .val (.int p1), .val (.int (v5_1 zs ls p0 p1)), .val (.int (v5_2 zs ls p0 p1)), (if (getI zs (getI ls p0)) < (getI zs (getI ls p1)) then .val (.int (getI ls p0)) else .unset)] [(.int (v5_2 zs ls p0 p1)), (.ref o1), (.int (getI zs (v5_1 zs ls p0 p1))), (.int (v5_1 zs ls p0 p1)), (.ref o1)])) _
              refine X26.iaload hx (j := (v5_2 zs ls p0 p1)) (v := (.int (getI zs (v5_2 zs ls p0 p1)))) (by rw [e26]; exact Ar39.1) (State.isArrayOf_alike hZ.alike Ar39.2.1) Ar39.2.2 hin39 hat39 (g := (mkF m 101 #[.val (.ref o0), .val (.ref o1), .val (.int p0), .val (.int p1), .val (.int (v5_1 zs ls p0 p1)), .val (.int (v5_2 zs ls p0 p1)), (if (getI zs (getI ls p0)) < (getI zs (getI ls p1)) then .val (.int (getI ls p0)) else .unset)] [(.int (v5_2 zs ls p0 p1)), (.ref o1), (.int (getI zs (v5_1 zs ls p0 p1))), (.int (v5_1 zs ls p0 p1)), (.ref o1)])) rfl rfl (hb hby d5_101) _ ?_
              show Steps p.tables e below (T26.setTop (mkF m 102 #[.val (.ref o0), .val (.ref o1), .val (.int p0), .val (.int p1), .val (.int (v5_1 zs ls p0 p1)), .val (.int (v5_2 zs ls p0 p1)), (if (getI zs (getI ls p0)) < (getI zs (getI ls p1)) then .val (.int (getI ls p0)) else .unset)] [(.int (getI zs (v5_2 zs ls p0 p1))), (.int (getI zs (v5_1 zs ls p0 p1))), (.int (v5_1 zs ls p0 p1)), (.ref o1)])) _
              refine XS.iadd X26.here hx rfl (hb hby d5_102) rfl ?_
              show Steps p.tables e below (T26.setTop (mkF m 103 #[.val (.ref o0), .val (.ref o1), .val (.int p0), .val (.int p1), .val (.int (v5_1 zs ls p0 p1)), .val (.int (v5_2 zs ls p0 p1)), (if (getI zs (getI ls p0)) < (getI zs (getI ls p1)) then .val (.int (getI ls p0)) else .unset)] [(.int ((getI zs (v5_1 zs ls p0 p1)) + (getI zs (v5_2 zs ls p0 p1)))), (.int (v5_1 zs ls p0 p1)), (.ref o1)])) _
              refine st41 _ ?_
              show Steps p.tables e below (T41.setTop (mkF m 104 #[.val (.ref o0), .val (.ref o1), .val (.int p0), .val (.int p1), .val (.int (v5_1 zs ls p0 p1)), .val (.int (v5_2 zs ls p0 p1)), (if (getI zs (getI ls p0)) < (getI zs (getI ls p1)) then .val (.int (getI ls p0)) else .unset)] [])) _
              exact X41.returnOut hx Bd.returns (hb hby d5_104) hr
            · show Q5 Z o0 o1 p0 p1 ka ls kb zs h0 n0 _ T41.heap _
              rw [e41]
              have hg42 : (g5_o0 p0 p1 ls zs) = (setI (setI (setI ls (0 : Int32) (v5_1 zs ls p0 p1)) (1 : Int32) (v5_1 zs ls p0 p1)) (2 : Int32) (v5_1 zs ls p0 p1)) := by simp only [g5_o0, if_neg hc14_4, if_pos hc46_14, if_pos hc59_19, if_pos hc72_24, if_neg hc85_29]
              have hg43 : (g5_o1 p0 p1 ls zs) = (setI zs (v5_1 zs ls p0 p1) ((getI zs (v5_1 zs ls p0 p1)) + (getI zs (v5_2 zs ls p0 p1)))) := by simp only [g5_o1, if_neg hc14_4, if_pos hc46_14, if_pos hc59_19, if_pos hc72_24, if_neg hc85_29]
              exact ⟨rfl, N41, K41, (by rw [hg42]; exact (Vw26.other W41 ne_o0_o1)), (by rw [hg43]; exact Vw41)⟩
        · obtain ⟨cl44, Ar44, hin44, hat44⟩ := Ia.get (Vw21) (j := (3 : Int32)) ⟨by decide, by decide⟩
          have pre45 : ∀ t, Steps p.tables e below (T21.setTop (mkF m 85 #[.val (.ref o0), .val (.ref o1), .val (.int p0), .val (.int p1), .val (.int (v5_1 zs ls p0 p1)), .val (.int (v5_2 zs ls p0 p1)), (if (getI zs (getI ls p0)) < (getI zs (getI ls p1)) then .val (.int (getI ls p0)) else .unset)] [(.int (v5_2 zs ls p0 p1)), (.int (v5_5 ls zs p0 p1))])) t → Steps p.tables e below (s₁.setTop (entryFrame m #[(.ref o0), (.ref o1), (.int p0), (.int p1)] 7)) t := fun t k => pre23 t (by
            show Steps p.tables e below (T21.setTop (mkF m 72 #[.val (.ref o0), .val (.ref o1), .val (.int p0), .val (.int p1), .val (.int (v5_1 zs ls p0 p1)), .val (.int (v5_2 zs ls p0 p1)), (if (getI zs (getI ls p0)) < (getI zs (getI ls p1)) then .val (.int (getI ls p0)) else .unset)] [(.int (v5_2 zs ls p0 p1)), (.int (v5_3 ls zs p0 p1))])) _
            refine XS.icmpYes X21.here hx rfl (pc0 := 72) (pc' := 80) rfl (hb hby d5_72) rfl (feq hc72_24).2 (by decide) (by decide) ?_
            show Steps p.tables e below (T21.setTop (mkF m 80 #[.val (.ref o0), .val (.ref o1), .val (.int p0), .val (.int p1), .val (.int (v5_1 zs ls p0 p1)), .val (.int (v5_2 zs ls p0 p1)), (if (getI zs (getI ls p0)) < (getI zs (getI ls p1)) then .val (.int (getI ls p0)) else .unset)] [])) _
            refine XS.aloadN X21.here hx rfl (hb hby d5_80) rfl rfl ?_
            show Steps p.tables e below (T21.setTop (mkF m 81 #[.val (.ref o0), .val (.ref o1), .val (.int p0), .val (.int p1), .val (.int (v5_1 zs ls p0 p1)), .val (.int (v5_2 zs ls p0 p1)), (if (getI zs (getI ls p0)) < (getI zs (getI ls p1)) then .val (.int (getI ls p0)) else .unset)] [(.ref o0)])) _
            refine XS.iconst X21.here hx rfl (hb hby d5_81) ?_
            show Steps p.tables e below (T21.setTop (mkF m 82 #[.val (.ref o0), .val (.ref o1), .val (.int p0), .val (.int p1), .val (.int (v5_1 zs ls p0 p1)), .val (.int (v5_2 zs ls p0 p1)), (if (getI zs (getI ls p0)) < (getI zs (getI ls p1)) then .val (.int (getI ls p0)) else .unset)] [(.int (3 : Int32)), (.ref o0)])) _
            refine X21.iaload hx (j := (3 : Int32)) (v := (.int (getI (setI (setI ls (0 : Int32) (v5_1 zs ls p0 p1)) (1 : Int32) (v5_1 zs ls p0 p1)) (3 : Int32)))) (by rw [e21]; exact Ar44.1) (State.isArrayOf_alike hZ.alike Ar44.2.1) Ar44.2.2 hin44 hat44 (g := (mkF m 82 #[.val (.ref o0), .val (.ref o1), .val (.int p0), .val (.int p1), .val (.int (v5_1 zs ls p0 p1)), .val (.int (v5_2 zs ls p0 p1)), (if (getI zs (getI ls p0)) < (getI zs (getI ls p1)) then .val (.int (getI ls p0)) else .unset)] [(.int (3 : Int32)), (.ref o0)])) rfl rfl (hb hby d5_82) _ ?_
            show Steps p.tables e below (T21.setTop (mkF m 83 #[.val (.ref o0), .val (.ref o1), .val (.int p0), .val (.int p1), .val (.int (v5_1 zs ls p0 p1)), .val (.int (v5_2 zs ls p0 p1)), (if (getI zs (getI ls p0)) < (getI zs (getI ls p1)) then .val (.int (getI ls p0)) else .unset)] [(.int (v5_5 ls zs p0 p1))])) _
            refine XS.iload X21.here hx rfl (hb hby d5_83) rfl ?_
            show Steps p.tables e below (T21.setTop (mkF m 85 #[.val (.ref o0), .val (.ref o1), .val (.int p0), .val (.int p1), .val (.int (v5_1 zs ls p0 p1)), .val (.int (v5_2 zs ls p0 p1)), (if (getI zs (getI ls p0)) < (getI zs (getI ls p1)) then .val (.int (getI ls p0)) else .unset)] [(.int (v5_2 zs ls p0 p1)), (.int (v5_5 ls zs p0 p1))])) _
            exact k)
          by_cases hc85_46 : (v5_5 ls zs p0 p1) = (v5_2 zs ls p0 p1)
          · obtain ⟨cl47, Ar47, hin47, hat47⟩ := Ia.get (Vw21) (j := (3 : Int32)) ⟨by decide, by decide⟩
            obtain ⟨T48, h48, X48, e48, W48, st48⟩ := stI X21 hx hZ e21 Ar47 (j := (3 : Int32)) hin47 (g := (mkF m 92 #[.val (.ref o0), .val (.ref o1), .val (.int p0), .val (.int p1), .val (.int (v5_1 zs ls p0 p1)), .val (.int (v5_2 zs ls p0 p1)), (if (getI zs (getI ls p0)) < (getI zs (getI ls p1)) then .val (.int (getI ls p0)) else .unset)] [(.int (v5_1 zs ls p0 p1)), (.int (3 : Int32)), (.ref o0)])) rfl rfl (hb hby d5_92)
            have Vw48 := Ia.set (Vw21) (j := (3 : Int32)) (x := (v5_1 zs ls p0 p1)) ⟨by decide, by decide⟩ rfl W48
            have N48 := Fr.snoc X48 N21 g_o0
            have Z48 : n0 ≤ h48.size := Nat.le_trans Z21 (Keep.of_wr W48).1
            have K48 : Keep h0 h48 [o0, o1] := (K21).wr W48 (Or.inl (List.mem_of_getElem? (i := 0) rfl))
            obtain ⟨cl49, Ar49, hin49, hat49⟩ := Ia.get ((((V_o1.other W16 (Ne.symm ne_o0_o1)).other W21 (Ne.symm ne_o0_o1)).other W48 (Ne.symm ne_o0_o1))) (j := (v5_1 zs ls p0 p1)) (by first | exact own_ite hB.2.2.2 hB.2.2.1 | exact own_ite hB.2.2.1 hB.2.2.2)
            obtain ⟨cl50, Ar50, hin50, hat50⟩ := Ia.get ((((V_o1.other W16 (Ne.symm ne_o0_o1)).other W21 (Ne.symm ne_o0_o1)).other W48 (Ne.symm ne_o0_o1))) (j := (v5_2 zs ls p0 p1)) (by first | exact own_ite hB.2.2.2 hB.2.2.1 | exact own_ite hB.2.2.1 hB.2.2.2)
            obtain ⟨cl51, Ar51, hin51, hat51⟩ := Ia.get ((((V_o1.other W16 (Ne.symm ne_o0_o1)).other W21 (Ne.symm ne_o0_o1)).other W48 (Ne.symm ne_o0_o1))) (j := (v5_1 zs ls p0 p1)) (by first | exact own_ite hB.2.2.2 hB.2.2.1 | exact own_ite hB.2.2.1 hB.2.2.2)
            obtain ⟨T52, h52, X52, e52, W52, st52⟩ := stI X48 hx hZ e48 Ar51 (j := (v5_1 zs ls p0 p1)) hin51 (g := (mkF m 103 #[.val (.ref o0), .val (.ref o1), .val (.int p0), .val (.int p1), .val (.int (v5_1 zs ls p0 p1)), .val (.int (v5_2 zs ls p0 p1)), (if (getI zs (getI ls p0)) < (getI zs (getI ls p1)) then .val (.int (getI ls p0)) else .unset)] [(.int ((getI zs (v5_1 zs ls p0 p1)) + (getI zs (v5_2 zs ls p0 p1)))), (.int (v5_1 zs ls p0 p1)), (.ref o1)])) rfl rfl (hb hby d5_103)
            have Vw52 := Ia.set ((((V_o1.other W16 (Ne.symm ne_o0_o1)).other W21 (Ne.symm ne_o0_o1)).other W48 (Ne.symm ne_o0_o1))) (j := (v5_1 zs ls p0 p1)) (x := ((getI zs (v5_1 zs ls p0 p1)) + (getI zs (v5_2 zs ls p0 p1)))) (by first | exact own_ite hB.2.2.2 hB.2.2.1 | exact own_ite hB.2.2.1 hB.2.2.2) rfl W52
            have N52 := Fr.snoc X52 N48 g_o1
            have Z52 : n0 ≤ h52.size := Nat.le_trans Z48 (Keep.of_wr W52).1
            have K52 : Keep h0 h52 [o0, o1] := (K48).wr W52 (Or.inl (List.mem_of_getElem? (i := 1) rfl))
            obtain ⟨fs, hr, hrun, hended, hW, hsame⟩ := X52.leave (v := none) (fun _ => rfl) hlk
            refine ⟨_, _, pre45 _ ?_, hrun, hended, _, _, rfl, ?_, ⟨_, rfl⟩, hW, hsame.mono (by decide) (by decide)⟩
            · show Steps p.tables e below (T21.setTop (mkF m 85 #[.val (.ref o0), .val (.ref o1), .val (.int p0), .val (.int p1), .val (.int (v5_1 zs ls p0 p1)), .val (.int (v5_2 zs ls p0 p1)), (if (getI zs (getI ls p0)) < (getI zs (getI ls p1)) then .val (.int (getI ls p0)) else .unset)] [(.int (v5_2 zs ls p0 p1)), (.int (v5_5 ls zs p0 p1))])) _
              refine XS.icmpNo X21.here hx rfl (hb hby d5_85) rfl (teq hc85_46).2 ?_
              show Steps p.tables e below (T21.setTop (mkF m 88 #[.val (.ref o0), .val (.ref o1), .val (.int p0), .val (.int p1), .val (.int (v5_1 zs ls p0 p1)), .val (.int (v5_2 zs ls p0 p1)), (if (getI zs (getI ls p0)) < (getI zs (getI ls p1)) then .val (.int (getI ls p0)) else .unset)] [])) _
              refine XS.aloadN X21.here hx rfl (hb hby d5_88) rfl rfl ?_
              show Steps p.tables e below (T21.setTop (mkF m 89 #[.val (.ref o0), .val (.ref o1), .val (.int p0), .val (.int p1), .val (.int (v5_1 zs ls p0 p1)), .val (.int (v5_2 zs ls p0 p1)), (if (getI zs (getI ls p0)) < (getI zs (getI ls p1)) then .val (.int (getI ls p0)) else .unset)] [(.ref o0)])) _
              refine XS.iconst X21.here hx rfl (hb hby d5_89) ?_
              show Steps p.tables e below (T21.setTop (mkF m 90 #[.val (.ref o0), .val (.ref o1), .val (.int p0), .val (.int p1), .val (.int (v5_1 zs ls p0 p1)), .val (.int (v5_2 zs ls p0 p1)), (if (getI zs (getI ls p0)) < (getI zs (getI ls p1)) then .val (.int (getI ls p0)) else .unset)] [(.int (3 : Int32)), (.ref o0)])) _
              refine XS.iload X21.here hx rfl (hb hby d5_90) rfl ?_
              show Steps p.tables e below (T21.setTop (mkF m 92 #[.val (.ref o0), .val (.ref o1), .val (.int p0), .val (.int p1), .val (.int (v5_1 zs ls p0 p1)), .val (.int (v5_2 zs ls p0 p1)), (if (getI zs (getI ls p0)) < (getI zs (getI ls p1)) then .val (.int (getI ls p0)) else .unset)] [(.int (v5_1 zs ls p0 p1)), (.int (3 : Int32)), (.ref o0)])) _
              refine st48 _ ?_
              show Steps p.tables e below (T48.setTop (mkF m 93 #[.val (.ref o0), .val (.ref o1), .val (.int p0), .val (.int p1), .val (.int (v5_1 zs ls p0 p1)), .val (.int (v5_2 zs ls p0 p1)), (if (getI zs (getI ls p0)) < (getI zs (getI ls p1)) then .val (.int (getI ls p0)) else .unset)] [])) _
              refine XS.aloadN X48.here hx rfl (hb hby d5_93) rfl rfl ?_
              show Steps p.tables e below (T48.setTop (mkF m 94 #[.val (.ref o0), .val (.ref o1), .val (.int p0), .val (.int p1), .val (.int (v5_1 zs ls p0 p1)), .val (.int (v5_2 zs ls p0 p1)), (if (getI zs (getI ls p0)) < (getI zs (getI ls p1)) then .val (.int (getI ls p0)) else .unset)] [(.ref o1)])) _
              refine XS.iload X48.here hx rfl (hb hby d5_94) rfl ?_
              show Steps p.tables e below (T48.setTop (mkF m 96 #[.val (.ref o0), .val (.ref o1), .val (.int p0), .val (.int p1), .val (.int (v5_1 zs ls p0 p1)), .val (.int (v5_2 zs ls p0 p1)), (if (getI zs (getI ls p0)) < (getI zs (getI ls p1)) then .val (.int (getI ls p0)) else .unset)] [(.int (v5_1 zs ls p0 p1)), (.ref o1)])) _
              refine XT.dup2 X48.here hx rfl (hb hby d5_96) rfl rfl rfl ?_
              show Steps p.tables e below (T48.setTop (mkF m 97 #[.val (.ref o0), .val (.ref o1), .val (.int p0), .val (.int p1), .val (.int (v5_1 zs ls p0 p1)), .val (.int (v5_2 zs ls p0 p1)), (if (getI zs (getI ls p0)) < (getI zs (getI ls p1)) then .val (.int (getI ls p0)) else .unset)] [(.int (v5_1 zs ls p0 p1)), (.ref o1), (.int (v5_1 zs ls p0 p1)), (.ref o1)])) _
              refine X48.iaload hx (j := (v5_1 zs ls p0 p1)) (v := (.int (getI zs (v5_1 zs ls p0 p1)))) (by rw [e48]; exact Ar49.1) (State.isArrayOf_alike hZ.alike Ar49.2.1) Ar49.2.2 hin49 hat49 (g := (mkF m 97 #[.val (.ref o0), .val (.ref o1), .val (.int p0), .val (.int p1), .val (.int (v5_1 zs ls p0 p1)), .val (.int (v5_2 zs ls p0 p1)), (if (getI zs (getI ls p0)) < (getI zs (getI ls p1)) then .val (.int (getI ls p0)) else .unset)] [(.int (v5_1 zs ls p0 p1)), (.ref o1), (.int (v5_1 zs ls p0 p1)), (.ref o1)])) rfl rfl (hb hby d5_97) _ ?_
              show Steps p.tables e below (T48.setTop (mkF m 98 #[.val (.ref o0), .val (.ref o1), .val (.int p0), .val (.int p1), .val (.int (v5_1 zs ls p0 p1)), .val (.int (v5_2 zs ls p0 p1)), (if (getI zs (getI ls p0)) < (getI zs (getI ls p1)) then .val (.int (getI ls p0)) else .unset)] [(.int (getI zs (v5_1 zs ls p0 p1))), (.int (v5_1 zs ls p0 p1)), (.ref o1)])) _
              refine XS.aloadN X48.here hx rfl (hb hby d5_98) rfl rfl ?_
              show Steps p.tables e below (T48.setTop (mkF m 99 #[.val (.ref o0), .val (.ref o1), .val (.int p0), .val (.int p1), .val (.int (v5_1 zs ls p0 p1)), .val (.int (v5_2 zs ls p0 p1)), (if (getI zs (getI ls p0)) < (getI zs (getI ls p1)) then .val (.int (getI ls p0)) else .unset)] [(.ref o1), (.int (getI zs (v5_1 zs ls p0 p1))), (.int (v5_1 zs ls p0 p1)), (.ref o1)])) _
              refine XS.iload X48.here hx rfl (hb hby d5_99) rfl ?_
              show Steps p.tables e below (T48.setTop (mkF m 101 #[.val (.ref o0), .val (.ref o1), .val (.int p0), .val (.int p1), .val (.int (v5_1 zs ls p0 p1)), .val (.int (v5_2 zs ls p0 p1)), (if (getI zs (getI ls p0)) < (getI zs (getI ls p1)) then .val (.int (getI ls p0)) else .unset)] [(.int (v5_2 zs ls p0 p1)), (.ref o1), (.int (getI zs (v5_1 zs ls p0 p1))), (.int (v5_1 zs ls p0 p1)), (.ref o1)])) _
              refine X48.iaload hx (j := (v5_2 zs ls p0 p1)) (v := (.int (getI zs (v5_2 zs ls p0 p1)))) (by rw [e48]; exact Ar50.1) (State.isArrayOf_alike hZ.alike Ar50.2.1) Ar50.2.2 hin50 hat50 (g := (mkF m 101 #[.val (.ref o0), .val (.ref o1), .val (.int p0), .val (.int p1), .val (.int (v5_1 zs ls p0 p1)), .val (.int (v5_2 zs ls p0 p1)), (if (getI zs (getI ls p0)) < (getI zs (getI ls p1)) then .val (.int (getI ls p0)) else .unset)] [(.int (v5_2 zs ls p0 p1)), (.ref o1), (.int (getI zs (v5_1 zs ls p0 p1))), (.int (v5_1 zs ls p0 p1)), (.ref o1)])) rfl rfl (hb hby d5_101) _ ?_
              show Steps p.tables e below (T48.setTop (mkF m 102 #[.val (.ref o0), .val (.ref o1), .val (.int p0), .val (.int p1), .val (.int (v5_1 zs ls p0 p1)), .val (.int (v5_2 zs ls p0 p1)), (if (getI zs (getI ls p0)) < (getI zs (getI ls p1)) then .val (.int (getI ls p0)) else .unset)] [(.int (getI zs (v5_2 zs ls p0 p1))), (.int (getI zs (v5_1 zs ls p0 p1))), (.int (v5_1 zs ls p0 p1)), (.ref o1)])) _
              refine XS.iadd X48.here hx rfl (hb hby d5_102) rfl ?_
              show Steps p.tables e below (T48.setTop (mkF m 103 #[.val (.ref o0), .val (.ref o1), .val (.int p0), .val (.int p1), .val (.int (v5_1 zs ls p0 p1)), .val (.int (v5_2 zs ls p0 p1)), (if (getI zs (getI ls p0)) < (getI zs (getI ls p1)) then .val (.int (getI ls p0)) else .unset)] [(.int ((getI zs (v5_1 zs ls p0 p1)) + (getI zs (v5_2 zs ls p0 p1)))), (.int (v5_1 zs ls p0 p1)), (.ref o1)])) _
              refine st52 _ ?_
              show Steps p.tables e below (T52.setTop (mkF m 104 #[.val (.ref o0), .val (.ref o1), .val (.int p0), .val (.int p1), .val (.int (v5_1 zs ls p0 p1)), .val (.int (v5_2 zs ls p0 p1)), (if (getI zs (getI ls p0)) < (getI zs (getI ls p1)) then .val (.int (getI ls p0)) else .unset)] [])) _
              exact X52.returnOut hx Bd.returns (hb hby d5_104) hr
            · show Q5 Z o0 o1 p0 p1 ka ls kb zs h0 n0 _ T52.heap _
              rw [e52]
              have hg53 : (g5_o0 p0 p1 ls zs) = (setI (setI (setI ls (0 : Int32) (v5_1 zs ls p0 p1)) (1 : Int32) (v5_1 zs ls p0 p1)) (3 : Int32) (v5_1 zs ls p0 p1)) := by simp only [g5_o0, if_neg hc14_4, if_pos hc46_14, if_pos hc59_19, if_neg hc72_24, if_pos hc85_46]
              have hg54 : (g5_o1 p0 p1 ls zs) = (setI zs (v5_1 zs ls p0 p1) ((getI zs (v5_1 zs ls p0 p1)) + (getI zs (v5_2 zs ls p0 p1)))) := by simp only [g5_o1, if_neg hc14_4, if_pos hc46_14, if_pos hc59_19, if_neg hc72_24, if_pos hc85_46]
              exact ⟨rfl, N52, K52, (by rw [hg53]; exact (Vw48.other W52 ne_o0_o1)), (by rw [hg54]; exact Vw52)⟩
          · obtain ⟨cl55, Ar55, hin55, hat55⟩ := Ia.get (((V_o1.other W16 (Ne.symm ne_o0_o1)).other W21 (Ne.symm ne_o0_o1))) (j := (v5_1 zs ls p0 p1)) (by first | exact own_ite hB.2.2.2 hB.2.2.1 | exact own_ite hB.2.2.1 hB.2.2.2)
            obtain ⟨cl56, Ar56, hin56, hat56⟩ := Ia.get (((V_o1.other W16 (Ne.symm ne_o0_o1)).other W21 (Ne.symm ne_o0_o1))) (j := (v5_2 zs ls p0 p1)) (by first | exact own_ite hB.2.2.2 hB.2.2.1 | exact own_ite hB.2.2.1 hB.2.2.2)
            obtain ⟨cl57, Ar57, hin57, hat57⟩ := Ia.get (((V_o1.other W16 (Ne.symm ne_o0_o1)).other W21 (Ne.symm ne_o0_o1))) (j := (v5_1 zs ls p0 p1)) (by first | exact own_ite hB.2.2.2 hB.2.2.1 | exact own_ite hB.2.2.1 hB.2.2.2)
            obtain ⟨T58, h58, X58, e58, W58, st58⟩ := stI X21 hx hZ e21 Ar57 (j := (v5_1 zs ls p0 p1)) hin57 (g := (mkF m 103 #[.val (.ref o0), .val (.ref o1), .val (.int p0), .val (.int p1), .val (.int (v5_1 zs ls p0 p1)), .val (.int (v5_2 zs ls p0 p1)), (if (getI zs (getI ls p0)) < (getI zs (getI ls p1)) then .val (.int (getI ls p0)) else .unset)] [(.int ((getI zs (v5_1 zs ls p0 p1)) + (getI zs (v5_2 zs ls p0 p1)))), (.int (v5_1 zs ls p0 p1)), (.ref o1)])) rfl rfl (hb hby d5_103)
            have Vw58 := Ia.set (((V_o1.other W16 (Ne.symm ne_o0_o1)).other W21 (Ne.symm ne_o0_o1))) (j := (v5_1 zs ls p0 p1)) (x := ((getI zs (v5_1 zs ls p0 p1)) + (getI zs (v5_2 zs ls p0 p1)))) (by first | exact own_ite hB.2.2.2 hB.2.2.1 | exact own_ite hB.2.2.1 hB.2.2.2) rfl W58
            have N58 := Fr.snoc X58 N21 g_o1
            have Z58 : n0 ≤ h58.size := Nat.le_trans Z21 (Keep.of_wr W58).1
            have K58 : Keep h0 h58 [o0, o1] := (K21).wr W58 (Or.inl (List.mem_of_getElem? (i := 1) rfl))
            obtain ⟨fs, hr, hrun, hended, hW, hsame⟩ := X58.leave (v := none) (fun _ => rfl) hlk
            refine ⟨_, _, pre45 _ ?_, hrun, hended, _, _, rfl, ?_, ⟨_, rfl⟩, hW, hsame.mono (by decide) (by decide)⟩
            · show Steps p.tables e below (T21.setTop (mkF m 85 #[.val (.ref o0), .val (.ref o1), .val (.int p0), .val (.int p1), .val (.int (v5_1 zs ls p0 p1)), .val (.int (v5_2 zs ls p0 p1)), (if (getI zs (getI ls p0)) < (getI zs (getI ls p1)) then .val (.int (getI ls p0)) else .unset)] [(.int (v5_2 zs ls p0 p1)), (.int (v5_5 ls zs p0 p1))])) _
              refine XS.icmpYes X21.here hx rfl (pc0 := 85) (pc' := 93) rfl (hb hby d5_85) rfl (feq hc85_46).2 (by decide) (by decide) ?_
              show Steps p.tables e below (T21.setTop (mkF m 93 #[.val (.ref o0), .val (.ref o1), .val (.int p0), .val (.int p1), .val (.int (v5_1 zs ls p0 p1)), .val (.int (v5_2 zs ls p0 p1)), (if (getI zs (getI ls p0)) < (getI zs (getI ls p1)) then .val (.int (getI ls p0)) else .unset)] [])) _
              refine XS.aloadN X21.here hx rfl (hb hby d5_93) rfl rfl ?_
              show Steps p.tables e below (T21.setTop (mkF m 94 #[.val (.ref o0), .val (.ref o1), .val (.int p0), .val (.int p1), .val (.int (v5_1 zs ls p0 p1)), .val (.int (v5_2 zs ls p0 p1)), (if (getI zs (getI ls p0)) < (getI zs (getI ls p1)) then .val (.int (getI ls p0)) else .unset)] [(.ref o1)])) _
              refine XS.iload X21.here hx rfl (hb hby d5_94) rfl ?_
              show Steps p.tables e below (T21.setTop (mkF m 96 #[.val (.ref o0), .val (.ref o1), .val (.int p0), .val (.int p1), .val (.int (v5_1 zs ls p0 p1)), .val (.int (v5_2 zs ls p0 p1)), (if (getI zs (getI ls p0)) < (getI zs (getI ls p1)) then .val (.int (getI ls p0)) else .unset)] [(.int (v5_1 zs ls p0 p1)), (.ref o1)])) _
              refine XT.dup2 X21.here hx rfl (hb hby d5_96) rfl rfl rfl ?_
              show Steps p.tables e below (T21.setTop (mkF m 97 #[.val (.ref o0), .val (.ref o1), .val (.int p0), .val (.int p1), .val (.int (v5_1 zs ls p0 p1)), .val (.int (v5_2 zs ls p0 p1)), (if (getI zs (getI ls p0)) < (getI zs (getI ls p1)) then .val (.int (getI ls p0)) else .unset)] [(.int (v5_1 zs ls p0 p1)), (.ref o1), (.int (v5_1 zs ls p0 p1)), (.ref o1)])) _
              refine X21.iaload hx (j := (v5_1 zs ls p0 p1)) (v := (.int (getI zs (v5_1 zs ls p0 p1)))) (by rw [e21]; exact Ar55.1) (State.isArrayOf_alike hZ.alike Ar55.2.1) Ar55.2.2 hin55 hat55 (g := (mkF m 97 #[.val (.ref o0), .val (.ref o1), .val (.int p0), .val (.int p1), .val (.int (v5_1 zs ls p0 p1)), .val (.int (v5_2 zs ls p0 p1)), (if (getI zs (getI ls p0)) < (getI zs (getI ls p1)) then .val (.int (getI ls p0)) else .unset)] [(.int (v5_1 zs ls p0 p1)), (.ref o1), (.int (v5_1 zs ls p0 p1)), (.ref o1)])) rfl rfl (hb hby d5_97) _ ?_
              show Steps p.tables e below (T21.setTop (mkF m 98 #[.val (.ref o0), .val (.ref o1), .val (.int p0), .val (.int p1), .val (.int (v5_1 zs ls p0 p1)), .val (.int (v5_2 zs ls p0 p1)), (if (getI zs (getI ls p0)) < (getI zs (getI ls p1)) then .val (.int (getI ls p0)) else .unset)] [(.int (getI zs (v5_1 zs ls p0 p1))), (.int (v5_1 zs ls p0 p1)), (.ref o1)])) _
              refine XS.aloadN X21.here hx rfl (hb hby d5_98) rfl rfl ?_
              show Steps p.tables e below (T21.setTop (mkF m 99 #[.val (.ref o0), .val (.ref o1), .val (.int p0), .val (.int p1), .val (.int (v5_1 zs ls p0 p1)), .val (.int (v5_2 zs ls p0 p1)), (if (getI zs (getI ls p0)) < (getI zs (getI ls p1)) then .val (.int (getI ls p0)) else .unset)] [(.ref o1), (.int (getI zs (v5_1 zs ls p0 p1))), (.int (v5_1 zs ls p0 p1)), (.ref o1)])) _
              refine XS.iload X21.here hx rfl (hb hby d5_99) rfl ?_
              show Steps p.tables e below (T21.setTop (mkF m 101 #[.val (.ref o0), .val (.ref o1), .val (.int p0), .val (.int p1), .val (.int (v5_1 zs ls p0 p1)), .val (.int (v5_2 zs ls p0 p1)), (if (getI zs (getI ls p0)) < (getI zs (getI ls p1)) then .val (.int (getI ls p0)) else .unset)] [(.int (v5_2 zs ls p0 p1)), (.ref o1), (.int (getI zs (v5_1 zs ls p0 p1))), (.int (v5_1 zs ls p0 p1)), (.ref o1)])) _
              refine X21.iaload hx (j := (v5_2 zs ls p0 p1)) (v := (.int (getI zs (v5_2 zs ls p0 p1)))) (by rw [e21]; exact Ar56.1) (State.isArrayOf_alike hZ.alike Ar56.2.1) Ar56.2.2 hin56 hat56 (g := (mkF m 101 #[.val (.ref o0), .val (.ref o1), .val (.int p0), .val (.int p1), .val (.int (v5_1 zs ls p0 p1)), .val (.int (v5_2 zs ls p0 p1)), (if (getI zs (getI ls p0)) < (getI zs (getI ls p1)) then .val (.int (getI ls p0)) else .unset)] [(.int (v5_2 zs ls p0 p1)), (.ref o1), (.int (getI zs (v5_1 zs ls p0 p1))), (.int (v5_1 zs ls p0 p1)), (.ref o1)])) rfl rfl (hb hby d5_101) _ ?_
              show Steps p.tables e below (T21.setTop (mkF m 102 #[.val (.ref o0), .val (.ref o1), .val (.int p0), .val (.int p1), .val (.int (v5_1 zs ls p0 p1)), .val (.int (v5_2 zs ls p0 p1)), (if (getI zs (getI ls p0)) < (getI zs (getI ls p1)) then .val (.int (getI ls p0)) else .unset)] [(.int (getI zs (v5_2 zs ls p0 p1))), (.int (getI zs (v5_1 zs ls p0 p1))), (.int (v5_1 zs ls p0 p1)), (.ref o1)])) _
              refine XS.iadd X21.here hx rfl (hb hby d5_102) rfl ?_
              show Steps p.tables e below (T21.setTop (mkF m 103 #[.val (.ref o0), .val (.ref o1), .val (.int p0), .val (.int p1), .val (.int (v5_1 zs ls p0 p1)), .val (.int (v5_2 zs ls p0 p1)), (if (getI zs (getI ls p0)) < (getI zs (getI ls p1)) then .val (.int (getI ls p0)) else .unset)] [(.int ((getI zs (v5_1 zs ls p0 p1)) + (getI zs (v5_2 zs ls p0 p1)))), (.int (v5_1 zs ls p0 p1)), (.ref o1)])) _
              refine st58 _ ?_
              show Steps p.tables e below (T58.setTop (mkF m 104 #[.val (.ref o0), .val (.ref o1), .val (.int p0), .val (.int p1), .val (.int (v5_1 zs ls p0 p1)), .val (.int (v5_2 zs ls p0 p1)), (if (getI zs (getI ls p0)) < (getI zs (getI ls p1)) then .val (.int (getI ls p0)) else .unset)] [])) _
              exact X58.returnOut hx Bd.returns (hb hby d5_104) hr
            · show Q5 Z o0 o1 p0 p1 ka ls kb zs h0 n0 _ T58.heap _
              rw [e58]
              have hg59 : (g5_o0 p0 p1 ls zs) = (setI (setI ls (0 : Int32) (v5_1 zs ls p0 p1)) (1 : Int32) (v5_1 zs ls p0 p1)) := by simp only [g5_o0, if_neg hc14_4, if_pos hc46_14, if_pos hc59_19, if_neg hc72_24, if_neg hc85_46]
              have hg60 : (g5_o1 p0 p1 ls zs) = (setI zs (v5_1 zs ls p0 p1) ((getI zs (v5_1 zs ls p0 p1)) + (getI zs (v5_2 zs ls p0 p1)))) := by simp only [g5_o1, if_neg hc14_4, if_pos hc46_14, if_pos hc59_19, if_neg hc72_24, if_neg hc85_46]
              exact ⟨rfl, N58, K58, (by rw [hg59]; exact (Vw21.other W58 ne_o0_o1)), (by rw [hg60]; exact Vw58)⟩
      · obtain ⟨cl61, Ar61, hin61, hat61⟩ := Ia.get (Vw16) (j := (2 : Int32)) ⟨by decide, by decide⟩
        have pre62 : ∀ t, Steps p.tables e below (T16.setTop (mkF m 72 #[.val (.ref o0), .val (.ref o1), .val (.int p0), .val (.int p1), .val (.int (v5_1 zs ls p0 p1)), .val (.int (v5_2 zs ls p0 p1)), (if (getI zs (getI ls p0)) < (getI zs (getI ls p1)) then .val (.int (getI ls p0)) else .unset)] [(.int (v5_2 zs ls p0 p1)), (.int (getI (setI ls (0 : Int32) (v5_1 zs ls p0 p1)) (2 : Int32)))])) t → Steps p.tables e below (s₁.setTop (entryFrame m #[(.ref o0), (.ref o1), (.int p0), (.int p1)] 7)) t := fun t k => pre18 t (by
          show Steps p.tables e below (T16.setTop (mkF m 59 #[.val (.ref o0), .val (.ref o1), .val (.int p0), .val (.int p1), .val (.int (v5_1 zs ls p0 p1)), .val (.int (v5_2 zs ls p0 p1)), (if (getI zs (getI ls p0)) < (getI zs (getI ls p1)) then .val (.int (getI ls p0)) else .unset)] [(.int (v5_2 zs ls p0 p1)), (.int (getI (setI ls (0 : Int32) (v5_1 zs ls p0 p1)) (1 : Int32)))])) _
          refine XS.icmpYes X16.here hx rfl (pc0 := 59) (pc' := 67) rfl (hb hby d5_59) rfl (feq hc59_19).2 (by decide) (by decide) ?_
          show Steps p.tables e below (T16.setTop (mkF m 67 #[.val (.ref o0), .val (.ref o1), .val (.int p0), .val (.int p1), .val (.int (v5_1 zs ls p0 p1)), .val (.int (v5_2 zs ls p0 p1)), (if (getI zs (getI ls p0)) < (getI zs (getI ls p1)) then .val (.int (getI ls p0)) else .unset)] [])) _
          refine XS.aloadN X16.here hx rfl (hb hby d5_67) rfl rfl ?_
          show Steps p.tables e below (T16.setTop (mkF m 68 #[.val (.ref o0), .val (.ref o1), .val (.int p0), .val (.int p1), .val (.int (v5_1 zs ls p0 p1)), .val (.int (v5_2 zs ls p0 p1)), (if (getI zs (getI ls p0)) < (getI zs (getI ls p1)) then .val (.int (getI ls p0)) else .unset)] [(.ref o0)])) _
          refine XS.iconst X16.here hx rfl (hb hby d5_68) ?_
          show Steps p.tables e below (T16.setTop (mkF m 69 #[.val (.ref o0), .val (.ref o1), .val (.int p0), .val (.int p1), .val (.int (v5_1 zs ls p0 p1)), .val (.int (v5_2 zs ls p0 p1)), (if (getI zs (getI ls p0)) < (getI zs (getI ls p1)) then .val (.int (getI ls p0)) else .unset)] [(.int (2 : Int32)), (.ref o0)])) _
          refine X16.iaload hx (j := (2 : Int32)) (v := (.int (getI (setI ls (0 : Int32) (v5_1 zs ls p0 p1)) (2 : Int32)))) (by rw [e16]; exact Ar61.1) (State.isArrayOf_alike hZ.alike Ar61.2.1) Ar61.2.2 hin61 hat61 (g := (mkF m 69 #[.val (.ref o0), .val (.ref o1), .val (.int p0), .val (.int p1), .val (.int (v5_1 zs ls p0 p1)), .val (.int (v5_2 zs ls p0 p1)), (if (getI zs (getI ls p0)) < (getI zs (getI ls p1)) then .val (.int (getI ls p0)) else .unset)] [(.int (2 : Int32)), (.ref o0)])) rfl rfl (hb hby d5_69) _ ?_
          show Steps p.tables e below (T16.setTop (mkF m 70 #[.val (.ref o0), .val (.ref o1), .val (.int p0), .val (.int p1), .val (.int (v5_1 zs ls p0 p1)), .val (.int (v5_2 zs ls p0 p1)), (if (getI zs (getI ls p0)) < (getI zs (getI ls p1)) then .val (.int (getI ls p0)) else .unset)] [(.int (getI (setI ls (0 : Int32) (v5_1 zs ls p0 p1)) (2 : Int32)))])) _
          refine XS.iload X16.here hx rfl (hb hby d5_70) rfl ?_
          show Steps p.tables e below (T16.setTop (mkF m 72 #[.val (.ref o0), .val (.ref o1), .val (.int p0), .val (.int p1), .val (.int (v5_1 zs ls p0 p1)), .val (.int (v5_2 zs ls p0 p1)), (if (getI zs (getI ls p0)) < (getI zs (getI ls p1)) then .val (.int (getI ls p0)) else .unset)] [(.int (v5_2 zs ls p0 p1)), (.int (getI (setI ls (0 : Int32) (v5_1 zs ls p0 p1)) (2 : Int32)))])) _
          exact k)
        by_cases hc72_63 : (getI (setI ls (0 : Int32) (v5_1 zs ls p0 p1)) (2 : Int32)) = (v5_2 zs ls p0 p1)
        · obtain ⟨cl64, Ar64, hin64, hat64⟩ := Ia.get (Vw16) (j := (2 : Int32)) ⟨by decide, by decide⟩
          obtain ⟨T65, h65, X65, e65, W65, st65⟩ := stI X16 hx hZ e16 Ar64 (j := (2 : Int32)) hin64 (g := (mkF m 79 #[.val (.ref o0), .val (.ref o1), .val (.int p0), .val (.int p1), .val (.int (v5_1 zs ls p0 p1)), .val (.int (v5_2 zs ls p0 p1)), (if (getI zs (getI ls p0)) < (getI zs (getI ls p1)) then .val (.int (getI ls p0)) else .unset)] [(.int (v5_1 zs ls p0 p1)), (.int (2 : Int32)), (.ref o0)])) rfl rfl (hb hby d5_79)
          have Vw65 := Ia.set (Vw16) (j := (2 : Int32)) (x := (v5_1 zs ls p0 p1)) ⟨by decide, by decide⟩ rfl W65
          have N65 := Fr.snoc X65 N16 g_o0
          have Z65 : n0 ≤ h65.size := Nat.le_trans Z16 (Keep.of_wr W65).1
          have K65 : Keep h0 h65 [o0, o1] := (K16).wr W65 (Or.inl (List.mem_of_getElem? (i := 0) rfl))
          obtain ⟨cl66, Ar66, hin66, hat66⟩ := Ia.get (Vw65) (j := (3 : Int32)) ⟨by decide, by decide⟩
          have pre67 : ∀ t, Steps p.tables e below (T65.setTop (mkF m 85 #[.val (.ref o0), .val (.ref o1), .val (.int p0), .val (.int p1), .val (.int (v5_1 zs ls p0 p1)), .val (.int (v5_2 zs ls p0 p1)), (if (getI zs (getI ls p0)) < (getI zs (getI ls p1)) then .val (.int (getI ls p0)) else .unset)] [(.int (v5_2 zs ls p0 p1)), (.int (v5_6 ls zs p0 p1))])) t → Steps p.tables e below (s₁.setTop (entryFrame m #[(.ref o0), (.ref o1), (.int p0), (.int p1)] 7)) t := fun t k => pre62 t (by
            show Steps p.tables e below (T16.setTop (mkF m 72 #[.val (.ref o0), .val (.ref o1), .val (.int p0), .val (.int p1), .val (.int (v5_1 zs ls p0 p1)), .val (.int (v5_2 zs ls p0 p1)), (if (getI zs (getI ls p0)) < (getI zs (getI ls p1)) then .val (.int (getI ls p0)) else .unset)] [(.int (v5_2 zs ls p0 p1)), (.int (getI (setI ls (0 : Int32) (v5_1 zs ls p0 p1)) (2 : Int32)))])) _
            refine XS.icmpNo X16.here hx rfl (hb hby d5_72) rfl (teq hc72_63).2 ?_
            show Steps p.tables e below (T16.setTop (mkF m 75 #[.val (.ref o0), .val (.ref o1), .val (.int p0), .val (.int p1), .val (.int (v5_1 zs ls p0 p1)), .val (.int (v5_2 zs ls p0 p1)), (if (getI zs (getI ls p0)) < (getI zs (getI ls p1)) then .val (.int (getI ls p0)) else .unset)] [])) _
            refine XS.aloadN X16.here hx rfl (hb hby d5_75) rfl rfl ?_
            show Steps p.tables e below (T16.setTop (mkF m 76 #[.val (.ref o0), .val (.ref o1), .val (.int p0), .val (.int p1), .val (.int (v5_1 zs ls p0 p1)), .val (.int (v5_2 zs ls p0 p1)), (if (getI zs (getI ls p0)) < (getI zs (getI ls p1)) then .val (.int (getI ls p0)) else .unset)] [(.ref o0)])) _
            refine XS.iconst X16.here hx rfl (hb hby d5_76) ?_
            show Steps p.tables e below (T16.setTop (mkF m 77 #[.val (.ref o0), .val (.ref o1), .val (.int p0), .val (.int p1), .val (.int (v5_1 zs ls p0 p1)), .val (.int (v5_2 zs ls p0 p1)), (if (getI zs (getI ls p0)) < (getI zs (getI ls p1)) then .val (.int (getI ls p0)) else .unset)] [(.int (2 : Int32)), (.ref o0)])) _
            refine XS.iload X16.here hx rfl (hb hby d5_77) rfl ?_
            show Steps p.tables e below (T16.setTop (mkF m 79 #[.val (.ref o0), .val (.ref o1), .val (.int p0), .val (.int p1), .val (.int (v5_1 zs ls p0 p1)), .val (.int (v5_2 zs ls p0 p1)), (if (getI zs (getI ls p0)) < (getI zs (getI ls p1)) then .val (.int (getI ls p0)) else .unset)] [(.int (v5_1 zs ls p0 p1)), (.int (2 : Int32)), (.ref o0)])) _
            refine st65 _ ?_
            show Steps p.tables e below (T65.setTop (mkF m 80 #[.val (.ref o0), .val (.ref o1), .val (.int p0), .val (.int p1), .val (.int (v5_1 zs ls p0 p1)), .val (.int (v5_2 zs ls p0 p1)), (if (getI zs (getI ls p0)) < (getI zs (getI ls p1)) then .val (.int (getI ls p0)) else .unset)] [])) _
            refine XS.aloadN X65.here hx rfl (hb hby d5_80) rfl rfl ?_
            show Steps p.tables e below (T65.setTop (mkF m 81 #[.val (.ref o0), .val (.ref o1), .val (.int p0), .val (.int p1), .val (.int (v5_1 zs ls p0 p1)), .val (.int (v5_2 zs ls p0 p1)), (if (getI zs (getI ls p0)) < (getI zs (getI ls p1)) then .val (.int (getI ls p0)) else .unset)] [(.ref o0)])) _
            refine XS.iconst X65.here hx rfl (hb hby d5_81) ?_
            show Steps p.tables e below (T65.setTop (mkF m 82 #[.val (.ref o0), .val (.ref o1), .val (.int p0), .val (.int p1), .val (.int (v5_1 zs ls p0 p1)), .val (.int (v5_2 zs ls p0 p1)), (if (getI zs (getI ls p0)) < (getI zs (getI ls p1)) then .val (.int (getI ls p0)) else .unset)] [(.int (3 : Int32)), (.ref o0)])) _
            refine X65.iaload hx (j := (3 : Int32)) (v := (.int (getI (setI (setI ls (0 : Int32) (v5_1 zs ls p0 p1)) (2 : Int32) (v5_1 zs ls p0 p1)) (3 : Int32)))) (by rw [e65]; exact Ar66.1) (State.isArrayOf_alike hZ.alike Ar66.2.1) Ar66.2.2 hin66 hat66 (g := (mkF m 82 #[.val (.ref o0), .val (.ref o1), .val (.int p0), .val (.int p1), .val (.int (v5_1 zs ls p0 p1)), .val (.int (v5_2 zs ls p0 p1)), (if (getI zs (getI ls p0)) < (getI zs (getI ls p1)) then .val (.int (getI ls p0)) else .unset)] [(.int (3 : Int32)), (.ref o0)])) rfl rfl (hb hby d5_82) _ ?_
            show Steps p.tables e below (T65.setTop (mkF m 83 #[.val (.ref o0), .val (.ref o1), .val (.int p0), .val (.int p1), .val (.int (v5_1 zs ls p0 p1)), .val (.int (v5_2 zs ls p0 p1)), (if (getI zs (getI ls p0)) < (getI zs (getI ls p1)) then .val (.int (getI ls p0)) else .unset)] [(.int (v5_6 ls zs p0 p1))])) _
            refine XS.iload X65.here hx rfl (hb hby d5_83) rfl ?_
            show Steps p.tables e below (T65.setTop (mkF m 85 #[.val (.ref o0), .val (.ref o1), .val (.int p0), .val (.int p1), .val (.int (v5_1 zs ls p0 p1)), .val (.int (v5_2 zs ls p0 p1)), (if (getI zs (getI ls p0)) < (getI zs (getI ls p1)) then .val (.int (getI ls p0)) else .unset)] [(.int (v5_2 zs ls p0 p1)), (.int (v5_6 ls zs p0 p1))])) _
            exact k)
          by_cases hc85_68 : (v5_6 ls zs p0 p1) = (v5_2 zs ls p0 p1)
          · obtain ⟨cl69, Ar69, hin69, hat69⟩ := Ia.get (Vw65) (j := (3 : Int32)) ⟨by decide, by decide⟩
            obtain ⟨T70, h70, X70, e70, W70, st70⟩ := stI X65 hx hZ e65 Ar69 (j := (3 : Int32)) hin69 (g := (mkF m 92 #[.val (.ref o0), .val (.ref o1), .val (.int p0), .val (.int p1), .val (.int (v5_1 zs ls p0 p1)), .val (.int (v5_2 zs ls p0 p1)), (if (getI zs (getI ls p0)) < (getI zs (getI ls p1)) then .val (.int (getI ls p0)) else .unset)] [(.int (v5_1 zs ls p0 p1)), (.int (3 : Int32)), (.ref o0)])) rfl rfl (hb hby d5_92)
            have Vw70 := Ia.set (Vw65) (j := (3 : Int32)) (x := (v5_1 zs ls p0 p1)) ⟨by decide, by decide⟩ rfl W70
            have N70 := Fr.snoc X70 N65 g_o0
            have Z70 : n0 ≤ h70.size := Nat.le_trans Z65 (Keep.of_wr W70).1
            have K70 : Keep h0 h70 [o0, o1] := (K65).wr W70 (Or.inl (List.mem_of_getElem? (i := 0) rfl))
            obtain ⟨cl71, Ar71, hin71, hat71⟩ := Ia.get ((((V_o1.other W16 (Ne.symm ne_o0_o1)).other W65 (Ne.symm ne_o0_o1)).other W70 (Ne.symm ne_o0_o1))) (j := (v5_1 zs ls p0 p1)) (by first | exact own_ite hB.2.2.2 hB.2.2.1 | exact own_ite hB.2.2.1 hB.2.2.2)
            obtain ⟨cl72, Ar72, hin72, hat72⟩ := Ia.get ((((V_o1.other W16 (Ne.symm ne_o0_o1)).other W65 (Ne.symm ne_o0_o1)).other W70 (Ne.symm ne_o0_o1))) (j := (v5_2 zs ls p0 p1)) (by first | exact own_ite hB.2.2.2 hB.2.2.1 | exact own_ite hB.2.2.1 hB.2.2.2)
            obtain ⟨cl73, Ar73, hin73, hat73⟩ := Ia.get ((((V_o1.other W16 (Ne.symm ne_o0_o1)).other W65 (Ne.symm ne_o0_o1)).other W70 (Ne.symm ne_o0_o1))) (j := (v5_1 zs ls p0 p1)) (by first | exact own_ite hB.2.2.2 hB.2.2.1 | exact own_ite hB.2.2.1 hB.2.2.2)
            obtain ⟨T74, h74, X74, e74, W74, st74⟩ := stI X70 hx hZ e70 Ar73 (j := (v5_1 zs ls p0 p1)) hin73 (g := (mkF m 103 #[.val (.ref o0), .val (.ref o1), .val (.int p0), .val (.int p1), .val (.int (v5_1 zs ls p0 p1)), .val (.int (v5_2 zs ls p0 p1)), (if (getI zs (getI ls p0)) < (getI zs (getI ls p1)) then .val (.int (getI ls p0)) else .unset)] [(.int ((getI zs (v5_1 zs ls p0 p1)) + (getI zs (v5_2 zs ls p0 p1)))), (.int (v5_1 zs ls p0 p1)), (.ref o1)])) rfl rfl (hb hby d5_103)
            have Vw74 := Ia.set ((((V_o1.other W16 (Ne.symm ne_o0_o1)).other W65 (Ne.symm ne_o0_o1)).other W70 (Ne.symm ne_o0_o1))) (j := (v5_1 zs ls p0 p1)) (x := ((getI zs (v5_1 zs ls p0 p1)) + (getI zs (v5_2 zs ls p0 p1)))) (by first | exact own_ite hB.2.2.2 hB.2.2.1 | exact own_ite hB.2.2.1 hB.2.2.2) rfl W74
            have N74 := Fr.snoc X74 N70 g_o1
            have Z74 : n0 ≤ h74.size := Nat.le_trans Z70 (Keep.of_wr W74).1
            have K74 : Keep h0 h74 [o0, o1] := (K70).wr W74 (Or.inl (List.mem_of_getElem? (i := 1) rfl))
            obtain ⟨fs, hr, hrun, hended, hW, hsame⟩ := X74.leave (v := none) (fun _ => rfl) hlk
            refine ⟨_, _, pre67 _ ?_, hrun, hended, _, _, rfl, ?_, ⟨_, rfl⟩, hW, hsame.mono (by decide) (by decide)⟩
            · show Steps p.tables e below (T65.setTop (mkF m 85 #[.val (.ref o0), .val (.ref o1), .val (.int p0), .val (.int p1), .val (.int (v5_1 zs ls p0 p1)), .val (.int (v5_2 zs ls p0 p1)), (if (getI zs (getI ls p0)) < (getI zs (getI ls p1)) then .val (.int (getI ls p0)) else .unset)] [(.int (v5_2 zs ls p0 p1)), (.int (v5_6 ls zs p0 p1))])) _
              refine XS.icmpNo X65.here hx rfl (hb hby d5_85) rfl (teq hc85_68).2 ?_
              show Steps p.tables e below (T65.setTop (mkF m 88 #[.val (.ref o0), .val (.ref o1), .val (.int p0), .val (.int p1), .val (.int (v5_1 zs ls p0 p1)), .val (.int (v5_2 zs ls p0 p1)), (if (getI zs (getI ls p0)) < (getI zs (getI ls p1)) then .val (.int (getI ls p0)) else .unset)] [])) _
              refine XS.aloadN X65.here hx rfl (hb hby d5_88) rfl rfl ?_
              show Steps p.tables e below (T65.setTop (mkF m 89 #[.val (.ref o0), .val (.ref o1), .val (.int p0), .val (.int p1), .val (.int (v5_1 zs ls p0 p1)), .val (.int (v5_2 zs ls p0 p1)), (if (getI zs (getI ls p0)) < (getI zs (getI ls p1)) then .val (.int (getI ls p0)) else .unset)] [(.ref o0)])) _
              refine XS.iconst X65.here hx rfl (hb hby d5_89) ?_
              show Steps p.tables e below (T65.setTop (mkF m 90 #[.val (.ref o0), .val (.ref o1), .val (.int p0), .val (.int p1), .val (.int (v5_1 zs ls p0 p1)), .val (.int (v5_2 zs ls p0 p1)), (if (getI zs (getI ls p0)) < (getI zs (getI ls p1)) then .val (.int (getI ls p0)) else .unset)] [(.int (3 : Int32)), (.ref o0)])) _
              refine XS.iload X65.here hx rfl (hb hby d5_90) rfl ?_
              show Steps p.tables e below (T65.setTop (mkF m 92 #[.val (.ref o0), .val (.ref o1), .val (.int p0), .val (.int p1), .val (.int (v5_1 zs ls p0 p1)), .val (.int (v5_2 zs ls p0 p1)), (if (getI zs (getI ls p0)) < (getI zs (getI ls p1)) then .val (.int (getI ls p0)) else .unset)] [(.int (v5_1 zs ls p0 p1)), (.int (3 : Int32)), (.ref o0)])) _
              refine st70 _ ?_
              show Steps p.tables e below (T70.setTop (mkF m 93 #[.val (.ref o0), .val (.ref o1), .val (.int p0), .val (.int p1), .val (.int (v5_1 zs ls p0 p1)), .val (.int (v5_2 zs ls p0 p1)), (if (getI zs (getI ls p0)) < (getI zs (getI ls p1)) then .val (.int (getI ls p0)) else .unset)] [])) _
              refine XS.aloadN X70.here hx rfl (hb hby d5_93) rfl rfl ?_
              show Steps p.tables e below (T70.setTop (mkF m 94 #[.val (.ref o0), .val (.ref o1), .val (.int p0), .val (.int p1), .val (.int (v5_1 zs ls p0 p1)), .val (.int (v5_2 zs ls p0 p1)), (if (getI zs (getI ls p0)) < (getI zs (getI ls p1)) then .val (.int (getI ls p0)) else .unset)] [(.ref o1)])) _
              refine XS.iload X70.here hx rfl (hb hby d5_94) rfl ?_
              show Steps p.tables e below (T70.setTop (mkF m 96 #[.val (.ref o0), .val (.ref o1), .val (.int p0), .val (.int p1), .val (.int (v5_1 zs ls p0 p1)), .val (.int (v5_2 zs ls p0 p1)), (if (getI zs (getI ls p0)) < (getI zs (getI ls p1)) then .val (.int (getI ls p0)) else .unset)] [(.int (v5_1 zs ls p0 p1)), (.ref o1)])) _
              refine XT.dup2 X70.here hx rfl (hb hby d5_96) rfl rfl rfl ?_
              show Steps p.tables e below (T70.setTop (mkF m 97 #[.val (.ref o0), .val (.ref o1), .val (.int p0), .val (.int p1), .val (.int (v5_1 zs ls p0 p1)), .val (.int (v5_2 zs ls p0 p1)), (if (getI zs (getI ls p0)) < (getI zs (getI ls p1)) then .val (.int (getI ls p0)) else .unset)] [(.int (v5_1 zs ls p0 p1)), (.ref o1), (.int (v5_1 zs ls p0 p1)), (.ref o1)])) _
              refine X70.iaload hx (j := (v5_1 zs ls p0 p1)) (v := (.int (getI zs (v5_1 zs ls p0 p1)))) (by rw [e70]; exact Ar71.1) (State.isArrayOf_alike hZ.alike Ar71.2.1) Ar71.2.2 hin71 hat71 (g := (mkF m 97 #[.val (.ref o0), .val (.ref o1), .val (.int p0), .val (.int p1), .val (.int (v5_1 zs ls p0 p1)), .val (.int (v5_2 zs ls p0 p1)), (if (getI zs (getI ls p0)) < (getI zs (getI ls p1)) then .val (.int (getI ls p0)) else .unset)] [(.int (v5_1 zs ls p0 p1)), (.ref o1), (.int (v5_1 zs ls p0 p1)), (.ref o1)])) rfl rfl (hb hby d5_97) _ ?_
              show Steps p.tables e below (T70.setTop (mkF m 98 #[.val (.ref o0), .val (.ref o1), .val (.int p0), .val (.int p1), .val (.int (v5_1 zs ls p0 p1)), .val (.int (v5_2 zs ls p0 p1)), (if (getI zs (getI ls p0)) < (getI zs (getI ls p1)) then .val (.int (getI ls p0)) else .unset)] [(.int (getI zs (v5_1 zs ls p0 p1))), (.int (v5_1 zs ls p0 p1)), (.ref o1)])) _
              refine XS.aloadN X70.here hx rfl (hb hby d5_98) rfl rfl ?_
              show Steps p.tables e below (T70.setTop (mkF m 99 #[.val (.ref o0), .val (.ref o1), .val (.int p0), .val (.int p1), .val (.int (v5_1 zs ls p0 p1)), .val (.int (v5_2 zs ls p0 p1)), (if (getI zs (getI ls p0)) < (getI zs (getI ls p1)) then .val (.int (getI ls p0)) else .unset)] [(.ref o1), (.int (getI zs (v5_1 zs ls p0 p1))), (.int (v5_1 zs ls p0 p1)), (.ref o1)])) _
              refine XS.iload X70.here hx rfl (hb hby d5_99) rfl ?_
              show Steps p.tables e below (T70.setTop (mkF m 101 #[.val (.ref o0), .val (.ref o1), .val (.int p0), .val (.int p1), .val (.int (v5_1 zs ls p0 p1)), .val (.int (v5_2 zs ls p0 p1)), (if (getI zs (getI ls p0)) < (getI zs (getI ls p1)) then .val (.int (getI ls p0)) else .unset)] [(.int (v5_2 zs ls p0 p1)), (.ref o1), (.int (getI zs (v5_1 zs ls p0 p1))), (.int (v5_1 zs ls p0 p1)), (.ref o1)])) _
              refine X70.iaload hx (j := (v5_2 zs ls p0 p1)) (v := (.int (getI zs (v5_2 zs ls p0 p1)))) (by rw [e70]; exact Ar72.1) (State.isArrayOf_alike hZ.alike Ar72.2.1) Ar72.2.2 hin72 hat72 (g := (mkF m 101 #[.val (.ref o0), .val (.ref o1), .val (.int p0), .val (.int p1), .val (.int (v5_1 zs ls p0 p1)), .val (.int (v5_2 zs ls p0 p1)), (if (getI zs (getI ls p0)) < (getI zs (getI ls p1)) then .val (.int (getI ls p0)) else .unset)] [(.int (v5_2 zs ls p0 p1)), (.ref o1), (.int (getI zs (v5_1 zs ls p0 p1))), (.int (v5_1 zs ls p0 p1)), (.ref o1)])) rfl rfl (hb hby d5_101) _ ?_
              show Steps p.tables e below (T70.setTop (mkF m 102 #[.val (.ref o0), .val (.ref o1), .val (.int p0), .val (.int p1), .val (.int (v5_1 zs ls p0 p1)), .val (.int (v5_2 zs ls p0 p1)), (if (getI zs (getI ls p0)) < (getI zs (getI ls p1)) then .val (.int (getI ls p0)) else .unset)] [(.int (getI zs (v5_2 zs ls p0 p1))), (.int (getI zs (v5_1 zs ls p0 p1))), (.int (v5_1 zs ls p0 p1)), (.ref o1)])) _
              refine XS.iadd X70.here hx rfl (hb hby d5_102) rfl ?_
              show Steps p.tables e below (T70.setTop (mkF m 103 #[.val (.ref o0), .val (.ref o1), .val (.int p0), .val (.int p1), .val (.int (v5_1 zs ls p0 p1)), .val (.int (v5_2 zs ls p0 p1)), (if (getI zs (getI ls p0)) < (getI zs (getI ls p1)) then .val (.int (getI ls p0)) else .unset)] [(.int ((getI zs (v5_1 zs ls p0 p1)) + (getI zs (v5_2 zs ls p0 p1)))), (.int (v5_1 zs ls p0 p1)), (.ref o1)])) _
              refine st74 _ ?_
              show Steps p.tables e below (T74.setTop (mkF m 104 #[.val (.ref o0), .val (.ref o1), .val (.int p0), .val (.int p1), .val (.int (v5_1 zs ls p0 p1)), .val (.int (v5_2 zs ls p0 p1)), (if (getI zs (getI ls p0)) < (getI zs (getI ls p1)) then .val (.int (getI ls p0)) else .unset)] [])) _
              exact X74.returnOut hx Bd.returns (hb hby d5_104) hr
            · show Q5 Z o0 o1 p0 p1 ka ls kb zs h0 n0 _ T74.heap _
              rw [e74]
              have hg75 : (g5_o0 p0 p1 ls zs) = (setI (setI (setI ls (0 : Int32) (v5_1 zs ls p0 p1)) (2 : Int32) (v5_1 zs ls p0 p1)) (3 : Int32) (v5_1 zs ls p0 p1)) := by simp only [g5_o0, if_neg hc14_4, if_pos hc46_14, if_neg hc59_19, if_pos hc72_63, if_pos hc85_68]
              have hg76 : (g5_o1 p0 p1 ls zs) = (setI zs (v5_1 zs ls p0 p1) ((getI zs (v5_1 zs ls p0 p1)) + (getI zs (v5_2 zs ls p0 p1)))) := by simp only [g5_o1, if_neg hc14_4, if_pos hc46_14, if_neg hc59_19, if_pos hc72_63, if_pos hc85_68]
              exact ⟨rfl, N74, K74, (by rw [hg75]; exact (Vw70.other W74 ne_o0_o1)), (by rw [hg76]; exact Vw74)⟩
          · obtain ⟨cl77, Ar77, hin77, hat77⟩ := Ia.get (((V_o1.other W16 (Ne.symm ne_o0_o1)).other W65 (Ne.symm ne_o0_o1))) (j := (v5_1 zs ls p0 p1)) (by first | exact own_ite hB.2.2.2 hB.2.2.1 | exact own_ite hB.2.2.1 hB.2.2.2)
            obtain ⟨cl78, Ar78, hin78, hat78⟩ := Ia.get (((V_o1.other W16 (Ne.symm ne_o0_o1)).other W65 (Ne.symm ne_o0_o1))) (j := (v5_2 zs ls p0 p1)) (by first | exact own_ite hB.2.2.2 hB.2.2.1 | exact own_ite hB.2.2.1 hB.2.2.2)
            obtain ⟨cl79, Ar79, hin79, hat79⟩ := Ia.get (((V_o1.other W16 (Ne.symm ne_o0_o1)).other W65 (Ne.symm ne_o0_o1))) (j := (v5_1 zs ls p0 p1)) (by first | exact own_ite hB.2.2.2 hB.2.2.1 | exact own_ite hB.2.2.1 hB.2.2.2)
            obtain ⟨T80, h80, X80, e80, W80, st80⟩ := stI X65 hx hZ e65 Ar79 (j := (v5_1 zs ls p0 p1)) hin79 (g := (mkF m 103 #[.val (.ref o0), .val (.ref o1), .val (.int p0), .val (.int p1), .val (.int (v5_1 zs ls p0 p1)), .val (.int (v5_2 zs ls p0 p1)), (if (getI zs (getI ls p0)) < (getI zs (getI ls p1)) then .val (.int (getI ls p0)) else .unset)] [(.int ((getI zs (v5_1 zs ls p0 p1)) + (getI zs (v5_2 zs ls p0 p1)))), (.int (v5_1 zs ls p0 p1)), (.ref o1)])) rfl rfl (hb hby d5_103)
            have Vw80 := Ia.set (((V_o1.other W16 (Ne.symm ne_o0_o1)).other W65 (Ne.symm ne_o0_o1))) (j := (v5_1 zs ls p0 p1)) (x := ((getI zs (v5_1 zs ls p0 p1)) + (getI zs (v5_2 zs ls p0 p1)))) (by first | exact own_ite hB.2.2.2 hB.2.2.1 | exact own_ite hB.2.2.1 hB.2.2.2) rfl W80
            have N80 := Fr.snoc X80 N65 g_o1
            have Z80 : n0 ≤ h80.size := Nat.le_trans Z65 (Keep.of_wr W80).1
            have K80 : Keep h0 h80 [o0, o1] := (K65).wr W80 (Or.inl (List.mem_of_getElem? (i := 1) rfl))
            obtain ⟨fs, hr, hrun, hended, hW, hsame⟩ := X80.leave (v := none) (fun _ => rfl) hlk
            refine ⟨_, _, pre67 _ ?_, hrun, hended, _, _, rfl, ?_, ⟨_, rfl⟩, hW, hsame.mono (by decide) (by decide)⟩
            · show Steps p.tables e below (T65.setTop (mkF m 85 #[.val (.ref o0), .val (.ref o1), .val (.int p0), .val (.int p1), .val (.int (v5_1 zs ls p0 p1)), .val (.int (v5_2 zs ls p0 p1)), (if (getI zs (getI ls p0)) < (getI zs (getI ls p1)) then .val (.int (getI ls p0)) else .unset)] [(.int (v5_2 zs ls p0 p1)), (.int (v5_6 ls zs p0 p1))])) _
              refine XS.icmpYes X65.here hx rfl (pc0 := 85) (pc' := 93) rfl (hb hby d5_85) rfl (feq hc85_68).2 (by decide) (by decide) ?_
              show Steps p.tables e below (T65.setTop (mkF m 93 #[.val (.ref o0), .val (.ref o1), .val (.int p0), .val (.int p1), .val (.int (v5_1 zs ls p0 p1)), .val (.int (v5_2 zs ls p0 p1)), (if (getI zs (getI ls p0)) < (getI zs (getI ls p1)) then .val (.int (getI ls p0)) else .unset)] [])) _
              refine XS.aloadN X65.here hx rfl (hb hby d5_93) rfl rfl ?_
              show Steps p.tables e below (T65.setTop (mkF m 94 #[.val (.ref o0), .val (.ref o1), .val (.int p0), .val (.int p1), .val (.int (v5_1 zs ls p0 p1)), .val (.int (v5_2 zs ls p0 p1)), (if (getI zs (getI ls p0)) < (getI zs (getI ls p1)) then .val (.int (getI ls p0)) else .unset)] [(.ref o1)])) _
              refine XS.iload X65.here hx rfl (hb hby d5_94) rfl ?_
              show Steps p.tables e below (T65.setTop (mkF m 96 #[.val (.ref o0), .val (.ref o1), .val (.int p0), .val (.int p1), .val (.int (v5_1 zs ls p0 p1)), .val (.int (v5_2 zs ls p0 p1)), (if (getI zs (getI ls p0)) < (getI zs (getI ls p1)) then .val (.int (getI ls p0)) else .unset)] [(.int (v5_1 zs ls p0 p1)), (.ref o1)])) _
              refine XT.dup2 X65.here hx rfl (hb hby d5_96) rfl rfl rfl ?_
              show Steps p.tables e below (T65.setTop (mkF m 97 #[.val (.ref o0), .val (.ref o1), .val (.int p0), .val (.int p1), .val (.int (v5_1 zs ls p0 p1)), .val (.int (v5_2 zs ls p0 p1)), (if (getI zs (getI ls p0)) < (getI zs (getI ls p1)) then .val (.int (getI ls p0)) else .unset)] [(.int (v5_1 zs ls p0 p1)), (.ref o1), (.int (v5_1 zs ls p0 p1)), (.ref o1)])) _
              refine X65.iaload hx (j := (v5_1 zs ls p0 p1)) (v := (.int (getI zs (v5_1 zs ls p0 p1)))) (by rw [e65]; exact Ar77.1) (State.isArrayOf_alike hZ.alike Ar77.2.1) Ar77.2.2 hin77 hat77 (g := (mkF m 97 #[.val (.ref o0), .val (.ref o1), .val (.int p0), .val (.int p1), .val (.int (v5_1 zs ls p0 p1)), .val (.int (v5_2 zs ls p0 p1)), (if (getI zs (getI ls p0)) < (getI zs (getI ls p1)) then .val (.int (getI ls p0)) else .unset)] [(.int (v5_1 zs ls p0 p1)), (.ref o1), (.int (v5_1 zs ls p0 p1)), (.ref o1)])) rfl rfl (hb hby d5_97) _ ?_
              show Steps p.tables e below (T65.setTop (mkF m 98 #[.val (.ref o0), .val (.ref o1), .val (.int p0), .val (.int p1), .val (.int (v5_1 zs ls p0 p1)), .val (.int (v5_2 zs ls p0 p1)), (if (getI zs (getI ls p0)) < (getI zs (getI ls p1)) then .val (.int (getI ls p0)) else .unset)] [(.int (getI zs (v5_1 zs ls p0 p1))), (.int (v5_1 zs ls p0 p1)), (.ref o1)])) _
              refine XS.aloadN X65.here hx rfl (hb hby d5_98) rfl rfl ?_
              show Steps p.tables e below (T65.setTop (mkF m 99 #[.val (.ref o0), .val (.ref o1), .val (.int p0), .val (.int p1), .val (.int (v5_1 zs ls p0 p1)), .val (.int (v5_2 zs ls p0 p1)), (if (getI zs (getI ls p0)) < (getI zs (getI ls p1)) then .val (.int (getI ls p0)) else .unset)] [(.ref o1), (.int (getI zs (v5_1 zs ls p0 p1))), (.int (v5_1 zs ls p0 p1)), (.ref o1)])) _
              refine XS.iload X65.here hx rfl (hb hby d5_99) rfl ?_
              show Steps p.tables e below (T65.setTop (mkF m 101 #[.val (.ref o0), .val (.ref o1), .val (.int p0), .val (.int p1), .val (.int (v5_1 zs ls p0 p1)), .val (.int (v5_2 zs ls p0 p1)), (if (getI zs (getI ls p0)) < (getI zs (getI ls p1)) then .val (.int (getI ls p0)) else .unset)] [(.int (v5_2 zs ls p0 p1)), (.ref o1), (.int (getI zs (v5_1 zs ls p0 p1))), (.int (v5_1 zs ls p0 p1)), (.ref o1)])) _
              refine X65.iaload hx (j := (v5_2 zs ls p0 p1)) (v := (.int (getI zs (v5_2 zs ls p0 p1)))) (by rw [e65]; exact Ar78.1) (State.isArrayOf_alike hZ.alike Ar78.2.1) Ar78.2.2 hin78 hat78 (g := (mkF m 101 #[.val (.ref o0), .val (.ref o1), .val (.int p0), .val (.int p1), .val (.int (v5_1 zs ls p0 p1)), .val (.int (v5_2 zs ls p0 p1)), (if (getI zs (getI ls p0)) < (getI zs (getI ls p1)) then .val (.int (getI ls p0)) else .unset)] [(.int (v5_2 zs ls p0 p1)), (.ref o1), (.int (getI zs (v5_1 zs ls p0 p1))), (.int (v5_1 zs ls p0 p1)), (.ref o1)])) rfl rfl (hb hby d5_101) _ ?_
              show Steps p.tables e below (T65.setTop (mkF m 102 #[.val (.ref o0), .val (.ref o1), .val (.int p0), .val (.int p1), .val (.int (v5_1 zs ls p0 p1)), .val (.int (v5_2 zs ls p0 p1)), (if (getI zs (getI ls p0)) < (getI zs (getI ls p1)) then .val (.int (getI ls p0)) else .unset)] [(.int (getI zs (v5_2 zs ls p0 p1))), (.int (getI zs (v5_1 zs ls p0 p1))), (.int (v5_1 zs ls p0 p1)), (.ref o1)])) _
              refine XS.iadd X65.here hx rfl (hb hby d5_102) rfl ?_
              show Steps p.tables e below (T65.setTop (mkF m 103 #[.val (.ref o0), .val (.ref o1), .val (.int p0), .val (.int p1), .val (.int (v5_1 zs ls p0 p1)), .val (.int (v5_2 zs ls p0 p1)), (if (getI zs (getI ls p0)) < (getI zs (getI ls p1)) then .val (.int (getI ls p0)) else .unset)] [(.int ((getI zs (v5_1 zs ls p0 p1)) + (getI zs (v5_2 zs ls p0 p1)))), (.int (v5_1 zs ls p0 p1)), (.ref o1)])) _
              refine st80 _ ?_
              show Steps p.tables e below (T80.setTop (mkF m 104 #[.val (.ref o0), .val (.ref o1), .val (.int p0), .val (.int p1), .val (.int (v5_1 zs ls p0 p1)), .val (.int (v5_2 zs ls p0 p1)), (if (getI zs (getI ls p0)) < (getI zs (getI ls p1)) then .val (.int (getI ls p0)) else .unset)] [])) _
              exact X80.returnOut hx Bd.returns (hb hby d5_104) hr
            · show Q5 Z o0 o1 p0 p1 ka ls kb zs h0 n0 _ T80.heap _
              rw [e80]
              have hg81 : (g5_o0 p0 p1 ls zs) = (setI (setI ls (0 : Int32) (v5_1 zs ls p0 p1)) (2 : Int32) (v5_1 zs ls p0 p1)) := by simp only [g5_o0, if_neg hc14_4, if_pos hc46_14, if_neg hc59_19, if_pos hc72_63, if_neg hc85_68]
              have hg82 : (g5_o1 p0 p1 ls zs) = (setI zs (v5_1 zs ls p0 p1) ((getI zs (v5_1 zs ls p0 p1)) + (getI zs (v5_2 zs ls p0 p1)))) := by simp only [g5_o1, if_neg hc14_4, if_pos hc46_14, if_neg hc59_19, if_pos hc72_63, if_neg hc85_68]
              exact ⟨rfl, N80, K80, (by rw [hg81]; exact (Vw65.other W80 ne_o0_o1)), (by rw [hg82]; exact Vw80)⟩
        · obtain ⟨cl83, Ar83, hin83, hat83⟩ := Ia.get (Vw16) (j := (3 : Int32)) ⟨by decide, by decide⟩
          have pre84 : ∀ t, Steps p.tables e below (T16.setTop (mkF m 85 #[.val (.ref o0), .val (.ref o1), .val (.int p0), .val (.int p1), .val (.int (v5_1 zs ls p0 p1)), .val (.int (v5_2 zs ls p0 p1)), (if (getI zs (getI ls p0)) < (getI zs (getI ls p1)) then .val (.int (getI ls p0)) else .unset)] [(.int (v5_2 zs ls p0 p1)), (.int (getI (setI ls (0 : Int32) (v5_1 zs ls p0 p1)) (3 : Int32)))])) t → Steps p.tables e below (s₁.setTop (entryFrame m #[(.ref o0), (.ref o1), (.int p0), (.int p1)] 7)) t := fun t k => pre62 t (by
            show Steps p.tables e below (T16.setTop (mkF m 72 #[.val (.ref o0), .val (.ref o1), .val (.int p0), .val (.int p1), .val (.int (v5_1 zs ls p0 p1)), .val (.int (v5_2 zs ls p0 p1)), (if (getI zs (getI ls p0)) < (getI zs (getI ls p1)) then .val (.int (getI ls p0)) else .unset)] [(.int (v5_2 zs ls p0 p1)), (.int (getI (setI ls (0 : Int32) (v5_1 zs ls p0 p1)) (2 : Int32)))])) _
            refine XS.icmpYes X16.here hx rfl (pc0 := 72) (pc' := 80) rfl (hb hby d5_72) rfl (feq hc72_63).2 (by decide) (by decide) ?_
            show Steps p.tables e below (T16.setTop (mkF m 80 #[.val (.ref o0), .val (.ref o1), .val (.int p0), .val (.int p1), .val (.int (v5_1 zs ls p0 p1)), .val (.int (v5_2 zs ls p0 p1)), (if (getI zs (getI ls p0)) < (getI zs (getI ls p1)) then .val (.int (getI ls p0)) else .unset)] [])) _
            refine XS.aloadN X16.here hx rfl (hb hby d5_80) rfl rfl ?_
            show Steps p.tables e below (T16.setTop (mkF m 81 #[.val (.ref o0), .val (.ref o1), .val (.int p0), .val (.int p1), .val (.int (v5_1 zs ls p0 p1)), .val (.int (v5_2 zs ls p0 p1)), (if (getI zs (getI ls p0)) < (getI zs (getI ls p1)) then .val (.int (getI ls p0)) else .unset)] [(.ref o0)])) _
            refine XS.iconst X16.here hx rfl (hb hby d5_81) ?_
            show Steps p.tables e below (T16.setTop (mkF m 82 #[.val (.ref o0), .val (.ref o1), .val (.int p0), .val (.int p1), .val (.int (v5_1 zs ls p0 p1)), .val (.int (v5_2 zs ls p0 p1)), (if (getI zs (getI ls p0)) < (getI zs (getI ls p1)) then .val (.int (getI ls p0)) else .unset)] [(.int (3 : Int32)), (.ref o0)])) _
            refine X16.iaload hx (j := (3 : Int32)) (v := (.int (getI (setI ls (0 : Int32) (v5_1 zs ls p0 p1)) (3 : Int32)))) (by rw [e16]; exact Ar83.1) (State.isArrayOf_alike hZ.alike Ar83.2.1) Ar83.2.2 hin83 hat83 (g := (mkF m 82 #[.val (.ref o0), .val (.ref o1), .val (.int p0), .val (.int p1), .val (.int (v5_1 zs ls p0 p1)), .val (.int (v5_2 zs ls p0 p1)), (if (getI zs (getI ls p0)) < (getI zs (getI ls p1)) then .val (.int (getI ls p0)) else .unset)] [(.int (3 : Int32)), (.ref o0)])) rfl rfl (hb hby d5_82) _ ?_
            show Steps p.tables e below (T16.setTop (mkF m 83 #[.val (.ref o0), .val (.ref o1), .val (.int p0), .val (.int p1), .val (.int (v5_1 zs ls p0 p1)), .val (.int (v5_2 zs ls p0 p1)), (if (getI zs (getI ls p0)) < (getI zs (getI ls p1)) then .val (.int (getI ls p0)) else .unset)] [(.int (getI (setI ls (0 : Int32) (v5_1 zs ls p0 p1)) (3 : Int32)))])) _
            refine XS.iload X16.here hx rfl (hb hby d5_83) rfl ?_
            show Steps p.tables e below (T16.setTop (mkF m 85 #[.val (.ref o0), .val (.ref o1), .val (.int p0), .val (.int p1), .val (.int (v5_1 zs ls p0 p1)), .val (.int (v5_2 zs ls p0 p1)), (if (getI zs (getI ls p0)) < (getI zs (getI ls p1)) then .val (.int (getI ls p0)) else .unset)] [(.int (v5_2 zs ls p0 p1)), (.int (getI (setI ls (0 : Int32) (v5_1 zs ls p0 p1)) (3 : Int32)))])) _
            exact k)
          by_cases hc85_85 : (getI (setI ls (0 : Int32) (v5_1 zs ls p0 p1)) (3 : Int32)) = (v5_2 zs ls p0 p1)
          · obtain ⟨cl86, Ar86, hin86, hat86⟩ := Ia.get (Vw16) (j := (3 : Int32)) ⟨by decide, by decide⟩
            obtain ⟨T87, h87, X87, e87, W87, st87⟩ := stI X16 hx hZ e16 Ar86 (j := (3 : Int32)) hin86 (g := (mkF m 92 #[.val (.ref o0), .val (.ref o1), .val (.int p0), .val (.int p1), .val (.int (v5_1 zs ls p0 p1)), .val (.int (v5_2 zs ls p0 p1)), (if (getI zs (getI ls p0)) < (getI zs (getI ls p1)) then .val (.int (getI ls p0)) else .unset)] [(.int (v5_1 zs ls p0 p1)), (.int (3 : Int32)), (.ref o0)])) rfl rfl (hb hby d5_92)
            have Vw87 := Ia.set (Vw16) (j := (3 : Int32)) (x := (v5_1 zs ls p0 p1)) ⟨by decide, by decide⟩ rfl W87
            have N87 := Fr.snoc X87 N16 g_o0
            have Z87 : n0 ≤ h87.size := Nat.le_trans Z16 (Keep.of_wr W87).1
            have K87 : Keep h0 h87 [o0, o1] := (K16).wr W87 (Or.inl (List.mem_of_getElem? (i := 0) rfl))
            obtain ⟨cl88, Ar88, hin88, hat88⟩ := Ia.get (((V_o1.other W16 (Ne.symm ne_o0_o1)).other W87 (Ne.symm ne_o0_o1))) (j := (v5_1 zs ls p0 p1)) (by first | exact own_ite hB.2.2.2 hB.2.2.1 | exact own_ite hB.2.2.1 hB.2.2.2)
            obtain ⟨cl89, Ar89, hin89, hat89⟩ := Ia.get (((V_o1.other W16 (Ne.symm ne_o0_o1)).other W87 (Ne.symm ne_o0_o1))) (j := (v5_2 zs ls p0 p1)) (by first | exact own_ite hB.2.2.2 hB.2.2.1 | exact own_ite hB.2.2.1 hB.2.2.2)
            obtain ⟨cl90, Ar90, hin90, hat90⟩ := Ia.get (((V_o1.other W16 (Ne.symm ne_o0_o1)).other W87 (Ne.symm ne_o0_o1))) (j := (v5_1 zs ls p0 p1)) (by first | exact own_ite hB.2.2.2 hB.2.2.1 | exact own_ite hB.2.2.1 hB.2.2.2)
            obtain ⟨T91, h91, X91, e91, W91, st91⟩ := stI X87 hx hZ e87 Ar90 (j := (v5_1 zs ls p0 p1)) hin90 (g := (mkF m 103 #[.val (.ref o0), .val (.ref o1), .val (.int p0), .val (.int p1), .val (.int (v5_1 zs ls p0 p1)), .val (.int (v5_2 zs ls p0 p1)), (if (getI zs (getI ls p0)) < (getI zs (getI ls p1)) then .val (.int (getI ls p0)) else .unset)] [(.int ((getI zs (v5_1 zs ls p0 p1)) + (getI zs (v5_2 zs ls p0 p1)))), (.int (v5_1 zs ls p0 p1)), (.ref o1)])) rfl rfl (hb hby d5_103)
            have Vw91 := Ia.set (((V_o1.other W16 (Ne.symm ne_o0_o1)).other W87 (Ne.symm ne_o0_o1))) (j := (v5_1 zs ls p0 p1)) (x := ((getI zs (v5_1 zs ls p0 p1)) + (getI zs (v5_2 zs ls p0 p1)))) (by first | exact own_ite hB.2.2.2 hB.2.2.1 | exact own_ite hB.2.2.1 hB.2.2.2) rfl W91
            have N91 := Fr.snoc X91 N87 g_o1
            have Z91 : n0 ≤ h91.size := Nat.le_trans Z87 (Keep.of_wr W91).1
            have K91 : Keep h0 h91 [o0, o1] := (K87).wr W91 (Or.inl (List.mem_of_getElem? (i := 1) rfl))
            obtain ⟨fs, hr, hrun, hended, hW, hsame⟩ := X91.leave (v := none) (fun _ => rfl) hlk
            refine ⟨_, _, pre84 _ ?_, hrun, hended, _, _, rfl, ?_, ⟨_, rfl⟩, hW, hsame.mono (by decide) (by decide)⟩
            · show Steps p.tables e below (T16.setTop (mkF m 85 #[.val (.ref o0), .val (.ref o1), .val (.int p0), .val (.int p1), .val (.int (v5_1 zs ls p0 p1)), .val (.int (v5_2 zs ls p0 p1)), (if (getI zs (getI ls p0)) < (getI zs (getI ls p1)) then .val (.int (getI ls p0)) else .unset)] [(.int (v5_2 zs ls p0 p1)), (.int (getI (setI ls (0 : Int32) (v5_1 zs ls p0 p1)) (3 : Int32)))])) _
              refine XS.icmpNo X16.here hx rfl (hb hby d5_85) rfl (teq hc85_85).2 ?_
              show Steps p.tables e below (T16.setTop (mkF m 88 #[.val (.ref o0), .val (.ref o1), .val (.int p0), .val (.int p1), .val (.int (v5_1 zs ls p0 p1)), .val (.int (v5_2 zs ls p0 p1)), (if (getI zs (getI ls p0)) < (getI zs (getI ls p1)) then .val (.int (getI ls p0)) else .unset)] [])) _
              refine XS.aloadN X16.here hx rfl (hb hby d5_88) rfl rfl ?_
              show Steps p.tables e below (T16.setTop (mkF m 89 #[.val (.ref o0), .val (.ref o1), .val (.int p0), .val (.int p1), .val (.int (v5_1 zs ls p0 p1)), .val (.int (v5_2 zs ls p0 p1)), (if (getI zs (getI ls p0)) < (getI zs (getI ls p1)) then .val (.int (getI ls p0)) else .unset)] [(.ref o0)])) _
              refine XS.iconst X16.here hx rfl (hb hby d5_89) ?_
              show Steps p.tables e below (T16.setTop (mkF m 90 #[.val (.ref o0), .val (.ref o1), .val (.int p0), .val (.int p1), .val (.int (v5_1 zs ls p0 p1)), .val (.int (v5_2 zs ls p0 p1)), (if (getI zs (getI ls p0)) < (getI zs (getI ls p1)) then .val (.int (getI ls p0)) else .unset)] [(.int (3 : Int32)), (.ref o0)])) _
              refine XS.iload X16.here hx rfl (hb hby d5_90) rfl ?_
              show Steps p.tables e below (T16.setTop (mkF m 92 #[.val (.ref o0), .val (.ref o1), .val (.int p0), .val (.int p1), .val (.int (v5_1 zs ls p0 p1)), .val (.int (v5_2 zs ls p0 p1)), (if (getI zs (getI ls p0)) < (getI zs (getI ls p1)) then .val (.int (getI ls p0)) else .unset)] [(.int (v5_1 zs ls p0 p1)), (.int (3 : Int32)), (.ref o0)])) _
              refine st87 _ ?_
              show Steps p.tables e below (T87.setTop (mkF m 93 #[.val (.ref o0), .val (.ref o1), .val (.int p0), .val (.int p1), .val (.int (v5_1 zs ls p0 p1)), .val (.int (v5_2 zs ls p0 p1)), (if (getI zs (getI ls p0)) < (getI zs (getI ls p1)) then .val (.int (getI ls p0)) else .unset)] [])) _
              refine XS.aloadN X87.here hx rfl (hb hby d5_93) rfl rfl ?_
              show Steps p.tables e below (T87.setTop (mkF m 94 #[.val (.ref o0), .val (.ref o1), .val (.int p0), .val (.int p1), .val (.int (v5_1 zs ls p0 p1)), .val (.int (v5_2 zs ls p0 p1)), (if (getI zs (getI ls p0)) < (getI zs (getI ls p1)) then .val (.int (getI ls p0)) else .unset)] [(.ref o1)])) _
              refine XS.iload X87.here hx rfl (hb hby d5_94) rfl ?_
              show Steps p.tables e below (T87.setTop (mkF m 96 #[.val (.ref o0), .val (.ref o1), .val (.int p0), .val (.int p1), .val (.int (v5_1 zs ls p0 p1)), .val (.int (v5_2 zs ls p0 p1)), (if (getI zs (getI ls p0)) < (getI zs (getI ls p1)) then .val (.int (getI ls p0)) else .unset)] [(.int (v5_1 zs ls p0 p1)), (.ref o1)])) _
              refine XT.dup2 X87.here hx rfl (hb hby d5_96) rfl rfl rfl ?_
              show Steps p.tables e below (T87.setTop (mkF m 97 #[.val (.ref o0), .val (.ref o1), .val (.int p0), .val (.int p1), .val (.int (v5_1 zs ls p0 p1)), .val (.int (v5_2 zs ls p0 p1)), (if (getI zs (getI ls p0)) < (getI zs (getI ls p1)) then .val (.int (getI ls p0)) else .unset)] [(.int (v5_1 zs ls p0 p1)), (.ref o1), (.int (v5_1 zs ls p0 p1)), (.ref o1)])) _
              refine X87.iaload hx (j := (v5_1 zs ls p0 p1)) (v := (.int (getI zs (v5_1 zs ls p0 p1)))) (by rw [e87]; exact Ar88.1) (State.isArrayOf_alike hZ.alike Ar88.2.1) Ar88.2.2 hin88 hat88 (g := (mkF m 97 #[.val (.ref o0), .val (.ref o1), .val (.int p0), .val (.int p1), .val (.int (v5_1 zs ls p0 p1)), .val (.int (v5_2 zs ls p0 p1)), (if (getI zs (getI ls p0)) < (getI zs (getI ls p1)) then .val (.int (getI ls p0)) else .unset)] [(.int (v5_1 zs ls p0 p1)), (.ref o1), (.int (v5_1 zs ls p0 p1)), (.ref o1)])) rfl rfl (hb hby d5_97) _ ?_
              show Steps p.tables e below (T87.setTop (mkF m 98 #[.val (.ref o0), .val (.ref o1), .val (.int p0), .val (.int p1), .val (.int (v5_1 zs ls p0 p1)), .val (.int (v5_2 zs ls p0 p1)), (if (getI zs (getI ls p0)) < (getI zs (getI ls p1)) then .val (.int (getI ls p0)) else .unset)] [(.int (getI zs (v5_1 zs ls p0 p1))), (.int (v5_1 zs ls p0 p1)), (.ref o1)])) _
              refine XS.aloadN X87.here hx rfl (hb hby d5_98) rfl rfl ?_
              show Steps p.tables e below (T87.setTop (mkF m 99 #[.val (.ref o0), .val (.ref o1), .val (.int p0), .val (.int p1), .val (.int (v5_1 zs ls p0 p1)), .val (.int (v5_2 zs ls p0 p1)), (if (getI zs (getI ls p0)) < (getI zs (getI ls p1)) then .val (.int (getI ls p0)) else .unset)] [(.ref o1), (.int (getI zs (v5_1 zs ls p0 p1))), (.int (v5_1 zs ls p0 p1)), (.ref o1)])) _
              refine XS.iload X87.here hx rfl (hb hby d5_99) rfl ?_
              show Steps p.tables e below (T87.setTop (mkF m 101 #[.val (.ref o0), .val (.ref o1), .val (.int p0), .val (.int p1), .val (.int (v5_1 zs ls p0 p1)), .val (.int (v5_2 zs ls p0 p1)), (if (getI zs (getI ls p0)) < (getI zs (getI ls p1)) then .val (.int (getI ls p0)) else .unset)] [(.int (v5_2 zs ls p0 p1)), (.ref o1), (.int (getI zs (v5_1 zs ls p0 p1))), (.int (v5_1 zs ls p0 p1)), (.ref o1)])) _
              refine X87.iaload hx (j := (v5_2 zs ls p0 p1)) (v := (.int (getI zs (v5_2 zs ls p0 p1)))) (by rw [e87]; exact Ar89.1) (State.isArrayOf_alike hZ.alike Ar89.2.1) Ar89.2.2 hin89 hat89 (g := (mkF m 101 #[.val (.ref o0), .val (.ref o1), .val (.int p0), .val (.int p1), .val (.int (v5_1 zs ls p0 p1)), .val (.int (v5_2 zs ls p0 p1)), (if (getI zs (getI ls p0)) < (getI zs (getI ls p1)) then .val (.int (getI ls p0)) else .unset)] [(.int (v5_2 zs ls p0 p1)), (.ref o1), (.int (getI zs (v5_1 zs ls p0 p1))), (.int (v5_1 zs ls p0 p1)), (.ref o1)])) rfl rfl (hb hby d5_101) _ ?_
              show Steps p.tables e below (T87.setTop (mkF m 102 #[.val (.ref o0), .val (.ref o1), .val (.int p0), .val (.int p1), .val (.int (v5_1 zs ls p0 p1)), .val (.int (v5_2 zs ls p0 p1)), (if (getI zs (getI ls p0)) < (getI zs (getI ls p1)) then .val (.int (getI ls p0)) else .unset)] [(.int (getI zs (v5_2 zs ls p0 p1))), (.int (getI zs (v5_1 zs ls p0 p1))), (.int (v5_1 zs ls p0 p1)), (.ref o1)])) _
              refine XS.iadd X87.here hx rfl (hb hby d5_102) rfl ?_
              show Steps p.tables e below (T87.setTop (mkF m 103 #[.val (.ref o0), .val (.ref o1), .val (.int p0), .val (.int p1), .val (.int (v5_1 zs ls p0 p1)), .val (.int (v5_2 zs ls p0 p1)), (if (getI zs (getI ls p0)) < (getI zs (getI ls p1)) then .val (.int (getI ls p0)) else .unset)] [(.int ((getI zs (v5_1 zs ls p0 p1)) + (getI zs (v5_2 zs ls p0 p1)))), (.int (v5_1 zs ls p0 p1)), (.ref o1)])) _
              refine st91 _ ?_
              show Steps p.tables e below (T91.setTop (mkF m 104 #[.val (.ref o0), .val (.ref o1), .val (.int p0), .val (.int p1), .val (.int (v5_1 zs ls p0 p1)), .val (.int (v5_2 zs ls p0 p1)), (if (getI zs (getI ls p0)) < (getI zs (getI ls p1)) then .val (.int (getI ls p0)) else .unset)] [])) _
              exact X91.returnOut hx Bd.returns (hb hby d5_104) hr
            · show Q5 Z o0 o1 p0 p1 ka ls kb zs h0 n0 _ T91.heap _
              rw [e91]
              have hg92 : (g5_o0 p0 p1 ls zs) = (setI (setI ls (0 : Int32) (v5_1 zs ls p0 p1)) (3 : Int32) (v5_1 zs ls p0 p1)) := by simp only [g5_o0, if_neg hc14_4, if_pos hc46_14, if_neg hc59_19, if_neg hc72_63, if_pos hc85_85]
              have hg93 : (g5_o1 p0 p1 ls zs) = (setI zs (v5_1 zs ls p0 p1) ((getI zs (v5_1 zs ls p0 p1)) + (getI zs (v5_2 zs ls p0 p1)))) := by simp only [g5_o1, if_neg hc14_4, if_pos hc46_14, if_neg hc59_19, if_neg hc72_63, if_pos hc85_85]
              exact ⟨rfl, N91, K91, (by rw [hg92]; exact (Vw87.other W91 ne_o0_o1)), (by rw [hg93]; exact Vw91)⟩
          · obtain ⟨cl94, Ar94, hin94, hat94⟩ := Ia.get ((V_o1.other W16 (Ne.symm ne_o0_o1))) (j := (v5_1 zs ls p0 p1)) (by first | exact own_ite hB.2.2.2 hB.2.2.1 | exact own_ite hB.2.2.1 hB.2.2.2)
            obtain ⟨cl95, Ar95, hin95, hat95⟩ := Ia.get ((V_o1.other W16 (Ne.symm ne_o0_o1))) (j := (v5_2 zs ls p0 p1)) (by first | exact own_ite hB.2.2.2 hB.2.2.1 | exact own_ite hB.2.2.1 hB.2.2.2)
            obtain ⟨cl96, Ar96, hin96, hat96⟩ := Ia.get ((V_o1.other W16 (Ne.symm ne_o0_o1))) (j := (v5_1 zs ls p0 p1)) (by first | exact own_ite hB.2.2.2 hB.2.2.1 | exact own_ite hB.2.2.1 hB.2.2.2)
            obtain ⟨T97, h97, X97, e97, W97, st97⟩ := stI X16 hx hZ e16 Ar96 (j := (v5_1 zs ls p0 p1)) hin96 (g := (mkF m 103 #[.val (.ref o0), .val (.ref o1), .val (.int p0), .val (.int p1), .val (.int (v5_1 zs ls p0 p1)), .val (.int (v5_2 zs ls p0 p1)), (if (getI zs (getI ls p0)) < (getI zs (getI ls p1)) then .val (.int (getI ls p0)) else .unset)] [(.int ((getI zs (v5_1 zs ls p0 p1)) + (getI zs (v5_2 zs ls p0 p1)))), (.int (v5_1 zs ls p0 p1)), (.ref o1)])) rfl rfl (hb hby d5_103)
            have Vw97 := Ia.set ((V_o1.other W16 (Ne.symm ne_o0_o1))) (j := (v5_1 zs ls p0 p1)) (x := ((getI zs (v5_1 zs ls p0 p1)) + (getI zs (v5_2 zs ls p0 p1)))) (by first | exact own_ite hB.2.2.2 hB.2.2.1 | exact own_ite hB.2.2.1 hB.2.2.2) rfl W97
            have N97 := Fr.snoc X97 N16 g_o1
            have Z97 : n0 ≤ h97.size := Nat.le_trans Z16 (Keep.of_wr W97).1
            have K97 : Keep h0 h97 [o0, o1] := (K16).wr W97 (Or.inl (List.mem_of_getElem? (i := 1) rfl))
            obtain ⟨fs, hr, hrun, hended, hW, hsame⟩ := X97.leave (v := none) (fun _ => rfl) hlk
            refine ⟨_, _, pre84 _ ?_, hrun, hended, _, _, rfl, ?_, ⟨_, rfl⟩, hW, hsame.mono (by decide) (by decide)⟩
            · show Steps p.tables e below (T16.setTop (mkF m 85 #[.val (.ref o0), .val (.ref o1), .val (.int p0), .val (.int p1), .val (.int (v5_1 zs ls p0 p1)), .val (.int (v5_2 zs ls p0 p1)), (if (getI zs (getI ls p0)) < (getI zs (getI ls p1)) then .val (.int (getI ls p0)) else .unset)] [(.int (v5_2 zs ls p0 p1)), (.int (getI (setI ls (0 : Int32) (v5_1 zs ls p0 p1)) (3 : Int32)))])) _
              refine XS.icmpYes X16.here hx rfl (pc0 := 85) (pc' := 93) rfl (hb hby d5_85) rfl (feq hc85_85).2 (by decide) (by decide) ?_
              show Steps p.tables e below (T16.setTop (mkF m 93 #[.val (.ref o0), .val (.ref o1), .val (.int p0), .val (.int p1), .val (.int (v5_1 zs ls p0 p1)), .val (.int (v5_2 zs ls p0 p1)), (if (getI zs (getI ls p0)) < (getI zs (getI ls p1)) then .val (.int (getI ls p0)) else .unset)] [])) _
              refine XS.aloadN X16.here hx rfl (hb hby d5_93) rfl rfl ?_
              show Steps p.tables e below (T16.setTop (mkF m 94 #[.val (.ref o0), .val (.ref o1), .val (.int p0), .val (.int p1), .val (.int (v5_1 zs ls p0 p1)), .val (.int (v5_2 zs ls p0 p1)), (if (getI zs (getI ls p0)) < (getI zs (getI ls p1)) then .val (.int (getI ls p0)) else .unset)] [(.ref o1)])) _
              refine XS.iload X16.here hx rfl (hb hby d5_94) rfl ?_
              show Steps p.tables e below (T16.setTop (mkF m 96 #[.val (.ref o0), .val (.ref o1), .val (.int p0), .val (.int p1), .val (.int (v5_1 zs ls p0 p1)), .val (.int (v5_2 zs ls p0 p1)), (if (getI zs (getI ls p0)) < (getI zs (getI ls p1)) then .val (.int (getI ls p0)) else .unset)] [(.int (v5_1 zs ls p0 p1)), (.ref o1)])) _
              refine XT.dup2 X16.here hx rfl (hb hby d5_96) rfl rfl rfl ?_
              show Steps p.tables e below (T16.setTop (mkF m 97 #[.val (.ref o0), .val (.ref o1), .val (.int p0), .val (.int p1), .val (.int (v5_1 zs ls p0 p1)), .val (.int (v5_2 zs ls p0 p1)), (if (getI zs (getI ls p0)) < (getI zs (getI ls p1)) then .val (.int (getI ls p0)) else .unset)] [(.int (v5_1 zs ls p0 p1)), (.ref o1), (.int (v5_1 zs ls p0 p1)), (.ref o1)])) _
              refine X16.iaload hx (j := (v5_1 zs ls p0 p1)) (v := (.int (getI zs (v5_1 zs ls p0 p1)))) (by rw [e16]; exact Ar94.1) (State.isArrayOf_alike hZ.alike Ar94.2.1) Ar94.2.2 hin94 hat94 (g := (mkF m 97 #[.val (.ref o0), .val (.ref o1), .val (.int p0), .val (.int p1), .val (.int (v5_1 zs ls p0 p1)), .val (.int (v5_2 zs ls p0 p1)), (if (getI zs (getI ls p0)) < (getI zs (getI ls p1)) then .val (.int (getI ls p0)) else .unset)] [(.int (v5_1 zs ls p0 p1)), (.ref o1), (.int (v5_1 zs ls p0 p1)), (.ref o1)])) rfl rfl (hb hby d5_97) _ ?_
              show Steps p.tables e below (T16.setTop (mkF m 98 #[.val (.ref o0), .val (.ref o1), .val (.int p0), .val (.int p1), .val (.int (v5_1 zs ls p0 p1)), .val (.int (v5_2 zs ls p0 p1)), (if (getI zs (getI ls p0)) < (getI zs (getI ls p1)) then .val (.int (getI ls p0)) else .unset)] [(.int (getI zs (v5_1 zs ls p0 p1))), (.int (v5_1 zs ls p0 p1)), (.ref o1)])) _
              refine XS.aloadN X16.here hx rfl (hb hby d5_98) rfl rfl ?_
              show Steps p.tables e below (T16.setTop (mkF m 99 #[.val (.ref o0), .val (.ref o1), .val (.int p0), .val (.int p1), .val (.int (v5_1 zs ls p0 p1)), .val (.int (v5_2 zs ls p0 p1)), (if (getI zs (getI ls p0)) < (getI zs (getI ls p1)) then .val (.int (getI ls p0)) else .unset)] [(.ref o1), (.int (getI zs (v5_1 zs ls p0 p1))), (.int (v5_1 zs ls p0 p1)), (.ref o1)])) _
              refine XS.iload X16.here hx rfl (hb hby d5_99) rfl ?_
              show Steps p.tables e below (T16.setTop (mkF m 101 #[.val (.ref o0), .val (.ref o1), .val (.int p0), .val (.int p1), .val (.int (v5_1 zs ls p0 p1)), .val (.int (v5_2 zs ls p0 p1)), (if (getI zs (getI ls p0)) < (getI zs (getI ls p1)) then .val (.int (getI ls p0)) else .unset)] [(.int (v5_2 zs ls p0 p1)), (.ref o1), (.int (getI zs (v5_1 zs ls p0 p1))), (.int (v5_1 zs ls p0 p1)), (.ref o1)])) _
              refine X16.iaload hx (j := (v5_2 zs ls p0 p1)) (v := (.int (getI zs (v5_2 zs ls p0 p1)))) (by rw [e16]; exact Ar95.1) (State.isArrayOf_alike hZ.alike Ar95.2.1) Ar95.2.2 hin95 hat95 (g := (mkF m 101 #[.val (.ref o0), .val (.ref o1), .val (.int p0), .val (.int p1), .val (.int (v5_1 zs ls p0 p1)), .val (.int (v5_2 zs ls p0 p1)), (if (getI zs (getI ls p0)) < (getI zs (getI ls p1)) then .val (.int (getI ls p0)) else .unset)] [(.int (v5_2 zs ls p0 p1)), (.ref o1), (.int (getI zs (v5_1 zs ls p0 p1))), (.int (v5_1 zs ls p0 p1)), (.ref o1)])) rfl rfl (hb hby d5_101) _ ?_
              show Steps p.tables e below (T16.setTop (mkF m 102 #[.val (.ref o0), .val (.ref o1), .val (.int p0), .val (.int p1), .val (.int (v5_1 zs ls p0 p1)), .val (.int (v5_2 zs ls p0 p1)), (if (getI zs (getI ls p0)) < (getI zs (getI ls p1)) then .val (.int (getI ls p0)) else .unset)] [(.int (getI zs (v5_2 zs ls p0 p1))), (.int (getI zs (v5_1 zs ls p0 p1))), (.int (v5_1 zs ls p0 p1)), (.ref o1)])) _
              refine XS.iadd X16.here hx rfl (hb hby d5_102) rfl ?_
              show Steps p.tables e below (T16.setTop (mkF m 103 #[.val (.ref o0), .val (.ref o1), .val (.int p0), .val (.int p1), .val (.int (v5_1 zs ls p0 p1)), .val (.int (v5_2 zs ls p0 p1)), (if (getI zs (getI ls p0)) < (getI zs (getI ls p1)) then .val (.int (getI ls p0)) else .unset)] [(.int ((getI zs (v5_1 zs ls p0 p1)) + (getI zs (v5_2 zs ls p0 p1)))), (.int (v5_1 zs ls p0 p1)), (.ref o1)])) _
              refine st97 _ ?_
              show Steps p.tables e below (T97.setTop (mkF m 104 #[.val (.ref o0), .val (.ref o1), .val (.int p0), .val (.int p1), .val (.int (v5_1 zs ls p0 p1)), .val (.int (v5_2 zs ls p0 p1)), (if (getI zs (getI ls p0)) < (getI zs (getI ls p1)) then .val (.int (getI ls p0)) else .unset)] [])) _
              exact X97.returnOut hx Bd.returns (hb hby d5_104) hr
            · show Q5 Z o0 o1 p0 p1 ka ls kb zs h0 n0 _ T97.heap _
              rw [e97]
              have hg98 : (g5_o0 p0 p1 ls zs) = (setI ls (0 : Int32) (v5_1 zs ls p0 p1)) := by simp only [g5_o0, if_neg hc14_4, if_pos hc46_14, if_neg hc59_19, if_neg hc72_63, if_neg hc85_85]
              have hg99 : (g5_o1 p0 p1 ls zs) = (setI zs (v5_1 zs ls p0 p1) ((getI zs (v5_1 zs ls p0 p1)) + (getI zs (v5_2 zs ls p0 p1)))) := by simp only [g5_o1, if_neg hc14_4, if_pos hc46_14, if_neg hc59_19, if_neg hc72_63, if_neg hc85_85]
              exact ⟨rfl, N97, K97, (by rw [hg98]; exact (Vw16.other W97 ne_o0_o1)), (by rw [hg99]; exact Vw97)⟩
    · obtain ⟨cl100, Ar100, hin100, hat100⟩ := Ia.get (V_o0) (j := (1 : Int32)) ⟨by decide, by decide⟩
      have pre101 : ∀ t, Steps p.tables e below (s₁.setTop (mkF m 59 #[.val (.ref o0), .val (.ref o1), .val (.int p0), .val (.int p1), .val (.int (v5_1 zs ls p0 p1)), .val (.int (v5_2 zs ls p0 p1)), (if (getI zs (getI ls p0)) < (getI zs (getI ls p1)) then .val (.int (getI ls p0)) else .unset)] [(.int (v5_2 zs ls p0 p1)), (.int (getI ls (1 : Int32)))])) t → Steps p.tables e below (s₁.setTop (entryFrame m #[(.ref o0), (.ref o1), (.int p0), (.int p1)] 7)) t := fun t k => pre13 t (by
        show Steps p.tables e below (s₁.setTop (mkF m 46 #[.val (.ref o0), .val (.ref o1), .val (.int p0), .val (.int p1), .val (.int (v5_1 zs ls p0 p1)), .val (.int (v5_2 zs ls p0 p1)), (if (getI zs (getI ls p0)) < (getI zs (getI ls p1)) then .val (.int (getI ls p0)) else .unset)] [(.int (v5_2 zs ls p0 p1)), (.int (getI ls (0 : Int32)))])) _
        refine XS.icmpYes X0.here hx rfl (pc0 := 46) (pc' := 54) rfl (hb hby d5_46) rfl (feq hc46_14).2 (by decide) (by decide) ?_
        show Steps p.tables e below (s₁.setTop (mkF m 54 #[.val (.ref o0), .val (.ref o1), .val (.int p0), .val (.int p1), .val (.int (v5_1 zs ls p0 p1)), .val (.int (v5_2 zs ls p0 p1)), (if (getI zs (getI ls p0)) < (getI zs (getI ls p1)) then .val (.int (getI ls p0)) else .unset)] [])) _
        refine XS.aloadN X0.here hx rfl (hb hby d5_54) rfl rfl ?_
        show Steps p.tables e below (s₁.setTop (mkF m 55 #[.val (.ref o0), .val (.ref o1), .val (.int p0), .val (.int p1), .val (.int (v5_1 zs ls p0 p1)), .val (.int (v5_2 zs ls p0 p1)), (if (getI zs (getI ls p0)) < (getI zs (getI ls p1)) then .val (.int (getI ls p0)) else .unset)] [(.ref o0)])) _
        refine XS.iconst X0.here hx rfl (hb hby d5_55) ?_
        show Steps p.tables e below (s₁.setTop (mkF m 56 #[.val (.ref o0), .val (.ref o1), .val (.int p0), .val (.int p1), .val (.int (v5_1 zs ls p0 p1)), .val (.int (v5_2 zs ls p0 p1)), (if (getI zs (getI ls p0)) < (getI zs (getI ls p1)) then .val (.int (getI ls p0)) else .unset)] [(.int (1 : Int32)), (.ref o0)])) _
        refine X0.iaload hx (j := (1 : Int32)) (v := (.int (getI ls (1 : Int32)))) (by rw [e0]; exact Ar100.1) (State.isArrayOf_alike hZ.alike Ar100.2.1) Ar100.2.2 hin100 hat100 (g := (mkF m 56 #[.val (.ref o0), .val (.ref o1), .val (.int p0), .val (.int p1), .val (.int (v5_1 zs ls p0 p1)), .val (.int (v5_2 zs ls p0 p1)), (if (getI zs (getI ls p0)) < (getI zs (getI ls p1)) then .val (.int (getI ls p0)) else .unset)] [(.int (1 : Int32)), (.ref o0)])) rfl rfl (hb hby d5_56) _ ?_
        show Steps p.tables e below (s₁.setTop (mkF m 57 #[.val (.ref o0), .val (.ref o1), .val (.int p0), .val (.int p1), .val (.int (v5_1 zs ls p0 p1)), .val (.int (v5_2 zs ls p0 p1)), (if (getI zs (getI ls p0)) < (getI zs (getI ls p1)) then .val (.int (getI ls p0)) else .unset)] [(.int (getI ls (1 : Int32)))])) _
        refine XS.iload X0.here hx rfl (hb hby d5_57) rfl ?_
        show Steps p.tables e below (s₁.setTop (mkF m 59 #[.val (.ref o0), .val (.ref o1), .val (.int p0), .val (.int p1), .val (.int (v5_1 zs ls p0 p1)), .val (.int (v5_2 zs ls p0 p1)), (if (getI zs (getI ls p0)) < (getI zs (getI ls p1)) then .val (.int (getI ls p0)) else .unset)] [(.int (v5_2 zs ls p0 p1)), (.int (getI ls (1 : Int32)))])) _
        exact k)
      by_cases hc59_102 : (getI ls (1 : Int32)) = (v5_2 zs ls p0 p1)
      · obtain ⟨cl103, Ar103, hin103, hat103⟩ := Ia.get (V_o0) (j := (1 : Int32)) ⟨by decide, by decide⟩
        obtain ⟨T104, h104, X104, e104, W104, st104⟩ := stI X0 hx hZ e0 Ar103 (j := (1 : Int32)) hin103 (g := (mkF m 66 #[.val (.ref o0), .val (.ref o1), .val (.int p0), .val (.int p1), .val (.int (v5_1 zs ls p0 p1)), .val (.int (v5_2 zs ls p0 p1)), (if (getI zs (getI ls p0)) < (getI zs (getI ls p1)) then .val (.int (getI ls p0)) else .unset)] [(.int (v5_1 zs ls p0 p1)), (.int (1 : Int32)), (.ref o0)])) rfl rfl (hb hby d5_66)
        have Vw104 := Ia.set (V_o0) (j := (1 : Int32)) (x := (v5_1 zs ls p0 p1)) ⟨by decide, by decide⟩ rfl W104
        have N104 := Fr.snoc X104 N0 g_o0
        have Z104 : n0 ≤ h104.size := Nat.le_trans Z0 (Keep.of_wr W104).1
        have K104 : Keep h0 h104 [o0, o1] := ((Keep.refl h0 [o0, o1])).wr W104 (Or.inl (List.mem_of_getElem? (i := 0) rfl))
        obtain ⟨cl105, Ar105, hin105, hat105⟩ := Ia.get (Vw104) (j := (2 : Int32)) ⟨by decide, by decide⟩
        have pre106 : ∀ t, Steps p.tables e below (T104.setTop (mkF m 72 #[.val (.ref o0), .val (.ref o1), .val (.int p0), .val (.int p1), .val (.int (v5_1 zs ls p0 p1)), .val (.int (v5_2 zs ls p0 p1)), (if (getI zs (getI ls p0)) < (getI zs (getI ls p1)) then .val (.int (getI ls p0)) else .unset)] [(.int (v5_2 zs ls p0 p1)), (.int (getI (setI ls (1 : Int32) (v5_1 zs ls p0 p1)) (2 : Int32)))])) t → Steps p.tables e below (s₁.setTop (entryFrame m #[(.ref o0), (.ref o1), (.int p0), (.int p1)] 7)) t := fun t k => pre101 t (by
          show Steps p.tables e below (s₁.setTop (mkF m 59 #[.val (.ref o0), .val (.ref o1), .val (.int p0), .val (.int p1), .val (.int (v5_1 zs ls p0 p1)), .val (.int (v5_2 zs ls p0 p1)), (if (getI zs (getI ls p0)) < (getI zs (getI ls p1)) then .val (.int (getI ls p0)) else .unset)] [(.int (v5_2 zs ls p0 p1)), (.int (getI ls (1 : Int32)))])) _
          refine XS.icmpNo X0.here hx rfl (hb hby d5_59) rfl (teq hc59_102).2 ?_
          show Steps p.tables e below (s₁.setTop (mkF m 62 #[.val (.ref o0), .val (.ref o1), .val (.int p0), .val (.int p1), .val (.int (v5_1 zs ls p0 p1)), .val (.int (v5_2 zs ls p0 p1)), (if (getI zs (getI ls p0)) < (getI zs (getI ls p1)) then .val (.int (getI ls p0)) else .unset)] [])) _
          refine XS.aloadN X0.here hx rfl (hb hby d5_62) rfl rfl ?_
          show Steps p.tables e below (s₁.setTop (mkF m 63 #[.val (.ref o0), .val (.ref o1), .val (.int p0), .val (.int p1), .val (.int (v5_1 zs ls p0 p1)), .val (.int (v5_2 zs ls p0 p1)), (if (getI zs (getI ls p0)) < (getI zs (getI ls p1)) then .val (.int (getI ls p0)) else .unset)] [(.ref o0)])) _
          refine XS.iconst X0.here hx rfl (hb hby d5_63) ?_
          show Steps p.tables e below (s₁.setTop (mkF m 64 #[.val (.ref o0), .val (.ref o1), .val (.int p0), .val (.int p1), .val (.int (v5_1 zs ls p0 p1)), .val (.int (v5_2 zs ls p0 p1)), (if (getI zs (getI ls p0)) < (getI zs (getI ls p1)) then .val (.int (getI ls p0)) else .unset)] [(.int (1 : Int32)), (.ref o0)])) _
          refine XS.iload X0.here hx rfl (hb hby d5_64) rfl ?_
          show Steps p.tables e below (s₁.setTop (mkF m 66 #[.val (.ref o0), .val (.ref o1), .val (.int p0), .val (.int p1), .val (.int (v5_1 zs ls p0 p1)), .val (.int (v5_2 zs ls p0 p1)), (if (getI zs (getI ls p0)) < (getI zs (getI ls p1)) then .val (.int (getI ls p0)) else .unset)] [(.int (v5_1 zs ls p0 p1)), (.int (1 : Int32)), (.ref o0)])) _
          refine st104 _ ?_
          show Steps p.tables e below (T104.setTop (mkF m 67 #[.val (.ref o0), .val (.ref o1), .val (.int p0), .val (.int p1), .val (.int (v5_1 zs ls p0 p1)), .val (.int (v5_2 zs ls p0 p1)), (if (getI zs (getI ls p0)) < (getI zs (getI ls p1)) then .val (.int (getI ls p0)) else .unset)] [])) _
          refine XS.aloadN X104.here hx rfl (hb hby d5_67) rfl rfl ?_
          show Steps p.tables e below (T104.setTop (mkF m 68 #[.val (.ref o0), .val (.ref o1), .val (.int p0), .val (.int p1), .val (.int (v5_1 zs ls p0 p1)), .val (.int (v5_2 zs ls p0 p1)), (if (getI zs (getI ls p0)) < (getI zs (getI ls p1)) then .val (.int (getI ls p0)) else .unset)] [(.ref o0)])) _
          refine XS.iconst X104.here hx rfl (hb hby d5_68) ?_
          show Steps p.tables e below (T104.setTop (mkF m 69 #[.val (.ref o0), .val (.ref o1), .val (.int p0), .val (.int p1), .val (.int (v5_1 zs ls p0 p1)), .val (.int (v5_2 zs ls p0 p1)), (if (getI zs (getI ls p0)) < (getI zs (getI ls p1)) then .val (.int (getI ls p0)) else .unset)] [(.int (2 : Int32)), (.ref o0)])) _
          refine X104.iaload hx (j := (2 : Int32)) (v := (.int (getI (setI ls (1 : Int32) (v5_1 zs ls p0 p1)) (2 : Int32)))) (by rw [e104]; exact Ar105.1) (State.isArrayOf_alike hZ.alike Ar105.2.1) Ar105.2.2 hin105 hat105 (g := (mkF m 69 #[.val (.ref o0), .val (.ref o1), .val (.int p0), .val (.int p1), .val (.int (v5_1 zs ls p0 p1)), .val (.int (v5_2 zs ls p0 p1)), (if (getI zs (getI ls p0)) < (getI zs (getI ls p1)) then .val (.int (getI ls p0)) else .unset)] [(.int (2 : Int32)), (.ref o0)])) rfl rfl (hb hby d5_69) _ ?_
          show Steps p.tables e below (T104.setTop (mkF m 70 #[.val (.ref o0), .val (.ref o1), .val (.int p0), .val (.int p1), .val (.int (v5_1 zs ls p0 p1)), .val (.int (v5_2 zs ls p0 p1)), (if (getI zs (getI ls p0)) < (getI zs (getI ls p1)) then .val (.int (getI ls p0)) else .unset)] [(.int (getI (setI ls (1 : Int32) (v5_1 zs ls p0 p1)) (2 : Int32)))])) _
          refine XS.iload X104.here hx rfl (hb hby d5_70) rfl ?_
          show Steps p.tables e below (T104.setTop (mkF m 72 #[.val (.ref o0), .val (.ref o1), .val (.int p0), .val (.int p1), .val (.int (v5_1 zs ls p0 p1)), .val (.int (v5_2 zs ls p0 p1)), (if (getI zs (getI ls p0)) < (getI zs (getI ls p1)) then .val (.int (getI ls p0)) else .unset)] [(.int (v5_2 zs ls p0 p1)), (.int (getI (setI ls (1 : Int32) (v5_1 zs ls p0 p1)) (2 : Int32)))])) _
          exact k)
        by_cases hc72_107 : (getI (setI ls (1 : Int32) (v5_1 zs ls p0 p1)) (2 : Int32)) = (v5_2 zs ls p0 p1)
        · obtain ⟨cl108, Ar108, hin108, hat108⟩ := Ia.get (Vw104) (j := (2 : Int32)) ⟨by decide, by decide⟩
          obtain ⟨T109, h109, X109, e109, W109, st109⟩ := stI X104 hx hZ e104 Ar108 (j := (2 : Int32)) hin108 (g := (mkF m 79 #[.val (.ref o0), .val (.ref o1), .val (.int p0), .val (.int p1), .val (.int (v5_1 zs ls p0 p1)), .val (.int (v5_2 zs ls p0 p1)), (if (getI zs (getI ls p0)) < (getI zs (getI ls p1)) then .val (.int (getI ls p0)) else .unset)] [(.int (v5_1 zs ls p0 p1)), (.int (2 : Int32)), (.ref o0)])) rfl rfl (hb hby d5_79)
          have Vw109 := Ia.set (Vw104) (j := (2 : Int32)) (x := (v5_1 zs ls p0 p1)) ⟨by decide, by decide⟩ rfl W109
          have N109 := Fr.snoc X109 N104 g_o0
          have Z109 : n0 ≤ h109.size := Nat.le_trans Z104 (Keep.of_wr W109).1
          have K109 : Keep h0 h109 [o0, o1] := (K104).wr W109 (Or.inl (List.mem_of_getElem? (i := 0) rfl))
          obtain ⟨cl110, Ar110, hin110, hat110⟩ := Ia.get (Vw109) (j := (3 : Int32)) ⟨by decide, by decide⟩
          have pre111 : ∀ t, Steps p.tables e below (T109.setTop (mkF m 85 #[.val (.ref o0), .val (.ref o1), .val (.int p0), .val (.int p1), .val (.int (v5_1 zs ls p0 p1)), .val (.int (v5_2 zs ls p0 p1)), (if (getI zs (getI ls p0)) < (getI zs (getI ls p1)) then .val (.int (getI ls p0)) else .unset)] [(.int (v5_2 zs ls p0 p1)), (.int (v5_7 ls zs p0 p1))])) t → Steps p.tables e below (s₁.setTop (entryFrame m #[(.ref o0), (.ref o1), (.int p0), (.int p1)] 7)) t := fun t k => pre106 t (by
            show Steps p.tables e below (T104.setTop (mkF m 72 #[.val (.ref o0), .val (.ref o1), .val (.int p0), .val (.int p1), .val (.int (v5_1 zs ls p0 p1)), .val (.int (v5_2 zs ls p0 p1)), (if (getI zs (getI ls p0)) < (getI zs (getI ls p1)) then .val (.int (getI ls p0)) else .unset)] [(.int (v5_2 zs ls p0 p1)), (.int (getI (setI ls (1 : Int32) (v5_1 zs ls p0 p1)) (2 : Int32)))])) _
            refine XS.icmpNo X104.here hx rfl (hb hby d5_72) rfl (teq hc72_107).2 ?_
            show Steps p.tables e below (T104.setTop (mkF m 75 #[.val (.ref o0), .val (.ref o1), .val (.int p0), .val (.int p1), .val (.int (v5_1 zs ls p0 p1)), .val (.int (v5_2 zs ls p0 p1)), (if (getI zs (getI ls p0)) < (getI zs (getI ls p1)) then .val (.int (getI ls p0)) else .unset)] [])) _
            refine XS.aloadN X104.here hx rfl (hb hby d5_75) rfl rfl ?_
            show Steps p.tables e below (T104.setTop (mkF m 76 #[.val (.ref o0), .val (.ref o1), .val (.int p0), .val (.int p1), .val (.int (v5_1 zs ls p0 p1)), .val (.int (v5_2 zs ls p0 p1)), (if (getI zs (getI ls p0)) < (getI zs (getI ls p1)) then .val (.int (getI ls p0)) else .unset)] [(.ref o0)])) _
            refine XS.iconst X104.here hx rfl (hb hby d5_76) ?_
            show Steps p.tables e below (T104.setTop (mkF m 77 #[.val (.ref o0), .val (.ref o1), .val (.int p0), .val (.int p1), .val (.int (v5_1 zs ls p0 p1)), .val (.int (v5_2 zs ls p0 p1)), (if (getI zs (getI ls p0)) < (getI zs (getI ls p1)) then .val (.int (getI ls p0)) else .unset)] [(.int (2 : Int32)), (.ref o0)])) _
            refine XS.iload X104.here hx rfl (hb hby d5_77) rfl ?_
            show Steps p.tables e below (T104.setTop (mkF m 79 #[.val (.ref o0), .val (.ref o1), .val (.int p0), .val (.int p1), .val (.int (v5_1 zs ls p0 p1)), .val (.int (v5_2 zs ls p0 p1)), (if (getI zs (getI ls p0)) < (getI zs (getI ls p1)) then .val (.int (getI ls p0)) else .unset)] [(.int (v5_1 zs ls p0 p1)), (.int (2 : Int32)), (.ref o0)])) _
            refine st109 _ ?_
            show Steps p.tables e below (T109.setTop (mkF m 80 #[.val (.ref o0), .val (.ref o1), .val (.int p0), .val (.int p1), .val (.int (v5_1 zs ls p0 p1)), .val (.int (v5_2 zs ls p0 p1)), (if (getI zs (getI ls p0)) < (getI zs (getI ls p1)) then .val (.int (getI ls p0)) else .unset)] [])) _
            refine XS.aloadN X109.here hx rfl (hb hby d5_80) rfl rfl ?_
            show Steps p.tables e below (T109.setTop (mkF m 81 #[.val (.ref o0), .val (.ref o1), .val (.int p0), .val (.int p1), .val (.int (v5_1 zs ls p0 p1)), .val (.int (v5_2 zs ls p0 p1)), (if (getI zs (getI ls p0)) < (getI zs (getI ls p1)) then .val (.int (getI ls p0)) else .unset)] [(.ref o0)])) _
            refine XS.iconst X109.here hx rfl (hb hby d5_81) ?_
            show Steps p.tables e below (T109.setTop (mkF m 82 #[.val (.ref o0), .val (.ref o1), .val (.int p0), .val (.int p1), .val (.int (v5_1 zs ls p0 p1)), .val (.int (v5_2 zs ls p0 p1)), (if (getI zs (getI ls p0)) < (getI zs (getI ls p1)) then .val (.int (getI ls p0)) else .unset)] [(.int (3 : Int32)), (.ref o0)])) _
            refine X109.iaload hx (j := (3 : Int32)) (v := (.int (getI (setI (setI ls (1 : Int32) (v5_1 zs ls p0 p1)) (2 : Int32) (v5_1 zs ls p0 p1)) (3 : Int32)))) (by rw [e109]; exact Ar110.1) (State.isArrayOf_alike hZ.alike Ar110.2.1) Ar110.2.2 hin110 hat110 (g := (mkF m 82 #[.val (.ref o0), .val (.ref o1), .val (.int p0), .val (.int p1), .val (.int (v5_1 zs ls p0 p1)), .val (.int (v5_2 zs ls p0 p1)), (if (getI zs (getI ls p0)) < (getI zs (getI ls p1)) then .val (.int (getI ls p0)) else .unset)] [(.int (3 : Int32)), (.ref o0)])) rfl rfl (hb hby d5_82) _ ?_
            show Steps p.tables e below (T109.setTop (mkF m 83 #[.val (.ref o0), .val (.ref o1), .val (.int p0), .val (.int p1), .val (.int (v5_1 zs ls p0 p1)), .val (.int (v5_2 zs ls p0 p1)), (if (getI zs (getI ls p0)) < (getI zs (getI ls p1)) then .val (.int (getI ls p0)) else .unset)] [(.int (v5_7 ls zs p0 p1))])) _
            refine XS.iload X109.here hx rfl (hb hby d5_83) rfl ?_
            show Steps p.tables e below (T109.setTop (mkF m 85 #[.val (.ref o0), .val (.ref o1), .val (.int p0), .val (.int p1), .val (.int (v5_1 zs ls p0 p1)), .val (.int (v5_2 zs ls p0 p1)), (if (getI zs (getI ls p0)) < (getI zs (getI ls p1)) then .val (.int (getI ls p0)) else .unset)] [(.int (v5_2 zs ls p0 p1)), (.int (v5_7 ls zs p0 p1))])) _
            exact k)
          by_cases hc85_112 : (v5_7 ls zs p0 p1) = (v5_2 zs ls p0 p1)
          · obtain ⟨cl113, Ar113, hin113, hat113⟩ := Ia.get (Vw109) (j := (3 : Int32)) ⟨by decide, by decide⟩
            obtain ⟨T114, h114, X114, e114, W114, st114⟩ := stI X109 hx hZ e109 Ar113 (j := (3 : Int32)) hin113 (g := (mkF m 92 #[.val (.ref o0), .val (.ref o1), .val (.int p0), .val (.int p1), .val (.int (v5_1 zs ls p0 p1)), .val (.int (v5_2 zs ls p0 p1)), (if (getI zs (getI ls p0)) < (getI zs (getI ls p1)) then .val (.int (getI ls p0)) else .unset)] [(.int (v5_1 zs ls p0 p1)), (.int (3 : Int32)), (.ref o0)])) rfl rfl (hb hby d5_92)
            have Vw114 := Ia.set (Vw109) (j := (3 : Int32)) (x := (v5_1 zs ls p0 p1)) ⟨by decide, by decide⟩ rfl W114
            have N114 := Fr.snoc X114 N109 g_o0
            have Z114 : n0 ≤ h114.size := Nat.le_trans Z109 (Keep.of_wr W114).1
            have K114 : Keep h0 h114 [o0, o1] := (K109).wr W114 (Or.inl (List.mem_of_getElem? (i := 0) rfl))
            obtain ⟨cl115, Ar115, hin115, hat115⟩ := Ia.get ((((V_o1.other W104 (Ne.symm ne_o0_o1)).other W109 (Ne.symm ne_o0_o1)).other W114 (Ne.symm ne_o0_o1))) (j := (v5_1 zs ls p0 p1)) (by first | exact own_ite hB.2.2.2 hB.2.2.1 | exact own_ite hB.2.2.1 hB.2.2.2)
            obtain ⟨cl116, Ar116, hin116, hat116⟩ := Ia.get ((((V_o1.other W104 (Ne.symm ne_o0_o1)).other W109 (Ne.symm ne_o0_o1)).other W114 (Ne.symm ne_o0_o1))) (j := (v5_2 zs ls p0 p1)) (by first | exact own_ite hB.2.2.2 hB.2.2.1 | exact own_ite hB.2.2.1 hB.2.2.2)
            obtain ⟨cl117, Ar117, hin117, hat117⟩ := Ia.get ((((V_o1.other W104 (Ne.symm ne_o0_o1)).other W109 (Ne.symm ne_o0_o1)).other W114 (Ne.symm ne_o0_o1))) (j := (v5_1 zs ls p0 p1)) (by first | exact own_ite hB.2.2.2 hB.2.2.1 | exact own_ite hB.2.2.1 hB.2.2.2)
            obtain ⟨T118, h118, X118, e118, W118, st118⟩ := stI X114 hx hZ e114 Ar117 (j := (v5_1 zs ls p0 p1)) hin117 (g := (mkF m 103 #[.val (.ref o0), .val (.ref o1), .val (.int p0), .val (.int p1), .val (.int (v5_1 zs ls p0 p1)), .val (.int (v5_2 zs ls p0 p1)), (if (getI zs (getI ls p0)) < (getI zs (getI ls p1)) then .val (.int (getI ls p0)) else .unset)] [(.int ((getI zs (v5_1 zs ls p0 p1)) + (getI zs (v5_2 zs ls p0 p1)))), (.int (v5_1 zs ls p0 p1)), (.ref o1)])) rfl rfl (hb hby d5_103)
            have Vw118 := Ia.set ((((V_o1.other W104 (Ne.symm ne_o0_o1)).other W109 (Ne.symm ne_o0_o1)).other W114 (Ne.symm ne_o0_o1))) (j := (v5_1 zs ls p0 p1)) (x := ((getI zs (v5_1 zs ls p0 p1)) + (getI zs (v5_2 zs ls p0 p1)))) (by first | exact own_ite hB.2.2.2 hB.2.2.1 | exact own_ite hB.2.2.1 hB.2.2.2) rfl W118
            have N118 := Fr.snoc X118 N114 g_o1
            have Z118 : n0 ≤ h118.size := Nat.le_trans Z114 (Keep.of_wr W118).1
            have K118 : Keep h0 h118 [o0, o1] := (K114).wr W118 (Or.inl (List.mem_of_getElem? (i := 1) rfl))
            obtain ⟨fs, hr, hrun, hended, hW, hsame⟩ := X118.leave (v := none) (fun _ => rfl) hlk
            refine ⟨_, _, pre111 _ ?_, hrun, hended, _, _, rfl, ?_, ⟨_, rfl⟩, hW, hsame.mono (by decide) (by decide)⟩
            · show Steps p.tables e below (T109.setTop (mkF m 85 #[.val (.ref o0), .val (.ref o1), .val (.int p0), .val (.int p1), .val (.int (v5_1 zs ls p0 p1)), .val (.int (v5_2 zs ls p0 p1)), (if (getI zs (getI ls p0)) < (getI zs (getI ls p1)) then .val (.int (getI ls p0)) else .unset)] [(.int (v5_2 zs ls p0 p1)), (.int (v5_7 ls zs p0 p1))])) _
              refine XS.icmpNo X109.here hx rfl (hb hby d5_85) rfl (teq hc85_112).2 ?_
              show Steps p.tables e below (T109.setTop (mkF m 88 #[.val (.ref o0), .val (.ref o1), .val (.int p0), .val (.int p1), .val (.int (v5_1 zs ls p0 p1)), .val (.int (v5_2 zs ls p0 p1)), (if (getI zs (getI ls p0)) < (getI zs (getI ls p1)) then .val (.int (getI ls p0)) else .unset)] [])) _
              refine XS.aloadN X109.here hx rfl (hb hby d5_88) rfl rfl ?_
              show Steps p.tables e below (T109.setTop (mkF m 89 #[.val (.ref o0), .val (.ref o1), .val (.int p0), .val (.int p1), .val (.int (v5_1 zs ls p0 p1)), .val (.int (v5_2 zs ls p0 p1)), (if (getI zs (getI ls p0)) < (getI zs (getI ls p1)) then .val (.int (getI ls p0)) else .unset)] [(.ref o0)])) _
              refine XS.iconst X109.here hx rfl (hb hby d5_89) ?_
              show Steps p.tables e below (T109.setTop (mkF m 90 #[.val (.ref o0), .val (.ref o1), .val (.int p0), .val (.int p1), .val (.int (v5_1 zs ls p0 p1)), .val (.int (v5_2 zs ls p0 p1)), (if (getI zs (getI ls p0)) < (getI zs (getI ls p1)) then .val (.int (getI ls p0)) else .unset)] [(.int (3 : Int32)), (.ref o0)])) _
              refine XS.iload X109.here hx rfl (hb hby d5_90) rfl ?_
              show Steps p.tables e below (T109.setTop (mkF m 92 #[.val (.ref o0), .val (.ref o1), .val (.int p0), .val (.int p1), .val (.int (v5_1 zs ls p0 p1)), .val (.int (v5_2 zs ls p0 p1)), (if (getI zs (getI ls p0)) < (getI zs (getI ls p1)) then .val (.int (getI ls p0)) else .unset)] [(.int (v5_1 zs ls p0 p1)), (.int (3 : Int32)), (.ref o0)])) _
              refine st114 _ ?_
              show Steps p.tables e below (T114.setTop (mkF m 93 #[.val (.ref o0), .val (.ref o1), .val (.int p0), .val (.int p1), .val (.int (v5_1 zs ls p0 p1)), .val (.int (v5_2 zs ls p0 p1)), (if (getI zs (getI ls p0)) < (getI zs (getI ls p1)) then .val (.int (getI ls p0)) else .unset)] [])) _
              refine XS.aloadN X114.here hx rfl (hb hby d5_93) rfl rfl ?_
              show Steps p.tables e below (T114.setTop (mkF m 94 #[.val (.ref o0), .val (.ref o1), .val (.int p0), .val (.int p1), .val (.int (v5_1 zs ls p0 p1)), .val (.int (v5_2 zs ls p0 p1)), (if (getI zs (getI ls p0)) < (getI zs (getI ls p1)) then .val (.int (getI ls p0)) else .unset)] [(.ref o1)])) _
              refine XS.iload X114.here hx rfl (hb hby d5_94) rfl ?_
              show Steps p.tables e below (T114.setTop (mkF m 96 #[.val (.ref o0), .val (.ref o1), .val (.int p0), .val (.int p1), .val (.int (v5_1 zs ls p0 p1)), .val (.int (v5_2 zs ls p0 p1)), (if (getI zs (getI ls p0)) < (getI zs (getI ls p1)) then .val (.int (getI ls p0)) else .unset)] [(.int (v5_1 zs ls p0 p1)), (.ref o1)])) _
              refine XT.dup2 X114.here hx rfl (hb hby d5_96) rfl rfl rfl ?_
              show Steps p.tables e below (T114.setTop (mkF m 97 #[.val (.ref o0), .val (.ref o1), .val (.int p0), .val (.int p1), .val (.int (v5_1 zs ls p0 p1)), .val (.int (v5_2 zs ls p0 p1)), (if (getI zs (getI ls p0)) < (getI zs (getI ls p1)) then .val (.int (getI ls p0)) else .unset)] [(.int (v5_1 zs ls p0 p1)), (.ref o1), (.int (v5_1 zs ls p0 p1)), (.ref o1)])) _
              refine X114.iaload hx (j := (v5_1 zs ls p0 p1)) (v := (.int (getI zs (v5_1 zs ls p0 p1)))) (by rw [e114]; exact Ar115.1) (State.isArrayOf_alike hZ.alike Ar115.2.1) Ar115.2.2 hin115 hat115 (g := (mkF m 97 #[.val (.ref o0), .val (.ref o1), .val (.int p0), .val (.int p1), .val (.int (v5_1 zs ls p0 p1)), .val (.int (v5_2 zs ls p0 p1)), (if (getI zs (getI ls p0)) < (getI zs (getI ls p1)) then .val (.int (getI ls p0)) else .unset)] [(.int (v5_1 zs ls p0 p1)), (.ref o1), (.int (v5_1 zs ls p0 p1)), (.ref o1)])) rfl rfl (hb hby d5_97) _ ?_
              show Steps p.tables e below (T114.setTop (mkF m 98 #[.val (.ref o0), .val (.ref o1), .val (.int p0), .val (.int p1), .val (.int (v5_1 zs ls p0 p1)), .val (.int (v5_2 zs ls p0 p1)), (if (getI zs (getI ls p0)) < (getI zs (getI ls p1)) then .val (.int (getI ls p0)) else .unset)] [(.int (getI zs (v5_1 zs ls p0 p1))), (.int (v5_1 zs ls p0 p1)), (.ref o1)])) _
              refine XS.aloadN X114.here hx rfl (hb hby d5_98) rfl rfl ?_
              show Steps p.tables e below (T114.setTop (mkF m 99 #[.val (.ref o0), .val (.ref o1), .val (.int p0), .val (.int p1), .val (.int (v5_1 zs ls p0 p1)), .val (.int (v5_2 zs ls p0 p1)), (if (getI zs (getI ls p0)) < (getI zs (getI ls p1)) then .val (.int (getI ls p0)) else .unset)] [(.ref o1), (.int (getI zs (v5_1 zs ls p0 p1))), (.int (v5_1 zs ls p0 p1)), (.ref o1)])) _
              refine XS.iload X114.here hx rfl (hb hby d5_99) rfl ?_
              show Steps p.tables e below (T114.setTop (mkF m 101 #[.val (.ref o0), .val (.ref o1), .val (.int p0), .val (.int p1), .val (.int (v5_1 zs ls p0 p1)), .val (.int (v5_2 zs ls p0 p1)), (if (getI zs (getI ls p0)) < (getI zs (getI ls p1)) then .val (.int (getI ls p0)) else .unset)] [(.int (v5_2 zs ls p0 p1)), (.ref o1), (.int (getI zs (v5_1 zs ls p0 p1))), (.int (v5_1 zs ls p0 p1)), (.ref o1)])) _
              refine X114.iaload hx (j := (v5_2 zs ls p0 p1)) (v := (.int (getI zs (v5_2 zs ls p0 p1)))) (by rw [e114]; exact Ar116.1) (State.isArrayOf_alike hZ.alike Ar116.2.1) Ar116.2.2 hin116 hat116 (g := (mkF m 101 #[.val (.ref o0), .val (.ref o1), .val (.int p0), .val (.int p1), .val (.int (v5_1 zs ls p0 p1)), .val (.int (v5_2 zs ls p0 p1)), (if (getI zs (getI ls p0)) < (getI zs (getI ls p1)) then .val (.int (getI ls p0)) else .unset)] [(.int (v5_2 zs ls p0 p1)), (.ref o1), (.int (getI zs (v5_1 zs ls p0 p1))), (.int (v5_1 zs ls p0 p1)), (.ref o1)])) rfl rfl (hb hby d5_101) _ ?_
              show Steps p.tables e below (T114.setTop (mkF m 102 #[.val (.ref o0), .val (.ref o1), .val (.int p0), .val (.int p1), .val (.int (v5_1 zs ls p0 p1)), .val (.int (v5_2 zs ls p0 p1)), (if (getI zs (getI ls p0)) < (getI zs (getI ls p1)) then .val (.int (getI ls p0)) else .unset)] [(.int (getI zs (v5_2 zs ls p0 p1))), (.int (getI zs (v5_1 zs ls p0 p1))), (.int (v5_1 zs ls p0 p1)), (.ref o1)])) _
              refine XS.iadd X114.here hx rfl (hb hby d5_102) rfl ?_
              show Steps p.tables e below (T114.setTop (mkF m 103 #[.val (.ref o0), .val (.ref o1), .val (.int p0), .val (.int p1), .val (.int (v5_1 zs ls p0 p1)), .val (.int (v5_2 zs ls p0 p1)), (if (getI zs (getI ls p0)) < (getI zs (getI ls p1)) then .val (.int (getI ls p0)) else .unset)] [(.int ((getI zs (v5_1 zs ls p0 p1)) + (getI zs (v5_2 zs ls p0 p1)))), (.int (v5_1 zs ls p0 p1)), (.ref o1)])) _
              refine st118 _ ?_
              show Steps p.tables e below (T118.setTop (mkF m 104 #[.val (.ref o0), .val (.ref o1), .val (.int p0), .val (.int p1), .val (.int (v5_1 zs ls p0 p1)), .val (.int (v5_2 zs ls p0 p1)), (if (getI zs (getI ls p0)) < (getI zs (getI ls p1)) then .val (.int (getI ls p0)) else .unset)] [])) _
              exact X118.returnOut hx Bd.returns (hb hby d5_104) hr
            · show Q5 Z o0 o1 p0 p1 ka ls kb zs h0 n0 _ T118.heap _
              rw [e118]
              have hg119 : (g5_o0 p0 p1 ls zs) = (setI (setI (setI ls (1 : Int32) (v5_1 zs ls p0 p1)) (2 : Int32) (v5_1 zs ls p0 p1)) (3 : Int32) (v5_1 zs ls p0 p1)) := by simp only [g5_o0, if_neg hc14_4, if_neg hc46_14, if_pos hc59_102, if_pos hc72_107, if_pos hc85_112]
              have hg120 : (g5_o1 p0 p1 ls zs) = (setI zs (v5_1 zs ls p0 p1) ((getI zs (v5_1 zs ls p0 p1)) + (getI zs (v5_2 zs ls p0 p1)))) := by simp only [g5_o1, if_neg hc14_4, if_neg hc46_14, if_pos hc59_102, if_pos hc72_107, if_pos hc85_112]
              exact ⟨rfl, N118, K118, (by rw [hg119]; exact (Vw114.other W118 ne_o0_o1)), (by rw [hg120]; exact Vw118)⟩
          · obtain ⟨cl121, Ar121, hin121, hat121⟩ := Ia.get (((V_o1.other W104 (Ne.symm ne_o0_o1)).other W109 (Ne.symm ne_o0_o1))) (j := (v5_1 zs ls p0 p1)) (by first | exact own_ite hB.2.2.2 hB.2.2.1 | exact own_ite hB.2.2.1 hB.2.2.2)
            obtain ⟨cl122, Ar122, hin122, hat122⟩ := Ia.get (((V_o1.other W104 (Ne.symm ne_o0_o1)).other W109 (Ne.symm ne_o0_o1))) (j := (v5_2 zs ls p0 p1)) (by first | exact own_ite hB.2.2.2 hB.2.2.1 | exact own_ite hB.2.2.1 hB.2.2.2)
            obtain ⟨cl123, Ar123, hin123, hat123⟩ := Ia.get (((V_o1.other W104 (Ne.symm ne_o0_o1)).other W109 (Ne.symm ne_o0_o1))) (j := (v5_1 zs ls p0 p1)) (by first | exact own_ite hB.2.2.2 hB.2.2.1 | exact own_ite hB.2.2.1 hB.2.2.2)
            obtain ⟨T124, h124, X124, e124, W124, st124⟩ := stI X109 hx hZ e109 Ar123 (j := (v5_1 zs ls p0 p1)) hin123 (g := (mkF m 103 #[.val (.ref o0), .val (.ref o1), .val (.int p0), .val (.int p1), .val (.int (v5_1 zs ls p0 p1)), .val (.int (v5_2 zs ls p0 p1)), (if (getI zs (getI ls p0)) < (getI zs (getI ls p1)) then .val (.int (getI ls p0)) else .unset)] [(.int ((getI zs (v5_1 zs ls p0 p1)) + (getI zs (v5_2 zs ls p0 p1)))), (.int (v5_1 zs ls p0 p1)), (.ref o1)])) rfl rfl (hb hby d5_103)
            have Vw124 := Ia.set (((V_o1.other W104 (Ne.symm ne_o0_o1)).other W109 (Ne.symm ne_o0_o1))) (j := (v5_1 zs ls p0 p1)) (x := ((getI zs (v5_1 zs ls p0 p1)) + (getI zs (v5_2 zs ls p0 p1)))) (by first | exact own_ite hB.2.2.2 hB.2.2.1 | exact own_ite hB.2.2.1 hB.2.2.2) rfl W124
            have N124 := Fr.snoc X124 N109 g_o1
            have Z124 : n0 ≤ h124.size := Nat.le_trans Z109 (Keep.of_wr W124).1
            have K124 : Keep h0 h124 [o0, o1] := (K109).wr W124 (Or.inl (List.mem_of_getElem? (i := 1) rfl))
            obtain ⟨fs, hr, hrun, hended, hW, hsame⟩ := X124.leave (v := none) (fun _ => rfl) hlk
            refine ⟨_, _, pre111 _ ?_, hrun, hended, _, _, rfl, ?_, ⟨_, rfl⟩, hW, hsame.mono (by decide) (by decide)⟩
            · show Steps p.tables e below (T109.setTop (mkF m 85 #[.val (.ref o0), .val (.ref o1), .val (.int p0), .val (.int p1), .val (.int (v5_1 zs ls p0 p1)), .val (.int (v5_2 zs ls p0 p1)), (if (getI zs (getI ls p0)) < (getI zs (getI ls p1)) then .val (.int (getI ls p0)) else .unset)] [(.int (v5_2 zs ls p0 p1)), (.int (v5_7 ls zs p0 p1))])) _
              refine XS.icmpYes X109.here hx rfl (pc0 := 85) (pc' := 93) rfl (hb hby d5_85) rfl (feq hc85_112).2 (by decide) (by decide) ?_
              show Steps p.tables e below (T109.setTop (mkF m 93 #[.val (.ref o0), .val (.ref o1), .val (.int p0), .val (.int p1), .val (.int (v5_1 zs ls p0 p1)), .val (.int (v5_2 zs ls p0 p1)), (if (getI zs (getI ls p0)) < (getI zs (getI ls p1)) then .val (.int (getI ls p0)) else .unset)] [])) _
              refine XS.aloadN X109.here hx rfl (hb hby d5_93) rfl rfl ?_
              show Steps p.tables e below (T109.setTop (mkF m 94 #[.val (.ref o0), .val (.ref o1), .val (.int p0), .val (.int p1), .val (.int (v5_1 zs ls p0 p1)), .val (.int (v5_2 zs ls p0 p1)), (if (getI zs (getI ls p0)) < (getI zs (getI ls p1)) then .val (.int (getI ls p0)) else .unset)] [(.ref o1)])) _
              refine XS.iload X109.here hx rfl (hb hby d5_94) rfl ?_
              show Steps p.tables e below (T109.setTop (mkF m 96 #[.val (.ref o0), .val (.ref o1), .val (.int p0), .val (.int p1), .val (.int (v5_1 zs ls p0 p1)), .val (.int (v5_2 zs ls p0 p1)), (if (getI zs (getI ls p0)) < (getI zs (getI ls p1)) then .val (.int (getI ls p0)) else .unset)] [(.int (v5_1 zs ls p0 p1)), (.ref o1)])) _
              refine XT.dup2 X109.here hx rfl (hb hby d5_96) rfl rfl rfl ?_
              show Steps p.tables e below (T109.setTop (mkF m 97 #[.val (.ref o0), .val (.ref o1), .val (.int p0), .val (.int p1), .val (.int (v5_1 zs ls p0 p1)), .val (.int (v5_2 zs ls p0 p1)), (if (getI zs (getI ls p0)) < (getI zs (getI ls p1)) then .val (.int (getI ls p0)) else .unset)] [(.int (v5_1 zs ls p0 p1)), (.ref o1), (.int (v5_1 zs ls p0 p1)), (.ref o1)])) _
              refine X109.iaload hx (j := (v5_1 zs ls p0 p1)) (v := (.int (getI zs (v5_1 zs ls p0 p1)))) (by rw [e109]; exact Ar121.1) (State.isArrayOf_alike hZ.alike Ar121.2.1) Ar121.2.2 hin121 hat121 (g := (mkF m 97 #[.val (.ref o0), .val (.ref o1), .val (.int p0), .val (.int p1), .val (.int (v5_1 zs ls p0 p1)), .val (.int (v5_2 zs ls p0 p1)), (if (getI zs (getI ls p0)) < (getI zs (getI ls p1)) then .val (.int (getI ls p0)) else .unset)] [(.int (v5_1 zs ls p0 p1)), (.ref o1), (.int (v5_1 zs ls p0 p1)), (.ref o1)])) rfl rfl (hb hby d5_97) _ ?_
              show Steps p.tables e below (T109.setTop (mkF m 98 #[.val (.ref o0), .val (.ref o1), .val (.int p0), .val (.int p1), .val (.int (v5_1 zs ls p0 p1)), .val (.int (v5_2 zs ls p0 p1)), (if (getI zs (getI ls p0)) < (getI zs (getI ls p1)) then .val (.int (getI ls p0)) else .unset)] [(.int (getI zs (v5_1 zs ls p0 p1))), (.int (v5_1 zs ls p0 p1)), (.ref o1)])) _
              refine XS.aloadN X109.here hx rfl (hb hby d5_98) rfl rfl ?_
              show Steps p.tables e below (T109.setTop (mkF m 99 #[.val (.ref o0), .val (.ref o1), .val (.int p0), .val (.int p1), .val (.int (v5_1 zs ls p0 p1)), .val (.int (v5_2 zs ls p0 p1)), (if (getI zs (getI ls p0)) < (getI zs (getI ls p1)) then .val (.int (getI ls p0)) else .unset)] [(.ref o1), (.int (getI zs (v5_1 zs ls p0 p1))), (.int (v5_1 zs ls p0 p1)), (.ref o1)])) _
              refine XS.iload X109.here hx rfl (hb hby d5_99) rfl ?_
              show Steps p.tables e below (T109.setTop (mkF m 101 #[.val (.ref o0), .val (.ref o1), .val (.int p0), .val (.int p1), .val (.int (v5_1 zs ls p0 p1)), .val (.int (v5_2 zs ls p0 p1)), (if (getI zs (getI ls p0)) < (getI zs (getI ls p1)) then .val (.int (getI ls p0)) else .unset)] [(.int (v5_2 zs ls p0 p1)), (.ref o1), (.int (getI zs (v5_1 zs ls p0 p1))), (.int (v5_1 zs ls p0 p1)), (.ref o1)])) _
              refine X109.iaload hx (j := (v5_2 zs ls p0 p1)) (v := (.int (getI zs (v5_2 zs ls p0 p1)))) (by rw [e109]; exact Ar122.1) (State.isArrayOf_alike hZ.alike Ar122.2.1) Ar122.2.2 hin122 hat122 (g := (mkF m 101 #[.val (.ref o0), .val (.ref o1), .val (.int p0), .val (.int p1), .val (.int (v5_1 zs ls p0 p1)), .val (.int (v5_2 zs ls p0 p1)), (if (getI zs (getI ls p0)) < (getI zs (getI ls p1)) then .val (.int (getI ls p0)) else .unset)] [(.int (v5_2 zs ls p0 p1)), (.ref o1), (.int (getI zs (v5_1 zs ls p0 p1))), (.int (v5_1 zs ls p0 p1)), (.ref o1)])) rfl rfl (hb hby d5_101) _ ?_
              show Steps p.tables e below (T109.setTop (mkF m 102 #[.val (.ref o0), .val (.ref o1), .val (.int p0), .val (.int p1), .val (.int (v5_1 zs ls p0 p1)), .val (.int (v5_2 zs ls p0 p1)), (if (getI zs (getI ls p0)) < (getI zs (getI ls p1)) then .val (.int (getI ls p0)) else .unset)] [(.int (getI zs (v5_2 zs ls p0 p1))), (.int (getI zs (v5_1 zs ls p0 p1))), (.int (v5_1 zs ls p0 p1)), (.ref o1)])) _
              refine XS.iadd X109.here hx rfl (hb hby d5_102) rfl ?_
              show Steps p.tables e below (T109.setTop (mkF m 103 #[.val (.ref o0), .val (.ref o1), .val (.int p0), .val (.int p1), .val (.int (v5_1 zs ls p0 p1)), .val (.int (v5_2 zs ls p0 p1)), (if (getI zs (getI ls p0)) < (getI zs (getI ls p1)) then .val (.int (getI ls p0)) else .unset)] [(.int ((getI zs (v5_1 zs ls p0 p1)) + (getI zs (v5_2 zs ls p0 p1)))), (.int (v5_1 zs ls p0 p1)), (.ref o1)])) _
              refine st124 _ ?_
              show Steps p.tables e below (T124.setTop (mkF m 104 #[.val (.ref o0), .val (.ref o1), .val (.int p0), .val (.int p1), .val (.int (v5_1 zs ls p0 p1)), .val (.int (v5_2 zs ls p0 p1)), (if (getI zs (getI ls p0)) < (getI zs (getI ls p1)) then .val (.int (getI ls p0)) else .unset)] [])) _
              exact X124.returnOut hx Bd.returns (hb hby d5_104) hr
            · show Q5 Z o0 o1 p0 p1 ka ls kb zs h0 n0 _ T124.heap _
              rw [e124]
              have hg125 : (g5_o0 p0 p1 ls zs) = (setI (setI ls (1 : Int32) (v5_1 zs ls p0 p1)) (2 : Int32) (v5_1 zs ls p0 p1)) := by simp only [g5_o0, if_neg hc14_4, if_neg hc46_14, if_pos hc59_102, if_pos hc72_107, if_neg hc85_112]
              have hg126 : (g5_o1 p0 p1 ls zs) = (setI zs (v5_1 zs ls p0 p1) ((getI zs (v5_1 zs ls p0 p1)) + (getI zs (v5_2 zs ls p0 p1)))) := by simp only [g5_o1, if_neg hc14_4, if_neg hc46_14, if_pos hc59_102, if_pos hc72_107, if_neg hc85_112]
              exact ⟨rfl, N124, K124, (by rw [hg125]; exact (Vw109.other W124 ne_o0_o1)), (by rw [hg126]; exact Vw124)⟩
        · obtain ⟨cl127, Ar127, hin127, hat127⟩ := Ia.get (Vw104) (j := (3 : Int32)) ⟨by decide, by decide⟩
          have pre128 : ∀ t, Steps p.tables e below (T104.setTop (mkF m 85 #[.val (.ref o0), .val (.ref o1), .val (.int p0), .val (.int p1), .val (.int (v5_1 zs ls p0 p1)), .val (.int (v5_2 zs ls p0 p1)), (if (getI zs (getI ls p0)) < (getI zs (getI ls p1)) then .val (.int (getI ls p0)) else .unset)] [(.int (v5_2 zs ls p0 p1)), (.int (getI (setI ls (1 : Int32) (v5_1 zs ls p0 p1)) (3 : Int32)))])) t → Steps p.tables e below (s₁.setTop (entryFrame m #[(.ref o0), (.ref o1), (.int p0), (.int p1)] 7)) t := fun t k => pre106 t (by
            show Steps p.tables e below (T104.setTop (mkF m 72 #[.val (.ref o0), .val (.ref o1), .val (.int p0), .val (.int p1), .val (.int (v5_1 zs ls p0 p1)), .val (.int (v5_2 zs ls p0 p1)), (if (getI zs (getI ls p0)) < (getI zs (getI ls p1)) then .val (.int (getI ls p0)) else .unset)] [(.int (v5_2 zs ls p0 p1)), (.int (getI (setI ls (1 : Int32) (v5_1 zs ls p0 p1)) (2 : Int32)))])) _
            refine XS.icmpYes X104.here hx rfl (pc0 := 72) (pc' := 80) rfl (hb hby d5_72) rfl (feq hc72_107).2 (by decide) (by decide) ?_
            show Steps p.tables e below (T104.setTop (mkF m 80 #[.val (.ref o0), .val (.ref o1), .val (.int p0), .val (.int p1), .val (.int (v5_1 zs ls p0 p1)), .val (.int (v5_2 zs ls p0 p1)), (if (getI zs (getI ls p0)) < (getI zs (getI ls p1)) then .val (.int (getI ls p0)) else .unset)] [])) _
            refine XS.aloadN X104.here hx rfl (hb hby d5_80) rfl rfl ?_
            show Steps p.tables e below (T104.setTop (mkF m 81 #[.val (.ref o0), .val (.ref o1), .val (.int p0), .val (.int p1), .val (.int (v5_1 zs ls p0 p1)), .val (.int (v5_2 zs ls p0 p1)), (if (getI zs (getI ls p0)) < (getI zs (getI ls p1)) then .val (.int (getI ls p0)) else .unset)] [(.ref o0)])) _
            refine XS.iconst X104.here hx rfl (hb hby d5_81) ?_
            show Steps p.tables e below (T104.setTop (mkF m 82 #[.val (.ref o0), .val (.ref o1), .val (.int p0), .val (.int p1), .val (.int (v5_1 zs ls p0 p1)), .val (.int (v5_2 zs ls p0 p1)), (if (getI zs (getI ls p0)) < (getI zs (getI ls p1)) then .val (.int (getI ls p0)) else .unset)] [(.int (3 : Int32)), (.ref o0)])) _
            refine X104.iaload hx (j := (3 : Int32)) (v := (.int (getI (setI ls (1 : Int32) (v5_1 zs ls p0 p1)) (3 : Int32)))) (by rw [e104]; exact Ar127.1) (State.isArrayOf_alike hZ.alike Ar127.2.1) Ar127.2.2 hin127 hat127 (g := (mkF m 82 #[.val (.ref o0), .val (.ref o1), .val (.int p0), .val (.int p1), .val (.int (v5_1 zs ls p0 p1)), .val (.int (v5_2 zs ls p0 p1)), (if (getI zs (getI ls p0)) < (getI zs (getI ls p1)) then .val (.int (getI ls p0)) else .unset)] [(.int (3 : Int32)), (.ref o0)])) rfl rfl (hb hby d5_82) _ ?_
            show Steps p.tables e below (T104.setTop (mkF m 83 #[.val (.ref o0), .val (.ref o1), .val (.int p0), .val (.int p1), .val (.int (v5_1 zs ls p0 p1)), .val (.int (v5_2 zs ls p0 p1)), (if (getI zs (getI ls p0)) < (getI zs (getI ls p1)) then .val (.int (getI ls p0)) else .unset)] [(.int (getI (setI ls (1 : Int32) (v5_1 zs ls p0 p1)) (3 : Int32)))])) _
            refine XS.iload X104.here hx rfl (hb hby d5_83) rfl ?_
            show Steps p.tables e below (T104.setTop (mkF m 85 #[.val (.ref o0), .val (.ref o1), .val (.int p0), .val (.int p1), .val (.int (v5_1 zs ls p0 p1)), .val (.int (v5_2 zs ls p0 p1)), (if (getI zs (getI ls p0)) < (getI zs (getI ls p1)) then .val (.int (getI ls p0)) else .unset)] [(.int (v5_2 zs ls p0 p1)), (.int (getI (setI ls (1 : Int32) (v5_1 zs ls p0 p1)) (3 : Int32)))])) _
            exact k)
          by_cases hc85_129 : (getI (setI ls (1 : Int32) (v5_1 zs ls p0 p1)) (3 : Int32)) = (v5_2 zs ls p0 p1)
          · obtain ⟨cl130, Ar130, hin130, hat130⟩ := Ia.get (Vw104) (j := (3 : Int32)) ⟨by decide, by decide⟩
            obtain ⟨T131, h131, X131, e131, W131, st131⟩ := stI X104 hx hZ e104 Ar130 (j := (3 : Int32)) hin130 (g := (mkF m 92 #[.val (.ref o0), .val (.ref o1), .val (.int p0), .val (.int p1), .val (.int (v5_1 zs ls p0 p1)), .val (.int (v5_2 zs ls p0 p1)), (if (getI zs (getI ls p0)) < (getI zs (getI ls p1)) then .val (.int (getI ls p0)) else .unset)] [(.int (v5_1 zs ls p0 p1)), (.int (3 : Int32)), (.ref o0)])) rfl rfl (hb hby d5_92)
            have Vw131 := Ia.set (Vw104) (j := (3 : Int32)) (x := (v5_1 zs ls p0 p1)) ⟨by decide, by decide⟩ rfl W131
            have N131 := Fr.snoc X131 N104 g_o0
            have Z131 : n0 ≤ h131.size := Nat.le_trans Z104 (Keep.of_wr W131).1
            have K131 : Keep h0 h131 [o0, o1] := (K104).wr W131 (Or.inl (List.mem_of_getElem? (i := 0) rfl))
            obtain ⟨cl132, Ar132, hin132, hat132⟩ := Ia.get (((V_o1.other W104 (Ne.symm ne_o0_o1)).other W131 (Ne.symm ne_o0_o1))) (j := (v5_1 zs ls p0 p1)) (by first | exact own_ite hB.2.2.2 hB.2.2.1 | exact own_ite hB.2.2.1 hB.2.2.2)
            obtain ⟨cl133, Ar133, hin133, hat133⟩ := Ia.get (((V_o1.other W104 (Ne.symm ne_o0_o1)).other W131 (Ne.symm ne_o0_o1))) (j := (v5_2 zs ls p0 p1)) (by first | exact own_ite hB.2.2.2 hB.2.2.1 | exact own_ite hB.2.2.1 hB.2.2.2)
            obtain ⟨cl134, Ar134, hin134, hat134⟩ := Ia.get (((V_o1.other W104 (Ne.symm ne_o0_o1)).other W131 (Ne.symm ne_o0_o1))) (j := (v5_1 zs ls p0 p1)) (by first | exact own_ite hB.2.2.2 hB.2.2.1 | exact own_ite hB.2.2.1 hB.2.2.2)
            obtain ⟨T135, h135, X135, e135, W135, st135⟩ := stI X131 hx hZ e131 Ar134 (j := (v5_1 zs ls p0 p1)) hin134 (g := (mkF m 103 #[.val (.ref o0), .val (.ref o1), .val (.int p0), .val (.int p1), .val (.int (v5_1 zs ls p0 p1)), .val (.int (v5_2 zs ls p0 p1)), (if (getI zs (getI ls p0)) < (getI zs (getI ls p1)) then .val (.int (getI ls p0)) else .unset)] [(.int ((getI zs (v5_1 zs ls p0 p1)) + (getI zs (v5_2 zs ls p0 p1)))), (.int (v5_1 zs ls p0 p1)), (.ref o1)])) rfl rfl (hb hby d5_103)
            have Vw135 := Ia.set (((V_o1.other W104 (Ne.symm ne_o0_o1)).other W131 (Ne.symm ne_o0_o1))) (j := (v5_1 zs ls p0 p1)) (x := ((getI zs (v5_1 zs ls p0 p1)) + (getI zs (v5_2 zs ls p0 p1)))) (by first | exact own_ite hB.2.2.2 hB.2.2.1 | exact own_ite hB.2.2.1 hB.2.2.2) rfl W135
            have N135 := Fr.snoc X135 N131 g_o1
            have Z135 : n0 ≤ h135.size := Nat.le_trans Z131 (Keep.of_wr W135).1
            have K135 : Keep h0 h135 [o0, o1] := (K131).wr W135 (Or.inl (List.mem_of_getElem? (i := 1) rfl))
            obtain ⟨fs, hr, hrun, hended, hW, hsame⟩ := X135.leave (v := none) (fun _ => rfl) hlk
            refine ⟨_, _, pre128 _ ?_, hrun, hended, _, _, rfl, ?_, ⟨_, rfl⟩, hW, hsame.mono (by decide) (by decide)⟩
            · show Steps p.tables e below (T104.setTop (mkF m 85 #[.val (.ref o0), .val (.ref o1), .val (.int p0), .val (.int p1), .val (.int (v5_1 zs ls p0 p1)), .val (.int (v5_2 zs ls p0 p1)), (if (getI zs (getI ls p0)) < (getI zs (getI ls p1)) then .val (.int (getI ls p0)) else .unset)] [(.int (v5_2 zs ls p0 p1)), (.int (getI (setI ls (1 : Int32) (v5_1 zs ls p0 p1)) (3 : Int32)))])) _
              refine XS.icmpNo X104.here hx rfl (hb hby d5_85) rfl (teq hc85_129).2 ?_
              show Steps p.tables e below (T104.setTop (mkF m 88 #[.val (.ref o0), .val (.ref o1), .val (.int p0), .val (.int p1), .val (.int (v5_1 zs ls p0 p1)), .val (.int (v5_2 zs ls p0 p1)), (if (getI zs (getI ls p0)) < (getI zs (getI ls p1)) then .val (.int (getI ls p0)) else .unset)] [])) _
              refine XS.aloadN X104.here hx rfl (hb hby d5_88) rfl rfl ?_
              show Steps p.tables e below (T104.setTop (mkF m 89 #[.val (.ref o0), .val (.ref o1), .val (.int p0), .val (.int p1), .val (.int (v5_1 zs ls p0 p1)), .val (.int (v5_2 zs ls p0 p1)), (if (getI zs (getI ls p0)) < (getI zs (getI ls p1)) then .val (.int (getI ls p0)) else .unset)] [(.ref o0)])) _
              refine XS.iconst X104.here hx rfl (hb hby d5_89) ?_
              show Steps p.tables e below (T104.setTop (mkF m 90 #[.val (.ref o0), .val (.ref o1), .val (.int p0), .val (.int p1), .val (.int (v5_1 zs ls p0 p1)), .val (.int (v5_2 zs ls p0 p1)), (if (getI zs (getI ls p0)) < (getI zs (getI ls p1)) then .val (.int (getI ls p0)) else .unset)] [(.int (3 : Int32)), (.ref o0)])) _
              refine XS.iload X104.here hx rfl (hb hby d5_90) rfl ?_
              show Steps p.tables e below (T104.setTop (mkF m 92 #[.val (.ref o0), .val (.ref o1), .val (.int p0), .val (.int p1), .val (.int (v5_1 zs ls p0 p1)), .val (.int (v5_2 zs ls p0 p1)), (if (getI zs (getI ls p0)) < (getI zs (getI ls p1)) then .val (.int (getI ls p0)) else .unset)] [(.int (v5_1 zs ls p0 p1)), (.int (3 : Int32)), (.ref o0)])) _
              refine st131 _ ?_
              show Steps p.tables e below (T131.setTop (mkF m 93 #[.val (.ref o0), .val (.ref o1), .val (.int p0), .val (.int p1), .val (.int (v5_1 zs ls p0 p1)), .val (.int (v5_2 zs ls p0 p1)), (if (getI zs (getI ls p0)) < (getI zs (getI ls p1)) then .val (.int (getI ls p0)) else .unset)] [])) _
              refine XS.aloadN X131.here hx rfl (hb hby d5_93) rfl rfl ?_
              show Steps p.tables e below (T131.setTop (mkF m 94 #[.val (.ref o0), .val (.ref o1), .val (.int p0), .val (.int p1), .val (.int (v5_1 zs ls p0 p1)), .val (.int (v5_2 zs ls p0 p1)), (if (getI zs (getI ls p0)) < (getI zs (getI ls p1)) then .val (.int (getI ls p0)) else .unset)] [(.ref o1)])) _
              refine XS.iload X131.here hx rfl (hb hby d5_94) rfl ?_
              show Steps p.tables e below (T131.setTop (mkF m 96 #[.val (.ref o0), .val (.ref o1), .val (.int p0), .val (.int p1), .val (.int (v5_1 zs ls p0 p1)), .val (.int (v5_2 zs ls p0 p1)), (if (getI zs (getI ls p0)) < (getI zs (getI ls p1)) then .val (.int (getI ls p0)) else .unset)] [(.int (v5_1 zs ls p0 p1)), (.ref o1)])) _
              refine XT.dup2 X131.here hx rfl (hb hby d5_96) rfl rfl rfl ?_
              show Steps p.tables e below (T131.setTop (mkF m 97 #[.val (.ref o0), .val (.ref o1), .val (.int p0), .val (.int p1), .val (.int (v5_1 zs ls p0 p1)), .val (.int (v5_2 zs ls p0 p1)), (if (getI zs (getI ls p0)) < (getI zs (getI ls p1)) then .val (.int (getI ls p0)) else .unset)] [(.int (v5_1 zs ls p0 p1)), (.ref o1), (.int (v5_1 zs ls p0 p1)), (.ref o1)])) _
              refine X131.iaload hx (j := (v5_1 zs ls p0 p1)) (v := (.int (getI zs (v5_1 zs ls p0 p1)))) (by rw [e131]; exact Ar132.1) (State.isArrayOf_alike hZ.alike Ar132.2.1) Ar132.2.2 hin132 hat132 (g := (mkF m 97 #[.val (.ref o0), .val (.ref o1), .val (.int p0), .val (.int p1), .val (.int (v5_1 zs ls p0 p1)), .val (.int (v5_2 zs ls p0 p1)), (if (getI zs (getI ls p0)) < (getI zs (getI ls p1)) then .val (.int (getI ls p0)) else .unset)] [(.int (v5_1 zs ls p0 p1)), (.ref o1), (.int (v5_1 zs ls p0 p1)), (.ref o1)])) rfl rfl (hb hby d5_97) _ ?_
              show Steps p.tables e below (T131.setTop (mkF m 98 #[.val (.ref o0), .val (.ref o1), .val (.int p0), .val (.int p1), .val (.int (v5_1 zs ls p0 p1)), .val (.int (v5_2 zs ls p0 p1)), (if (getI zs (getI ls p0)) < (getI zs (getI ls p1)) then .val (.int (getI ls p0)) else .unset)] [(.int (getI zs (v5_1 zs ls p0 p1))), (.int (v5_1 zs ls p0 p1)), (.ref o1)])) _
              refine XS.aloadN X131.here hx rfl (hb hby d5_98) rfl rfl ?_
              show Steps p.tables e below (T131.setTop (mkF m 99 #[.val (.ref o0), .val (.ref o1), .val (.int p0), .val (.int p1), .val (.int (v5_1 zs ls p0 p1)), .val (.int (v5_2 zs ls p0 p1)), (if (getI zs (getI ls p0)) < (getI zs (getI ls p1)) then .val (.int (getI ls p0)) else .unset)] [(.ref o1), (.int (getI zs (v5_1 zs ls p0 p1))), (.int (v5_1 zs ls p0 p1)), (.ref o1)])) _
              refine XS.iload X131.here hx rfl (hb hby d5_99) rfl ?_
              show Steps p.tables e below (T131.setTop (mkF m 101 #[.val (.ref o0), .val (.ref o1), .val (.int p0), .val (.int p1), .val (.int (v5_1 zs ls p0 p1)), .val (.int (v5_2 zs ls p0 p1)), (if (getI zs (getI ls p0)) < (getI zs (getI ls p1)) then .val (.int (getI ls p0)) else .unset)] [(.int (v5_2 zs ls p0 p1)), (.ref o1), (.int (getI zs (v5_1 zs ls p0 p1))), (.int (v5_1 zs ls p0 p1)), (.ref o1)])) _
              refine X131.iaload hx (j := (v5_2 zs ls p0 p1)) (v := (.int (getI zs (v5_2 zs ls p0 p1)))) (by rw [e131]; exact Ar133.1) (State.isArrayOf_alike hZ.alike Ar133.2.1) Ar133.2.2 hin133 hat133 (g := (mkF m 101 #[.val (.ref o0), .val (.ref o1), .val (.int p0), .val (.int p1), .val (.int (v5_1 zs ls p0 p1)), .val (.int (v5_2 zs ls p0 p1)), (if (getI zs (getI ls p0)) < (getI zs (getI ls p1)) then .val (.int (getI ls p0)) else .unset)] [(.int (v5_2 zs ls p0 p1)), (.ref o1), (.int (getI zs (v5_1 zs ls p0 p1))), (.int (v5_1 zs ls p0 p1)), (.ref o1)])) rfl rfl (hb hby d5_101) _ ?_
              show Steps p.tables e below (T131.setTop (mkF m 102 #[.val (.ref o0), .val (.ref o1), .val (.int p0), .val (.int p1), .val (.int (v5_1 zs ls p0 p1)), .val (.int (v5_2 zs ls p0 p1)), (if (getI zs (getI ls p0)) < (getI zs (getI ls p1)) then .val (.int (getI ls p0)) else .unset)] [(.int (getI zs (v5_2 zs ls p0 p1))), (.int (getI zs (v5_1 zs ls p0 p1))), (.int (v5_1 zs ls p0 p1)), (.ref o1)])) _
              refine XS.iadd X131.here hx rfl (hb hby d5_102) rfl ?_
              show Steps p.tables e below (T131.setTop (mkF m 103 #[.val (.ref o0), .val (.ref o1), .val (.int p0), .val (.int p1), .val (.int (v5_1 zs ls p0 p1)), .val (.int (v5_2 zs ls p0 p1)), (if (getI zs (getI ls p0)) < (getI zs (getI ls p1)) then .val (.int (getI ls p0)) else .unset)] [(.int ((getI zs (v5_1 zs ls p0 p1)) + (getI zs (v5_2 zs ls p0 p1)))), (.int (v5_1 zs ls p0 p1)), (.ref o1)])) _
              refine st135 _ ?_
              show Steps p.tables e below (T135.setTop (mkF m 104 #[.val (.ref o0), .val (.ref o1), .val (.int p0), .val (.int p1), .val (.int (v5_1 zs ls p0 p1)), .val (.int (v5_2 zs ls p0 p1)), (if (getI zs (getI ls p0)) < (getI zs (getI ls p1)) then .val (.int (getI ls p0)) else .unset)] [])) _
              exact X135.returnOut hx Bd.returns (hb hby d5_104) hr
            · show Q5 Z o0 o1 p0 p1 ka ls kb zs h0 n0 _ T135.heap _
              rw [e135]
              have hg136 : (g5_o0 p0 p1 ls zs) = (setI (setI ls (1 : Int32) (v5_1 zs ls p0 p1)) (3 : Int32) (v5_1 zs ls p0 p1)) := by simp only [g5_o0, if_neg hc14_4, if_neg hc46_14, if_pos hc59_102, if_neg hc72_107, if_pos hc85_129]
              have hg137 : (g5_o1 p0 p1 ls zs) = (setI zs (v5_1 zs ls p0 p1) ((getI zs (v5_1 zs ls p0 p1)) + (getI zs (v5_2 zs ls p0 p1)))) := by simp only [g5_o1, if_neg hc14_4, if_neg hc46_14, if_pos hc59_102, if_neg hc72_107, if_pos hc85_129]
              exact ⟨rfl, N135, K135, (by rw [hg136]; exact (Vw131.other W135 ne_o0_o1)), (by rw [hg137]; exact Vw135)⟩
          · obtain ⟨cl138, Ar138, hin138, hat138⟩ := Ia.get ((V_o1.other W104 (Ne.symm ne_o0_o1))) (j := (v5_1 zs ls p0 p1)) (by first | exact own_ite hB.2.2.2 hB.2.2.1 | exact own_ite hB.2.2.1 hB.2.2.2)
            obtain ⟨cl139, Ar139, hin139, hat139⟩ := Ia.get ((V_o1.other W104 (Ne.symm ne_o0_o1))) (j := (v5_2 zs ls p0 p1)) (by first | exact own_ite hB.2.2.2 hB.2.2.1 | exact own_ite hB.2.2.1 hB.2.2.2)
            obtain ⟨cl140, Ar140, hin140, hat140⟩ := Ia.get ((V_o1.other W104 (Ne.symm ne_o0_o1))) (j := (v5_1 zs ls p0 p1)) (by first | exact own_ite hB.2.2.2 hB.2.2.1 | exact own_ite hB.2.2.1 hB.2.2.2)
            obtain ⟨T141, h141, X141, e141, W141, st141⟩ := stI X104 hx hZ e104 Ar140 (j := (v5_1 zs ls p0 p1)) hin140 (g := (mkF m 103 #[.val (.ref o0), .val (.ref o1), .val (.int p0), .val (.int p1), .val (.int (v5_1 zs ls p0 p1)), .val (.int (v5_2 zs ls p0 p1)), (if (getI zs (getI ls p0)) < (getI zs (getI ls p1)) then .val (.int (getI ls p0)) else .unset)] [(.int ((getI zs (v5_1 zs ls p0 p1)) + (getI zs (v5_2 zs ls p0 p1)))), (.int (v5_1 zs ls p0 p1)), (.ref o1)])) rfl rfl (hb hby d5_103)
            have Vw141 := Ia.set ((V_o1.other W104 (Ne.symm ne_o0_o1))) (j := (v5_1 zs ls p0 p1)) (x := ((getI zs (v5_1 zs ls p0 p1)) + (getI zs (v5_2 zs ls p0 p1)))) (by first | exact own_ite hB.2.2.2 hB.2.2.1 | exact own_ite hB.2.2.1 hB.2.2.2) rfl W141
            have N141 := Fr.snoc X141 N104 g_o1
            have Z141 : n0 ≤ h141.size := Nat.le_trans Z104 (Keep.of_wr W141).1
            have K141 : Keep h0 h141 [o0, o1] := (K104).wr W141 (Or.inl (List.mem_of_getElem? (i := 1) rfl))
            obtain ⟨fs, hr, hrun, hended, hW, hsame⟩ := X141.leave (v := none) (fun _ => rfl) hlk
            refine ⟨_, _, pre128 _ ?_, hrun, hended, _, _, rfl, ?_, ⟨_, rfl⟩, hW, hsame.mono (by decide) (by decide)⟩
            · show Steps p.tables e below (T104.setTop (mkF m 85 #[.val (.ref o0), .val (.ref o1), .val (.int p0), .val (.int p1), .val (.int (v5_1 zs ls p0 p1)), .val (.int (v5_2 zs ls p0 p1)), (if (getI zs (getI ls p0)) < (getI zs (getI ls p1)) then .val (.int (getI ls p0)) else .unset)] [(.int (v5_2 zs ls p0 p1)), (.int (getI (setI ls (1 : Int32) (v5_1 zs ls p0 p1)) (3 : Int32)))])) _
              refine XS.icmpYes X104.here hx rfl (pc0 := 85) (pc' := 93) rfl (hb hby d5_85) rfl (feq hc85_129).2 (by decide) (by decide) ?_
              show Steps p.tables e below (T104.setTop (mkF m 93 #[.val (.ref o0), .val (.ref o1), .val (.int p0), .val (.int p1), .val (.int (v5_1 zs ls p0 p1)), .val (.int (v5_2 zs ls p0 p1)), (if (getI zs (getI ls p0)) < (getI zs (getI ls p1)) then .val (.int (getI ls p0)) else .unset)] [])) _
              refine XS.aloadN X104.here hx rfl (hb hby d5_93) rfl rfl ?_
              show Steps p.tables e below (T104.setTop (mkF m 94 #[.val (.ref o0), .val (.ref o1), .val (.int p0), .val (.int p1), .val (.int (v5_1 zs ls p0 p1)), .val (.int (v5_2 zs ls p0 p1)), (if (getI zs (getI ls p0)) < (getI zs (getI ls p1)) then .val (.int (getI ls p0)) else .unset)] [(.ref o1)])) _
              refine XS.iload X104.here hx rfl (hb hby d5_94) rfl ?_
              show Steps p.tables e below (T104.setTop (mkF m 96 #[.val (.ref o0), .val (.ref o1), .val (.int p0), .val (.int p1), .val (.int (v5_1 zs ls p0 p1)), .val (.int (v5_2 zs ls p0 p1)), (if (getI zs (getI ls p0)) < (getI zs (getI ls p1)) then .val (.int (getI ls p0)) else .unset)] [(.int (v5_1 zs ls p0 p1)), (.ref o1)])) _
              refine XT.dup2 X104.here hx rfl (hb hby d5_96) rfl rfl rfl ?_
              show Steps p.tables e below (T104.setTop (mkF m 97 #[.val (.ref o0), .val (.ref o1), .val (.int p0), .val (.int p1), .val (.int (v5_1 zs ls p0 p1)), .val (.int (v5_2 zs ls p0 p1)), (if (getI zs (getI ls p0)) < (getI zs (getI ls p1)) then .val (.int (getI ls p0)) else .unset)] [(.int (v5_1 zs ls p0 p1)), (.ref o1), (.int (v5_1 zs ls p0 p1)), (.ref o1)])) _
              refine X104.iaload hx (j := (v5_1 zs ls p0 p1)) (v := (.int (getI zs (v5_1 zs ls p0 p1)))) (by rw [e104]; exact Ar138.1) (State.isArrayOf_alike hZ.alike Ar138.2.1) Ar138.2.2 hin138 hat138 (g := (mkF m 97 #[.val (.ref o0), .val (.ref o1), .val (.int p0), .val (.int p1), .val (.int (v5_1 zs ls p0 p1)), .val (.int (v5_2 zs ls p0 p1)), (if (getI zs (getI ls p0)) < (getI zs (getI ls p1)) then .val (.int (getI ls p0)) else .unset)] [(.int (v5_1 zs ls p0 p1)), (.ref o1), (.int (v5_1 zs ls p0 p1)), (.ref o1)])) rfl rfl (hb hby d5_97) _ ?_
              show Steps p.tables e below (T104.setTop (mkF m 98 #[.val (.ref o0), .val (.ref o1), .val (.int p0), .val (.int p1), .val (.int (v5_1 zs ls p0 p1)), .val (.int (v5_2 zs ls p0 p1)), (if (getI zs (getI ls p0)) < (getI zs (getI ls p1)) then .val (.int (getI ls p0)) else .unset)] [(.int (getI zs (v5_1 zs ls p0 p1))), (.int (v5_1 zs ls p0 p1)), (.ref o1)])) _
              refine XS.aloadN X104.here hx rfl (hb hby d5_98) rfl rfl ?_
              show Steps p.tables e below (T104.setTop (mkF m 99 #[.val (.ref o0), .val (.ref o1), .val (.int p0), .val (.int p1), .val (.int (v5_1 zs ls p0 p1)), .val (.int (v5_2 zs ls p0 p1)), (if (getI zs (getI ls p0)) < (getI zs (getI ls p1)) then .val (.int (getI ls p0)) else .unset)] [(.ref o1), (.int (getI zs (v5_1 zs ls p0 p1))), (.int (v5_1 zs ls p0 p1)), (.ref o1)])) _
              refine XS.iload X104.here hx rfl (hb hby d5_99) rfl ?_
              show Steps p.tables e below (T104.setTop (mkF m 101 #[.val (.ref o0), .val (.ref o1), .val (.int p0), .val (.int p1), .val (.int (v5_1 zs ls p0 p1)), .val (.int (v5_2 zs ls p0 p1)), (if (getI zs (getI ls p0)) < (getI zs (getI ls p1)) then .val (.int (getI ls p0)) else .unset)] [(.int (v5_2 zs ls p0 p1)), (.ref o1), (.int (getI zs (v5_1 zs ls p0 p1))), (.int (v5_1 zs ls p0 p1)), (.ref o1)])) _
              refine X104.iaload hx (j := (v5_2 zs ls p0 p1)) (v := (.int (getI zs (v5_2 zs ls p0 p1)))) (by rw [e104]; exact Ar139.1) (State.isArrayOf_alike hZ.alike Ar139.2.1) Ar139.2.2 hin139 hat139 (g := (mkF m 101 #[.val (.ref o0), .val (.ref o1), .val (.int p0), .val (.int p1), .val (.int (v5_1 zs ls p0 p1)), .val (.int (v5_2 zs ls p0 p1)), (if (getI zs (getI ls p0)) < (getI zs (getI ls p1)) then .val (.int (getI ls p0)) else .unset)] [(.int (v5_2 zs ls p0 p1)), (.ref o1), (.int (getI zs (v5_1 zs ls p0 p1))), (.int (v5_1 zs ls p0 p1)), (.ref o1)])) rfl rfl (hb hby d5_101) _ ?_
              show Steps p.tables e below (T104.setTop (mkF m 102 #[.val (.ref o0), .val (.ref o1), .val (.int p0), .val (.int p1), .val (.int (v5_1 zs ls p0 p1)), .val (.int (v5_2 zs ls p0 p1)), (if (getI zs (getI ls p0)) < (getI zs (getI ls p1)) then .val (.int (getI ls p0)) else .unset)] [(.int (getI zs (v5_2 zs ls p0 p1))), (.int (getI zs (v5_1 zs ls p0 p1))), (.int (v5_1 zs ls p0 p1)), (.ref o1)])) _
              refine XS.iadd X104.here hx rfl (hb hby d5_102) rfl ?_
              show Steps p.tables e below (T104.setTop (mkF m 103 #[.val (.ref o0), .val (.ref o1), .val (.int p0), .val (.int p1), .val (.int (v5_1 zs ls p0 p1)), .val (.int (v5_2 zs ls p0 p1)), (if (getI zs (getI ls p0)) < (getI zs (getI ls p1)) then .val (.int (getI ls p0)) else .unset)] [(.int ((getI zs (v5_1 zs ls p0 p1)) + (getI zs (v5_2 zs ls p0 p1)))), (.int (v5_1 zs ls p0 p1)), (.ref o1)])) _
              refine st141 _ ?_
              show Steps p.tables e below (T141.setTop (mkF m 104 #[.val (.ref o0), .val (.ref o1), .val (.int p0), .val (.int p1), .val (.int (v5_1 zs ls p0 p1)), .val (.int (v5_2 zs ls p0 p1)), (if (getI zs (getI ls p0)) < (getI zs (getI ls p1)) then .val (.int (getI ls p0)) else .unset)] [])) _
              exact X141.returnOut hx Bd.returns (hb hby d5_104) hr
            · show Q5 Z o0 o1 p0 p1 ka ls kb zs h0 n0 _ T141.heap _
              rw [e141]
              have hg142 : (g5_o0 p0 p1 ls zs) = (setI ls (1 : Int32) (v5_1 zs ls p0 p1)) := by simp only [g5_o0, if_neg hc14_4, if_neg hc46_14, if_pos hc59_102, if_neg hc72_107, if_neg hc85_129]
              have hg143 : (g5_o1 p0 p1 ls zs) = (setI zs (v5_1 zs ls p0 p1) ((getI zs (v5_1 zs ls p0 p1)) + (getI zs (v5_2 zs ls p0 p1)))) := by simp only [g5_o1, if_neg hc14_4, if_neg hc46_14, if_pos hc59_102, if_neg hc72_107, if_neg hc85_129]
              exact ⟨rfl, N141, K141, (by rw [hg142]; exact (Vw104.other W141 ne_o0_o1)), (by rw [hg143]; exact Vw141)⟩
      · obtain ⟨cl144, Ar144, hin144, hat144⟩ := Ia.get (V_o0) (j := (2 : Int32)) ⟨by decide, by decide⟩
        have pre145 : ∀ t, Steps p.tables e below (s₁.setTop (mkF m 72 #[.val (.ref o0), .val (.ref o1), .val (.int p0), .val (.int p1), .val (.int (v5_1 zs ls p0 p1)), .val (.int (v5_2 zs ls p0 p1)), (if (getI zs (getI ls p0)) < (getI zs (getI ls p1)) then .val (.int (getI ls p0)) else .unset)] [(.int (v5_2 zs ls p0 p1)), (.int (getI ls (2 : Int32)))])) t → Steps p.tables e below (s₁.setTop (entryFrame m #[(.ref o0), (.ref o1), (.int p0), (.int p1)] 7)) t := fun t k => pre101 t (by
          show Steps p.tables e below (s₁.setTop (mkF m 59 #[.val (.ref o0), .val (.ref o1), .val (.int p0), .val (.int p1), .val (.int (v5_1 zs ls p0 p1)), .val (.int (v5_2 zs ls p0 p1)), (if (getI zs (getI ls p0)) < (getI zs (getI ls p1)) then .val (.int (getI ls p0)) else .unset)] [(.int (v5_2 zs ls p0 p1)), (.int (getI ls (1 : Int32)))])) _
          refine XS.icmpYes X0.here hx rfl (pc0 := 59) (pc' := 67) rfl (hb hby d5_59) rfl (feq hc59_102).2 (by decide) (by decide) ?_
          show Steps p.tables e below (s₁.setTop (mkF m 67 #[.val (.ref o0), .val (.ref o1), .val (.int p0), .val (.int p1), .val (.int (v5_1 zs ls p0 p1)), .val (.int (v5_2 zs ls p0 p1)), (if (getI zs (getI ls p0)) < (getI zs (getI ls p1)) then .val (.int (getI ls p0)) else .unset)] [])) _
          refine XS.aloadN X0.here hx rfl (hb hby d5_67) rfl rfl ?_
          show Steps p.tables e below (s₁.setTop (mkF m 68 #[.val (.ref o0), .val (.ref o1), .val (.int p0), .val (.int p1), .val (.int (v5_1 zs ls p0 p1)), .val (.int (v5_2 zs ls p0 p1)), (if (getI zs (getI ls p0)) < (getI zs (getI ls p1)) then .val (.int (getI ls p0)) else .unset)] [(.ref o0)])) _
          refine XS.iconst X0.here hx rfl (hb hby d5_68) ?_
          show Steps p.tables e below (s₁.setTop (mkF m 69 #[.val (.ref o0), .val (.ref o1), .val (.int p0), .val (.int p1), .val (.int (v5_1 zs ls p0 p1)), .val (.int (v5_2 zs ls p0 p1)), (if (getI zs (getI ls p0)) < (getI zs (getI ls p1)) then .val (.int (getI ls p0)) else .unset)] [(.int (2 : Int32)), (.ref o0)])) _
          refine X0.iaload hx (j := (2 : Int32)) (v := (.int (getI ls (2 : Int32)))) (by rw [e0]; exact Ar144.1) (State.isArrayOf_alike hZ.alike Ar144.2.1) Ar144.2.2 hin144 hat144 (g := (mkF m 69 #[.val (.ref o0), .val (.ref o1), .val (.int p0), .val (.int p1), .val (.int (v5_1 zs ls p0 p1)), .val (.int (v5_2 zs ls p0 p1)), (if (getI zs (getI ls p0)) < (getI zs (getI ls p1)) then .val (.int (getI ls p0)) else .unset)] [(.int (2 : Int32)), (.ref o0)])) rfl rfl (hb hby d5_69) _ ?_
          show Steps p.tables e below (s₁.setTop (mkF m 70 #[.val (.ref o0), .val (.ref o1), .val (.int p0), .val (.int p1), .val (.int (v5_1 zs ls p0 p1)), .val (.int (v5_2 zs ls p0 p1)), (if (getI zs (getI ls p0)) < (getI zs (getI ls p1)) then .val (.int (getI ls p0)) else .unset)] [(.int (getI ls (2 : Int32)))])) _
          refine XS.iload X0.here hx rfl (hb hby d5_70) rfl ?_
          show Steps p.tables e below (s₁.setTop (mkF m 72 #[.val (.ref o0), .val (.ref o1), .val (.int p0), .val (.int p1), .val (.int (v5_1 zs ls p0 p1)), .val (.int (v5_2 zs ls p0 p1)), (if (getI zs (getI ls p0)) < (getI zs (getI ls p1)) then .val (.int (getI ls p0)) else .unset)] [(.int (v5_2 zs ls p0 p1)), (.int (getI ls (2 : Int32)))])) _
          exact k)
        by_cases hc72_146 : (getI ls (2 : Int32)) = (v5_2 zs ls p0 p1)
        · obtain ⟨cl147, Ar147, hin147, hat147⟩ := Ia.get (V_o0) (j := (2 : Int32)) ⟨by decide, by decide⟩
          obtain ⟨T148, h148, X148, e148, W148, st148⟩ := stI X0 hx hZ e0 Ar147 (j := (2 : Int32)) hin147 (g := (mkF m 79 #[.val (.ref o0), .val (.ref o1), .val (.int p0), .val (.int p1), .val (.int (v5_1 zs ls p0 p1)), .val (.int (v5_2 zs ls p0 p1)), (if (getI zs (getI ls p0)) < (getI zs (getI ls p1)) then .val (.int (getI ls p0)) else .unset)] [(.int (v5_1 zs ls p0 p1)), (.int (2 : Int32)), (.ref o0)])) rfl rfl (hb hby d5_79)
          have Vw148 := Ia.set (V_o0) (j := (2 : Int32)) (x := (v5_1 zs ls p0 p1)) ⟨by decide, by decide⟩ rfl W148
          have N148 := Fr.snoc X148 N0 g_o0
          have Z148 : n0 ≤ h148.size := Nat.le_trans Z0 (Keep.of_wr W148).1
          have K148 : Keep h0 h148 [o0, o1] := ((Keep.refl h0 [o0, o1])).wr W148 (Or.inl (List.mem_of_getElem? (i := 0) rfl))
          obtain ⟨cl149, Ar149, hin149, hat149⟩ := Ia.get (Vw148) (j := (3 : Int32)) ⟨by decide, by decide⟩
          have pre150 : ∀ t, Steps p.tables e below (T148.setTop (mkF m 85 #[.val (.ref o0), .val (.ref o1), .val (.int p0), .val (.int p1), .val (.int (v5_1 zs ls p0 p1)), .val (.int (v5_2 zs ls p0 p1)), (if (getI zs (getI ls p0)) < (getI zs (getI ls p1)) then .val (.int (getI ls p0)) else .unset)] [(.int (v5_2 zs ls p0 p1)), (.int (getI (setI ls (2 : Int32) (v5_1 zs ls p0 p1)) (3 : Int32)))])) t → Steps p.tables e below (s₁.setTop (entryFrame m #[(.ref o0), (.ref o1), (.int p0), (.int p1)] 7)) t := fun t k => pre145 t (by
            show Steps p.tables e below (s₁.setTop (mkF m 72 #[.val (.ref o0), .val (.ref o1), .val (.int p0), .val (.int p1), .val (.int (v5_1 zs ls p0 p1)), .val (.int (v5_2 zs ls p0 p1)), (if (getI zs (getI ls p0)) < (getI zs (getI ls p1)) then .val (.int (getI ls p0)) else .unset)] [(.int (v5_2 zs ls p0 p1)), (.int (getI ls (2 : Int32)))])) _
            refine XS.icmpNo X0.here hx rfl (hb hby d5_72) rfl (teq hc72_146).2 ?_
            show Steps p.tables e below (s₁.setTop (mkF m 75 #[.val (.ref o0), .val (.ref o1), .val (.int p0), .val (.int p1), .val (.int (v5_1 zs ls p0 p1)), .val (.int (v5_2 zs ls p0 p1)), (if (getI zs (getI ls p0)) < (getI zs (getI ls p1)) then .val (.int (getI ls p0)) else .unset)] [])) _
            refine XS.aloadN X0.here hx rfl (hb hby d5_75) rfl rfl ?_
            show Steps p.tables e below (s₁.setTop (mkF m 76 #[.val (.ref o0), .val (.ref o1), .val (.int p0), .val (.int p1), .val (.int (v5_1 zs ls p0 p1)), .val (.int (v5_2 zs ls p0 p1)), (if (getI zs (getI ls p0)) < (getI zs (getI ls p1)) then .val (.int (getI ls p0)) else .unset)] [(.ref o0)])) _
            refine XS.iconst X0.here hx rfl (hb hby d5_76) ?_
            show Steps p.tables e below (s₁.setTop (mkF m 77 #[.val (.ref o0), .val (.ref o1), .val (.int p0), .val (.int p1), .val (.int (v5_1 zs ls p0 p1)), .val (.int (v5_2 zs ls p0 p1)), (if (getI zs (getI ls p0)) < (getI zs (getI ls p1)) then .val (.int (getI ls p0)) else .unset)] [(.int (2 : Int32)), (.ref o0)])) _
            refine XS.iload X0.here hx rfl (hb hby d5_77) rfl ?_
            show Steps p.tables e below (s₁.setTop (mkF m 79 #[.val (.ref o0), .val (.ref o1), .val (.int p0), .val (.int p1), .val (.int (v5_1 zs ls p0 p1)), .val (.int (v5_2 zs ls p0 p1)), (if (getI zs (getI ls p0)) < (getI zs (getI ls p1)) then .val (.int (getI ls p0)) else .unset)] [(.int (v5_1 zs ls p0 p1)), (.int (2 : Int32)), (.ref o0)])) _
            refine st148 _ ?_
            show Steps p.tables e below (T148.setTop (mkF m 80 #[.val (.ref o0), .val (.ref o1), .val (.int p0), .val (.int p1), .val (.int (v5_1 zs ls p0 p1)), .val (.int (v5_2 zs ls p0 p1)), (if (getI zs (getI ls p0)) < (getI zs (getI ls p1)) then .val (.int (getI ls p0)) else .unset)] [])) _
            refine XS.aloadN X148.here hx rfl (hb hby d5_80) rfl rfl ?_
            show Steps p.tables e below (T148.setTop (mkF m 81 #[.val (.ref o0), .val (.ref o1), .val (.int p0), .val (.int p1), .val (.int (v5_1 zs ls p0 p1)), .val (.int (v5_2 zs ls p0 p1)), (if (getI zs (getI ls p0)) < (getI zs (getI ls p1)) then .val (.int (getI ls p0)) else .unset)] [(.ref o0)])) _
            refine XS.iconst X148.here hx rfl (hb hby d5_81) ?_
            show Steps p.tables e below (T148.setTop (mkF m 82 #[.val (.ref o0), .val (.ref o1), .val (.int p0), .val (.int p1), .val (.int (v5_1 zs ls p0 p1)), .val (.int (v5_2 zs ls p0 p1)), (if (getI zs (getI ls p0)) < (getI zs (getI ls p1)) then .val (.int (getI ls p0)) else .unset)] [(.int (3 : Int32)), (.ref o0)])) _
            refine X148.iaload hx (j := (3 : Int32)) (v := (.int (getI (setI ls (2 : Int32) (v5_1 zs ls p0 p1)) (3 : Int32)))) (by rw [e148]; exact Ar149.1) (State.isArrayOf_alike hZ.alike Ar149.2.1) Ar149.2.2 hin149 hat149 (g := (mkF m 82 #[.val (.ref o0), .val (.ref o1), .val (.int p0), .val (.int p1), .val (.int (v5_1 zs ls p0 p1)), .val (.int (v5_2 zs ls p0 p1)), (if (getI zs (getI ls p0)) < (getI zs (getI ls p1)) then .val (.int (getI ls p0)) else .unset)] [(.int (3 : Int32)), (.ref o0)])) rfl rfl (hb hby d5_82) _ ?_
            show Steps p.tables e below (T148.setTop (mkF m 83 #[.val (.ref o0), .val (.ref o1), .val (.int p0), .val (.int p1), .val (.int (v5_1 zs ls p0 p1)), .val (.int (v5_2 zs ls p0 p1)), (if (getI zs (getI ls p0)) < (getI zs (getI ls p1)) then .val (.int (getI ls p0)) else .unset)] [(.int (getI (setI ls (2 : Int32) (v5_1 zs ls p0 p1)) (3 : Int32)))])) _
            refine XS.iload X148.here hx rfl (hb hby d5_83) rfl ?_
            show Steps p.tables e below (T148.setTop (mkF m 85 #[.val (.ref o0), .val (.ref o1), .val (.int p0), .val (.int p1), .val (.int (v5_1 zs ls p0 p1)), .val (.int (v5_2 zs ls p0 p1)), (if (getI zs (getI ls p0)) < (getI zs (getI ls p1)) then .val (.int (getI ls p0)) else .unset)] [(.int (v5_2 zs ls p0 p1)), (.int (getI (setI ls (2 : Int32) (v5_1 zs ls p0 p1)) (3 : Int32)))])) _
            exact k)
          by_cases hc85_151 : (getI (setI ls (2 : Int32) (v5_1 zs ls p0 p1)) (3 : Int32)) = (v5_2 zs ls p0 p1)
          · obtain ⟨cl152, Ar152, hin152, hat152⟩ := Ia.get (Vw148) (j := (3 : Int32)) ⟨by decide, by decide⟩
            obtain ⟨T153, h153, X153, e153, W153, st153⟩ := stI X148 hx hZ e148 Ar152 (j := (3 : Int32)) hin152 (g := (mkF m 92 #[.val (.ref o0), .val (.ref o1), .val (.int p0), .val (.int p1), .val (.int (v5_1 zs ls p0 p1)), .val (.int (v5_2 zs ls p0 p1)), (if (getI zs (getI ls p0)) < (getI zs (getI ls p1)) then .val (.int (getI ls p0)) else .unset)] [(.int (v5_1 zs ls p0 p1)), (.int (3 : Int32)), (.ref o0)])) rfl rfl (hb hby d5_92)
            have Vw153 := Ia.set (Vw148) (j := (3 : Int32)) (x := (v5_1 zs ls p0 p1)) ⟨by decide, by decide⟩ rfl W153
            have N153 := Fr.snoc X153 N148 g_o0
            have Z153 : n0 ≤ h153.size := Nat.le_trans Z148 (Keep.of_wr W153).1
            have K153 : Keep h0 h153 [o0, o1] := (K148).wr W153 (Or.inl (List.mem_of_getElem? (i := 0) rfl))
            obtain ⟨cl154, Ar154, hin154, hat154⟩ := Ia.get (((V_o1.other W148 (Ne.symm ne_o0_o1)).other W153 (Ne.symm ne_o0_o1))) (j := (v5_1 zs ls p0 p1)) (by first | exact own_ite hB.2.2.2 hB.2.2.1 | exact own_ite hB.2.2.1 hB.2.2.2)
            obtain ⟨cl155, Ar155, hin155, hat155⟩ := Ia.get (((V_o1.other W148 (Ne.symm ne_o0_o1)).other W153 (Ne.symm ne_o0_o1))) (j := (v5_2 zs ls p0 p1)) (by first | exact own_ite hB.2.2.2 hB.2.2.1 | exact own_ite hB.2.2.1 hB.2.2.2)
            obtain ⟨cl156, Ar156, hin156, hat156⟩ := Ia.get (((V_o1.other W148 (Ne.symm ne_o0_o1)).other W153 (Ne.symm ne_o0_o1))) (j := (v5_1 zs ls p0 p1)) (by first | exact own_ite hB.2.2.2 hB.2.2.1 | exact own_ite hB.2.2.1 hB.2.2.2)
            obtain ⟨T157, h157, X157, e157, W157, st157⟩ := stI X153 hx hZ e153 Ar156 (j := (v5_1 zs ls p0 p1)) hin156 (g := (mkF m 103 #[.val (.ref o0), .val (.ref o1), .val (.int p0), .val (.int p1), .val (.int (v5_1 zs ls p0 p1)), .val (.int (v5_2 zs ls p0 p1)), (if (getI zs (getI ls p0)) < (getI zs (getI ls p1)) then .val (.int (getI ls p0)) else .unset)] [(.int ((getI zs (v5_1 zs ls p0 p1)) + (getI zs (v5_2 zs ls p0 p1)))), (.int (v5_1 zs ls p0 p1)), (.ref o1)])) rfl rfl (hb hby d5_103)
            have Vw157 := Ia.set (((V_o1.other W148 (Ne.symm ne_o0_o1)).other W153 (Ne.symm ne_o0_o1))) (j := (v5_1 zs ls p0 p1)) (x := ((getI zs (v5_1 zs ls p0 p1)) + (getI zs (v5_2 zs ls p0 p1)))) (by first | exact own_ite hB.2.2.2 hB.2.2.1 | exact own_ite hB.2.2.1 hB.2.2.2) rfl W157
            have N157 := Fr.snoc X157 N153 g_o1
            have Z157 : n0 ≤ h157.size := Nat.le_trans Z153 (Keep.of_wr W157).1
            have K157 : Keep h0 h157 [o0, o1] := (K153).wr W157 (Or.inl (List.mem_of_getElem? (i := 1) rfl))
            obtain ⟨fs, hr, hrun, hended, hW, hsame⟩ := X157.leave (v := none) (fun _ => rfl) hlk
            refine ⟨_, _, pre150 _ ?_, hrun, hended, _, _, rfl, ?_, ⟨_, rfl⟩, hW, hsame.mono (by decide) (by decide)⟩
            · show Steps p.tables e below (T148.setTop (mkF m 85 #[.val (.ref o0), .val (.ref o1), .val (.int p0), .val (.int p1), .val (.int (v5_1 zs ls p0 p1)), .val (.int (v5_2 zs ls p0 p1)), (if (getI zs (getI ls p0)) < (getI zs (getI ls p1)) then .val (.int (getI ls p0)) else .unset)] [(.int (v5_2 zs ls p0 p1)), (.int (getI (setI ls (2 : Int32) (v5_1 zs ls p0 p1)) (3 : Int32)))])) _
              refine XS.icmpNo X148.here hx rfl (hb hby d5_85) rfl (teq hc85_151).2 ?_
              show Steps p.tables e below (T148.setTop (mkF m 88 #[.val (.ref o0), .val (.ref o1), .val (.int p0), .val (.int p1), .val (.int (v5_1 zs ls p0 p1)), .val (.int (v5_2 zs ls p0 p1)), (if (getI zs (getI ls p0)) < (getI zs (getI ls p1)) then .val (.int (getI ls p0)) else .unset)] [])) _
              refine XS.aloadN X148.here hx rfl (hb hby d5_88) rfl rfl ?_
              show Steps p.tables e below (T148.setTop (mkF m 89 #[.val (.ref o0), .val (.ref o1), .val (.int p0), .val (.int p1), .val (.int (v5_1 zs ls p0 p1)), .val (.int (v5_2 zs ls p0 p1)), (if (getI zs (getI ls p0)) < (getI zs (getI ls p1)) then .val (.int (getI ls p0)) else .unset)] [(.ref o0)])) _
              refine XS.iconst X148.here hx rfl (hb hby d5_89) ?_
              show Steps p.tables e below (T148.setTop (mkF m 90 #[.val (.ref o0), .val (.ref o1), .val (.int p0), .val (.int p1), .val (.int (v5_1 zs ls p0 p1)), .val (.int (v5_2 zs ls p0 p1)), (if (getI zs (getI ls p0)) < (getI zs (getI ls p1)) then .val (.int (getI ls p0)) else .unset)] [(.int (3 : Int32)), (.ref o0)])) _
              refine XS.iload X148.here hx rfl (hb hby d5_90) rfl ?_
              show Steps p.tables e below (T148.setTop (mkF m 92 #[.val (.ref o0), .val (.ref o1), .val (.int p0), .val (.int p1), .val (.int (v5_1 zs ls p0 p1)), .val (.int (v5_2 zs ls p0 p1)), (if (getI zs (getI ls p0)) < (getI zs (getI ls p1)) then .val (.int (getI ls p0)) else .unset)] [(.int (v5_1 zs ls p0 p1)), (.int (3 : Int32)), (.ref o0)])) _
              refine st153 _ ?_
              show Steps p.tables e below (T153.setTop (mkF m 93 #[.val (.ref o0), .val (.ref o1), .val (.int p0), .val (.int p1), .val (.int (v5_1 zs ls p0 p1)), .val (.int (v5_2 zs ls p0 p1)), (if (getI zs (getI ls p0)) < (getI zs (getI ls p1)) then .val (.int (getI ls p0)) else .unset)] [])) _
              refine XS.aloadN X153.here hx rfl (hb hby d5_93) rfl rfl ?_
              show Steps p.tables e below (T153.setTop (mkF m 94 #[.val (.ref o0), .val (.ref o1), .val (.int p0), .val (.int p1), .val (.int (v5_1 zs ls p0 p1)), .val (.int (v5_2 zs ls p0 p1)), (if (getI zs (getI ls p0)) < (getI zs (getI ls p1)) then .val (.int (getI ls p0)) else .unset)] [(.ref o1)])) _
              refine XS.iload X153.here hx rfl (hb hby d5_94) rfl ?_
              show Steps p.tables e below (T153.setTop (mkF m 96 #[.val (.ref o0), .val (.ref o1), .val (.int p0), .val (.int p1), .val (.int (v5_1 zs ls p0 p1)), .val (.int (v5_2 zs ls p0 p1)), (if (getI zs (getI ls p0)) < (getI zs (getI ls p1)) then .val (.int (getI ls p0)) else .unset)] [(.int (v5_1 zs ls p0 p1)), (.ref o1)])) _
              refine XT.dup2 X153.here hx rfl (hb hby d5_96) rfl rfl rfl ?_
              show Steps p.tables e below (T153.setTop (mkF m 97 #[.val (.ref o0), .val (.ref o1), .val (.int p0), .val (.int p1), .val (.int (v5_1 zs ls p0 p1)), .val (.int (v5_2 zs ls p0 p1)), (if (getI zs (getI ls p0)) < (getI zs (getI ls p1)) then .val (.int (getI ls p0)) else .unset)] [(.int (v5_1 zs ls p0 p1)), (.ref o1), (.int (v5_1 zs ls p0 p1)), (.ref o1)])) _
              refine X153.iaload hx (j := (v5_1 zs ls p0 p1)) (v := (.int (getI zs (v5_1 zs ls p0 p1)))) (by rw [e153]; exact Ar154.1) (State.isArrayOf_alike hZ.alike Ar154.2.1) Ar154.2.2 hin154 hat154 (g := (mkF m 97 #[.val (.ref o0), .val (.ref o1), .val (.int p0), .val (.int p1), .val (.int (v5_1 zs ls p0 p1)), .val (.int (v5_2 zs ls p0 p1)), (if (getI zs (getI ls p0)) < (getI zs (getI ls p1)) then .val (.int (getI ls p0)) else .unset)] [(.int (v5_1 zs ls p0 p1)), (.ref o1), (.int (v5_1 zs ls p0 p1)), (.ref o1)])) rfl rfl (hb hby d5_97) _ ?_
              show Steps p.tables e below (T153.setTop (mkF m 98 #[.val (.ref o0), .val (.ref o1), .val (.int p0), .val (.int p1), .val (.int (v5_1 zs ls p0 p1)), .val (.int (v5_2 zs ls p0 p1)), (if (getI zs (getI ls p0)) < (getI zs (getI ls p1)) then .val (.int (getI ls p0)) else .unset)] [(.int (getI zs (v5_1 zs ls p0 p1))), (.int (v5_1 zs ls p0 p1)), (.ref o1)])) _
              refine XS.aloadN X153.here hx rfl (hb hby d5_98) rfl rfl ?_
              show Steps p.tables e below (T153.setTop (mkF m 99 #[.val (.ref o0), .val (.ref o1), .val (.int p0), .val (.int p1), .val (.int (v5_1 zs ls p0 p1)), .val (.int (v5_2 zs ls p0 p1)), (if (getI zs (getI ls p0)) < (getI zs (getI ls p1)) then .val (.int (getI ls p0)) else .unset)] [(.ref o1), (.int (getI zs (v5_1 zs ls p0 p1))), (.int (v5_1 zs ls p0 p1)), (.ref o1)])) _
              refine XS.iload X153.here hx rfl (hb hby d5_99) rfl ?_
              show Steps p.tables e below (T153.setTop (mkF m 101 #[.val (.ref o0), .val (.ref o1), .val (.int p0), .val (.int p1), .val (.int (v5_1 zs ls p0 p1)), .val (.int (v5_2 zs ls p0 p1)), (if (getI zs (getI ls p0)) < (getI zs (getI ls p1)) then .val (.int (getI ls p0)) else .unset)] [(.int (v5_2 zs ls p0 p1)), (.ref o1), (.int (getI zs (v5_1 zs ls p0 p1))), (.int (v5_1 zs ls p0 p1)), (.ref o1)])) _
              refine X153.iaload hx (j := (v5_2 zs ls p0 p1)) (v := (.int (getI zs (v5_2 zs ls p0 p1)))) (by rw [e153]; exact Ar155.1) (State.isArrayOf_alike hZ.alike Ar155.2.1) Ar155.2.2 hin155 hat155 (g := (mkF m 101 #[.val (.ref o0), .val (.ref o1), .val (.int p0), .val (.int p1), .val (.int (v5_1 zs ls p0 p1)), .val (.int (v5_2 zs ls p0 p1)), (if (getI zs (getI ls p0)) < (getI zs (getI ls p1)) then .val (.int (getI ls p0)) else .unset)] [(.int (v5_2 zs ls p0 p1)), (.ref o1), (.int (getI zs (v5_1 zs ls p0 p1))), (.int (v5_1 zs ls p0 p1)), (.ref o1)])) rfl rfl (hb hby d5_101) _ ?_
              show Steps p.tables e below (T153.setTop (mkF m 102 #[.val (.ref o0), .val (.ref o1), .val (.int p0), .val (.int p1), .val (.int (v5_1 zs ls p0 p1)), .val (.int (v5_2 zs ls p0 p1)), (if (getI zs (getI ls p0)) < (getI zs (getI ls p1)) then .val (.int (getI ls p0)) else .unset)] [(.int (getI zs (v5_2 zs ls p0 p1))), (.int (getI zs (v5_1 zs ls p0 p1))), (.int (v5_1 zs ls p0 p1)), (.ref o1)])) _
              refine XS.iadd X153.here hx rfl (hb hby d5_102) rfl ?_
              show Steps p.tables e below (T153.setTop (mkF m 103 #[.val (.ref o0), .val (.ref o1), .val (.int p0), .val (.int p1), .val (.int (v5_1 zs ls p0 p1)), .val (.int (v5_2 zs ls p0 p1)), (if (getI zs (getI ls p0)) < (getI zs (getI ls p1)) then .val (.int (getI ls p0)) else .unset)] [(.int ((getI zs (v5_1 zs ls p0 p1)) + (getI zs (v5_2 zs ls p0 p1)))), (.int (v5_1 zs ls p0 p1)), (.ref o1)])) _
              refine st157 _ ?_
              show Steps p.tables e below (T157.setTop (mkF m 104 #[.val (.ref o0), .val (.ref o1), .val (.int p0), .val (.int p1), .val (.int (v5_1 zs ls p0 p1)), .val (.int (v5_2 zs ls p0 p1)), (if (getI zs (getI ls p0)) < (getI zs (getI ls p1)) then .val (.int (getI ls p0)) else .unset)] [])) _
              exact X157.returnOut hx Bd.returns (hb hby d5_104) hr
            · show Q5 Z o0 o1 p0 p1 ka ls kb zs h0 n0 _ T157.heap _
              rw [e157]
              have hg158 : (g5_o0 p0 p1 ls zs) = (setI (setI ls (2 : Int32) (v5_1 zs ls p0 p1)) (3 : Int32) (v5_1 zs ls p0 p1)) := by simp only [g5_o0, if_neg hc14_4, if_neg hc46_14, if_neg hc59_102, if_pos hc72_146, if_pos hc85_151]
              have hg159 : (g5_o1 p0 p1 ls zs) = (setI zs (v5_1 zs ls p0 p1) ((getI zs (v5_1 zs ls p0 p1)) + (getI zs (v5_2 zs ls p0 p1)))) := by simp only [g5_o1, if_neg hc14_4, if_neg hc46_14, if_neg hc59_102, if_pos hc72_146, if_pos hc85_151]
              exact ⟨rfl, N157, K157, (by rw [hg158]; exact (Vw153.other W157 ne_o0_o1)), (by rw [hg159]; exact Vw157)⟩
          · obtain ⟨cl160, Ar160, hin160, hat160⟩ := Ia.get ((V_o1.other W148 (Ne.symm ne_o0_o1))) (j := (v5_1 zs ls p0 p1)) (by first | exact own_ite hB.2.2.2 hB.2.2.1 | exact own_ite hB.2.2.1 hB.2.2.2)
            obtain ⟨cl161, Ar161, hin161, hat161⟩ := Ia.get ((V_o1.other W148 (Ne.symm ne_o0_o1))) (j := (v5_2 zs ls p0 p1)) (by first | exact own_ite hB.2.2.2 hB.2.2.1 | exact own_ite hB.2.2.1 hB.2.2.2)
            obtain ⟨cl162, Ar162, hin162, hat162⟩ := Ia.get ((V_o1.other W148 (Ne.symm ne_o0_o1))) (j := (v5_1 zs ls p0 p1)) (by first | exact own_ite hB.2.2.2 hB.2.2.1 | exact own_ite hB.2.2.1 hB.2.2.2)
            obtain ⟨T163, h163, X163, e163, W163, st163⟩ := stI X148 hx hZ e148 Ar162 (j := (v5_1 zs ls p0 p1)) hin162 (g := (mkF m 103 #[.val (.ref o0), .val (.ref o1), .val (.int p0), .val (.int p1), .val (.int (v5_1 zs ls p0 p1)), .val (.int (v5_2 zs ls p0 p1)), (if (getI zs (getI ls p0)) < (getI zs (getI ls p1)) then .val (.int (getI ls p0)) else .unset)] [(.int ((getI zs (v5_1 zs ls p0 p1)) + (getI zs (v5_2 zs ls p0 p1)))), (.int (v5_1 zs ls p0 p1)), (.ref o1)])) rfl rfl (hb hby d5_103)
            have Vw163 := Ia.set ((V_o1.other W148 (Ne.symm ne_o0_o1))) (j := (v5_1 zs ls p0 p1)) (x := ((getI zs (v5_1 zs ls p0 p1)) + (getI zs (v5_2 zs ls p0 p1)))) (by first | exact own_ite hB.2.2.2 hB.2.2.1 | exact own_ite hB.2.2.1 hB.2.2.2) rfl W163
            have N163 := Fr.snoc X163 N148 g_o1
            have Z163 : n0 ≤ h163.size := Nat.le_trans Z148 (Keep.of_wr W163).1
            have K163 : Keep h0 h163 [o0, o1] := (K148).wr W163 (Or.inl (List.mem_of_getElem? (i := 1) rfl))
            obtain ⟨fs, hr, hrun, hended, hW, hsame⟩ := X163.leave (v := none) (fun _ => rfl) hlk
            refine ⟨_, _, pre150 _ ?_, hrun, hended, _, _, rfl, ?_, ⟨_, rfl⟩, hW, hsame.mono (by decide) (by decide)⟩
            · show Steps p.tables e below (T148.setTop (mkF m 85 #[.val (.ref o0), .val (.ref o1), .val (.int p0), .val (.int p1), .val (.int (v5_1 zs ls p0 p1)), .val (.int (v5_2 zs ls p0 p1)), (if (getI zs (getI ls p0)) < (getI zs (getI ls p1)) then .val (.int (getI ls p0)) else .unset)] [(.int (v5_2 zs ls p0 p1)), (.int (getI (setI ls (2 : Int32) (v5_1 zs ls p0 p1)) (3 : Int32)))])) _
              refine XS.icmpYes X148.here hx rfl (pc0 := 85) (pc' := 93) rfl (hb hby d5_85) rfl (feq hc85_151).2 (by decide) (by decide) ?_
              show Steps p.tables e below (T148.setTop (mkF m 93 #[.val (.ref o0), .val (.ref o1), .val (.int p0), .val (.int p1), .val (.int (v5_1 zs ls p0 p1)), .val (.int (v5_2 zs ls p0 p1)), (if (getI zs (getI ls p0)) < (getI zs (getI ls p1)) then .val (.int (getI ls p0)) else .unset)] [])) _
              refine XS.aloadN X148.here hx rfl (hb hby d5_93) rfl rfl ?_
              show Steps p.tables e below (T148.setTop (mkF m 94 #[.val (.ref o0), .val (.ref o1), .val (.int p0), .val (.int p1), .val (.int (v5_1 zs ls p0 p1)), .val (.int (v5_2 zs ls p0 p1)), (if (getI zs (getI ls p0)) < (getI zs (getI ls p1)) then .val (.int (getI ls p0)) else .unset)] [(.ref o1)])) _
              refine XS.iload X148.here hx rfl (hb hby d5_94) rfl ?_
              show Steps p.tables e below (T148.setTop (mkF m 96 #[.val (.ref o0), .val (.ref o1), .val (.int p0), .val (.int p1), .val (.int (v5_1 zs ls p0 p1)), .val (.int (v5_2 zs ls p0 p1)), (if (getI zs (getI ls p0)) < (getI zs (getI ls p1)) then .val (.int (getI ls p0)) else .unset)] [(.int (v5_1 zs ls p0 p1)), (.ref o1)])) _
              refine XT.dup2 X148.here hx rfl (hb hby d5_96) rfl rfl rfl ?_
              show Steps p.tables e below (T148.setTop (mkF m 97 #[.val (.ref o0), .val (.ref o1), .val (.int p0), .val (.int p1), .val (.int (v5_1 zs ls p0 p1)), .val (.int (v5_2 zs ls p0 p1)), (if (getI zs (getI ls p0)) < (getI zs (getI ls p1)) then .val (.int (getI ls p0)) else .unset)] [(.int (v5_1 zs ls p0 p1)), (.ref o1), (.int (v5_1 zs ls p0 p1)), (.ref o1)])) _
              refine X148.iaload hx (j := (v5_1 zs ls p0 p1)) (v := (.int (getI zs (v5_1 zs ls p0 p1)))) (by rw [e148]; exact Ar160.1) (State.isArrayOf_alike hZ.alike Ar160.2.1) Ar160.2.2 hin160 hat160 (g := (mkF m 97 #[.val (.ref o0), .val (.ref o1), .val (.int p0), .val (.int p1), .val (.int (v5_1 zs ls p0 p1)), .val (.int (v5_2 zs ls p0 p1)), (if (getI zs (getI ls p0)) < (getI zs (getI ls p1)) then .val (.int (getI ls p0)) else .unset)] [(.int (v5_1 zs ls p0 p1)), (.ref o1), (.int (v5_1 zs ls p0 p1)), (.ref o1)])) rfl rfl (hb hby d5_97) _ ?_
              show Steps p.tables e below (T148.setTop (mkF m 98 #[.val (.ref o0), .val (.ref o1), .val (.int p0), .val (.int p1), .val (.int (v5_1 zs ls p0 p1)), .val (.int (v5_2 zs ls p0 p1)), (if (getI zs (getI ls p0)) < (getI zs (getI ls p1)) then .val (.int (getI ls p0)) else .unset)] [(.int (getI zs (v5_1 zs ls p0 p1))), (.int (v5_1 zs ls p0 p1)), (.ref o1)])) _
              refine XS.aloadN X148.here hx rfl (hb hby d5_98) rfl rfl ?_
              show Steps p.tables e below (T148.setTop (mkF m 99 #[.val (.ref o0), .val (.ref o1), .val (.int p0), .val (.int p1), .val (.int (v5_1 zs ls p0 p1)), .val (.int (v5_2 zs ls p0 p1)), (if (getI zs (getI ls p0)) < (getI zs (getI ls p1)) then .val (.int (getI ls p0)) else .unset)] [(.ref o1), (.int (getI zs (v5_1 zs ls p0 p1))), (.int (v5_1 zs ls p0 p1)), (.ref o1)])) _
              refine XS.iload X148.here hx rfl (hb hby d5_99) rfl ?_
              show Steps p.tables e below (T148.setTop (mkF m 101 #[.val (.ref o0), .val (.ref o1), .val (.int p0), .val (.int p1), .val (.int (v5_1 zs ls p0 p1)), .val (.int (v5_2 zs ls p0 p1)), (if (getI zs (getI ls p0)) < (getI zs (getI ls p1)) then .val (.int (getI ls p0)) else .unset)] [(.int (v5_2 zs ls p0 p1)), (.ref o1), (.int (getI zs (v5_1 zs ls p0 p1))), (.int (v5_1 zs ls p0 p1)), (.ref o1)])) _
              refine X148.iaload hx (j := (v5_2 zs ls p0 p1)) (v := (.int (getI zs (v5_2 zs ls p0 p1)))) (by rw [e148]; exact Ar161.1) (State.isArrayOf_alike hZ.alike Ar161.2.1) Ar161.2.2 hin161 hat161 (g := (mkF m 101 #[.val (.ref o0), .val (.ref o1), .val (.int p0), .val (.int p1), .val (.int (v5_1 zs ls p0 p1)), .val (.int (v5_2 zs ls p0 p1)), (if (getI zs (getI ls p0)) < (getI zs (getI ls p1)) then .val (.int (getI ls p0)) else .unset)] [(.int (v5_2 zs ls p0 p1)), (.ref o1), (.int (getI zs (v5_1 zs ls p0 p1))), (.int (v5_1 zs ls p0 p1)), (.ref o1)])) rfl rfl (hb hby d5_101) _ ?_
              show Steps p.tables e below (T148.setTop (mkF m 102 #[.val (.ref o0), .val (.ref o1), .val (.int p0), .val (.int p1), .val (.int (v5_1 zs ls p0 p1)), .val (.int (v5_2 zs ls p0 p1)), (if (getI zs (getI ls p0)) < (getI zs (getI ls p1)) then .val (.int (getI ls p0)) else .unset)] [(.int (getI zs (v5_2 zs ls p0 p1))), (.int (getI zs (v5_1 zs ls p0 p1))), (.int (v5_1 zs ls p0 p1)), (.ref o1)])) _
              refine XS.iadd X148.here hx rfl (hb hby d5_102) rfl ?_
              show Steps p.tables e below (T148.setTop (mkF m 103 #[.val (.ref o0), .val (.ref o1), .val (.int p0), .val (.int p1), .val (.int (v5_1 zs ls p0 p1)), .val (.int (v5_2 zs ls p0 p1)), (if (getI zs (getI ls p0)) < (getI zs (getI ls p1)) then .val (.int (getI ls p0)) else .unset)] [(.int ((getI zs (v5_1 zs ls p0 p1)) + (getI zs (v5_2 zs ls p0 p1)))), (.int (v5_1 zs ls p0 p1)), (.ref o1)])) _
              refine st163 _ ?_
              show Steps p.tables e below (T163.setTop (mkF m 104 #[.val (.ref o0), .val (.ref o1), .val (.int p0), .val (.int p1), .val (.int (v5_1 zs ls p0 p1)), .val (.int (v5_2 zs ls p0 p1)), (if (getI zs (getI ls p0)) < (getI zs (getI ls p1)) then .val (.int (getI ls p0)) else .unset)] [])) _
              exact X163.returnOut hx Bd.returns (hb hby d5_104) hr
            · show Q5 Z o0 o1 p0 p1 ka ls kb zs h0 n0 _ T163.heap _
              rw [e163]
              have hg164 : (g5_o0 p0 p1 ls zs) = (setI ls (2 : Int32) (v5_1 zs ls p0 p1)) := by simp only [g5_o0, if_neg hc14_4, if_neg hc46_14, if_neg hc59_102, if_pos hc72_146, if_neg hc85_151]
              have hg165 : (g5_o1 p0 p1 ls zs) = (setI zs (v5_1 zs ls p0 p1) ((getI zs (v5_1 zs ls p0 p1)) + (getI zs (v5_2 zs ls p0 p1)))) := by simp only [g5_o1, if_neg hc14_4, if_neg hc46_14, if_neg hc59_102, if_pos hc72_146, if_neg hc85_151]
              exact ⟨rfl, N163, K163, (by rw [hg164]; exact (Vw148.other W163 ne_o0_o1)), (by rw [hg165]; exact Vw163)⟩
        · obtain ⟨cl166, Ar166, hin166, hat166⟩ := Ia.get (V_o0) (j := (3 : Int32)) ⟨by decide, by decide⟩
          have pre167 : ∀ t, Steps p.tables e below (s₁.setTop (mkF m 85 #[.val (.ref o0), .val (.ref o1), .val (.int p0), .val (.int p1), .val (.int (v5_1 zs ls p0 p1)), .val (.int (v5_2 zs ls p0 p1)), (if (getI zs (getI ls p0)) < (getI zs (getI ls p1)) then .val (.int (getI ls p0)) else .unset)] [(.int (v5_2 zs ls p0 p1)), (.int (getI ls (3 : Int32)))])) t → Steps p.tables e below (s₁.setTop (entryFrame m #[(.ref o0), (.ref o1), (.int p0), (.int p1)] 7)) t := fun t k => pre145 t (by
            show Steps p.tables e below (s₁.setTop (mkF m 72 #[.val (.ref o0), .val (.ref o1), .val (.int p0), .val (.int p1), .val (.int (v5_1 zs ls p0 p1)), .val (.int (v5_2 zs ls p0 p1)), (if (getI zs (getI ls p0)) < (getI zs (getI ls p1)) then .val (.int (getI ls p0)) else .unset)] [(.int (v5_2 zs ls p0 p1)), (.int (getI ls (2 : Int32)))])) _
            refine XS.icmpYes X0.here hx rfl (pc0 := 72) (pc' := 80) rfl (hb hby d5_72) rfl (feq hc72_146).2 (by decide) (by decide) ?_
            show Steps p.tables e below (s₁.setTop (mkF m 80 #[.val (.ref o0), .val (.ref o1), .val (.int p0), .val (.int p1), .val (.int (v5_1 zs ls p0 p1)), .val (.int (v5_2 zs ls p0 p1)), (if (getI zs (getI ls p0)) < (getI zs (getI ls p1)) then .val (.int (getI ls p0)) else .unset)] [])) _
            refine XS.aloadN X0.here hx rfl (hb hby d5_80) rfl rfl ?_
            show Steps p.tables e below (s₁.setTop (mkF m 81 #[.val (.ref o0), .val (.ref o1), .val (.int p0), .val (.int p1), .val (.int (v5_1 zs ls p0 p1)), .val (.int (v5_2 zs ls p0 p1)), (if (getI zs (getI ls p0)) < (getI zs (getI ls p1)) then .val (.int (getI ls p0)) else .unset)] [(.ref o0)])) _
            refine XS.iconst X0.here hx rfl (hb hby d5_81) ?_
            show Steps p.tables e below (s₁.setTop (mkF m 82 #[.val (.ref o0), .val (.ref o1), .val (.int p0), .val (.int p1), .val (.int (v5_1 zs ls p0 p1)), .val (.int (v5_2 zs ls p0 p1)), (if (getI zs (getI ls p0)) < (getI zs (getI ls p1)) then .val (.int (getI ls p0)) else .unset)] [(.int (3 : Int32)), (.ref o0)])) _
            refine X0.iaload hx (j := (3 : Int32)) (v := (.int (getI ls (3 : Int32)))) (by rw [e0]; exact Ar166.1) (State.isArrayOf_alike hZ.alike Ar166.2.1) Ar166.2.2 hin166 hat166 (g := (mkF m 82 #[.val (.ref o0), .val (.ref o1), .val (.int p0), .val (.int p1), .val (.int (v5_1 zs ls p0 p1)), .val (.int (v5_2 zs ls p0 p1)), (if (getI zs (getI ls p0)) < (getI zs (getI ls p1)) then .val (.int (getI ls p0)) else .unset)] [(.int (3 : Int32)), (.ref o0)])) rfl rfl (hb hby d5_82) _ ?_
            show Steps p.tables e below (s₁.setTop (mkF m 83 #[.val (.ref o0), .val (.ref o1), .val (.int p0), .val (.int p1), .val (.int (v5_1 zs ls p0 p1)), .val (.int (v5_2 zs ls p0 p1)), (if (getI zs (getI ls p0)) < (getI zs (getI ls p1)) then .val (.int (getI ls p0)) else .unset)] [(.int (getI ls (3 : Int32)))])) _
            refine XS.iload X0.here hx rfl (hb hby d5_83) rfl ?_
            show Steps p.tables e below (s₁.setTop (mkF m 85 #[.val (.ref o0), .val (.ref o1), .val (.int p0), .val (.int p1), .val (.int (v5_1 zs ls p0 p1)), .val (.int (v5_2 zs ls p0 p1)), (if (getI zs (getI ls p0)) < (getI zs (getI ls p1)) then .val (.int (getI ls p0)) else .unset)] [(.int (v5_2 zs ls p0 p1)), (.int (getI ls (3 : Int32)))])) _
            exact k)
          by_cases hc85_168 : (getI ls (3 : Int32)) = (v5_2 zs ls p0 p1)
          · obtain ⟨cl169, Ar169, hin169, hat169⟩ := Ia.get (V_o0) (j := (3 : Int32)) ⟨by decide, by decide⟩
            obtain ⟨T170, h170, X170, e170, W170, st170⟩ := stI X0 hx hZ e0 Ar169 (j := (3 : Int32)) hin169 (g := (mkF m 92 #[.val (.ref o0), .val (.ref o1), .val (.int p0), .val (.int p1), .val (.int (v5_1 zs ls p0 p1)), .val (.int (v5_2 zs ls p0 p1)), (if (getI zs (getI ls p0)) < (getI zs (getI ls p1)) then .val (.int (getI ls p0)) else .unset)] [(.int (v5_1 zs ls p0 p1)), (.int (3 : Int32)), (.ref o0)])) rfl rfl (hb hby d5_92)
            have Vw170 := Ia.set (V_o0) (j := (3 : Int32)) (x := (v5_1 zs ls p0 p1)) ⟨by decide, by decide⟩ rfl W170
            have N170 := Fr.snoc X170 N0 g_o0
            have Z170 : n0 ≤ h170.size := Nat.le_trans Z0 (Keep.of_wr W170).1
            have K170 : Keep h0 h170 [o0, o1] := ((Keep.refl h0 [o0, o1])).wr W170 (Or.inl (List.mem_of_getElem? (i := 0) rfl))
            obtain ⟨cl171, Ar171, hin171, hat171⟩ := Ia.get ((V_o1.other W170 (Ne.symm ne_o0_o1))) (j := (v5_1 zs ls p0 p1)) (by first | exact own_ite hB.2.2.2 hB.2.2.1 | exact own_ite hB.2.2.1 hB.2.2.2)
            obtain ⟨cl172, Ar172, hin172, hat172⟩ := Ia.get ((V_o1.other W170 (Ne.symm ne_o0_o1))) (j := (v5_2 zs ls p0 p1)) (by first | exact own_ite hB.2.2.2 hB.2.2.1 | exact own_ite hB.2.2.1 hB.2.2.2)
            obtain ⟨cl173, Ar173, hin173, hat173⟩ := Ia.get ((V_o1.other W170 (Ne.symm ne_o0_o1))) (j := (v5_1 zs ls p0 p1)) (by first | exact own_ite hB.2.2.2 hB.2.2.1 | exact own_ite hB.2.2.1 hB.2.2.2)
            obtain ⟨T174, h174, X174, e174, W174, st174⟩ := stI X170 hx hZ e170 Ar173 (j := (v5_1 zs ls p0 p1)) hin173 (g := (mkF m 103 #[.val (.ref o0), .val (.ref o1), .val (.int p0), .val (.int p1), .val (.int (v5_1 zs ls p0 p1)), .val (.int (v5_2 zs ls p0 p1)), (if (getI zs (getI ls p0)) < (getI zs (getI ls p1)) then .val (.int (getI ls p0)) else .unset)] [(.int ((getI zs (v5_1 zs ls p0 p1)) + (getI zs (v5_2 zs ls p0 p1)))), (.int (v5_1 zs ls p0 p1)), (.ref o1)])) rfl rfl (hb hby d5_103)
            have Vw174 := Ia.set ((V_o1.other W170 (Ne.symm ne_o0_o1))) (j := (v5_1 zs ls p0 p1)) (x := ((getI zs (v5_1 zs ls p0 p1)) + (getI zs (v5_2 zs ls p0 p1)))) (by first | exact own_ite hB.2.2.2 hB.2.2.1 | exact own_ite hB.2.2.1 hB.2.2.2) rfl W174
            have N174 := Fr.snoc X174 N170 g_o1
            have Z174 : n0 ≤ h174.size := Nat.le_trans Z170 (Keep.of_wr W174).1
            have K174 : Keep h0 h174 [o0, o1] := (K170).wr W174 (Or.inl (List.mem_of_getElem? (i := 1) rfl))
            obtain ⟨fs, hr, hrun, hended, hW, hsame⟩ := X174.leave (v := none) (fun _ => rfl) hlk
            refine ⟨_, _, pre167 _ ?_, hrun, hended, _, _, rfl, ?_, ⟨_, rfl⟩, hW, hsame.mono (by decide) (by decide)⟩
            · show Steps p.tables e below (s₁.setTop (mkF m 85 #[.val (.ref o0), .val (.ref o1), .val (.int p0), .val (.int p1), .val (.int (v5_1 zs ls p0 p1)), .val (.int (v5_2 zs ls p0 p1)), (if (getI zs (getI ls p0)) < (getI zs (getI ls p1)) then .val (.int (getI ls p0)) else .unset)] [(.int (v5_2 zs ls p0 p1)), (.int (getI ls (3 : Int32)))])) _
              refine XS.icmpNo X0.here hx rfl (hb hby d5_85) rfl (teq hc85_168).2 ?_
              show Steps p.tables e below (s₁.setTop (mkF m 88 #[.val (.ref o0), .val (.ref o1), .val (.int p0), .val (.int p1), .val (.int (v5_1 zs ls p0 p1)), .val (.int (v5_2 zs ls p0 p1)), (if (getI zs (getI ls p0)) < (getI zs (getI ls p1)) then .val (.int (getI ls p0)) else .unset)] [])) _
              refine XS.aloadN X0.here hx rfl (hb hby d5_88) rfl rfl ?_
              show Steps p.tables e below (s₁.setTop (mkF m 89 #[.val (.ref o0), .val (.ref o1), .val (.int p0), .val (.int p1), .val (.int (v5_1 zs ls p0 p1)), .val (.int (v5_2 zs ls p0 p1)), (if (getI zs (getI ls p0)) < (getI zs (getI ls p1)) then .val (.int (getI ls p0)) else .unset)] [(.ref o0)])) _
              refine XS.iconst X0.here hx rfl (hb hby d5_89) ?_
              show Steps p.tables e below (s₁.setTop (mkF m 90 #[.val (.ref o0), .val (.ref o1), .val (.int p0), .val (.int p1), .val (.int (v5_1 zs ls p0 p1)), .val (.int (v5_2 zs ls p0 p1)), (if (getI zs (getI ls p0)) < (getI zs (getI ls p1)) then .val (.int (getI ls p0)) else .unset)] [(.int (3 : Int32)), (.ref o0)])) _
              refine XS.iload X0.here hx rfl (hb hby d5_90) rfl ?_
              show Steps p.tables e below (s₁.setTop (mkF m 92 #[.val (.ref o0), .val (.ref o1), .val (.int p0), .val (.int p1), .val (.int (v5_1 zs ls p0 p1)), .val (.int (v5_2 zs ls p0 p1)), (if (getI zs (getI ls p0)) < (getI zs (getI ls p1)) then .val (.int (getI ls p0)) else .unset)] [(.int (v5_1 zs ls p0 p1)), (.int (3 : Int32)), (.ref o0)])) _
              refine st170 _ ?_
              show Steps p.tables e below (T170.setTop (mkF m 93 #[.val (.ref o0), .val (.ref o1), .val (.int p0), .val (.int p1), .val (.int (v5_1 zs ls p0 p1)), .val (.int (v5_2 zs ls p0 p1)), (if (getI zs (getI ls p0)) < (getI zs (getI ls p1)) then .val (.int (getI ls p0)) else .unset)] [])) _
              refine XS.aloadN X170.here hx rfl (hb hby d5_93) rfl rfl ?_
              show Steps p.tables e below (T170.setTop (mkF m 94 #[.val (.ref o0), .val (.ref o1), .val (.int p0), .val (.int p1), .val (.int (v5_1 zs ls p0 p1)), .val (.int (v5_2 zs ls p0 p1)), (if (getI zs (getI ls p0)) < (getI zs (getI ls p1)) then .val (.int (getI ls p0)) else .unset)] [(.ref o1)])) _
              refine XS.iload X170.here hx rfl (hb hby d5_94) rfl ?_
              show Steps p.tables e below (T170.setTop (mkF m 96 #[.val (.ref o0), .val (.ref o1), .val (.int p0), .val (.int p1), .val (.int (v5_1 zs ls p0 p1)), .val (.int (v5_2 zs ls p0 p1)), (if (getI zs (getI ls p0)) < (getI zs (getI ls p1)) then .val (.int (getI ls p0)) else .unset)] [(.int (v5_1 zs ls p0 p1)), (.ref o1)])) _
              refine XT.dup2 X170.here hx rfl (hb hby d5_96) rfl rfl rfl ?_
              show Steps p.tables e below (T170.setTop (mkF m 97 #[.val (.ref o0), .val (.ref o1), .val (.int p0), .val (.int p1), .val (.int (v5_1 zs ls p0 p1)), .val (.int (v5_2 zs ls p0 p1)), (if (getI zs (getI ls p0)) < (getI zs (getI ls p1)) then .val (.int (getI ls p0)) else .unset)] [(.int (v5_1 zs ls p0 p1)), (.ref o1), (.int (v5_1 zs ls p0 p1)), (.ref o1)])) _
              refine X170.iaload hx (j := (v5_1 zs ls p0 p1)) (v := (.int (getI zs (v5_1 zs ls p0 p1)))) (by rw [e170]; exact Ar171.1) (State.isArrayOf_alike hZ.alike Ar171.2.1) Ar171.2.2 hin171 hat171 (g := (mkF m 97 #[.val (.ref o0), .val (.ref o1), .val (.int p0), .val (.int p1), .val (.int (v5_1 zs ls p0 p1)), .val (.int (v5_2 zs ls p0 p1)), (if (getI zs (getI ls p0)) < (getI zs (getI ls p1)) then .val (.int (getI ls p0)) else .unset)] [(.int (v5_1 zs ls p0 p1)), (.ref o1), (.int (v5_1 zs ls p0 p1)), (.ref o1)])) rfl rfl (hb hby d5_97) _ ?_
              show Steps p.tables e below (T170.setTop (mkF m 98 #[.val (.ref o0), .val (.ref o1), .val (.int p0), .val (.int p1), .val (.int (v5_1 zs ls p0 p1)), .val (.int (v5_2 zs ls p0 p1)), (if (getI zs (getI ls p0)) < (getI zs (getI ls p1)) then .val (.int (getI ls p0)) else .unset)] [(.int (getI zs (v5_1 zs ls p0 p1))), (.int (v5_1 zs ls p0 p1)), (.ref o1)])) _
              refine XS.aloadN X170.here hx rfl (hb hby d5_98) rfl rfl ?_
              show Steps p.tables e below (T170.setTop (mkF m 99 #[.val (.ref o0), .val (.ref o1), .val (.int p0), .val (.int p1), .val (.int (v5_1 zs ls p0 p1)), .val (.int (v5_2 zs ls p0 p1)), (if (getI zs (getI ls p0)) < (getI zs (getI ls p1)) then .val (.int (getI ls p0)) else .unset)] [(.ref o1), (.int (getI zs (v5_1 zs ls p0 p1))), (.int (v5_1 zs ls p0 p1)), (.ref o1)])) _
              refine XS.iload X170.here hx rfl (hb hby d5_99) rfl ?_
              show Steps p.tables e below (T170.setTop (mkF m 101 #[.val (.ref o0), .val (.ref o1), .val (.int p0), .val (.int p1), .val (.int (v5_1 zs ls p0 p1)), .val (.int (v5_2 zs ls p0 p1)), (if (getI zs (getI ls p0)) < (getI zs (getI ls p1)) then .val (.int (getI ls p0)) else .unset)] [(.int (v5_2 zs ls p0 p1)), (.ref o1), (.int (getI zs (v5_1 zs ls p0 p1))), (.int (v5_1 zs ls p0 p1)), (.ref o1)])) _
              refine X170.iaload hx (j := (v5_2 zs ls p0 p1)) (v := (.int (getI zs (v5_2 zs ls p0 p1)))) (by rw [e170]; exact Ar172.1) (State.isArrayOf_alike hZ.alike Ar172.2.1) Ar172.2.2 hin172 hat172 (g := (mkF m 101 #[.val (.ref o0), .val (.ref o1), .val (.int p0), .val (.int p1), .val (.int (v5_1 zs ls p0 p1)), .val (.int (v5_2 zs ls p0 p1)), (if (getI zs (getI ls p0)) < (getI zs (getI ls p1)) then .val (.int (getI ls p0)) else .unset)] [(.int (v5_2 zs ls p0 p1)), (.ref o1), (.int (getI zs (v5_1 zs ls p0 p1))), (.int (v5_1 zs ls p0 p1)), (.ref o1)])) rfl rfl (hb hby d5_101) _ ?_
              show Steps p.tables e below (T170.setTop (mkF m 102 #[.val (.ref o0), .val (.ref o1), .val (.int p0), .val (.int p1), .val (.int (v5_1 zs ls p0 p1)), .val (.int (v5_2 zs ls p0 p1)), (if (getI zs (getI ls p0)) < (getI zs (getI ls p1)) then .val (.int (getI ls p0)) else .unset)] [(.int (getI zs (v5_2 zs ls p0 p1))), (.int (getI zs (v5_1 zs ls p0 p1))), (.int (v5_1 zs ls p0 p1)), (.ref o1)])) _
              refine XS.iadd X170.here hx rfl (hb hby d5_102) rfl ?_
              show Steps p.tables e below (T170.setTop (mkF m 103 #[.val (.ref o0), .val (.ref o1), .val (.int p0), .val (.int p1), .val (.int (v5_1 zs ls p0 p1)), .val (.int (v5_2 zs ls p0 p1)), (if (getI zs (getI ls p0)) < (getI zs (getI ls p1)) then .val (.int (getI ls p0)) else .unset)] [(.int ((getI zs (v5_1 zs ls p0 p1)) + (getI zs (v5_2 zs ls p0 p1)))), (.int (v5_1 zs ls p0 p1)), (.ref o1)])) _
              refine st174 _ ?_
              show Steps p.tables e below (T174.setTop (mkF m 104 #[.val (.ref o0), .val (.ref o1), .val (.int p0), .val (.int p1), .val (.int (v5_1 zs ls p0 p1)), .val (.int (v5_2 zs ls p0 p1)), (if (getI zs (getI ls p0)) < (getI zs (getI ls p1)) then .val (.int (getI ls p0)) else .unset)] [])) _
              exact X174.returnOut hx Bd.returns (hb hby d5_104) hr
            · show Q5 Z o0 o1 p0 p1 ka ls kb zs h0 n0 _ T174.heap _
              rw [e174]
              have hg175 : (g5_o0 p0 p1 ls zs) = (setI ls (3 : Int32) (v5_1 zs ls p0 p1)) := by simp only [g5_o0, if_neg hc14_4, if_neg hc46_14, if_neg hc59_102, if_neg hc72_146, if_pos hc85_168]
              have hg176 : (g5_o1 p0 p1 ls zs) = (setI zs (v5_1 zs ls p0 p1) ((getI zs (v5_1 zs ls p0 p1)) + (getI zs (v5_2 zs ls p0 p1)))) := by simp only [g5_o1, if_neg hc14_4, if_neg hc46_14, if_neg hc59_102, if_neg hc72_146, if_pos hc85_168]
              exact ⟨rfl, N174, K174, (by rw [hg175]; exact (Vw170.other W174 ne_o0_o1)), (by rw [hg176]; exact Vw174)⟩
          · obtain ⟨cl177, Ar177, hin177, hat177⟩ := Ia.get (V_o1) (j := (v5_1 zs ls p0 p1)) (by first | exact own_ite hB.2.2.2 hB.2.2.1 | exact own_ite hB.2.2.1 hB.2.2.2)
            obtain ⟨cl178, Ar178, hin178, hat178⟩ := Ia.get (V_o1) (j := (v5_2 zs ls p0 p1)) (by first | exact own_ite hB.2.2.2 hB.2.2.1 | exact own_ite hB.2.2.1 hB.2.2.2)
            obtain ⟨cl179, Ar179, hin179, hat179⟩ := Ia.get (V_o1) (j := (v5_1 zs ls p0 p1)) (by first | exact own_ite hB.2.2.2 hB.2.2.1 | exact own_ite hB.2.2.1 hB.2.2.2)
            obtain ⟨T180, h180, X180, e180, W180, st180⟩ := stI X0 hx hZ e0 Ar179 (j := (v5_1 zs ls p0 p1)) hin179 (g := (mkF m 103 #[.val (.ref o0), .val (.ref o1), .val (.int p0), .val (.int p1), .val (.int (v5_1 zs ls p0 p1)), .val (.int (v5_2 zs ls p0 p1)), (if (getI zs (getI ls p0)) < (getI zs (getI ls p1)) then .val (.int (getI ls p0)) else .unset)] [(.int ((getI zs (v5_1 zs ls p0 p1)) + (getI zs (v5_2 zs ls p0 p1)))), (.int (v5_1 zs ls p0 p1)), (.ref o1)])) rfl rfl (hb hby d5_103)
            have Vw180 := Ia.set (V_o1) (j := (v5_1 zs ls p0 p1)) (x := ((getI zs (v5_1 zs ls p0 p1)) + (getI zs (v5_2 zs ls p0 p1)))) (by first | exact own_ite hB.2.2.2 hB.2.2.1 | exact own_ite hB.2.2.1 hB.2.2.2) rfl W180
            have N180 := Fr.snoc X180 N0 g_o1
            have Z180 : n0 ≤ h180.size := Nat.le_trans Z0 (Keep.of_wr W180).1
            have K180 : Keep h0 h180 [o0, o1] := ((Keep.refl h0 [o0, o1])).wr W180 (Or.inl (List.mem_of_getElem? (i := 1) rfl))
            obtain ⟨fs, hr, hrun, hended, hW, hsame⟩ := X180.leave (v := none) (fun _ => rfl) hlk
            refine ⟨_, _, pre167 _ ?_, hrun, hended, _, _, rfl, ?_, ⟨_, rfl⟩, hW, hsame.mono (by decide) (by decide)⟩
            · show Steps p.tables e below (s₁.setTop (mkF m 85 #[.val (.ref o0), .val (.ref o1), .val (.int p0), .val (.int p1), .val (.int (v5_1 zs ls p0 p1)), .val (.int (v5_2 zs ls p0 p1)), (if (getI zs (getI ls p0)) < (getI zs (getI ls p1)) then .val (.int (getI ls p0)) else .unset)] [(.int (v5_2 zs ls p0 p1)), (.int (getI ls (3 : Int32)))])) _
              refine XS.icmpYes X0.here hx rfl (pc0 := 85) (pc' := 93) rfl (hb hby d5_85) rfl (feq hc85_168).2 (by decide) (by decide) ?_
              show Steps p.tables e below (s₁.setTop (mkF m 93 #[.val (.ref o0), .val (.ref o1), .val (.int p0), .val (.int p1), .val (.int (v5_1 zs ls p0 p1)), .val (.int (v5_2 zs ls p0 p1)), (if (getI zs (getI ls p0)) < (getI zs (getI ls p1)) then .val (.int (getI ls p0)) else .unset)] [])) _
              refine XS.aloadN X0.here hx rfl (hb hby d5_93) rfl rfl ?_
              show Steps p.tables e below (s₁.setTop (mkF m 94 #[.val (.ref o0), .val (.ref o1), .val (.int p0), .val (.int p1), .val (.int (v5_1 zs ls p0 p1)), .val (.int (v5_2 zs ls p0 p1)), (if (getI zs (getI ls p0)) < (getI zs (getI ls p1)) then .val (.int (getI ls p0)) else .unset)] [(.ref o1)])) _
              refine XS.iload X0.here hx rfl (hb hby d5_94) rfl ?_
              show Steps p.tables e below (s₁.setTop (mkF m 96 #[.val (.ref o0), .val (.ref o1), .val (.int p0), .val (.int p1), .val (.int (v5_1 zs ls p0 p1)), .val (.int (v5_2 zs ls p0 p1)), (if (getI zs (getI ls p0)) < (getI zs (getI ls p1)) then .val (.int (getI ls p0)) else .unset)] [(.int (v5_1 zs ls p0 p1)), (.ref o1)])) _
              refine XT.dup2 X0.here hx rfl (hb hby d5_96) rfl rfl rfl ?_
              show Steps p.tables e below (s₁.setTop (mkF m 97 #[.val (.ref o0), .val (.ref o1), .val (.int p0), .val (.int p1), .val (.int (v5_1 zs ls p0 p1)), .val (.int (v5_2 zs ls p0 p1)), (if (getI zs (getI ls p0)) < (getI zs (getI ls p1)) then .val (.int (getI ls p0)) else .unset)] [(.int (v5_1 zs ls p0 p1)), (.ref o1), (.int (v5_1 zs ls p0 p1)), (.ref o1)])) _
              refine X0.iaload hx (j := (v5_1 zs ls p0 p1)) (v := (.int (getI zs (v5_1 zs ls p0 p1)))) (by rw [e0]; exact Ar177.1) (State.isArrayOf_alike hZ.alike Ar177.2.1) Ar177.2.2 hin177 hat177 (g := (mkF m 97 #[.val (.ref o0), .val (.ref o1), .val (.int p0), .val (.int p1), .val (.int (v5_1 zs ls p0 p1)), .val (.int (v5_2 zs ls p0 p1)), (if (getI zs (getI ls p0)) < (getI zs (getI ls p1)) then .val (.int (getI ls p0)) else .unset)] [(.int (v5_1 zs ls p0 p1)), (.ref o1), (.int (v5_1 zs ls p0 p1)), (.ref o1)])) rfl rfl (hb hby d5_97) _ ?_
              show Steps p.tables e below (s₁.setTop (mkF m 98 #[.val (.ref o0), .val (.ref o1), .val (.int p0), .val (.int p1), .val (.int (v5_1 zs ls p0 p1)), .val (.int (v5_2 zs ls p0 p1)), (if (getI zs (getI ls p0)) < (getI zs (getI ls p1)) then .val (.int (getI ls p0)) else .unset)] [(.int (getI zs (v5_1 zs ls p0 p1))), (.int (v5_1 zs ls p0 p1)), (.ref o1)])) _
              refine XS.aloadN X0.here hx rfl (hb hby d5_98) rfl rfl ?_
              show Steps p.tables e below (s₁.setTop (mkF m 99 #[.val (.ref o0), .val (.ref o1), .val (.int p0), .val (.int p1), .val (.int (v5_1 zs ls p0 p1)), .val (.int (v5_2 zs ls p0 p1)), (if (getI zs (getI ls p0)) < (getI zs (getI ls p1)) then .val (.int (getI ls p0)) else .unset)] [(.ref o1), (.int (getI zs (v5_1 zs ls p0 p1))), (.int (v5_1 zs ls p0 p1)), (.ref o1)])) _
              refine XS.iload X0.here hx rfl (hb hby d5_99) rfl ?_
              show Steps p.tables e below (s₁.setTop (mkF m 101 #[.val (.ref o0), .val (.ref o1), .val (.int p0), .val (.int p1), .val (.int (v5_1 zs ls p0 p1)), .val (.int (v5_2 zs ls p0 p1)), (if (getI zs (getI ls p0)) < (getI zs (getI ls p1)) then .val (.int (getI ls p0)) else .unset)] [(.int (v5_2 zs ls p0 p1)), (.ref o1), (.int (getI zs (v5_1 zs ls p0 p1))), (.int (v5_1 zs ls p0 p1)), (.ref o1)])) _
              refine X0.iaload hx (j := (v5_2 zs ls p0 p1)) (v := (.int (getI zs (v5_2 zs ls p0 p1)))) (by rw [e0]; exact Ar178.1) (State.isArrayOf_alike hZ.alike Ar178.2.1) Ar178.2.2 hin178 hat178 (g := (mkF m 101 #[.val (.ref o0), .val (.ref o1), .val (.int p0), .val (.int p1), .val (.int (v5_1 zs ls p0 p1)), .val (.int (v5_2 zs ls p0 p1)), (if (getI zs (getI ls p0)) < (getI zs (getI ls p1)) then .val (.int (getI ls p0)) else .unset)] [(.int (v5_2 zs ls p0 p1)), (.ref o1), (.int (getI zs (v5_1 zs ls p0 p1))), (.int (v5_1 zs ls p0 p1)), (.ref o1)])) rfl rfl (hb hby d5_101) _ ?_
              show Steps p.tables e below (s₁.setTop (mkF m 102 #[.val (.ref o0), .val (.ref o1), .val (.int p0), .val (.int p1), .val (.int (v5_1 zs ls p0 p1)), .val (.int (v5_2 zs ls p0 p1)), (if (getI zs (getI ls p0)) < (getI zs (getI ls p1)) then .val (.int (getI ls p0)) else .unset)] [(.int (getI zs (v5_2 zs ls p0 p1))), (.int (getI zs (v5_1 zs ls p0 p1))), (.int (v5_1 zs ls p0 p1)), (.ref o1)])) _
              refine XS.iadd X0.here hx rfl (hb hby d5_102) rfl ?_
              show Steps p.tables e below (s₁.setTop (mkF m 103 #[.val (.ref o0), .val (.ref o1), .val (.int p0), .val (.int p1), .val (.int (v5_1 zs ls p0 p1)), .val (.int (v5_2 zs ls p0 p1)), (if (getI zs (getI ls p0)) < (getI zs (getI ls p1)) then .val (.int (getI ls p0)) else .unset)] [(.int ((getI zs (v5_1 zs ls p0 p1)) + (getI zs (v5_2 zs ls p0 p1)))), (.int (v5_1 zs ls p0 p1)), (.ref o1)])) _
              refine st180 _ ?_
              show Steps p.tables e below (T180.setTop (mkF m 104 #[.val (.ref o0), .val (.ref o1), .val (.int p0), .val (.int p1), .val (.int (v5_1 zs ls p0 p1)), .val (.int (v5_2 zs ls p0 p1)), (if (getI zs (getI ls p0)) < (getI zs (getI ls p1)) then .val (.int (getI ls p0)) else .unset)] [])) _
              exact X180.returnOut hx Bd.returns (hb hby d5_104) hr
            · show Q5 Z o0 o1 p0 p1 ka ls kb zs h0 n0 _ T180.heap _
              rw [e180]
              have hg181 : (g5_o0 p0 p1 ls zs) = ls := by simp only [g5_o0, if_neg hc14_4, if_neg hc46_14, if_neg hc59_102, if_neg hc72_146, if_neg hc85_168]
              have hg182 : (g5_o1 p0 p1 ls zs) = (setI zs (v5_1 zs ls p0 p1) ((getI zs (v5_1 zs ls p0 p1)) + (getI zs (v5_2 zs ls p0 p1)))) := by simp only [g5_o1, if_neg hc14_4, if_neg hc46_14, if_neg hc59_102, if_neg hc72_146, if_neg hc85_168]
              exact ⟨rfl, N180, K180, (by rw [hg181]; exact (V_o0.other W180 ne_o0_o1)), (by rw [hg182]; exact Vw180)⟩
theorem pn_0 : plainName "com/example/shingle/shingle/JoinedRootPinLaw" = true := by first | (simp [plainName, overriddenIn]; done) | decide +kernel
theorem ef_0 (m : MethodId) (x0 : Int32) (x1 : Int32) : entryFrame m #[(.int x0), (.int x1)] maxLocals = mkF m 0 #[.val (.int x0), .val (.int x1), .unset, .unset, .unset, .unset, .unset, .unset, .unset, .unset, .unset, .unset, .unset, .unset, .unset, .unset, .unset] [] := by first | (simp [entryFrame, mkF, argsToLocals, Value.category, maxLocals]; done) | rfl
def v0_1 (pj : Int32) : Int32 := (((pj.toUInt32 >>> ((2 : Int32) &&& 31).toUInt32).toInt32) &&& (3 : Int32))
def v0_2 (pj : Int32) : Int32 := (((pj.toUInt32 >>> ((4 : Int32) &&& 31).toUInt32).toInt32) &&& (3 : Int32))
def v0_3 (pj : Int32) : Int32 := (((pj.toUInt32 >>> ((6 : Int32) &&& 31).toUInt32).toInt32) &&& (3 : Int32))
def v0_4 (pj : Int32) : Int32 := (((pj.toUInt32 >>> ((8 : Int32) &&& 31).toUInt32).toInt32) &&& (3 : Int32))
def v0_5 (pj : Int32) : Int32 := (((pj.toUInt32 >>> ((10 : Int32) &&& 31).toUInt32).toInt32) &&& (3 : Int32))
def v0_6 (pq : Int32) : Int32 := (((pq.toUInt32 >>> ((2 : Int32) &&& 31).toUInt32).toInt32) &&& (3 : Int32))
def w0_7 : List Int32 := (setI (List.replicate (4 : Int32).toNatClampNeg 0) (0 : Int32) (0 : Int32))
def w0_8 : List Int32 := (setI w0_7 (1 : Int32) (1 : Int32))
def w0_9 : List Int32 := (setI w0_8 (2 : Int32) (2 : Int32))
def w0_10 : List Int32 := (setI w0_9 (3 : Int32) (3 : Int32))
def w0_11 : List Int32 := (setI (List.replicate (4 : Int32).toNatClampNeg 0) (0 : Int32) (1 : Int32))
def w0_12 : List Int32 := (setI w0_11 (1 : Int32) (1 : Int32))
def w0_13 : List Int32 := (setI w0_12 (2 : Int32) (1 : Int32))
def w0_14 : List Int32 := (setI w0_13 (3 : Int32) (1 : Int32))
def w0_15 : List Int32 := (setI (setI (setI (setI (List.replicate (4 : Int32).toNatClampNeg 0) (0 : Int32) (0 : Int32)) (1 : Int32) (1 : Int32)) (2 : Int32) (2 : Int32)) (3 : Int32) (3 : Int32))
def w0_16 : List Int32 := (setI (setI (setI (setI (List.replicate (4 : Int32).toNatClampNeg 0) (0 : Int32) (1 : Int32)) (1 : Int32) (1 : Int32)) (2 : Int32) (1 : Int32)) (3 : Int32) (1 : Int32))
def w0_17 (pj : Int32) : List Int32 := (g3_pa (pj &&& (3 : Int32)) (v0_1 pj) w0_15 w0_16)
def w0_18 (pj : Int32) : List Int32 := (g3_sa (pj &&& (3 : Int32)) (v0_1 pj) w0_15 w0_16)
def w0_19 (pj : Int32) : List Int32 := (g5_o0 (pj &&& (3 : Int32)) (v0_1 pj) w0_10 w0_14)
def w0_20 (pj : Int32) : List Int32 := (g5_o1 (pj &&& (3 : Int32)) (v0_1 pj) w0_10 w0_14)
def w0_21 (pj : Int32) : List Int32 := (g3_pa (v0_2 pj) (v0_3 pj) (w0_17 pj) (w0_18 pj))
def w0_22 (pj : Int32) : List Int32 := (g3_sa (v0_2 pj) (v0_3 pj) (w0_17 pj) (w0_18 pj))
def w0_23 (pj : Int32) : List Int32 := (g5_o0 (v0_2 pj) (v0_3 pj) (w0_19 pj) (w0_20 pj))
def w0_24 (pj : Int32) : List Int32 := (g5_o1 (v0_2 pj) (v0_3 pj) (w0_19 pj) (w0_20 pj))
def w0_25 (pj : Int32) : List Int32 := (g3_pa (v0_4 pj) (v0_5 pj) (w0_21 pj) (w0_22 pj))
def w0_26 (pj : Int32) : List Int32 := (g3_sa (v0_4 pj) (v0_5 pj) (w0_21 pj) (w0_22 pj))
def w0_27 (pj : Int32) : List Int32 := (g5_o0 (v0_4 pj) (v0_5 pj) (w0_23 pj) (w0_24 pj))
def w0_28 (pj : Int32) : List Int32 := (g5_o1 (v0_4 pj) (v0_5 pj) (w0_23 pj) (w0_24 pj))
def w0_29 (pq : Int32) (pj : Int32) : List Int32 := (g4_pa (pq &&& (3 : Int32)) (w0_25 pj))
def v0_30 (pq : Int32) (pj : Int32) : Int32 := (f4 (pq &&& (3 : Int32)) (w0_25 pj))
def w0_31 (pq : Int32) (pj : Int32) : List Int32 := (g4_pa (v0_6 pq) (w0_29 pq pj))
def w0_32 (pq : Int32) (pj : Int32) : List Int32 := (g4_pa (v0_30 pq pj) (w0_31 pq pj))
def v0_33 (pq : Int32) (pj : Int32) : Int32 := (f4 (v0_30 pq pj) (w0_31 pq pj))
def w0_34 (pq : Int32) (pj : Int32) : List Int32 := (g4_pa (pq &&& (3 : Int32)) (w0_32 pq pj))
def v0_35 (pq : Int32) (pj : Int32) : Int32 := (f4 (pq &&& (3 : Int32)) (w0_32 pq pj))
def v0_36 (pj : Int32) (pq : Int32) : Int32 := (getI (w0_27 pj) (pq &&& (3 : Int32)))


def own_I4 : List Int32 := [0, 1, 2, 3]
theorem own_mem (x : Int32) : (x &&& (3 : Int32)) ∈ own_I4 := by
  have h := c_mask x 3 2 (by decide) (by decide)
  have e : ((2 ^ 2 : Nat) : Int) = 4 := rfl
  rw [e] at h
  have : (x &&& (3 : Int32)).toInt = 0 ∨ (x &&& (3 : Int32)).toInt = 1 ∨ (x &&& (3 : Int32)).toInt = 2 ∨ (x &&& (3 : Int32)).toInt = 3 := by omega
  rcases this with q | q | q | q
  · rw [show x &&& (3 : Int32) = 0 from Int32.toInt_inj.mp q]; decide
  · rw [show x &&& (3 : Int32) = 1 from Int32.toInt_inj.mp q]; decide
  · rw [show x &&& (3 : Int32) = 2 from Int32.toInt_inj.mp q]; decide
  · rw [show x &&& (3 : Int32) = 3 from Int32.toInt_inj.mp q]; decide
theorem own_mq (x : Int32) : inr (x &&& (3 : Int32)) := by
  have h : ∀ y ∈ own_I4, inr y := by decide
  exact h _ (own_mem x)
abbrev St := List Int32 × List Int32 × List Int32 × List Int32
def own_step (t : St) (f s : Int32) : St := (g3_pa f s t.1 t.2.1, g3_sa f s t.1 t.2.1, g5_o0 f s t.2.2.1 t.2.2.2, g5_o1 f s t.2.2.1 t.2.2.2)
def own_S0 : List St := [(w0_15, w0_16, w0_10, w0_14)]
def own_S1 : List St := [([0, 0, 2, 3], [2, 1, 1, 1], [0, 0, 2, 3], [2, 1, 1, 1]), ([0, 1, 0, 3], [2, 1, 1, 1], [0, 1, 0, 3], [2, 1, 1, 1]), ([0, 1, 1, 3], [1, 2, 1, 1], [0, 1, 1, 3], [1, 2, 1, 1]), ([0, 1, 2, 0], [2, 1, 1, 1], [0, 1, 2, 0], [2, 1, 1, 1]), ([0, 1, 2, 1], [1, 2, 1, 1], [0, 1, 2, 1], [1, 2, 1, 1]), ([0, 1, 2, 2], [1, 1, 2, 1], [0, 1, 2, 2], [1, 1, 2, 1]), ([0, 1, 2, 3], [1, 1, 1, 1], [0, 1, 2, 3], [1, 1, 1, 1]), ([0, 1, 3, 3], [1, 1, 1, 2], [0, 1, 3, 3], [1, 1, 1, 2]), ([0, 2, 2, 3], [1, 1, 2, 1], [0, 2, 2, 3], [1, 1, 2, 1]), ([0, 3, 2, 3], [1, 1, 1, 2], [0, 3, 2, 3], [1, 1, 1, 2]), ([1, 1, 2, 3], [1, 2, 1, 1], [1, 1, 2, 3], [1, 2, 1, 1]), ([2, 1, 2, 3], [1, 1, 2, 1], [2, 1, 2, 3], [1, 1, 2, 1]), ([3, 1, 2, 3], [1, 1, 1, 2], [3, 1, 2, 3], [1, 1, 1, 2])]
def own_S2 : List St := [([0, 0, 0, 3], [3, 1, 1, 1], [0, 0, 0, 3], [3, 1, 1, 1]), ([0, 0, 2, 0], [3, 1, 1, 1], [0, 0, 2, 0], [3, 1, 1, 1]), ([0, 0, 2, 2], [2, 1, 2, 1], [0, 0, 2, 2], [2, 1, 2, 1]), ([0, 0, 2, 3], [2, 1, 1, 1], [0, 0, 2, 3], [2, 1, 1, 1]), ([0, 0, 3, 3], [2, 1, 1, 2], [0, 0, 3, 3], [2, 1, 1, 2]), ([0, 1, 0, 0], [3, 1, 1, 1], [0, 1, 0, 0], [3, 1, 1, 1]), ([0, 1, 0, 1], [2, 2, 1, 1], [0, 1, 0, 1], [2, 2, 1, 1]), ([0, 1, 0, 3], [2, 1, 1, 1], [0, 1, 0, 3], [2, 1, 1, 1]), ([0, 1, 1, 0], [2, 2, 1, 1], [0, 1, 1, 0], [2, 2, 1, 1]), ([0, 1, 1, 1], [1, 3, 1, 1], [0, 1, 1, 1], [1, 3, 1, 1]), ([0, 1, 1, 3], [1, 2, 1, 1], [0, 1, 1, 3], [1, 2, 1, 1]), ([0, 1, 2, 0], [2, 1, 1, 1], [0, 1, 2, 0], [2, 1, 1, 1]), ([0, 1, 2, 1], [1, 2, 1, 1], [0, 1, 2, 1], [1, 2, 1, 1]), ([0, 1, 2, 2], [1, 1, 2, 1], [0, 1, 2, 2], [1, 1, 2, 1]), ([0, 1, 2, 3], [1, 1, 1, 1], [0, 1, 2, 3], [1, 1, 1, 1]), ([0, 1, 3, 3], [1, 1, 1, 2], [0, 1, 3, 3], [1, 1, 1, 2]), ([0, 2, 2, 0], [2, 1, 2, 1], [0, 2, 2, 0], [2, 1, 2, 1]), ([0, 2, 2, 2], [1, 1, 3, 1], [0, 2, 2, 2], [1, 1, 3, 1]), ([0, 2, 2, 3], [1, 1, 2, 1], [0, 2, 2, 3], [1, 1, 2, 1]), ([0, 3, 0, 3], [2, 1, 1, 2], [0, 3, 0, 3], [2, 1, 1, 2]), ([0, 3, 2, 3], [1, 1, 1, 2], [0, 3, 2, 3], [1, 1, 1, 2]), ([0, 3, 3, 3], [1, 1, 1, 3], [0, 3, 3, 3], [1, 1, 1, 3]), ([1, 1, 1, 3], [1, 3, 1, 1], [1, 1, 1, 3], [1, 3, 1, 1]), ([1, 1, 2, 1], [1, 3, 1, 1], [1, 1, 2, 1], [1, 3, 1, 1]), ([1, 1, 2, 2], [1, 2, 2, 1], [1, 1, 2, 2], [1, 2, 2, 1]), ([1, 1, 2, 3], [1, 2, 1, 1], [1, 1, 2, 3], [1, 2, 1, 1]), ([1, 1, 3, 3], [1, 2, 1, 2], [1, 1, 3, 3], [1, 2, 1, 2]), ([2, 1, 2, 1], [1, 2, 2, 1], [2, 1, 2, 1], [1, 2, 2, 1]), ([2, 1, 2, 2], [1, 1, 3, 1], [2, 1, 2, 2], [1, 1, 3, 1]), ([2, 1, 2, 3], [1, 1, 2, 1], [2, 1, 2, 3], [1, 1, 2, 1]), ([2, 2, 2, 3], [1, 1, 3, 1], [2, 2, 2, 3], [1, 1, 3, 1]), ([2, 3, 2, 3], [1, 1, 2, 2], [2, 3, 2, 3], [1, 1, 2, 2]), ([3, 1, 1, 3], [1, 2, 1, 2], [3, 1, 1, 3], [1, 2, 1, 2]), ([3, 1, 2, 3], [1, 1, 1, 2], [3, 1, 2, 3], [1, 1, 1, 2]), ([3, 1, 3, 3], [1, 1, 1, 3], [3, 1, 3, 3], [1, 1, 1, 3]), ([3, 2, 2, 3], [1, 1, 2, 2], [3, 2, 2, 3], [1, 1, 2, 2]), ([3, 3, 2, 3], [1, 1, 1, 3], [3, 3, 2, 3], [1, 1, 1, 3])]
def own_S3 : List St := [([0, 0, 0, 0], [4, 1, 1, 1], [0, 0, 0, 0], [4, 1, 1, 1]), ([0, 0, 0, 1], [4, 2, 1, 1], [0, 0, 0, 0], [4, 2, 1, 1]), ([0, 0, 0, 2], [4, 1, 2, 1], [0, 0, 0, 0], [4, 1, 2, 1]), ([0, 0, 0, 3], [3, 1, 1, 1], [0, 0, 0, 3], [3, 1, 1, 1]), ([0, 0, 1, 0], [4, 2, 1, 1], [0, 0, 0, 0], [4, 2, 1, 1]), ([0, 0, 2, 0], [3, 1, 1, 1], [0, 0, 2, 0], [3, 1, 1, 1]), ([0, 0, 2, 2], [2, 1, 2, 1], [0, 0, 2, 2], [2, 1, 2, 1]), ([0, 0, 2, 3], [2, 1, 1, 1], [0, 0, 2, 3], [2, 1, 1, 1]), ([0, 0, 3, 0], [4, 1, 1, 2], [0, 0, 0, 0], [4, 1, 1, 2]), ([0, 0, 3, 3], [2, 1, 1, 2], [0, 0, 3, 3], [2, 1, 1, 2]), ([0, 1, 0, 0], [3, 1, 1, 1], [0, 1, 0, 0], [3, 1, 1, 1]), ([0, 1, 0, 1], [2, 2, 1, 1], [0, 1, 0, 1], [2, 2, 1, 1]), ([0, 1, 0, 3], [2, 1, 1, 1], [0, 1, 0, 3], [2, 1, 1, 1]), ([0, 1, 1, 0], [2, 2, 1, 1], [0, 1, 1, 0], [2, 2, 1, 1]), ([0, 1, 1, 1], [1, 3, 1, 1], [0, 1, 1, 1], [1, 3, 1, 1]), ([0, 1, 1, 3], [1, 2, 1, 1], [0, 1, 1, 3], [1, 2, 1, 1]), ([0, 1, 2, 0], [2, 1, 1, 1], [0, 1, 2, 0], [2, 1, 1, 1]), ([0, 1, 2, 1], [1, 2, 1, 1], [0, 1, 2, 1], [1, 2, 1, 1]), ([0, 1, 2, 2], [1, 1, 2, 1], [0, 1, 2, 2], [1, 1, 2, 1]), ([0, 1, 2, 3], [1, 1, 1, 1], [0, 1, 2, 3], [1, 1, 1, 1]), ([0, 1, 3, 3], [1, 1, 1, 2], [0, 1, 3, 3], [1, 1, 1, 2]), ([0, 2, 0, 0], [4, 1, 2, 1], [0, 0, 0, 0], [4, 1, 2, 1]), ([0, 2, 2, 0], [2, 1, 2, 1], [0, 2, 2, 0], [2, 1, 2, 1]), ([0, 2, 2, 2], [1, 1, 3, 1], [0, 2, 2, 2], [1, 1, 3, 1]), ([0, 2, 2, 3], [1, 1, 2, 1], [0, 2, 2, 3], [1, 1, 2, 1]), ([0, 3, 0, 0], [4, 1, 1, 2], [0, 0, 0, 0], [4, 1, 1, 2]), ([0, 3, 0, 3], [2, 1, 1, 2], [0, 3, 0, 3], [2, 1, 1, 2]), ([0, 3, 2, 3], [1, 1, 1, 2], [0, 3, 2, 3], [1, 1, 1, 2]), ([0, 3, 3, 3], [1, 1, 1, 3], [0, 3, 3, 3], [1, 1, 1, 3]), ([1, 1, 0, 1], [2, 4, 1, 1], [1, 1, 1, 1], [2, 4, 1, 1]), ([1, 1, 1, 0], [2, 4, 1, 1], [1, 1, 1, 1], [2, 4, 1, 1]), ([1, 1, 1, 1], [1, 4, 1, 1], [1, 1, 1, 1], [1, 4, 1, 1]), ([1, 1, 1, 2], [1, 4, 2, 1], [1, 1, 1, 1], [1, 4, 2, 1]), ([1, 1, 1, 3], [1, 3, 1, 1], [1, 1, 1, 3], [1, 3, 1, 1]), ([1, 1, 2, 1], [1, 3, 1, 1], [1, 1, 2, 1], [1, 3, 1, 1]), ([1, 1, 2, 2], [1, 2, 2, 1], [1, 1, 2, 2], [1, 2, 2, 1]), ([1, 1, 2, 3], [1, 2, 1, 1], [1, 1, 2, 3], [1, 2, 1, 1]), ([1, 1, 3, 1], [1, 4, 1, 2], [1, 1, 1, 1], [1, 4, 1, 2]), ([1, 1, 3, 3], [1, 2, 1, 2], [1, 1, 3, 3], [1, 2, 1, 2]), ([1, 2, 2, 2], [1, 2, 4, 1], [2, 2, 2, 2], [1, 2, 4, 1]), ([1, 3, 3, 3], [1, 2, 1, 4], [3, 3, 3, 3], [1, 2, 1, 4]), ([2, 0, 2, 2], [2, 1, 4, 1], [2, 2, 2, 2], [2, 1, 4, 1]), ([2, 1, 1, 1], [1, 4, 2, 1], [1, 1, 1, 1], [1, 4, 2, 1]), ([2, 1, 2, 1], [1, 2, 2, 1], [2, 1, 2, 1], [1, 2, 2, 1]), ([2, 1, 2, 2], [1, 1, 3, 1], [2, 1, 2, 2], [1, 1, 3, 1]), ([2, 1, 2, 3], [1, 1, 2, 1], [2, 1, 2, 3], [1, 1, 2, 1]), ([2, 2, 2, 0], [2, 1, 4, 1], [2, 2, 2, 2], [2, 1, 4, 1]), ([2, 2, 2, 1], [1, 2, 4, 1], [2, 2, 2, 2], [1, 2, 4, 1]), ([2, 2, 2, 2], [1, 1, 4, 1], [2, 2, 2, 2], [1, 1, 4, 1]), ([2, 2, 2, 3], [1, 1, 3, 1], [2, 2, 2, 3], [1, 1, 3, 1]), ([2, 3, 2, 2], [1, 1, 4, 2], [2, 2, 2, 2], [1, 1, 4, 2]), ([2, 3, 2, 3], [1, 1, 2, 2], [2, 3, 2, 3], [1, 1, 2, 2]), ([2, 3, 3, 3], [1, 1, 2, 4], [3, 3, 3, 3], [1, 1, 2, 4]), ([3, 0, 3, 3], [2, 1, 1, 4], [3, 3, 3, 3], [2, 1, 1, 4]), ([3, 1, 1, 1], [1, 4, 1, 2], [1, 1, 1, 1], [1, 4, 1, 2]), ([3, 1, 1, 3], [1, 2, 1, 2], [3, 1, 1, 3], [1, 2, 1, 2]), ([3, 1, 2, 3], [1, 1, 1, 2], [3, 1, 2, 3], [1, 1, 1, 2]), ([3, 1, 3, 3], [1, 1, 1, 3], [3, 1, 3, 3], [1, 1, 1, 3]), ([3, 2, 2, 2], [1, 1, 4, 2], [2, 2, 2, 2], [1, 1, 4, 2]), ([3, 2, 2, 3], [1, 1, 2, 2], [3, 2, 2, 3], [1, 1, 2, 2]), ([3, 2, 3, 3], [1, 1, 2, 4], [3, 3, 3, 3], [1, 1, 2, 4]), ([3, 3, 0, 3], [2, 1, 1, 4], [3, 3, 3, 3], [2, 1, 1, 4]), ([3, 3, 1, 3], [1, 2, 1, 4], [3, 3, 3, 3], [1, 2, 1, 4]), ([3, 3, 2, 3], [1, 1, 1, 3], [3, 3, 2, 3], [1, 1, 1, 3]), ([3, 3, 3, 3], [1, 1, 1, 4], [3, 3, 3, 3], [1, 1, 1, 4])]
def own_goodb (B : List St) (t : St) (f s : Int32) : Bool := decide (RokA t.1 f ∧ RokA (g4_pa f t.1) s) && decide (inr f ∧ inr s ∧ inr (getI t.2.2.1 f) ∧ inr (getI t.2.2.1 s)) && B.contains (own_step t f s)
def own_closed (A B : List St) : Bool := A.all fun t => own_I4.all fun f => own_I4.all fun s => own_goodb B t f s
theorem own_c0 : own_closed own_S0 own_S1 = true := by decide +kernel
theorem own_c1 : own_closed own_S1 own_S2 = true := by decide +kernel
theorem own_c2 : own_closed own_S2 own_S3 = true := by decide +kernel
theorem own_use {A B : List St} (h : own_closed A B = true) {a b c d : List Int32} (ht : (a, b, c, d) ∈ A) {f s : Int32} (hf : f ∈ own_I4) (hs : s ∈ own_I4) : Jok a f s ∧ Bok c f s ∧ (g3_pa f s a b, g3_sa f s a b, g5_o0 f s c d, g5_o1 f s c d) ∈ B := by
  have q := List.all_eq_true.mp (List.all_eq_true.mp (List.all_eq_true.mp h _ ht) f hf) s hs
  simp only [own_goodb, Bool.and_eq_true] at q
  have x := of_decide_eq_true q.1.1
  have y := of_decide_eq_true q.1.2
  have z := List.contains_iff_mem.mp q.2
  simp only [own_step] at z
  exact ⟨x, y, z⟩
abbrev own_last (ps ls : List Int32) (x y : Int32) : Prop :=
  RokA ps x ∧ RokA (g4_pa x ps) y ∧ RokA (g4_pa y (g4_pa x ps)) (f4 x ps) ∧ RokA (g4_pa (f4 x ps) (g4_pa y (g4_pa x ps))) x ∧
  f4 x ps = getI ls x ∧ f4 y (g4_pa x ps) = getI ls y ∧ f4 (f4 x ps) (g4_pa y (g4_pa x ps)) = f4 x ps ∧ f4 x (g4_pa (f4 x ps) (g4_pa y (g4_pa x ps))) = f4 x ps
def own_lastb : Bool := own_S3.all fun t => own_I4.all fun x => own_I4.all fun y => decide (own_last t.1 t.2.2.1 x y)
theorem own_c3 : own_lastb = true := by decide +kernel
def own_Last (ps ls : List Int32) (x y : Int32) : Prop := own_last ps ls x y
theorem own_use3 {a b c d : List Int32} (ht : (a, b, c, d) ∈ own_S3) {x y : Int32} (hx : x ∈ own_I4) (hy : y ∈ own_I4) : own_Last a c x y := by
  have q := List.all_eq_true.mp (List.all_eq_true.mp (List.all_eq_true.mp own_c3 _ ht) x hx) y hy
  have r := of_decide_eq_true q
  exact r
theorem own_a1 (pj : Int32) : Jok w0_15 (pj &&& (3 : Int32)) (v0_1 pj) ∧ Bok w0_10 (pj &&& (3 : Int32)) (v0_1 pj) ∧ (w0_17 pj, w0_18 pj, w0_19 pj, w0_20 pj) ∈ own_S1 := own_use own_c0 (a := w0_15) (b := w0_16) (c := w0_10) (d := w0_14) (List.mem_singleton.mpr rfl) (own_mem _) (own_mem _)
theorem own_a2 (pj : Int32) : Jok (w0_17 pj) (v0_2 pj) (v0_3 pj) ∧ Bok (w0_19 pj) (v0_2 pj) (v0_3 pj) ∧ (w0_21 pj, w0_22 pj, w0_23 pj, w0_24 pj) ∈ own_S2 := own_use own_c1 (own_a1 pj).2.2 (own_mem _) (own_mem _)
theorem own_a3 (pj : Int32) : Jok (w0_21 pj) (v0_4 pj) (v0_5 pj) ∧ Bok (w0_23 pj) (v0_4 pj) (v0_5 pj) ∧ (w0_25 pj, w0_26 pj, w0_27 pj, w0_28 pj) ∈ own_S3 := own_use own_c2 (own_a2 pj).2.2 (own_mem _) (own_mem _)
theorem own_j1 (pj : Int32) : Jok w0_15 (pj &&& (3 : Int32)) (v0_1 pj) := (own_a1 pj).1
theorem own_b1 (pj : Int32) : Bok w0_10 (pj &&& (3 : Int32)) (v0_1 pj) := (own_a1 pj).2.1
theorem own_j2 (pj : Int32) : Jok (w0_17 pj) (v0_2 pj) (v0_3 pj) := (own_a2 pj).1
theorem own_b2 (pj : Int32) : Bok (w0_19 pj) (v0_2 pj) (v0_3 pj) := (own_a2 pj).2.1
theorem own_j3 (pj : Int32) : Jok (w0_21 pj) (v0_4 pj) (v0_5 pj) := (own_a3 pj).1
theorem own_b3 (pj : Int32) : Bok (w0_23 pj) (v0_4 pj) (v0_5 pj) := (own_a3 pj).2.1
theorem own_a4 (pj pq : Int32) : own_Last (w0_25 pj) (w0_27 pj) (pq &&& (3 : Int32)) (v0_6 pq) := own_use3 (own_a3 pj).2.2 (own_mem _) (own_mem _)
theorem own_r1 (pj pq : Int32) : Rok (w0_25 pj) (pq &&& (3 : Int32)) := (own_a4 pj pq).1
theorem own_r2 (pj pq : Int32) : Rok (w0_29 pq pj) (v0_6 pq) := (own_a4 pj pq).2.1
theorem own_r3 (pj pq : Int32) : Rok (w0_31 pq pj) (v0_30 pq pj) := (own_a4 pj pq).2.2.1
theorem own_r4 (pj pq : Int32) : Rok (w0_32 pq pj) (pq &&& (3 : Int32)) := (own_a4 pj pq).2.2.2.1

def f0 (pj : Int32) (pq : Int32) : Int32 := (if (v0_30 pq pj) = (v0_36 pj pq) then (if (f4 (v0_6 pq) (w0_29 pq pj)) = (getI (w0_27 pj) (v0_6 pq)) then (if (v0_33 pq pj) = (v0_30 pq pj) then (if (v0_35 pq pj) = (v0_30 pq pj) then (1 : Int32) else (0 : Int32)) else (0 : Int32)) else (0 : Int32)) else (0 : Int32))
def Q0 (Z : State) (pj : Int32) (pq : Int32)  (h0 : Heap) (n0 : Nat) (v : Option Value) (h : Heap) (L : List Loc) : Prop := v = some (.int (f0 pj pq)) ∧ Fr n0 L
set_option maxRecDepth 65536 in
set_option maxHeartbeats 40000000 in
theorem rm0 (l : Launch) (Z : State) (a0 : Array Value) (hw : ∀ d ∈ tables_1, d.before a0 Z = true) (ws : List Jvm.Cond) (pj : Int32) (pq : Int32)  (h0 : Heap) (n0 : Nat) (Z0 : n0 ≤ h0.size)   :
    MetFree l x (head1 (Jvm.Cond.code x code maxLocals ret :: ws) room_1) (fun a U => a = #[(.int pj), (.int pq)] ∧ Z.Warmed39 U.vm ∧ U.heap = h0) (fun _ _ _ _ _ => True) (fun _ U o U' => ∃ v L, o = .returned v ∧ Q0 Z pj pq h0 n0 v U'.heap L ∧ FrameEnd U o U' L room_1.cells room_1.slots) := by
  refine MetFree.of_bodySF (plainFor_of_name pn_0) hisR ?_
  intro p e s m args below meth c s₁ Bd hml0 hP hK
  obtain ⟨rfl, hZ, hh⟩ := hP
  have hx := Bd.exec
  have hby := Bd.bytes
  have hml : c.maxLocals = 17 := hml0
  have hown : s.vm.findClass "com/example/shingle/shingle/JoinedRootPinLaw" = some m.cls := findClass_of_methodNamed Bd.named
  have hnm := (name_of_methodNamed Bd.named Bd.method).1
  have X0 : Stand p l e room_1 s m #[(.int pj), (.int pq)] below meth c s₁ [] 0 0 := Stand.of_body Bd
  have e0 : s₁.heap = h0 := by rw [← hh, Bd.state]; rfl
  have N0 := Fr.nil n0
  have hlk : meth.locks = false := by first | exact BodyLoose.notSynchronized Bd | exact Body.notSynchronized Bd
  have pre0 : ∀ t, Steps p.tables e below (s₁.setTop (mkF m 0 #[.val (.int pj), .val (.int pq), .unset, .unset, .unset, .unset, .unset, .unset, .unset, .unset, .unset, .unset, .unset, .unset, .unset, .unset, .unset] [])) t → Steps p.tables e below (s₁.setTop (entryFrame m #[(.int pj), (.int pq)] maxLocals)) t := fun t k => castTop (ef_0 m pj pq) k
  obtain ⟨T1, h1, k1, X1, e1, E1, A1, st1⟩ := newP X0 hx hZ (hw _ (List.mem_of_getElem? (i := 0) rfl)) e0 (g := (mkF m 54 #[.val (.int pj), .val (.int pq), .val (.int (pj &&& (3 : Int32))), .val (.int (v0_1 pj)), .val (.int (v0_2 pj)), .val (.int (v0_3 pj)), .val (.int (v0_4 pj)), .val (.int (v0_5 pj)), .val (.int (pq &&& (3 : Int32))), .val (.int (v0_6 pq)), .unset, .unset, .unset, .unset, .unset, .unset, .unset] [(.int (4 : Int32))])) rfl (hb hby at_54) rfl (by decide) (cap := 4) (by decide) (by decide) (by decide) (by decide)
  obtain ⟨b1, g1⟩ : ∃ z, z = h0.size := ⟨_, rfl⟩
  rw [← g1] at A1 st1
  have g_b1 : n0 ≤ b1 := Nat.le_trans Z0 (Nat.le_of_eq g1.symm)
  have sz_b1 : h0.size ≤ b1 := Nat.le_trans ((Keep.refl h0 [])).1 (Nat.le_of_eq g1.symm)
  have Z1 : n0 ≤ h1.size := Nat.le_trans Z0 E1.1
  have K1 : Keep h0 h1 [] := ((Keep.refl h0 [])).ext E1
  have V_b1 := Ia.new A1 (by decide) rfl
  obtain ⟨cl2, Ar2, hin2, hat2⟩ := Ia.get (V_b1) (j := (0 : Int32)) ⟨by decide, by decide⟩
  obtain ⟨T3, h3, X3, e3, W3, st3⟩ := stI X1 hx hZ e1 Ar2 (j := (0 : Int32)) hin2 (g := (mkF m 59 #[.val (.int pj), .val (.int pq), .val (.int (pj &&& (3 : Int32))), .val (.int (v0_1 pj)), .val (.int (v0_2 pj)), .val (.int (v0_3 pj)), .val (.int (v0_4 pj)), .val (.int (v0_5 pj)), .val (.int (pq &&& (3 : Int32))), .val (.int (v0_6 pq)), .unset, .unset, .unset, .unset, .unset, .unset, .unset] [(.int (0 : Int32)), (.int (0 : Int32)), (.ref b1), (.ref b1)])) rfl rfl (hb hby at_59)
  have Vw3 := Ia.set (V_b1) (j := (0 : Int32)) (x := (0 : Int32)) ⟨by decide, by decide⟩ rfl W3
  have N3 := Fr.snoc X3 N0 g_b1
  have Z3 : n0 ≤ h3.size := Nat.le_trans Z1 (Keep.of_wr W3).1
  have K3 : Keep h0 h3 [] := (K1).wr W3 (Or.inr sz_b1)
  obtain ⟨cl4, Ar4, hin4, hat4⟩ := Ia.get (Vw3) (j := (1 : Int32)) ⟨by decide, by decide⟩
  obtain ⟨T5, h5, X5, e5, W5, st5⟩ := stI X3 hx hZ e3 Ar4 (j := (1 : Int32)) hin4 (g := (mkF m 63 #[.val (.int pj), .val (.int pq), .val (.int (pj &&& (3 : Int32))), .val (.int (v0_1 pj)), .val (.int (v0_2 pj)), .val (.int (v0_3 pj)), .val (.int (v0_4 pj)), .val (.int (v0_5 pj)), .val (.int (pq &&& (3 : Int32))), .val (.int (v0_6 pq)), .unset, .unset, .unset, .unset, .unset, .unset, .unset] [(.int (1 : Int32)), (.int (1 : Int32)), (.ref b1), (.ref b1)])) rfl rfl (hb hby at_63)
  have Vw5 := Ia.set (Vw3) (j := (1 : Int32)) (x := (1 : Int32)) ⟨by decide, by decide⟩ rfl W5
  have N5 := Fr.snoc X5 N3 g_b1
  have Z5 : n0 ≤ h5.size := Nat.le_trans Z3 (Keep.of_wr W5).1
  have K5 : Keep h0 h5 [] := (K3).wr W5 (Or.inr sz_b1)
  obtain ⟨cl6, Ar6, hin6, hat6⟩ := Ia.get (Vw5) (j := (2 : Int32)) ⟨by decide, by decide⟩
  obtain ⟨T7, h7, X7, e7, W7, st7⟩ := stI X5 hx hZ e5 Ar6 (j := (2 : Int32)) hin6 (g := (mkF m 67 #[.val (.int pj), .val (.int pq), .val (.int (pj &&& (3 : Int32))), .val (.int (v0_1 pj)), .val (.int (v0_2 pj)), .val (.int (v0_3 pj)), .val (.int (v0_4 pj)), .val (.int (v0_5 pj)), .val (.int (pq &&& (3 : Int32))), .val (.int (v0_6 pq)), .unset, .unset, .unset, .unset, .unset, .unset, .unset] [(.int (2 : Int32)), (.int (2 : Int32)), (.ref b1), (.ref b1)])) rfl rfl (hb hby at_67)
  have Vw7 := Ia.set (Vw5) (j := (2 : Int32)) (x := (2 : Int32)) ⟨by decide, by decide⟩ rfl W7
  have N7 := Fr.snoc X7 N5 g_b1
  have Z7 : n0 ≤ h7.size := Nat.le_trans Z5 (Keep.of_wr W7).1
  have K7 : Keep h0 h7 [] := (K5).wr W7 (Or.inr sz_b1)
  obtain ⟨cl8, Ar8, hin8, hat8⟩ := Ia.get (Vw7) (j := (3 : Int32)) ⟨by decide, by decide⟩
  obtain ⟨T9, h9, X9, e9, W9, st9⟩ := stI X7 hx hZ e7 Ar8 (j := (3 : Int32)) hin8 (g := (mkF m 71 #[.val (.int pj), .val (.int pq), .val (.int (pj &&& (3 : Int32))), .val (.int (v0_1 pj)), .val (.int (v0_2 pj)), .val (.int (v0_3 pj)), .val (.int (v0_4 pj)), .val (.int (v0_5 pj)), .val (.int (pq &&& (3 : Int32))), .val (.int (v0_6 pq)), .unset, .unset, .unset, .unset, .unset, .unset, .unset] [(.int (3 : Int32)), (.int (3 : Int32)), (.ref b1), (.ref b1)])) rfl rfl (hb hby at_71)
  have Vw9 := Ia.set (Vw7) (j := (3 : Int32)) (x := (3 : Int32)) ⟨by decide, by decide⟩ rfl W9
  have N9 := Fr.snoc X9 N7 g_b1
  have Z9 : n0 ≤ h9.size := Nat.le_trans Z7 (Keep.of_wr W9).1
  have K9 : Keep h0 h9 [] := (K7).wr W9 (Or.inr sz_b1)
  obtain ⟨T10, h10, k10, X10, e10, E10, A10, st10⟩ := newP X9 hx hZ (hw _ (List.mem_of_getElem? (i := 0) rfl)) e9 (g := (mkF m 75 #[.val (.int pj), .val (.int pq), .val (.int (pj &&& (3 : Int32))), .val (.int (v0_1 pj)), .val (.int (v0_2 pj)), .val (.int (v0_3 pj)), .val (.int (v0_4 pj)), .val (.int (v0_5 pj)), .val (.int (pq &&& (3 : Int32))), .val (.int (v0_6 pq)), .val (.ref b1), .unset, .unset, .unset, .unset, .unset, .unset] [(.int (4 : Int32))])) rfl (hb hby at_75) rfl (by decide) (cap := 4) (by decide) (by decide) (by decide) (by decide)
  obtain ⟨b10, g10⟩ : ∃ z, z = h9.size := ⟨_, rfl⟩
  rw [← g10] at A10 st10
  have g_b10 : n0 ≤ b10 := Nat.le_trans Z9 (Nat.le_of_eq g10.symm)
  have sz_b10 : h0.size ≤ b10 := Nat.le_trans (K9).1 (Nat.le_of_eq g10.symm)
  have ne_b1_b10 : b1 ≠ b10 := Nat.ne_of_lt (Nat.lt_of_lt_of_le (Vw9).lt (Nat.le_of_eq g10.symm))
  have Z10 : n0 ≤ h10.size := Nat.le_trans Z9 E10.1
  have K10 : Keep h0 h10 [] := (K9).ext E10
  have V_b10 := Ia.new A10 (by decide) rfl
  obtain ⟨cl11, Ar11, hin11, hat11⟩ := Ia.get (V_b10) (j := (0 : Int32)) ⟨by decide, by decide⟩
  obtain ⟨T12, h12, X12, e12, W12, st12⟩ := stI X10 hx hZ e10 Ar11 (j := (0 : Int32)) hin11 (g := (mkF m 80 #[.val (.int pj), .val (.int pq), .val (.int (pj &&& (3 : Int32))), .val (.int (v0_1 pj)), .val (.int (v0_2 pj)), .val (.int (v0_3 pj)), .val (.int (v0_4 pj)), .val (.int (v0_5 pj)), .val (.int (pq &&& (3 : Int32))), .val (.int (v0_6 pq)), .val (.ref b1), .unset, .unset, .unset, .unset, .unset, .unset] [(.int (1 : Int32)), (.int (0 : Int32)), (.ref b10), (.ref b10)])) rfl rfl (hb hby at_80)
  have Vw12 := Ia.set (V_b10) (j := (0 : Int32)) (x := (1 : Int32)) ⟨by decide, by decide⟩ rfl W12
  have N12 := Fr.snoc X12 N9 g_b10
  have Z12 : n0 ≤ h12.size := Nat.le_trans Z10 (Keep.of_wr W12).1
  have K12 : Keep h0 h12 [] := (K10).wr W12 (Or.inr sz_b10)
  obtain ⟨cl13, Ar13, hin13, hat13⟩ := Ia.get (Vw12) (j := (1 : Int32)) ⟨by decide, by decide⟩
  obtain ⟨T14, h14, X14, e14, W14, st14⟩ := stI X12 hx hZ e12 Ar13 (j := (1 : Int32)) hin13 (g := (mkF m 84 #[.val (.int pj), .val (.int pq), .val (.int (pj &&& (3 : Int32))), .val (.int (v0_1 pj)), .val (.int (v0_2 pj)), .val (.int (v0_3 pj)), .val (.int (v0_4 pj)), .val (.int (v0_5 pj)), .val (.int (pq &&& (3 : Int32))), .val (.int (v0_6 pq)), .val (.ref b1), .unset, .unset, .unset, .unset, .unset, .unset] [(.int (1 : Int32)), (.int (1 : Int32)), (.ref b10), (.ref b10)])) rfl rfl (hb hby at_84)
  have Vw14 := Ia.set (Vw12) (j := (1 : Int32)) (x := (1 : Int32)) ⟨by decide, by decide⟩ rfl W14
  have N14 := Fr.snoc X14 N12 g_b10
  have Z14 : n0 ≤ h14.size := Nat.le_trans Z12 (Keep.of_wr W14).1
  have K14 : Keep h0 h14 [] := (K12).wr W14 (Or.inr sz_b10)
  obtain ⟨cl15, Ar15, hin15, hat15⟩ := Ia.get (Vw14) (j := (2 : Int32)) ⟨by decide, by decide⟩
  obtain ⟨T16, h16, X16, e16, W16, st16⟩ := stI X14 hx hZ e14 Ar15 (j := (2 : Int32)) hin15 (g := (mkF m 88 #[.val (.int pj), .val (.int pq), .val (.int (pj &&& (3 : Int32))), .val (.int (v0_1 pj)), .val (.int (v0_2 pj)), .val (.int (v0_3 pj)), .val (.int (v0_4 pj)), .val (.int (v0_5 pj)), .val (.int (pq &&& (3 : Int32))), .val (.int (v0_6 pq)), .val (.ref b1), .unset, .unset, .unset, .unset, .unset, .unset] [(.int (1 : Int32)), (.int (2 : Int32)), (.ref b10), (.ref b10)])) rfl rfl (hb hby at_88)
  have Vw16 := Ia.set (Vw14) (j := (2 : Int32)) (x := (1 : Int32)) ⟨by decide, by decide⟩ rfl W16
  have N16 := Fr.snoc X16 N14 g_b10
  have Z16 : n0 ≤ h16.size := Nat.le_trans Z14 (Keep.of_wr W16).1
  have K16 : Keep h0 h16 [] := (K14).wr W16 (Or.inr sz_b10)
  obtain ⟨cl17, Ar17, hin17, hat17⟩ := Ia.get (Vw16) (j := (3 : Int32)) ⟨by decide, by decide⟩
  obtain ⟨T18, h18, X18, e18, W18, st18⟩ := stI X16 hx hZ e16 Ar17 (j := (3 : Int32)) hin17 (g := (mkF m 92 #[.val (.int pj), .val (.int pq), .val (.int (pj &&& (3 : Int32))), .val (.int (v0_1 pj)), .val (.int (v0_2 pj)), .val (.int (v0_3 pj)), .val (.int (v0_4 pj)), .val (.int (v0_5 pj)), .val (.int (pq &&& (3 : Int32))), .val (.int (v0_6 pq)), .val (.ref b1), .unset, .unset, .unset, .unset, .unset, .unset] [(.int (1 : Int32)), (.int (3 : Int32)), (.ref b10), (.ref b10)])) rfl rfl (hb hby at_92)
  have Vw18 := Ia.set (Vw16) (j := (3 : Int32)) (x := (1 : Int32)) ⟨by decide, by decide⟩ rfl W18
  have N18 := Fr.snoc X18 N16 g_b10
  have Z18 : n0 ≤ h18.size := Nat.le_trans Z16 (Keep.of_wr W18).1
  have K18 : Keep h0 h18 [] := (K16).wr W18 (Or.inr sz_b10)
  obtain ⟨T19, h19, X19, e19, E19, A19, D19, -, st19⟩ := newO X18 hx hZ hown (hw _ (List.mem_of_getElem? (i := 1) rfl)) (hw _ (List.mem_of_getElem? (i := 2) rfl)) (hw _ (List.mem_of_getElem? (i := 3) rfl)) e18 (g := (mkF m 95 #[.val (.int pj), .val (.int pq), .val (.int (pj &&& (3 : Int32))), .val (.int (v0_1 pj)), .val (.int (v0_2 pj)), .val (.int (v0_3 pj)), .val (.int (v0_4 pj)), .val (.int (v0_5 pj)), .val (.int (pq &&& (3 : Int32))), .val (.int (v0_6 pq)), .val (.ref b1), .val (.ref b10), .unset, .unset, .unset, .unset, .unset] [])) rfl (hb hby at_95) (by decide) (by decide)
  obtain ⟨b19, g19⟩ : ∃ z, z = h18.size := ⟨_, rfl⟩
  rw [← g19] at A19 D19 st19
  have g_b19 : n0 ≤ b19 := Nat.le_trans Z18 (Nat.le_of_eq g19.symm)
  have sz_b19 : h0.size ≤ b19 := Nat.le_trans (K18).1 (Nat.le_of_eq g19.symm)
  have ne_b1_b19 : b1 ≠ b19 := Nat.ne_of_lt (Nat.lt_of_lt_of_le ((((((Vw9.ext E10).other W12 ne_b1_b10).other W14 ne_b1_b10).other W16 ne_b1_b10).other W18 ne_b1_b10)).lt (Nat.le_of_eq g19.symm))
  have ne_b10_b19 : b10 ≠ b19 := Nat.ne_of_lt (Nat.lt_of_lt_of_le (Vw18).lt (Nat.le_of_eq g19.symm))
  have Z19 : n0 ≤ h19.size := Nat.le_trans Z18 E19.1
  have K19 : Keep h0 h19 [] := (K18).ext E19
  have F_parent_b19 : Fld Z h19 b19 "com/example/shingle/shingle/Joined" "parent" "[I" .null := D19 (Or.inr (hw _ (List.mem_of_getElem? (i := 11) rfl))) (ty := (.array .int)) (by decide)
  have F_size_b19 : Fld Z h19 b19 "com/example/shingle/shingle/Joined" "size" "[I" .null := D19 (Or.inr (hw _ (List.mem_of_getElem? (i := 13) rfl))) (ty := (.array .int)) (by decide)
  obtain ⟨_, _, ⟨T20, L20, k20, n20⟩, -, X20, ⟨Lc20, hQ20, l20, y20, z20⟩, st20⟩ := X19.specialBack hx (y := (⟨"com/example/shingle/shingle/Joined", "<init>", "(I)V"⟩ : MethodName)) rfl hown (mvT hZ (hw _ (List.mem_of_getElem? (i := 4) rfl))) (mvT hZ (hw _ (List.mem_of_getElem? (i := 5) rfl))) (mvT hZ (hw _ (List.mem_of_getElem? (i := 6) rfl))) (by decide) (backOf (W := 1) (rm1 l Z a0 hw [] b19 .null .null h19 n0 Z19 (A19) g_b19 (F_parent_b19) (F_size_b19)) hZ (hw _ (List.mem_of_getElem? (i := 6) rfl)) (hw _ (List.mem_of_getElem? (i := 3) rfl)) (by decide) (by decide)) (g := (mkF m 100 #[.val (.int pj), .val (.int pq), .val (.int (pj &&& (3 : Int32))), .val (.int (v0_1 pj)), .val (.int (v0_2 pj)), .val (.int (v0_3 pj)), .val (.int (v0_4 pj)), .val (.int (v0_5 pj)), .val (.int (pq &&& (3 : Int32))), .val (.int (v0_6 pq)), .val (.ref b1), .val (.ref b10), .unset, .unset, .unset, .unset, .unset] [(.int (4 : Int32)), (.ref b19), (.ref b19)])) rfl (by rw [hml]; rfl) (Steps.refl _) (a := b19) (argsL := [(.int (4 : Int32))]) (rest := [(.ref b19)]) (lenOf pd_1 rfl) rfl (by show 2 * 0 + _ ≤ _; exact Nat.le_of_eq rfl) (hb hby at_100) (fun _ _ => ⟨rfl, e19, (by decide : 3 + 2 ≤ _), (by decide : 10 + 8 ≤ _)⟩)
  dsimp only [Pt.U, Pt.locs, Pt.cells, Pt.slots] at X20 l20 y20 z20 st20 hQ20
  subst l20 y20 z20
  obtain ⟨rfl, N20q, pa, sa, ka, kb, g_pa, g_sa, z_pa, z_sa, ne1, ne2, ne3, Kq20, Fq20_0, Fq20_1, Vq20_0, Vq20_1⟩ := hQ20
  have N20 := Fr.app N18 N20q
  have sz_pa : h0.size ≤ pa := Nat.le_trans (K19).1 z_pa
  have ne_b1_pa : b1 ≠ pa := Nat.ne_of_lt (Nat.lt_of_lt_of_le (((((((Vw9.ext E10).other W12 ne_b1_b10).other W14 ne_b1_b10).other W16 ne_b1_b10).other W18 ne_b1_b10).ext E19)).lt z_pa)
  have ne_b10_pa : b10 ≠ pa := Nat.ne_of_lt (Nat.lt_of_lt_of_le ((Vw18.ext E19)).lt z_pa)
  have sz_sa : h0.size ≤ sa := Nat.le_trans (K19).1 z_sa
  have ne_b1_sa : b1 ≠ sa := Nat.ne_of_lt (Nat.lt_of_lt_of_le (((((((Vw9.ext E10).other W12 ne_b1_b10).other W14 ne_b1_b10).other W16 ne_b1_b10).other W18 ne_b1_b10).ext E19)).lt z_sa)
  have ne_b10_sa : b10 ≠ sa := Nat.ne_of_lt (Nat.lt_of_lt_of_le ((Vw18.ext E19)).lt z_sa)
  have Z20 : n0 ≤ T20.heap.size := Nat.le_trans Z19 Kq20.1
  have K20 : Keep h0 T20.heap [] := (K19).trans Kq20 (allS (Or.inr sz_b19) all0)
  obtain ⟨cq21, kq21, q21a, q21b, q21c⟩ := isOf hZ rfl ((A19.keep Kq20))
  obtain ⟨_, _, ⟨T21, L21, k21, n21⟩, -, X21, ⟨Lc21, hQ21, l21, y21, z21⟩, st21⟩ := X20.virtualBack hx (y := (⟨"com/example/shingle/shingle/Joined", "join", "(II)V"⟩ : MethodName)) (z := (⟨"com/example/shingle/shingle/Joined", "join", "(II)V"⟩ : MethodName)) hown (mvT hZ (hw _ (List.mem_of_getElem? (i := 14) rfl))) (mvT hZ (hw _ (List.mem_of_getElem? (i := 15) rfl))) (notFace_of_selects (args := #[]) (mvT hZ (hw _ (List.mem_of_getElem? (i := 17) rfl)))) (mvT hZ (hw _ (List.mem_of_getElem? (i := 17) rfl))) (mvT hZ (hw _ (List.mem_of_getElem? (i := 16) rfl))) (by decide) (backOf (W := 0) (rm3 l Z a0 hw [] b19 (pj &&& (3 : Int32)) (v0_1 pj) pa sa ka w0_15 kb w0_16 T20.heap n0 Z20 ((A19.keep Kq20)) (Fq20_0) (Fq20_1) (Vq20_0) g_pa (Vq20_1) g_sa (ne1) (ne2) (ne3) (own_j1 pj)) hZ (hw _ (List.mem_of_getElem? (i := 18) rfl)) (hw _ (List.mem_of_getElem? (i := 3) rfl)) (by decide) (by decide)) q21a q21c (g := (mkF m 109 #[.val (.int pj), .val (.int pq), .val (.int (pj &&& (3 : Int32))), .val (.int (v0_1 pj)), .val (.int (v0_2 pj)), .val (.int (v0_3 pj)), .val (.int (v0_4 pj)), .val (.int (v0_5 pj)), .val (.int (pq &&& (3 : Int32))), .val (.int (v0_6 pq)), .val (.ref b1), .val (.ref b10), .val (.ref b19), .unset, .unset, .unset, .unset] [(.int (v0_1 pj)), (.int (pj &&& (3 : Int32))), (.ref b19)])) rfl (by rw [hml]; rfl) (Steps.refl _) (argsL := [(.int (pj &&& (3 : Int32))), (.int (v0_1 pj))]) (rest := []) (lenOf pd_2 rfl) rfl (by show 2 * 0 + _ ≤ _; exact Nat.le_of_eq rfl) (hb hby at_109) (fun _ _ => ⟨rfl, rfl, (by decide : 5 + 0 ≤ _), (by decide : 18 + 0 ≤ _)⟩)
  dsimp only [Pt.U, Pt.locs, Pt.cells, Pt.slots] at X21 l21 y21 z21 st21 hQ21
  subst l21 y21 z21
  obtain ⟨rfl, N21q, Kq21, Fq21_0, Fq21_1, Vq21_0, Vq21_1⟩ := hQ21
  have N21 := Fr.app N20 N21q
  have Z21 : n0 ≤ T21.heap.size := Nat.le_trans Z20 Kq21.1
  have K21 : Keep h0 T21.heap [] := (K20).trans Kq21 (allS (Or.inr sz_pa) (allS (Or.inr sz_sa) all0))
  obtain ⟨_, _, ⟨T22, L22, k22, n22⟩, -, X22, ⟨Lc22, hQ22, l22, y22, z22⟩, st22⟩ := Jvm.LawKit.callS X21 hx (y := (⟨"com/example/shingle/shingle/JoinedRootPinLaw", "refJoin", "([I[III)V"⟩ : MethodName)) hown (mvT hZ (hw _ (List.mem_of_getElem? (i := 24) rfl))) (mvT hZ (hw _ (List.mem_of_getElem? (i := 25) rfl))) (mvT hZ (hw _ (List.mem_of_getElem? (i := 26) rfl))) (mvT hZ (hw _ (List.mem_of_getElem? (i := 27) rfl))) (by decide) (backOf (W := 0) (rm5 l Z a0 hw [] b1 b10 (pj &&& (3 : Int32)) (v0_1 pj) k1 w0_10 k10 w0_14 T21.heap n0 Z21 (((((((((Vw9.ext E10).other W12 ne_b1_b10).other W14 ne_b1_b10).other W16 ne_b1_b10).other W18 ne_b1_b10).ext E19).keep Kq20 (ninS ne_b1_b19 nin0)).keep Kq21 (ninS ne_b1_pa (ninS ne_b1_sa nin0)))) g_b1 ((((Vw18.ext E19).keep Kq20 (ninS ne_b10_b19 nin0)).keep Kq21 (ninS ne_b10_pa (ninS ne_b10_sa nin0)))) g_b10 (ne_b1_b10) (own_b1 pj)) hZ (hw _ (List.mem_of_getElem? (i := 27) rfl)) (hw _ (List.mem_of_getElem? (i := 26) rfl)) (by decide) (by decide)) (g := (mkF m 118 #[.val (.int pj), .val (.int pq), .val (.int (pj &&& (3 : Int32))), .val (.int (v0_1 pj)), .val (.int (v0_2 pj)), .val (.int (v0_3 pj)), .val (.int (v0_4 pj)), .val (.int (v0_5 pj)), .val (.int (pq &&& (3 : Int32))), .val (.int (v0_6 pq)), .val (.ref b1), .val (.ref b10), .val (.ref b19), .unset, .unset, .unset, .unset] [(.int (v0_1 pj)), (.int (pj &&& (3 : Int32))), (.ref b10), (.ref b1)])) rfl (by rw [hml]; rfl) (argsL := [(.ref b1), (.ref b10), (.int (pj &&& (3 : Int32))), (.int (v0_1 pj))]) (rest := []) (lenOf pd_3 rfl) rfl (by show 2 * 0 + _ ≤ _; exact Nat.le_of_eq rfl) (hb hby at_118) (fun _ _ => ⟨rfl, rfl, (by decide : 5 + 0 ≤ _), (by decide : 18 + 0 ≤ _)⟩)
  dsimp only [Pt.U, Pt.locs, Pt.cells, Pt.slots] at X22 l22 y22 z22 st22 hQ22
  subst l22 y22 z22
  obtain ⟨rfl, N22q, Kq22, Vq22_0, Vq22_1⟩ := hQ22
  have N22 := Fr.app N21 N22q
  have Z22 : n0 ≤ T22.heap.size := Nat.le_trans Z21 Kq22.1
  have K22 : Keep h0 T22.heap [] := (K21).trans Kq22 (allS (Or.inr sz_b1) (allS (Or.inr sz_b10) all0))
  obtain ⟨cq23, kq23, q23a, q23b, q23c⟩ := isOf hZ rfl ((((A19.keep Kq20).keep Kq21).keep Kq22))
  obtain ⟨_, _, ⟨T23, L23, k23, n23⟩, -, X23, ⟨Lc23, hQ23, l23, y23, z23⟩, st23⟩ := X22.virtualBack hx (y := (⟨"com/example/shingle/shingle/Joined", "join", "(II)V"⟩ : MethodName)) (z := (⟨"com/example/shingle/shingle/Joined", "join", "(II)V"⟩ : MethodName)) hown (mvT hZ (hw _ (List.mem_of_getElem? (i := 14) rfl))) (mvT hZ (hw _ (List.mem_of_getElem? (i := 15) rfl))) (notFace_of_selects (args := #[]) (mvT hZ (hw _ (List.mem_of_getElem? (i := 17) rfl)))) (mvT hZ (hw _ (List.mem_of_getElem? (i := 17) rfl))) (mvT hZ (hw _ (List.mem_of_getElem? (i := 16) rfl))) (by decide) (backOf (W := 0) (rm3 l Z a0 hw [] b19 (v0_2 pj) (v0_3 pj) pa sa ka (w0_17 pj) kb (w0_18 pj) T22.heap n0 Z22 ((((A19.keep Kq20).keep Kq21).keep Kq22)) ((Fq21_0.keep Kq22 (ninS (Ne.symm ne_b1_b19) (ninS (Ne.symm ne_b10_b19) nin0)))) ((Fq21_1.keep Kq22 (ninS (Ne.symm ne_b1_b19) (ninS (Ne.symm ne_b10_b19) nin0)))) ((Vq21_0.keep Kq22 (ninS (Ne.symm ne_b1_pa) (ninS (Ne.symm ne_b10_pa) nin0)))) g_pa ((Vq21_1.keep Kq22 (ninS (Ne.symm ne_b1_sa) (ninS (Ne.symm ne_b10_sa) nin0)))) g_sa (ne1) (ne2) (ne3) (own_j2 pj)) hZ (hw _ (List.mem_of_getElem? (i := 18) rfl)) (hw _ (List.mem_of_getElem? (i := 3) rfl)) (by decide) (by decide)) q23a q23c (g := (mkF m 127 #[.val (.int pj), .val (.int pq), .val (.int (pj &&& (3 : Int32))), .val (.int (v0_1 pj)), .val (.int (v0_2 pj)), .val (.int (v0_3 pj)), .val (.int (v0_4 pj)), .val (.int (v0_5 pj)), .val (.int (pq &&& (3 : Int32))), .val (.int (v0_6 pq)), .val (.ref b1), .val (.ref b10), .val (.ref b19), .unset, .unset, .unset, .unset] [(.int (v0_3 pj)), (.int (v0_2 pj)), (.ref b19)])) rfl (by rw [hml]; rfl) (Steps.refl _) (argsL := [(.int (v0_2 pj)), (.int (v0_3 pj))]) (rest := []) (lenOf pd_2 rfl) rfl (by show 2 * 0 + _ ≤ _; exact Nat.le_of_eq rfl) (hb hby at_127) (fun _ _ => ⟨rfl, rfl, (by decide : 5 + 0 ≤ _), (by decide : 18 + 0 ≤ _)⟩)
  dsimp only [Pt.U, Pt.locs, Pt.cells, Pt.slots] at X23 l23 y23 z23 st23 hQ23
  subst l23 y23 z23
  obtain ⟨rfl, N23q, Kq23, Fq23_0, Fq23_1, Vq23_0, Vq23_1⟩ := hQ23
  have N23 := Fr.app N22 N23q
  have Z23 : n0 ≤ T23.heap.size := Nat.le_trans Z22 Kq23.1
  have K23 : Keep h0 T23.heap [] := (K22).trans Kq23 (allS (Or.inr sz_pa) (allS (Or.inr sz_sa) all0))
  obtain ⟨_, _, ⟨T24, L24, k24, n24⟩, -, X24, ⟨Lc24, hQ24, l24, y24, z24⟩, st24⟩ := Jvm.LawKit.callS X23 hx (y := (⟨"com/example/shingle/shingle/JoinedRootPinLaw", "refJoin", "([I[III)V"⟩ : MethodName)) hown (mvT hZ (hw _ (List.mem_of_getElem? (i := 24) rfl))) (mvT hZ (hw _ (List.mem_of_getElem? (i := 25) rfl))) (mvT hZ (hw _ (List.mem_of_getElem? (i := 26) rfl))) (mvT hZ (hw _ (List.mem_of_getElem? (i := 27) rfl))) (by decide) (backOf (W := 0) (rm5 l Z a0 hw [] b1 b10 (v0_2 pj) (v0_3 pj) k1 (w0_19 pj) k10 (w0_20 pj) T23.heap n0 Z23 ((Vq22_0.keep Kq23 (ninS ne_b1_pa (ninS ne_b1_sa nin0)))) g_b1 ((Vq22_1.keep Kq23 (ninS ne_b10_pa (ninS ne_b10_sa nin0)))) g_b10 (ne_b1_b10) (own_b2 pj)) hZ (hw _ (List.mem_of_getElem? (i := 27) rfl)) (hw _ (List.mem_of_getElem? (i := 26) rfl)) (by decide) (by decide)) (g := (mkF m 138 #[.val (.int pj), .val (.int pq), .val (.int (pj &&& (3 : Int32))), .val (.int (v0_1 pj)), .val (.int (v0_2 pj)), .val (.int (v0_3 pj)), .val (.int (v0_4 pj)), .val (.int (v0_5 pj)), .val (.int (pq &&& (3 : Int32))), .val (.int (v0_6 pq)), .val (.ref b1), .val (.ref b10), .val (.ref b19), .unset, .unset, .unset, .unset] [(.int (v0_3 pj)), (.int (v0_2 pj)), (.ref b10), (.ref b1)])) rfl (by rw [hml]; rfl) (argsL := [(.ref b1), (.ref b10), (.int (v0_2 pj)), (.int (v0_3 pj))]) (rest := []) (lenOf pd_3 rfl) rfl (by show 2 * 0 + _ ≤ _; exact Nat.le_of_eq rfl) (hb hby at_138) (fun _ _ => ⟨rfl, rfl, (by decide : 5 + 0 ≤ _), (by decide : 18 + 0 ≤ _)⟩)
  dsimp only [Pt.U, Pt.locs, Pt.cells, Pt.slots] at X24 l24 y24 z24 st24 hQ24
  subst l24 y24 z24
  obtain ⟨rfl, N24q, Kq24, Vq24_0, Vq24_1⟩ := hQ24
  have N24 := Fr.app N23 N24q
  have Z24 : n0 ≤ T24.heap.size := Nat.le_trans Z23 Kq24.1
  have K24 : Keep h0 T24.heap [] := (K23).trans Kq24 (allS (Or.inr sz_b1) (allS (Or.inr sz_b10) all0))
  obtain ⟨cq25, kq25, q25a, q25b, q25c⟩ := isOf hZ rfl ((((((A19.keep Kq20).keep Kq21).keep Kq22).keep Kq23).keep Kq24))
  obtain ⟨_, _, ⟨T25, L25, k25, n25⟩, -, X25, ⟨Lc25, hQ25, l25, y25, z25⟩, st25⟩ := X24.virtualBack hx (y := (⟨"com/example/shingle/shingle/Joined", "join", "(II)V"⟩ : MethodName)) (z := (⟨"com/example/shingle/shingle/Joined", "join", "(II)V"⟩ : MethodName)) hown (mvT hZ (hw _ (List.mem_of_getElem? (i := 14) rfl))) (mvT hZ (hw _ (List.mem_of_getElem? (i := 15) rfl))) (notFace_of_selects (args := #[]) (mvT hZ (hw _ (List.mem_of_getElem? (i := 17) rfl)))) (mvT hZ (hw _ (List.mem_of_getElem? (i := 17) rfl))) (mvT hZ (hw _ (List.mem_of_getElem? (i := 16) rfl))) (by decide) (backOf (W := 0) (rm3 l Z a0 hw [] b19 (v0_4 pj) (v0_5 pj) pa sa ka (w0_21 pj) kb (w0_22 pj) T24.heap n0 Z24 ((((((A19.keep Kq20).keep Kq21).keep Kq22).keep Kq23).keep Kq24)) ((Fq23_0.keep Kq24 (ninS (Ne.symm ne_b1_b19) (ninS (Ne.symm ne_b10_b19) nin0)))) ((Fq23_1.keep Kq24 (ninS (Ne.symm ne_b1_b19) (ninS (Ne.symm ne_b10_b19) nin0)))) ((Vq23_0.keep Kq24 (ninS (Ne.symm ne_b1_pa) (ninS (Ne.symm ne_b10_pa) nin0)))) g_pa ((Vq23_1.keep Kq24 (ninS (Ne.symm ne_b1_sa) (ninS (Ne.symm ne_b10_sa) nin0)))) g_sa (ne1) (ne2) (ne3) (own_j3 pj)) hZ (hw _ (List.mem_of_getElem? (i := 18) rfl)) (hw _ (List.mem_of_getElem? (i := 3) rfl)) (by decide) (by decide)) q25a q25c (g := (mkF m 147 #[.val (.int pj), .val (.int pq), .val (.int (pj &&& (3 : Int32))), .val (.int (v0_1 pj)), .val (.int (v0_2 pj)), .val (.int (v0_3 pj)), .val (.int (v0_4 pj)), .val (.int (v0_5 pj)), .val (.int (pq &&& (3 : Int32))), .val (.int (v0_6 pq)), .val (.ref b1), .val (.ref b10), .val (.ref b19), .unset, .unset, .unset, .unset] [(.int (v0_5 pj)), (.int (v0_4 pj)), (.ref b19)])) rfl (by rw [hml]; rfl) (Steps.refl _) (argsL := [(.int (v0_4 pj)), (.int (v0_5 pj))]) (rest := []) (lenOf pd_2 rfl) rfl (by show 2 * 0 + _ ≤ _; exact Nat.le_of_eq rfl) (hb hby at_147) (fun _ _ => ⟨rfl, rfl, (by decide : 5 + 0 ≤ _), (by decide : 18 + 0 ≤ _)⟩)
  dsimp only [Pt.U, Pt.locs, Pt.cells, Pt.slots] at X25 l25 y25 z25 st25 hQ25
  subst l25 y25 z25
  obtain ⟨rfl, N25q, Kq25, Fq25_0, Fq25_1, Vq25_0, Vq25_1⟩ := hQ25
  have N25 := Fr.app N24 N25q
  have Z25 : n0 ≤ T25.heap.size := Nat.le_trans Z24 Kq25.1
  have K25 : Keep h0 T25.heap [] := (K24).trans Kq25 (allS (Or.inr sz_pa) (allS (Or.inr sz_sa) all0))
  obtain ⟨_, _, ⟨T26, L26, k26, n26⟩, -, X26, ⟨Lc26, hQ26, l26, y26, z26⟩, st26⟩ := Jvm.LawKit.callS X25 hx (y := (⟨"com/example/shingle/shingle/JoinedRootPinLaw", "refJoin", "([I[III)V"⟩ : MethodName)) hown (mvT hZ (hw _ (List.mem_of_getElem? (i := 24) rfl))) (mvT hZ (hw _ (List.mem_of_getElem? (i := 25) rfl))) (mvT hZ (hw _ (List.mem_of_getElem? (i := 26) rfl))) (mvT hZ (hw _ (List.mem_of_getElem? (i := 27) rfl))) (by decide) (backOf (W := 0) (rm5 l Z a0 hw [] b1 b10 (v0_4 pj) (v0_5 pj) k1 (w0_23 pj) k10 (w0_24 pj) T25.heap n0 Z25 ((Vq24_0.keep Kq25 (ninS ne_b1_pa (ninS ne_b1_sa nin0)))) g_b1 ((Vq24_1.keep Kq25 (ninS ne_b10_pa (ninS ne_b10_sa nin0)))) g_b10 (ne_b1_b10) (own_b3 pj)) hZ (hw _ (List.mem_of_getElem? (i := 27) rfl)) (hw _ (List.mem_of_getElem? (i := 26) rfl)) (by decide) (by decide)) (g := (mkF m 158 #[.val (.int pj), .val (.int pq), .val (.int (pj &&& (3 : Int32))), .val (.int (v0_1 pj)), .val (.int (v0_2 pj)), .val (.int (v0_3 pj)), .val (.int (v0_4 pj)), .val (.int (v0_5 pj)), .val (.int (pq &&& (3 : Int32))), .val (.int (v0_6 pq)), .val (.ref b1), .val (.ref b10), .val (.ref b19), .unset, .unset, .unset, .unset] [(.int (v0_5 pj)), (.int (v0_4 pj)), (.ref b10), (.ref b1)])) rfl (by rw [hml]; rfl) (argsL := [(.ref b1), (.ref b10), (.int (v0_4 pj)), (.int (v0_5 pj))]) (rest := []) (lenOf pd_3 rfl) rfl (by show 2 * 0 + _ ≤ _; exact Nat.le_of_eq rfl) (hb hby at_158) (fun _ _ => ⟨rfl, rfl, (by decide : 5 + 0 ≤ _), (by decide : 18 + 0 ≤ _)⟩)
  dsimp only [Pt.U, Pt.locs, Pt.cells, Pt.slots] at X26 l26 y26 z26 st26 hQ26
  subst l26 y26 z26
  obtain ⟨rfl, N26q, Kq26, Vq26_0, Vq26_1⟩ := hQ26
  have N26 := Fr.app N25 N26q
  have Z26 : n0 ≤ T26.heap.size := Nat.le_trans Z25 Kq26.1
  have K26 : Keep h0 T26.heap [] := (K25).trans Kq26 (allS (Or.inr sz_b1) (allS (Or.inr sz_b10) all0))
  obtain ⟨cq27, kq27, q27a, q27b, q27c⟩ := isOf hZ rfl ((((((((A19.keep Kq20).keep Kq21).keep Kq22).keep Kq23).keep Kq24).keep Kq25).keep Kq26))
  obtain ⟨_, _, ⟨T27, L27, k27, n27⟩, -, X27, ⟨Lc27, hQ27, l27, y27, z27⟩, st27⟩ := X26.virtualBack hx (y := (⟨"com/example/shingle/shingle/Joined", "root", "(I)I"⟩ : MethodName)) (z := (⟨"com/example/shingle/shingle/Joined", "root", "(I)I"⟩ : MethodName)) hown (mvT hZ (hw _ (List.mem_of_getElem? (i := 28) rfl))) (mvT hZ (hw _ (List.mem_of_getElem? (i := 20) rfl))) (notFace_of_selects (args := #[]) (mvT hZ (hw _ (List.mem_of_getElem? (i := 22) rfl)))) (mvT hZ (hw _ (List.mem_of_getElem? (i := 22) rfl))) (mvT hZ (hw _ (List.mem_of_getElem? (i := 21) rfl))) (by decide) (backOf (W := 0) (rm4 l Z a0 hw [] b19 (pq &&& (3 : Int32)) pa ka (w0_25 pj) T26.heap n0 Z26 ((((((((A19.keep Kq20).keep Kq21).keep Kq22).keep Kq23).keep Kq24).keep Kq25).keep Kq26)) ((Fq25_0.keep Kq26 (ninS (Ne.symm ne_b1_b19) (ninS (Ne.symm ne_b10_b19) nin0)))) ((Vq25_0.keep Kq26 (ninS (Ne.symm ne_b1_pa) (ninS (Ne.symm ne_b10_pa) nin0)))) g_pa (ne1) (own_r1 pj pq)) hZ (hw _ (List.mem_of_getElem? (i := 23) rfl)) (hw _ (List.mem_of_getElem? (i := 3) rfl)) (by decide) (by decide)) q27a q27c (g := (mkF m 165 #[.val (.int pj), .val (.int pq), .val (.int (pj &&& (3 : Int32))), .val (.int (v0_1 pj)), .val (.int (v0_2 pj)), .val (.int (v0_3 pj)), .val (.int (v0_4 pj)), .val (.int (v0_5 pj)), .val (.int (pq &&& (3 : Int32))), .val (.int (v0_6 pq)), .val (.ref b1), .val (.ref b10), .val (.ref b19), .unset, .unset, .unset, .unset] [(.int (pq &&& (3 : Int32))), (.ref b19)])) rfl (by rw [hml]; rfl) (Steps.refl _) (argsL := [(.int (pq &&& (3 : Int32)))]) (rest := []) (lenOf pd_0 rfl) rfl (by show 2 * 0 + _ ≤ _; exact Nat.le_of_eq rfl) (hb hby at_165) (fun _ _ => ⟨rfl, rfl, (by decide : 5 + 0 ≤ _), (by decide : 18 + 0 ≤ _)⟩)
  dsimp only [Pt.U, Pt.locs, Pt.cells, Pt.slots] at X27 l27 y27 z27 st27 hQ27
  subst l27 y27 z27
  obtain ⟨rfl, N27q, Kq27, Fq27_0, Vq27_0⟩ := hQ27
  have N27 := Fr.app N26 N27q
  have Z27 : n0 ≤ T27.heap.size := Nat.le_trans Z26 Kq27.1
  have K27 : Keep h0 T27.heap [] := (K26).trans Kq27 (allS (Or.inr sz_pa) all0)
  obtain ⟨cq28, kq28, q28a, q28b, q28c⟩ := isOf hZ rfl (((((((((A19.keep Kq20).keep Kq21).keep Kq22).keep Kq23).keep Kq24).keep Kq25).keep Kq26).keep Kq27))
  obtain ⟨_, _, ⟨T28, L28, k28, n28⟩, -, X28, ⟨Lc28, hQ28, l28, y28, z28⟩, st28⟩ := X27.virtualBack hx (y := (⟨"com/example/shingle/shingle/Joined", "root", "(I)I"⟩ : MethodName)) (z := (⟨"com/example/shingle/shingle/Joined", "root", "(I)I"⟩ : MethodName)) hown (mvT hZ (hw _ (List.mem_of_getElem? (i := 28) rfl))) (mvT hZ (hw _ (List.mem_of_getElem? (i := 20) rfl))) (notFace_of_selects (args := #[]) (mvT hZ (hw _ (List.mem_of_getElem? (i := 22) rfl)))) (mvT hZ (hw _ (List.mem_of_getElem? (i := 22) rfl))) (mvT hZ (hw _ (List.mem_of_getElem? (i := 21) rfl))) (by decide) (backOf (W := 0) (rm4 l Z a0 hw [] b19 (v0_6 pq) pa ka (w0_29 pq pj) T27.heap n0 Z27 (((((((((A19.keep Kq20).keep Kq21).keep Kq22).keep Kq23).keep Kq24).keep Kq25).keep Kq26).keep Kq27)) (Fq27_0) (Vq27_0) g_pa (ne1) (own_r2 pj pq)) hZ (hw _ (List.mem_of_getElem? (i := 23) rfl)) (hw _ (List.mem_of_getElem? (i := 3) rfl)) (by decide) (by decide)) q28a q28c (g := (mkF m 174 #[.val (.int pj), .val (.int pq), .val (.int (pj &&& (3 : Int32))), .val (.int (v0_1 pj)), .val (.int (v0_2 pj)), .val (.int (v0_3 pj)), .val (.int (v0_4 pj)), .val (.int (v0_5 pj)), .val (.int (pq &&& (3 : Int32))), .val (.int (v0_6 pq)), .val (.ref b1), .val (.ref b10), .val (.ref b19), .val (.int (v0_30 pq pj)), .unset, .unset, .unset] [(.int (v0_6 pq)), (.ref b19)])) rfl (by rw [hml]; rfl) (Steps.refl _) (argsL := [(.int (v0_6 pq))]) (rest := []) (lenOf pd_0 rfl) rfl (by show 2 * 0 + _ ≤ _; exact Nat.le_of_eq rfl) (hb hby at_174) (fun _ _ => ⟨rfl, rfl, (by decide : 5 + 0 ≤ _), (by decide : 18 + 0 ≤ _)⟩)
  dsimp only [Pt.U, Pt.locs, Pt.cells, Pt.slots] at X28 l28 y28 z28 st28 hQ28
  subst l28 y28 z28
  obtain ⟨rfl, N28q, Kq28, Fq28_0, Vq28_0⟩ := hQ28
  have N28 := Fr.app N27 N28q
  have Z28 : n0 ≤ T28.heap.size := Nat.le_trans Z27 Kq28.1
  have K28 : Keep h0 T28.heap [] := (K27).trans Kq28 (allS (Or.inr sz_pa) all0)
  obtain ⟨cq29, kq29, q29a, q29b, q29c⟩ := isOf hZ rfl ((((((((((A19.keep Kq20).keep Kq21).keep Kq22).keep Kq23).keep Kq24).keep Kq25).keep Kq26).keep Kq27).keep Kq28))
  obtain ⟨_, _, ⟨T29, L29, k29, n29⟩, -, X29, ⟨Lc29, hQ29, l29, y29, z29⟩, st29⟩ := X28.virtualBack hx (y := (⟨"com/example/shingle/shingle/Joined", "root", "(I)I"⟩ : MethodName)) (z := (⟨"com/example/shingle/shingle/Joined", "root", "(I)I"⟩ : MethodName)) hown (mvT hZ (hw _ (List.mem_of_getElem? (i := 28) rfl))) (mvT hZ (hw _ (List.mem_of_getElem? (i := 20) rfl))) (notFace_of_selects (args := #[]) (mvT hZ (hw _ (List.mem_of_getElem? (i := 22) rfl)))) (mvT hZ (hw _ (List.mem_of_getElem? (i := 22) rfl))) (mvT hZ (hw _ (List.mem_of_getElem? (i := 21) rfl))) (by decide) (backOf (W := 0) (rm4 l Z a0 hw [] b19 (v0_30 pq pj) pa ka (w0_31 pq pj) T28.heap n0 Z28 ((((((((((A19.keep Kq20).keep Kq21).keep Kq22).keep Kq23).keep Kq24).keep Kq25).keep Kq26).keep Kq27).keep Kq28)) (Fq28_0) (Vq28_0) g_pa (ne1) (own_r3 pj pq)) hZ (hw _ (List.mem_of_getElem? (i := 23) rfl)) (hw _ (List.mem_of_getElem? (i := 3) rfl)) (by decide) (by decide)) q29a q29c (g := (mkF m 183 #[.val (.int pj), .val (.int pq), .val (.int (pj &&& (3 : Int32))), .val (.int (v0_1 pj)), .val (.int (v0_2 pj)), .val (.int (v0_3 pj)), .val (.int (v0_4 pj)), .val (.int (v0_5 pj)), .val (.int (pq &&& (3 : Int32))), .val (.int (v0_6 pq)), .val (.ref b1), .val (.ref b10), .val (.ref b19), .val (.int (v0_30 pq pj)), .val (.int (f4 (v0_6 pq) (w0_29 pq pj))), .unset, .unset] [(.int (v0_30 pq pj)), (.ref b19)])) rfl (by rw [hml]; rfl) (Steps.refl _) (argsL := [(.int (v0_30 pq pj))]) (rest := []) (lenOf pd_0 rfl) rfl (by show 2 * 0 + _ ≤ _; exact Nat.le_of_eq rfl) (hb hby at_183) (fun _ _ => ⟨rfl, rfl, (by decide : 5 + 0 ≤ _), (by decide : 18 + 0 ≤ _)⟩)
  dsimp only [Pt.U, Pt.locs, Pt.cells, Pt.slots] at X29 l29 y29 z29 st29 hQ29
  subst l29 y29 z29
  obtain ⟨rfl, N29q, Kq29, Fq29_0, Vq29_0⟩ := hQ29
  have N29 := Fr.app N28 N29q
  have Z29 : n0 ≤ T29.heap.size := Nat.le_trans Z28 Kq29.1
  have K29 : Keep h0 T29.heap [] := (K28).trans Kq29 (allS (Or.inr sz_pa) all0)
  obtain ⟨cq30, kq30, q30a, q30b, q30c⟩ := isOf hZ rfl (((((((((((A19.keep Kq20).keep Kq21).keep Kq22).keep Kq23).keep Kq24).keep Kq25).keep Kq26).keep Kq27).keep Kq28).keep Kq29))
  obtain ⟨_, _, ⟨T30, L30, k30, n30⟩, -, X30, ⟨Lc30, hQ30, l30, y30, z30⟩, st30⟩ := X29.virtualBack hx (y := (⟨"com/example/shingle/shingle/Joined", "root", "(I)I"⟩ : MethodName)) (z := (⟨"com/example/shingle/shingle/Joined", "root", "(I)I"⟩ : MethodName)) hown (mvT hZ (hw _ (List.mem_of_getElem? (i := 28) rfl))) (mvT hZ (hw _ (List.mem_of_getElem? (i := 20) rfl))) (notFace_of_selects (args := #[]) (mvT hZ (hw _ (List.mem_of_getElem? (i := 22) rfl)))) (mvT hZ (hw _ (List.mem_of_getElem? (i := 22) rfl))) (mvT hZ (hw _ (List.mem_of_getElem? (i := 21) rfl))) (by decide) (backOf (W := 0) (rm4 l Z a0 hw [] b19 (pq &&& (3 : Int32)) pa ka (w0_32 pq pj) T29.heap n0 Z29 (((((((((((A19.keep Kq20).keep Kq21).keep Kq22).keep Kq23).keep Kq24).keep Kq25).keep Kq26).keep Kq27).keep Kq28).keep Kq29)) (Fq29_0) (Vq29_0) g_pa (ne1) (own_r4 pj pq)) hZ (hw _ (List.mem_of_getElem? (i := 23) rfl)) (hw _ (List.mem_of_getElem? (i := 3) rfl)) (by decide) (by decide)) q30a q30c (g := (mkF m 192 #[.val (.int pj), .val (.int pq), .val (.int (pj &&& (3 : Int32))), .val (.int (v0_1 pj)), .val (.int (v0_2 pj)), .val (.int (v0_3 pj)), .val (.int (v0_4 pj)), .val (.int (v0_5 pj)), .val (.int (pq &&& (3 : Int32))), .val (.int (v0_6 pq)), .val (.ref b1), .val (.ref b10), .val (.ref b19), .val (.int (v0_30 pq pj)), .val (.int (f4 (v0_6 pq) (w0_29 pq pj))), .val (.int (v0_33 pq pj)), .unset] [(.int (pq &&& (3 : Int32))), (.ref b19)])) rfl (by rw [hml]; rfl) (Steps.refl _) (argsL := [(.int (pq &&& (3 : Int32)))]) (rest := []) (lenOf pd_0 rfl) rfl (by show 2 * 0 + _ ≤ _; exact Nat.le_of_eq rfl) (hb hby at_192) (fun _ _ => ⟨rfl, rfl, (by decide : 5 + 0 ≤ _), (by decide : 18 + 0 ≤ _)⟩)
  dsimp only [Pt.U, Pt.locs, Pt.cells, Pt.slots] at X30 l30 y30 z30 st30 hQ30
  subst l30 y30 z30
  obtain ⟨rfl, N30q, Kq30, Fq30_0, Vq30_0⟩ := hQ30
  have N30 := Fr.app N29 N30q
  have Z30 : n0 ≤ T30.heap.size := Nat.le_trans Z29 Kq30.1
  have K30 : Keep h0 T30.heap [] := (K29).trans Kq30 (allS (Or.inr sz_pa) all0)
  obtain ⟨cl31, Ar31, hin31, hat31⟩ := Ia.get (((((Vq26_0.keep Kq27 (ninS ne_b1_pa nin0)).keep Kq28 (ninS ne_b1_pa nin0)).keep Kq29 (ninS ne_b1_pa nin0)).keep Kq30 (ninS ne_b1_pa nin0))) (j := (pq &&& (3 : Int32))) (own_mq _)
  have pre32 : ∀ t, Steps p.tables e below (T30.setTop (mkF m 204 #[.val (.int pj), .val (.int pq), .val (.int (pj &&& (3 : Int32))), .val (.int (v0_1 pj)), .val (.int (v0_2 pj)), .val (.int (v0_3 pj)), .val (.int (v0_4 pj)), .val (.int (v0_5 pj)), .val (.int (pq &&& (3 : Int32))), .val (.int (v0_6 pq)), .val (.ref b1), .val (.ref b10), .val (.ref b19), .val (.int (v0_30 pq pj)), .val (.int (f4 (v0_6 pq) (w0_29 pq pj))), .val (.int (v0_33 pq pj)), .val (.int (v0_35 pq pj))] [(.int (v0_36 pj pq)), (.int (v0_30 pq pj))])) t → Steps p.tables e below (s₁.setTop (entryFrame m #[(.int pj), (.int pq)] maxLocals)) t := fun t k => pre0 t (by
    show Steps p.tables e below (s₁.setTop (mkF m 0 #[.val (.int pj), .val (.int pq), .unset, .unset, .unset, .unset, .unset, .unset, .unset, .unset, .unset, .unset, .unset, .unset, .unset, .unset, .unset] [])) _
    refine XS.iloadN X0.here hx rfl (hb hby at_0) rfl ?_
    show Steps p.tables e below (s₁.setTop (mkF m 1 #[.val (.int pj), .val (.int pq), .unset, .unset, .unset, .unset, .unset, .unset, .unset, .unset, .unset, .unset, .unset, .unset, .unset, .unset, .unset] [(.int pj)])) _
    refine XS.iconst X0.here hx rfl (hb hby at_1) ?_
    show Steps p.tables e below (s₁.setTop (mkF m 2 #[.val (.int pj), .val (.int pq), .unset, .unset, .unset, .unset, .unset, .unset, .unset, .unset, .unset, .unset, .unset, .unset, .unset, .unset, .unset] [(.int (3 : Int32)), (.int pj)])) _
    refine XS.iand X0.here hx rfl (hb hby at_2) rfl ?_
    show Steps p.tables e below (s₁.setTop (mkF m 3 #[.val (.int pj), .val (.int pq), .unset, .unset, .unset, .unset, .unset, .unset, .unset, .unset, .unset, .unset, .unset, .unset, .unset, .unset, .unset] [(.int (pj &&& (3 : Int32)))])) _
    refine XS.istoreN X0.here hx rfl (hb hby at_3) rfl (l' := #[.val (.int pj), .val (.int pq), .val (.int (pj &&& (3 : Int32))), .unset, .unset, .unset, .unset, .unset, .unset, .unset, .unset, .unset, .unset, .unset, .unset, .unset, .unset]) rfl ?_
    show Steps p.tables e below (s₁.setTop (mkF m 4 #[.val (.int pj), .val (.int pq), .val (.int (pj &&& (3 : Int32))), .unset, .unset, .unset, .unset, .unset, .unset, .unset, .unset, .unset, .unset, .unset, .unset, .unset, .unset] [])) _
    refine XS.iloadN X0.here hx rfl (hb hby at_4) rfl ?_
    show Steps p.tables e below (s₁.setTop (mkF m 5 #[.val (.int pj), .val (.int pq), .val (.int (pj &&& (3 : Int32))), .unset, .unset, .unset, .unset, .unset, .unset, .unset, .unset, .unset, .unset, .unset, .unset, .unset, .unset] [(.int pj)])) _
    refine XS.iconst X0.here hx rfl (hb hby at_5) ?_
    show Steps p.tables e below (s₁.setTop (mkF m 6 #[.val (.int pj), .val (.int pq), .val (.int (pj &&& (3 : Int32))), .unset, .unset, .unset, .unset, .unset, .unset, .unset, .unset, .unset, .unset, .unset, .unset, .unset, .unset] [(.int (2 : Int32)), (.int pj)])) _
    refine XS.iushr X0.here hx rfl (hb hby at_6) rfl ?_
    show Steps p.tables e below (s₁.setTop (mkF m 7 #[.val (.int pj), .val (.int pq), .val (.int (pj &&& (3 : Int32))), .unset, .unset, .unset, .unset, .unset, .unset, .unset, .unset, .unset, .unset, .unset, .unset, .unset, .unset] [(.int ((pj.toUInt32 >>> ((2 : Int32) &&& 31).toUInt32).toInt32))])) _
    refine XS.iconst X0.here hx rfl (hb hby at_7) ?_
    show Steps p.tables e below (s₁.setTop (mkF m 8 #[.val (.int pj), .val (.int pq), .val (.int (pj &&& (3 : Int32))), .unset, .unset, .unset, .unset, .unset, .unset, .unset, .unset, .unset, .unset, .unset, .unset, .unset, .unset] [(.int (3 : Int32)), (.int ((pj.toUInt32 >>> ((2 : Int32) &&& 31).toUInt32).toInt32))])) _
    refine XS.iand X0.here hx rfl (hb hby at_8) rfl ?_
    show Steps p.tables e below (s₁.setTop (mkF m 9 #[.val (.int pj), .val (.int pq), .val (.int (pj &&& (3 : Int32))), .unset, .unset, .unset, .unset, .unset, .unset, .unset, .unset, .unset, .unset, .unset, .unset, .unset, .unset] [(.int (((pj.toUInt32 >>> ((2 : Int32) &&& 31).toUInt32).toInt32) &&& (3 : Int32)))])) _
    refine XS.istoreN X0.here hx rfl (hb hby at_9) rfl (l' := #[.val (.int pj), .val (.int pq), .val (.int (pj &&& (3 : Int32))), .val (.int (((pj.toUInt32 >>> ((2 : Int32) &&& 31).toUInt32).toInt32) &&& (3 : Int32))), .unset, .unset, .unset, .unset, .unset, .unset, .unset, .unset, .unset, .unset, .unset, .unset, .unset]) rfl ?_
    show Steps p.tables e below (s₁.setTop (mkF m 10 #[.val (.int pj), .val (.int pq), .val (.int (pj &&& (3 : Int32))), .val (.int (v0_1 pj)), .unset, .unset, .unset, .unset, .unset, .unset, .unset, .unset, .unset, .unset, .unset, .unset, .unset] [])) _
    refine XS.iloadN X0.here hx rfl (hb hby at_10) rfl ?_
    show Steps p.tables e below (s₁.setTop (mkF m 11 #[.val (.int pj), .val (.int pq), .val (.int (pj &&& (3 : Int32))), .val (.int (v0_1 pj)), .unset, .unset, .unset, .unset, .unset, .unset, .unset, .unset, .unset, .unset, .unset, .unset, .unset] [(.int pj)])) _
    refine XS.iconst X0.here hx rfl (hb hby at_11) ?_
    show Steps p.tables e below (s₁.setTop (mkF m 12 #[.val (.int pj), .val (.int pq), .val (.int (pj &&& (3 : Int32))), .val (.int (v0_1 pj)), .unset, .unset, .unset, .unset, .unset, .unset, .unset, .unset, .unset, .unset, .unset, .unset, .unset] [(.int (4 : Int32)), (.int pj)])) _
    refine XS.iushr X0.here hx rfl (hb hby at_12) rfl ?_
    show Steps p.tables e below (s₁.setTop (mkF m 13 #[.val (.int pj), .val (.int pq), .val (.int (pj &&& (3 : Int32))), .val (.int (v0_1 pj)), .unset, .unset, .unset, .unset, .unset, .unset, .unset, .unset, .unset, .unset, .unset, .unset, .unset] [(.int ((pj.toUInt32 >>> ((4 : Int32) &&& 31).toUInt32).toInt32))])) _
    refine XS.iconst X0.here hx rfl (hb hby at_13) ?_
    show Steps p.tables e below (s₁.setTop (mkF m 14 #[.val (.int pj), .val (.int pq), .val (.int (pj &&& (3 : Int32))), .val (.int (v0_1 pj)), .unset, .unset, .unset, .unset, .unset, .unset, .unset, .unset, .unset, .unset, .unset, .unset, .unset] [(.int (3 : Int32)), (.int ((pj.toUInt32 >>> ((4 : Int32) &&& 31).toUInt32).toInt32))])) _
    refine XS.iand X0.here hx rfl (hb hby at_14) rfl ?_
    show Steps p.tables e below (s₁.setTop (mkF m 15 #[.val (.int pj), .val (.int pq), .val (.int (pj &&& (3 : Int32))), .val (.int (v0_1 pj)), .unset, .unset, .unset, .unset, .unset, .unset, .unset, .unset, .unset, .unset, .unset, .unset, .unset] [(.int (((pj.toUInt32 >>> ((4 : Int32) &&& 31).toUInt32).toInt32) &&& (3 : Int32)))])) _
    refine XS.istore X0.here hx rfl (hb hby at_15) rfl (l' := #[.val (.int pj), .val (.int pq), .val (.int (pj &&& (3 : Int32))), .val (.int (v0_1 pj)), .val (.int (((pj.toUInt32 >>> ((4 : Int32) &&& 31).toUInt32).toInt32) &&& (3 : Int32))), .unset, .unset, .unset, .unset, .unset, .unset, .unset, .unset, .unset, .unset, .unset, .unset]) rfl ?_
    show Steps p.tables e below (s₁.setTop (mkF m 17 #[.val (.int pj), .val (.int pq), .val (.int (pj &&& (3 : Int32))), .val (.int (v0_1 pj)), .val (.int (v0_2 pj)), .unset, .unset, .unset, .unset, .unset, .unset, .unset, .unset, .unset, .unset, .unset, .unset] [])) _
    refine XS.iloadN X0.here hx rfl (hb hby at_17) rfl ?_
    show Steps p.tables e below (s₁.setTop (mkF m 18 #[.val (.int pj), .val (.int pq), .val (.int (pj &&& (3 : Int32))), .val (.int (v0_1 pj)), .val (.int (v0_2 pj)), .unset, .unset, .unset, .unset, .unset, .unset, .unset, .unset, .unset, .unset, .unset, .unset] [(.int pj)])) _
    refine XS.bipush X0.here hx rfl (hb hby at_18) ?_
    show Steps p.tables e below (s₁.setTop (mkF m 20 #[.val (.int pj), .val (.int pq), .val (.int (pj &&& (3 : Int32))), .val (.int (v0_1 pj)), .val (.int (v0_2 pj)), .unset, .unset, .unset, .unset, .unset, .unset, .unset, .unset, .unset, .unset, .unset, .unset] [(.int (6 : Int32)), (.int pj)])) _
    refine XS.iushr X0.here hx rfl (hb hby at_20) rfl ?_
    show Steps p.tables e below (s₁.setTop (mkF m 21 #[.val (.int pj), .val (.int pq), .val (.int (pj &&& (3 : Int32))), .val (.int (v0_1 pj)), .val (.int (v0_2 pj)), .unset, .unset, .unset, .unset, .unset, .unset, .unset, .unset, .unset, .unset, .unset, .unset] [(.int ((pj.toUInt32 >>> ((6 : Int32) &&& 31).toUInt32).toInt32))])) _
    refine XS.iconst X0.here hx rfl (hb hby at_21) ?_
    show Steps p.tables e below (s₁.setTop (mkF m 22 #[.val (.int pj), .val (.int pq), .val (.int (pj &&& (3 : Int32))), .val (.int (v0_1 pj)), .val (.int (v0_2 pj)), .unset, .unset, .unset, .unset, .unset, .unset, .unset, .unset, .unset, .unset, .unset, .unset] [(.int (3 : Int32)), (.int ((pj.toUInt32 >>> ((6 : Int32) &&& 31).toUInt32).toInt32))])) _
    refine XS.iand X0.here hx rfl (hb hby at_22) rfl ?_
    show Steps p.tables e below (s₁.setTop (mkF m 23 #[.val (.int pj), .val (.int pq), .val (.int (pj &&& (3 : Int32))), .val (.int (v0_1 pj)), .val (.int (v0_2 pj)), .unset, .unset, .unset, .unset, .unset, .unset, .unset, .unset, .unset, .unset, .unset, .unset] [(.int (((pj.toUInt32 >>> ((6 : Int32) &&& 31).toUInt32).toInt32) &&& (3 : Int32)))])) _
    refine XS.istore X0.here hx rfl (hb hby at_23) rfl (l' := #[.val (.int pj), .val (.int pq), .val (.int (pj &&& (3 : Int32))), .val (.int (v0_1 pj)), .val (.int (v0_2 pj)), .val (.int (((pj.toUInt32 >>> ((6 : Int32) &&& 31).toUInt32).toInt32) &&& (3 : Int32))), .unset, .unset, .unset, .unset, .unset, .unset, .unset, .unset, .unset, .unset, .unset]) rfl ?_
    show Steps p.tables e below (s₁.setTop (mkF m 25 #[.val (.int pj), .val (.int pq), .val (.int (pj &&& (3 : Int32))), .val (.int (v0_1 pj)), .val (.int (v0_2 pj)), .val (.int (v0_3 pj)), .unset, .unset, .unset, .unset, .unset, .unset, .unset, .unset, .unset, .unset, .unset] [])) _
    refine XS.iloadN X0.here hx rfl (hb hby at_25) rfl ?_
    show Steps p.tables e below (s₁.setTop (mkF m 26 #[.val (.int pj), .val (.int pq), .val (.int (pj &&& (3 : Int32))), .val (.int (v0_1 pj)), .val (.int (v0_2 pj)), .val (.int (v0_3 pj)), .unset, .unset, .unset, .unset, .unset, .unset, .unset, .unset, .unset, .unset, .unset] [(.int pj)])) _
    refine XS.bipush X0.here hx rfl (hb hby at_26) ?_
    show Steps p.tables e below (s₁.setTop (mkF m 28 #[.val (.int pj), .val (.int pq), .val (.int (pj &&& (3 : Int32))), .val (.int (v0_1 pj)), .val (.int (v0_2 pj)), .val (.int (v0_3 pj)), .unset, .unset, .unset, .unset, .unset, .unset, .unset, .unset, .unset, .unset, .unset] [(.int (8 : Int32)), (.int pj)])) _
    refine XS.iushr X0.here hx rfl (hb hby at_28) rfl ?_
    show Steps p.tables e below (s₁.setTop (mkF m 29 #[.val (.int pj), .val (.int pq), .val (.int (pj &&& (3 : Int32))), .val (.int (v0_1 pj)), .val (.int (v0_2 pj)), .val (.int (v0_3 pj)), .unset, .unset, .unset, .unset, .unset, .unset, .unset, .unset, .unset, .unset, .unset] [(.int ((pj.toUInt32 >>> ((8 : Int32) &&& 31).toUInt32).toInt32))])) _
    refine XS.iconst X0.here hx rfl (hb hby at_29) ?_
    show Steps p.tables e below (s₁.setTop (mkF m 30 #[.val (.int pj), .val (.int pq), .val (.int (pj &&& (3 : Int32))), .val (.int (v0_1 pj)), .val (.int (v0_2 pj)), .val (.int (v0_3 pj)), .unset, .unset, .unset, .unset, .unset, .unset, .unset, .unset, .unset, .unset, .unset] [(.int (3 : Int32)), (.int ((pj.toUInt32 >>> ((8 : Int32) &&& 31).toUInt32).toInt32))])) _
    refine XS.iand X0.here hx rfl (hb hby at_30) rfl ?_
    show Steps p.tables e below (s₁.setTop (mkF m 31 #[.val (.int pj), .val (.int pq), .val (.int (pj &&& (3 : Int32))), .val (.int (v0_1 pj)), .val (.int (v0_2 pj)), .val (.int (v0_3 pj)), .unset, .unset, .unset, .unset, .unset, .unset, .unset, .unset, .unset, .unset, .unset] [(.int (((pj.toUInt32 >>> ((8 : Int32) &&& 31).toUInt32).toInt32) &&& (3 : Int32)))])) _
    refine XS.istore X0.here hx rfl (hb hby at_31) rfl (l' := #[.val (.int pj), .val (.int pq), .val (.int (pj &&& (3 : Int32))), .val (.int (v0_1 pj)), .val (.int (v0_2 pj)), .val (.int (v0_3 pj)), .val (.int (((pj.toUInt32 >>> ((8 : Int32) &&& 31).toUInt32).toInt32) &&& (3 : Int32))), .unset, .unset, .unset, .unset, .unset, .unset, .unset, .unset, .unset, .unset]) rfl ?_
    show Steps p.tables e below (s₁.setTop (mkF m 33 #[.val (.int pj), .val (.int pq), .val (.int (pj &&& (3 : Int32))), .val (.int (v0_1 pj)), .val (.int (v0_2 pj)), .val (.int (v0_3 pj)), .val (.int (v0_4 pj)), .unset, .unset, .unset, .unset, .unset, .unset, .unset, .unset, .unset, .unset] [])) _
    refine XS.iloadN X0.here hx rfl (hb hby at_33) rfl ?_
    show Steps p.tables e below (s₁.setTop (mkF m 34 #[.val (.int pj), .val (.int pq), .val (.int (pj &&& (3 : Int32))), .val (.int (v0_1 pj)), .val (.int (v0_2 pj)), .val (.int (v0_3 pj)), .val (.int (v0_4 pj)), .unset, .unset, .unset, .unset, .unset, .unset, .unset, .unset, .unset, .unset] [(.int pj)])) _
    refine XS.bipush X0.here hx rfl (hb hby at_34) ?_
    show Steps p.tables e below (s₁.setTop (mkF m 36 #[.val (.int pj), .val (.int pq), .val (.int (pj &&& (3 : Int32))), .val (.int (v0_1 pj)), .val (.int (v0_2 pj)), .val (.int (v0_3 pj)), .val (.int (v0_4 pj)), .unset, .unset, .unset, .unset, .unset, .unset, .unset, .unset, .unset, .unset] [(.int (10 : Int32)), (.int pj)])) _
    refine XS.iushr X0.here hx rfl (hb hby at_36) rfl ?_
    show Steps p.tables e below (s₁.setTop (mkF m 37 #[.val (.int pj), .val (.int pq), .val (.int (pj &&& (3 : Int32))), .val (.int (v0_1 pj)), .val (.int (v0_2 pj)), .val (.int (v0_3 pj)), .val (.int (v0_4 pj)), .unset, .unset, .unset, .unset, .unset, .unset, .unset, .unset, .unset, .unset] [(.int ((pj.toUInt32 >>> ((10 : Int32) &&& 31).toUInt32).toInt32))])) _
    refine XS.iconst X0.here hx rfl (hb hby at_37) ?_
    show Steps p.tables e below (s₁.setTop (mkF m 38 #[.val (.int pj), .val (.int pq), .val (.int (pj &&& (3 : Int32))), .val (.int (v0_1 pj)), .val (.int (v0_2 pj)), .val (.int (v0_3 pj)), .val (.int (v0_4 pj)), .unset, .unset, .unset, .unset, .unset, .unset, .unset, .unset, .unset, .unset] [(.int (3 : Int32)), (.int ((pj.toUInt32 >>> ((10 : Int32) &&& 31).toUInt32).toInt32))])) _
    refine XS.iand X0.here hx rfl (hb hby at_38) rfl ?_
    show Steps p.tables e below (s₁.setTop (mkF m 39 #[.val (.int pj), .val (.int pq), .val (.int (pj &&& (3 : Int32))), .val (.int (v0_1 pj)), .val (.int (v0_2 pj)), .val (.int (v0_3 pj)), .val (.int (v0_4 pj)), .unset, .unset, .unset, .unset, .unset, .unset, .unset, .unset, .unset, .unset] [(.int (((pj.toUInt32 >>> ((10 : Int32) &&& 31).toUInt32).toInt32) &&& (3 : Int32)))])) _
    refine XS.istore X0.here hx rfl (hb hby at_39) rfl (l' := #[.val (.int pj), .val (.int pq), .val (.int (pj &&& (3 : Int32))), .val (.int (v0_1 pj)), .val (.int (v0_2 pj)), .val (.int (v0_3 pj)), .val (.int (v0_4 pj)), .val (.int (((pj.toUInt32 >>> ((10 : Int32) &&& 31).toUInt32).toInt32) &&& (3 : Int32))), .unset, .unset, .unset, .unset, .unset, .unset, .unset, .unset, .unset]) rfl ?_
    show Steps p.tables e below (s₁.setTop (mkF m 41 #[.val (.int pj), .val (.int pq), .val (.int (pj &&& (3 : Int32))), .val (.int (v0_1 pj)), .val (.int (v0_2 pj)), .val (.int (v0_3 pj)), .val (.int (v0_4 pj)), .val (.int (v0_5 pj)), .unset, .unset, .unset, .unset, .unset, .unset, .unset, .unset, .unset] [])) _
    refine XS.iloadN X0.here hx rfl (hb hby at_41) rfl ?_
    show Steps p.tables e below (s₁.setTop (mkF m 42 #[.val (.int pj), .val (.int pq), .val (.int (pj &&& (3 : Int32))), .val (.int (v0_1 pj)), .val (.int (v0_2 pj)), .val (.int (v0_3 pj)), .val (.int (v0_4 pj)), .val (.int (v0_5 pj)), .unset, .unset, .unset, .unset, .unset, .unset, .unset, .unset, .unset] [(.int pq)])) _
    refine XS.iconst X0.here hx rfl (hb hby at_42) ?_
    show Steps p.tables e below (s₁.setTop (mkF m 43 #[.val (.int pj), .val (.int pq), .val (.int (pj &&& (3 : Int32))), .val (.int (v0_1 pj)), .val (.int (v0_2 pj)), .val (.int (v0_3 pj)), .val (.int (v0_4 pj)), .val (.int (v0_5 pj)), .unset, .unset, .unset, .unset, .unset, .unset, .unset, .unset, .unset] [(.int (3 : Int32)), (.int pq)])) _
    refine XS.iand X0.here hx rfl (hb hby at_43) rfl ?_
    show Steps p.tables e below (s₁.setTop (mkF m 44 #[.val (.int pj), .val (.int pq), .val (.int (pj &&& (3 : Int32))), .val (.int (v0_1 pj)), .val (.int (v0_2 pj)), .val (.int (v0_3 pj)), .val (.int (v0_4 pj)), .val (.int (v0_5 pj)), .unset, .unset, .unset, .unset, .unset, .unset, .unset, .unset, .unset] [(.int (pq &&& (3 : Int32)))])) _
    refine XS.istore X0.here hx rfl (hb hby at_44) rfl (l' := #[.val (.int pj), .val (.int pq), .val (.int (pj &&& (3 : Int32))), .val (.int (v0_1 pj)), .val (.int (v0_2 pj)), .val (.int (v0_3 pj)), .val (.int (v0_4 pj)), .val (.int (v0_5 pj)), .val (.int (pq &&& (3 : Int32))), .unset, .unset, .unset, .unset, .unset, .unset, .unset, .unset]) rfl ?_
    show Steps p.tables e below (s₁.setTop (mkF m 46 #[.val (.int pj), .val (.int pq), .val (.int (pj &&& (3 : Int32))), .val (.int (v0_1 pj)), .val (.int (v0_2 pj)), .val (.int (v0_3 pj)), .val (.int (v0_4 pj)), .val (.int (v0_5 pj)), .val (.int (pq &&& (3 : Int32))), .unset, .unset, .unset, .unset, .unset, .unset, .unset, .unset] [])) _
    refine XS.iloadN X0.here hx rfl (hb hby at_46) rfl ?_
    show Steps p.tables e below (s₁.setTop (mkF m 47 #[.val (.int pj), .val (.int pq), .val (.int (pj &&& (3 : Int32))), .val (.int (v0_1 pj)), .val (.int (v0_2 pj)), .val (.int (v0_3 pj)), .val (.int (v0_4 pj)), .val (.int (v0_5 pj)), .val (.int (pq &&& (3 : Int32))), .unset, .unset, .unset, .unset, .unset, .unset, .unset, .unset] [(.int pq)])) _
    refine XS.iconst X0.here hx rfl (hb hby at_47) ?_
    show Steps p.tables e below (s₁.setTop (mkF m 48 #[.val (.int pj), .val (.int pq), .val (.int (pj &&& (3 : Int32))), .val (.int (v0_1 pj)), .val (.int (v0_2 pj)), .val (.int (v0_3 pj)), .val (.int (v0_4 pj)), .val (.int (v0_5 pj)), .val (.int (pq &&& (3 : Int32))), .unset, .unset, .unset, .unset, .unset, .unset, .unset, .unset] [(.int (2 : Int32)), (.int pq)])) _
    refine XS.iushr X0.here hx rfl (hb hby at_48) rfl ?_
    show Steps p.tables e below (s₁.setTop (mkF m 49 #[.val (.int pj), .val (.int pq), .val (.int (pj &&& (3 : Int32))), .val (.int (v0_1 pj)), .val (.int (v0_2 pj)), .val (.int (v0_3 pj)), .val (.int (v0_4 pj)), .val (.int (v0_5 pj)), .val (.int (pq &&& (3 : Int32))), .unset, .unset, .unset, .unset, .unset, .unset, .unset, .unset] [(.int ((pq.toUInt32 >>> ((2 : Int32) &&& 31).toUInt32).toInt32))])) _
    refine XS.iconst X0.here hx rfl (hb hby at_49) ?_
    show Steps p.tables e below (s₁.setTop (mkF m 50 #[.val (.int pj), .val (.int pq), .val (.int (pj &&& (3 : Int32))), .val (.int (v0_1 pj)), .val (.int (v0_2 pj)), .val (.int (v0_3 pj)), .val (.int (v0_4 pj)), .val (.int (v0_5 pj)), .val (.int (pq &&& (3 : Int32))), .unset, .unset, .unset, .unset, .unset, .unset, .unset, .unset] [(.int (3 : Int32)), (.int ((pq.toUInt32 >>> ((2 : Int32) &&& 31).toUInt32).toInt32))])) _
    refine XS.iand X0.here hx rfl (hb hby at_50) rfl ?_
    show Steps p.tables e below (s₁.setTop (mkF m 51 #[.val (.int pj), .val (.int pq), .val (.int (pj &&& (3 : Int32))), .val (.int (v0_1 pj)), .val (.int (v0_2 pj)), .val (.int (v0_3 pj)), .val (.int (v0_4 pj)), .val (.int (v0_5 pj)), .val (.int (pq &&& (3 : Int32))), .unset, .unset, .unset, .unset, .unset, .unset, .unset, .unset] [(.int (((pq.toUInt32 >>> ((2 : Int32) &&& 31).toUInt32).toInt32) &&& (3 : Int32)))])) _
    refine XS.istore X0.here hx rfl (hb hby at_51) rfl (l' := #[.val (.int pj), .val (.int pq), .val (.int (pj &&& (3 : Int32))), .val (.int (v0_1 pj)), .val (.int (v0_2 pj)), .val (.int (v0_3 pj)), .val (.int (v0_4 pj)), .val (.int (v0_5 pj)), .val (.int (pq &&& (3 : Int32))), .val (.int (((pq.toUInt32 >>> ((2 : Int32) &&& 31).toUInt32).toInt32) &&& (3 : Int32))), .unset, .unset, .unset, .unset, .unset, .unset, .unset]) rfl ?_
    show Steps p.tables e below (s₁.setTop (mkF m 53 #[.val (.int pj), .val (.int pq), .val (.int (pj &&& (3 : Int32))), .val (.int (v0_1 pj)), .val (.int (v0_2 pj)), .val (.int (v0_3 pj)), .val (.int (v0_4 pj)), .val (.int (v0_5 pj)), .val (.int (pq &&& (3 : Int32))), .val (.int (v0_6 pq)), .unset, .unset, .unset, .unset, .unset, .unset, .unset] [])) _
    refine XS.iconst X0.here hx rfl (hb hby at_53) ?_
    show Steps p.tables e below (s₁.setTop (mkF m 54 #[.val (.int pj), .val (.int pq), .val (.int (pj &&& (3 : Int32))), .val (.int (v0_1 pj)), .val (.int (v0_2 pj)), .val (.int (v0_3 pj)), .val (.int (v0_4 pj)), .val (.int (v0_5 pj)), .val (.int (pq &&& (3 : Int32))), .val (.int (v0_6 pq)), .unset, .unset, .unset, .unset, .unset, .unset, .unset] [(.int (4 : Int32))])) _
    refine st1 _ ?_
    show Steps p.tables e below (T1.setTop (mkF m 56 #[.val (.int pj), .val (.int pq), .val (.int (pj &&& (3 : Int32))), .val (.int (v0_1 pj)), .val (.int (v0_2 pj)), .val (.int (v0_3 pj)), .val (.int (v0_4 pj)), .val (.int (v0_5 pj)), .val (.int (pq &&& (3 : Int32))), .val (.int (v0_6 pq)), .unset, .unset, .unset, .unset, .unset, .unset, .unset] [(.ref b1)])) _
    refine XS.dup X1.here hx rfl (hb hby at_56) rfl rfl ?_
    show Steps p.tables e below (T1.setTop (mkF m 57 #[.val (.int pj), .val (.int pq), .val (.int (pj &&& (3 : Int32))), .val (.int (v0_1 pj)), .val (.int (v0_2 pj)), .val (.int (v0_3 pj)), .val (.int (v0_4 pj)), .val (.int (v0_5 pj)), .val (.int (pq &&& (3 : Int32))), .val (.int (v0_6 pq)), .unset, .unset, .unset, .unset, .unset, .unset, .unset] [(.ref b1), (.ref b1)])) _
    refine XS.iconst X1.here hx rfl (hb hby at_57) ?_
    show Steps p.tables e below (T1.setTop (mkF m 58 #[.val (.int pj), .val (.int pq), .val (.int (pj &&& (3 : Int32))), .val (.int (v0_1 pj)), .val (.int (v0_2 pj)), .val (.int (v0_3 pj)), .val (.int (v0_4 pj)), .val (.int (v0_5 pj)), .val (.int (pq &&& (3 : Int32))), .val (.int (v0_6 pq)), .unset, .unset, .unset, .unset, .unset, .unset, .unset] [(.int (0 : Int32)), (.ref b1), (.ref b1)])) _
    refine XS.iconst X1.here hx rfl (hb hby at_58) ?_
    show Steps p.tables e below (T1.setTop (mkF m 59 #[.val (.int pj), .val (.int pq), .val (.int (pj &&& (3 : Int32))), .val (.int (v0_1 pj)), .val (.int (v0_2 pj)), .val (.int (v0_3 pj)), .val (.int (v0_4 pj)), .val (.int (v0_5 pj)), .val (.int (pq &&& (3 : Int32))), .val (.int (v0_6 pq)), .unset, .unset, .unset, .unset, .unset, .unset, .unset] [(.int (0 : Int32)), (.int (0 : Int32)), (.ref b1), (.ref b1)])) _
    refine st3 _ ?_
    show Steps p.tables e below (T3.setTop (mkF m 60 #[.val (.int pj), .val (.int pq), .val (.int (pj &&& (3 : Int32))), .val (.int (v0_1 pj)), .val (.int (v0_2 pj)), .val (.int (v0_3 pj)), .val (.int (v0_4 pj)), .val (.int (v0_5 pj)), .val (.int (pq &&& (3 : Int32))), .val (.int (v0_6 pq)), .unset, .unset, .unset, .unset, .unset, .unset, .unset] [(.ref b1)])) _
    refine XS.dup X3.here hx rfl (hb hby at_60) rfl rfl ?_
    show Steps p.tables e below (T3.setTop (mkF m 61 #[.val (.int pj), .val (.int pq), .val (.int (pj &&& (3 : Int32))), .val (.int (v0_1 pj)), .val (.int (v0_2 pj)), .val (.int (v0_3 pj)), .val (.int (v0_4 pj)), .val (.int (v0_5 pj)), .val (.int (pq &&& (3 : Int32))), .val (.int (v0_6 pq)), .unset, .unset, .unset, .unset, .unset, .unset, .unset] [(.ref b1), (.ref b1)])) _
    refine XS.iconst X3.here hx rfl (hb hby at_61) ?_
    show Steps p.tables e below (T3.setTop (mkF m 62 #[.val (.int pj), .val (.int pq), .val (.int (pj &&& (3 : Int32))), .val (.int (v0_1 pj)), .val (.int (v0_2 pj)), .val (.int (v0_3 pj)), .val (.int (v0_4 pj)), .val (.int (v0_5 pj)), .val (.int (pq &&& (3 : Int32))), .val (.int (v0_6 pq)), .unset, .unset, .unset, .unset, .unset, .unset, .unset] [(.int (1 : Int32)), (.ref b1), (.ref b1)])) _
    refine XS.iconst X3.here hx rfl (hb hby at_62) ?_
    show Steps p.tables e below (T3.setTop (mkF m 63 #[.val (.int pj), .val (.int pq), .val (.int (pj &&& (3 : Int32))), .val (.int (v0_1 pj)), .val (.int (v0_2 pj)), .val (.int (v0_3 pj)), .val (.int (v0_4 pj)), .val (.int (v0_5 pj)), .val (.int (pq &&& (3 : Int32))), .val (.int (v0_6 pq)), .unset, .unset, .unset, .unset, .unset, .unset, .unset] [(.int (1 : Int32)), (.int (1 : Int32)), (.ref b1), (.ref b1)])) _
    refine st5 _ ?_
    show Steps p.tables e below (T5.setTop (mkF m 64 #[.val (.int pj), .val (.int pq), .val (.int (pj &&& (3 : Int32))), .val (.int (v0_1 pj)), .val (.int (v0_2 pj)), .val (.int (v0_3 pj)), .val (.int (v0_4 pj)), .val (.int (v0_5 pj)), .val (.int (pq &&& (3 : Int32))), .val (.int (v0_6 pq)), .unset, .unset, .unset, .unset, .unset, .unset, .unset] [(.ref b1)])) _
    refine XS.dup X5.here hx rfl (hb hby at_64) rfl rfl ?_
    show Steps p.tables e below (T5.setTop (mkF m 65 #[.val (.int pj), .val (.int pq), .val (.int (pj &&& (3 : Int32))), .val (.int (v0_1 pj)), .val (.int (v0_2 pj)), .val (.int (v0_3 pj)), .val (.int (v0_4 pj)), .val (.int (v0_5 pj)), .val (.int (pq &&& (3 : Int32))), .val (.int (v0_6 pq)), .unset, .unset, .unset, .unset, .unset, .unset, .unset] [(.ref b1), (.ref b1)])) _
    refine XS.iconst X5.here hx rfl (hb hby at_65) ?_
    show Steps p.tables e below (T5.setTop (mkF m 66 #[.val (.int pj), .val (.int pq), .val (.int (pj &&& (3 : Int32))), .val (.int (v0_1 pj)), .val (.int (v0_2 pj)), .val (.int (v0_3 pj)), .val (.int (v0_4 pj)), .val (.int (v0_5 pj)), .val (.int (pq &&& (3 : Int32))), .val (.int (v0_6 pq)), .unset, .unset, .unset, .unset, .unset, .unset, .unset] [(.int (2 : Int32)), (.ref b1), (.ref b1)])) _
    refine XS.iconst X5.here hx rfl (hb hby at_66) ?_
    show Steps p.tables e below (T5.setTop (mkF m 67 #[.val (.int pj), .val (.int pq), .val (.int (pj &&& (3 : Int32))), .val (.int (v0_1 pj)), .val (.int (v0_2 pj)), .val (.int (v0_3 pj)), .val (.int (v0_4 pj)), .val (.int (v0_5 pj)), .val (.int (pq &&& (3 : Int32))), .val (.int (v0_6 pq)), .unset, .unset, .unset, .unset, .unset, .unset, .unset] [(.int (2 : Int32)), (.int (2 : Int32)), (.ref b1), (.ref b1)])) _
    refine st7 _ ?_
    show Steps p.tables e below (T7.setTop (mkF m 68 #[.val (.int pj), .val (.int pq), .val (.int (pj &&& (3 : Int32))), .val (.int (v0_1 pj)), .val (.int (v0_2 pj)), .val (.int (v0_3 pj)), .val (.int (v0_4 pj)), .val (.int (v0_5 pj)), .val (.int (pq &&& (3 : Int32))), .val (.int (v0_6 pq)), .unset, .unset, .unset, .unset, .unset, .unset, .unset] [(.ref b1)])) _
    refine XS.dup X7.here hx rfl (hb hby at_68) rfl rfl ?_
    show Steps p.tables e below (T7.setTop (mkF m 69 #[.val (.int pj), .val (.int pq), .val (.int (pj &&& (3 : Int32))), .val (.int (v0_1 pj)), .val (.int (v0_2 pj)), .val (.int (v0_3 pj)), .val (.int (v0_4 pj)), .val (.int (v0_5 pj)), .val (.int (pq &&& (3 : Int32))), .val (.int (v0_6 pq)), .unset, .unset, .unset, .unset, .unset, .unset, .unset] [(.ref b1), (.ref b1)])) _
    refine XS.iconst X7.here hx rfl (hb hby at_69) ?_
    show Steps p.tables e below (T7.setTop (mkF m 70 #[.val (.int pj), .val (.int pq), .val (.int (pj &&& (3 : Int32))), .val (.int (v0_1 pj)), .val (.int (v0_2 pj)), .val (.int (v0_3 pj)), .val (.int (v0_4 pj)), .val (.int (v0_5 pj)), .val (.int (pq &&& (3 : Int32))), .val (.int (v0_6 pq)), .unset, .unset, .unset, .unset, .unset, .unset, .unset] [(.int (3 : Int32)), (.ref b1), (.ref b1)])) _
    refine XS.iconst X7.here hx rfl (hb hby at_70) ?_
    show Steps p.tables e below (T7.setTop (mkF m 71 #[.val (.int pj), .val (.int pq), .val (.int (pj &&& (3 : Int32))), .val (.int (v0_1 pj)), .val (.int (v0_2 pj)), .val (.int (v0_3 pj)), .val (.int (v0_4 pj)), .val (.int (v0_5 pj)), .val (.int (pq &&& (3 : Int32))), .val (.int (v0_6 pq)), .unset, .unset, .unset, .unset, .unset, .unset, .unset] [(.int (3 : Int32)), (.int (3 : Int32)), (.ref b1), (.ref b1)])) _
    refine st9 _ ?_
    show Steps p.tables e below (T9.setTop (mkF m 72 #[.val (.int pj), .val (.int pq), .val (.int (pj &&& (3 : Int32))), .val (.int (v0_1 pj)), .val (.int (v0_2 pj)), .val (.int (v0_3 pj)), .val (.int (v0_4 pj)), .val (.int (v0_5 pj)), .val (.int (pq &&& (3 : Int32))), .val (.int (v0_6 pq)), .unset, .unset, .unset, .unset, .unset, .unset, .unset] [(.ref b1)])) _
    refine XS.astore X9.here hx rfl (hb hby at_72) rfl rfl (l' := #[.val (.int pj), .val (.int pq), .val (.int (pj &&& (3 : Int32))), .val (.int (v0_1 pj)), .val (.int (v0_2 pj)), .val (.int (v0_3 pj)), .val (.int (v0_4 pj)), .val (.int (v0_5 pj)), .val (.int (pq &&& (3 : Int32))), .val (.int (v0_6 pq)), .val (.ref b1), .unset, .unset, .unset, .unset, .unset, .unset]) rfl ?_
    show Steps p.tables e below (T9.setTop (mkF m 74 #[.val (.int pj), .val (.int pq), .val (.int (pj &&& (3 : Int32))), .val (.int (v0_1 pj)), .val (.int (v0_2 pj)), .val (.int (v0_3 pj)), .val (.int (v0_4 pj)), .val (.int (v0_5 pj)), .val (.int (pq &&& (3 : Int32))), .val (.int (v0_6 pq)), .val (.ref b1), .unset, .unset, .unset, .unset, .unset, .unset] [])) _
    refine XS.iconst X9.here hx rfl (hb hby at_74) ?_
    show Steps p.tables e below (T9.setTop (mkF m 75 #[.val (.int pj), .val (.int pq), .val (.int (pj &&& (3 : Int32))), .val (.int (v0_1 pj)), .val (.int (v0_2 pj)), .val (.int (v0_3 pj)), .val (.int (v0_4 pj)), .val (.int (v0_5 pj)), .val (.int (pq &&& (3 : Int32))), .val (.int (v0_6 pq)), .val (.ref b1), .unset, .unset, .unset, .unset, .unset, .unset] [(.int (4 : Int32))])) _
    refine st10 _ ?_
    show Steps p.tables e below (T10.setTop (mkF m 77 #[.val (.int pj), .val (.int pq), .val (.int (pj &&& (3 : Int32))), .val (.int (v0_1 pj)), .val (.int (v0_2 pj)), .val (.int (v0_3 pj)), .val (.int (v0_4 pj)), .val (.int (v0_5 pj)), .val (.int (pq &&& (3 : Int32))), .val (.int (v0_6 pq)), .val (.ref b1), .unset, .unset, .unset, .unset, .unset, .unset] [(.ref b10)])) _
    refine XS.dup X10.here hx rfl (hb hby at_77) rfl rfl ?_
    show Steps p.tables e below (T10.setTop (mkF m 78 #[.val (.int pj), .val (.int pq), .val (.int (pj &&& (3 : Int32))), .val (.int (v0_1 pj)), .val (.int (v0_2 pj)), .val (.int (v0_3 pj)), .val (.int (v0_4 pj)), .val (.int (v0_5 pj)), .val (.int (pq &&& (3 : Int32))), .val (.int (v0_6 pq)), .val (.ref b1), .unset, .unset, .unset, .unset, .unset, .unset] [(.ref b10), (.ref b10)])) _
    refine XS.iconst X10.here hx rfl (hb hby at_78) ?_
    show Steps p.tables e below (T10.setTop (mkF m 79 #[.val (.int pj), .val (.int pq), .val (.int (pj &&& (3 : Int32))), .val (.int (v0_1 pj)), .val (.int (v0_2 pj)), .val (.int (v0_3 pj)), .val (.int (v0_4 pj)), .val (.int (v0_5 pj)), .val (.int (pq &&& (3 : Int32))), .val (.int (v0_6 pq)), .val (.ref b1), .unset, .unset, .unset, .unset, .unset, .unset] [(.int (0 : Int32)), (.ref b10), (.ref b10)])) _
    refine XS.iconst X10.here hx rfl (hb hby at_79) ?_
    show Steps p.tables e below (T10.setTop (mkF m 80 #[.val (.int pj), .val (.int pq), .val (.int (pj &&& (3 : Int32))), .val (.int (v0_1 pj)), .val (.int (v0_2 pj)), .val (.int (v0_3 pj)), .val (.int (v0_4 pj)), .val (.int (v0_5 pj)), .val (.int (pq &&& (3 : Int32))), .val (.int (v0_6 pq)), .val (.ref b1), .unset, .unset, .unset, .unset, .unset, .unset] [(.int (1 : Int32)), (.int (0 : Int32)), (.ref b10), (.ref b10)])) _
    refine st12 _ ?_
    show Steps p.tables e below (T12.setTop (mkF m 81 #[.val (.int pj), .val (.int pq), .val (.int (pj &&& (3 : Int32))), .val (.int (v0_1 pj)), .val (.int (v0_2 pj)), .val (.int (v0_3 pj)), .val (.int (v0_4 pj)), .val (.int (v0_5 pj)), .val (.int (pq &&& (3 : Int32))), .val (.int (v0_6 pq)), .val (.ref b1), .unset, .unset, .unset, .unset, .unset, .unset] [(.ref b10)])) _
    refine XS.dup X12.here hx rfl (hb hby at_81) rfl rfl ?_
    show Steps p.tables e below (T12.setTop (mkF m 82 #[.val (.int pj), .val (.int pq), .val (.int (pj &&& (3 : Int32))), .val (.int (v0_1 pj)), .val (.int (v0_2 pj)), .val (.int (v0_3 pj)), .val (.int (v0_4 pj)), .val (.int (v0_5 pj)), .val (.int (pq &&& (3 : Int32))), .val (.int (v0_6 pq)), .val (.ref b1), .unset, .unset, .unset, .unset, .unset, .unset] [(.ref b10), (.ref b10)])) _
    refine XS.iconst X12.here hx rfl (hb hby at_82) ?_
    show Steps p.tables e below (T12.setTop (mkF m 83 #[.val (.int pj), .val (.int pq), .val (.int (pj &&& (3 : Int32))), .val (.int (v0_1 pj)), .val (.int (v0_2 pj)), .val (.int (v0_3 pj)), .val (.int (v0_4 pj)), .val (.int (v0_5 pj)), .val (.int (pq &&& (3 : Int32))), .val (.int (v0_6 pq)), .val (.ref b1), .unset, .unset, .unset, .unset, .unset, .unset] [(.int (1 : Int32)), (.ref b10), (.ref b10)])) _
    refine XS.iconst X12.here hx rfl (hb hby at_83) ?_
    show Steps p.tables e below (T12.setTop (mkF m 84 #[.val (.int pj), .val (.int pq), .val (.int (pj &&& (3 : Int32))), .val (.int (v0_1 pj)), .val (.int (v0_2 pj)), .val (.int (v0_3 pj)), .val (.int (v0_4 pj)), .val (.int (v0_5 pj)), .val (.int (pq &&& (3 : Int32))), .val (.int (v0_6 pq)), .val (.ref b1), .unset, .unset, .unset, .unset, .unset, .unset] [(.int (1 : Int32)), (.int (1 : Int32)), (.ref b10), (.ref b10)])) _
    refine st14 _ ?_
    show Steps p.tables e below (T14.setTop (mkF m 85 #[.val (.int pj), .val (.int pq), .val (.int (pj &&& (3 : Int32))), .val (.int (v0_1 pj)), .val (.int (v0_2 pj)), .val (.int (v0_3 pj)), .val (.int (v0_4 pj)), .val (.int (v0_5 pj)), .val (.int (pq &&& (3 : Int32))), .val (.int (v0_6 pq)), .val (.ref b1), .unset, .unset, .unset, .unset, .unset, .unset] [(.ref b10)])) _
    refine XS.dup X14.here hx rfl (hb hby at_85) rfl rfl ?_
    show Steps p.tables e below (T14.setTop (mkF m 86 #[.val (.int pj), .val (.int pq), .val (.int (pj &&& (3 : Int32))), .val (.int (v0_1 pj)), .val (.int (v0_2 pj)), .val (.int (v0_3 pj)), .val (.int (v0_4 pj)), .val (.int (v0_5 pj)), .val (.int (pq &&& (3 : Int32))), .val (.int (v0_6 pq)), .val (.ref b1), .unset, .unset, .unset, .unset, .unset, .unset] [(.ref b10), (.ref b10)])) _
    refine XS.iconst X14.here hx rfl (hb hby at_86) ?_
    show Steps p.tables e below (T14.setTop (mkF m 87 #[.val (.int pj), .val (.int pq), .val (.int (pj &&& (3 : Int32))), .val (.int (v0_1 pj)), .val (.int (v0_2 pj)), .val (.int (v0_3 pj)), .val (.int (v0_4 pj)), .val (.int (v0_5 pj)), .val (.int (pq &&& (3 : Int32))), .val (.int (v0_6 pq)), .val (.ref b1), .unset, .unset, .unset, .unset, .unset, .unset] [(.int (2 : Int32)), (.ref b10), (.ref b10)])) _
    refine XS.iconst X14.here hx rfl (hb hby at_87) ?_
    show Steps p.tables e below (T14.setTop (mkF m 88 #[.val (.int pj), .val (.int pq), .val (.int (pj &&& (3 : Int32))), .val (.int (v0_1 pj)), .val (.int (v0_2 pj)), .val (.int (v0_3 pj)), .val (.int (v0_4 pj)), .val (.int (v0_5 pj)), .val (.int (pq &&& (3 : Int32))), .val (.int (v0_6 pq)), .val (.ref b1), .unset, .unset, .unset, .unset, .unset, .unset] [(.int (1 : Int32)), (.int (2 : Int32)), (.ref b10), (.ref b10)])) _
    refine st16 _ ?_
    show Steps p.tables e below (T16.setTop (mkF m 89 #[.val (.int pj), .val (.int pq), .val (.int (pj &&& (3 : Int32))), .val (.int (v0_1 pj)), .val (.int (v0_2 pj)), .val (.int (v0_3 pj)), .val (.int (v0_4 pj)), .val (.int (v0_5 pj)), .val (.int (pq &&& (3 : Int32))), .val (.int (v0_6 pq)), .val (.ref b1), .unset, .unset, .unset, .unset, .unset, .unset] [(.ref b10)])) _
    refine XS.dup X16.here hx rfl (hb hby at_89) rfl rfl ?_
    show Steps p.tables e below (T16.setTop (mkF m 90 #[.val (.int pj), .val (.int pq), .val (.int (pj &&& (3 : Int32))), .val (.int (v0_1 pj)), .val (.int (v0_2 pj)), .val (.int (v0_3 pj)), .val (.int (v0_4 pj)), .val (.int (v0_5 pj)), .val (.int (pq &&& (3 : Int32))), .val (.int (v0_6 pq)), .val (.ref b1), .unset, .unset, .unset, .unset, .unset, .unset] [(.ref b10), (.ref b10)])) _
    refine XS.iconst X16.here hx rfl (hb hby at_90) ?_
    show Steps p.tables e below (T16.setTop (mkF m 91 #[.val (.int pj), .val (.int pq), .val (.int (pj &&& (3 : Int32))), .val (.int (v0_1 pj)), .val (.int (v0_2 pj)), .val (.int (v0_3 pj)), .val (.int (v0_4 pj)), .val (.int (v0_5 pj)), .val (.int (pq &&& (3 : Int32))), .val (.int (v0_6 pq)), .val (.ref b1), .unset, .unset, .unset, .unset, .unset, .unset] [(.int (3 : Int32)), (.ref b10), (.ref b10)])) _
    refine XS.iconst X16.here hx rfl (hb hby at_91) ?_
    show Steps p.tables e below (T16.setTop (mkF m 92 #[.val (.int pj), .val (.int pq), .val (.int (pj &&& (3 : Int32))), .val (.int (v0_1 pj)), .val (.int (v0_2 pj)), .val (.int (v0_3 pj)), .val (.int (v0_4 pj)), .val (.int (v0_5 pj)), .val (.int (pq &&& (3 : Int32))), .val (.int (v0_6 pq)), .val (.ref b1), .unset, .unset, .unset, .unset, .unset, .unset] [(.int (1 : Int32)), (.int (3 : Int32)), (.ref b10), (.ref b10)])) _
    refine st18 _ ?_
    show Steps p.tables e below (T18.setTop (mkF m 93 #[.val (.int pj), .val (.int pq), .val (.int (pj &&& (3 : Int32))), .val (.int (v0_1 pj)), .val (.int (v0_2 pj)), .val (.int (v0_3 pj)), .val (.int (v0_4 pj)), .val (.int (v0_5 pj)), .val (.int (pq &&& (3 : Int32))), .val (.int (v0_6 pq)), .val (.ref b1), .unset, .unset, .unset, .unset, .unset, .unset] [(.ref b10)])) _
    refine XS.astore X18.here hx rfl (hb hby at_93) rfl rfl (l' := #[.val (.int pj), .val (.int pq), .val (.int (pj &&& (3 : Int32))), .val (.int (v0_1 pj)), .val (.int (v0_2 pj)), .val (.int (v0_3 pj)), .val (.int (v0_4 pj)), .val (.int (v0_5 pj)), .val (.int (pq &&& (3 : Int32))), .val (.int (v0_6 pq)), .val (.ref b1), .val (.ref b10), .unset, .unset, .unset, .unset, .unset]) rfl ?_
    show Steps p.tables e below (T18.setTop (mkF m 95 #[.val (.int pj), .val (.int pq), .val (.int (pj &&& (3 : Int32))), .val (.int (v0_1 pj)), .val (.int (v0_2 pj)), .val (.int (v0_3 pj)), .val (.int (v0_4 pj)), .val (.int (v0_5 pj)), .val (.int (pq &&& (3 : Int32))), .val (.int (v0_6 pq)), .val (.ref b1), .val (.ref b10), .unset, .unset, .unset, .unset, .unset] [])) _
    refine st19 _ ?_
    show Steps p.tables e below (T19.setTop (mkF m 98 #[.val (.int pj), .val (.int pq), .val (.int (pj &&& (3 : Int32))), .val (.int (v0_1 pj)), .val (.int (v0_2 pj)), .val (.int (v0_3 pj)), .val (.int (v0_4 pj)), .val (.int (v0_5 pj)), .val (.int (pq &&& (3 : Int32))), .val (.int (v0_6 pq)), .val (.ref b1), .val (.ref b10), .unset, .unset, .unset, .unset, .unset] [(.ref b19)])) _
    refine XS.dup X19.here hx rfl (hb hby at_98) rfl rfl ?_
    show Steps p.tables e below (T19.setTop (mkF m 99 #[.val (.int pj), .val (.int pq), .val (.int (pj &&& (3 : Int32))), .val (.int (v0_1 pj)), .val (.int (v0_2 pj)), .val (.int (v0_3 pj)), .val (.int (v0_4 pj)), .val (.int (v0_5 pj)), .val (.int (pq &&& (3 : Int32))), .val (.int (v0_6 pq)), .val (.ref b1), .val (.ref b10), .unset, .unset, .unset, .unset, .unset] [(.ref b19), (.ref b19)])) _
    refine XS.iconst X19.here hx rfl (hb hby at_99) ?_
    show Steps p.tables e below (T19.setTop (mkF m 100 #[.val (.int pj), .val (.int pq), .val (.int (pj &&& (3 : Int32))), .val (.int (v0_1 pj)), .val (.int (v0_2 pj)), .val (.int (v0_3 pj)), .val (.int (v0_4 pj)), .val (.int (v0_5 pj)), .val (.int (pq &&& (3 : Int32))), .val (.int (v0_6 pq)), .val (.ref b1), .val (.ref b10), .unset, .unset, .unset, .unset, .unset] [(.int (4 : Int32)), (.ref b19), (.ref b19)])) _
    refine st20.trans ?_
    show Steps p.tables e below (T20.setTop (mkF m 103 #[.val (.int pj), .val (.int pq), .val (.int (pj &&& (3 : Int32))), .val (.int (v0_1 pj)), .val (.int (v0_2 pj)), .val (.int (v0_3 pj)), .val (.int (v0_4 pj)), .val (.int (v0_5 pj)), .val (.int (pq &&& (3 : Int32))), .val (.int (v0_6 pq)), .val (.ref b1), .val (.ref b10), .unset, .unset, .unset, .unset, .unset] [(.ref b19)])) _
    refine XS.astore X20.here hx rfl (hb hby at_103) rfl rfl (l' := #[.val (.int pj), .val (.int pq), .val (.int (pj &&& (3 : Int32))), .val (.int (v0_1 pj)), .val (.int (v0_2 pj)), .val (.int (v0_3 pj)), .val (.int (v0_4 pj)), .val (.int (v0_5 pj)), .val (.int (pq &&& (3 : Int32))), .val (.int (v0_6 pq)), .val (.ref b1), .val (.ref b10), .val (.ref b19), .unset, .unset, .unset, .unset]) rfl ?_
    show Steps p.tables e below (T20.setTop (mkF m 105 #[.val (.int pj), .val (.int pq), .val (.int (pj &&& (3 : Int32))), .val (.int (v0_1 pj)), .val (.int (v0_2 pj)), .val (.int (v0_3 pj)), .val (.int (v0_4 pj)), .val (.int (v0_5 pj)), .val (.int (pq &&& (3 : Int32))), .val (.int (v0_6 pq)), .val (.ref b1), .val (.ref b10), .val (.ref b19), .unset, .unset, .unset, .unset] [])) _
    refine XS.aload X20.here hx rfl (hb hby at_105) rfl rfl ?_
    show Steps p.tables e below (T20.setTop (mkF m 107 #[.val (.int pj), .val (.int pq), .val (.int (pj &&& (3 : Int32))), .val (.int (v0_1 pj)), .val (.int (v0_2 pj)), .val (.int (v0_3 pj)), .val (.int (v0_4 pj)), .val (.int (v0_5 pj)), .val (.int (pq &&& (3 : Int32))), .val (.int (v0_6 pq)), .val (.ref b1), .val (.ref b10), .val (.ref b19), .unset, .unset, .unset, .unset] [(.ref b19)])) _
    refine XS.iloadN X20.here hx rfl (hb hby at_107) rfl ?_
    show Steps p.tables e below (T20.setTop (mkF m 108 #[.val (.int pj), .val (.int pq), .val (.int (pj &&& (3 : Int32))), .val (.int (v0_1 pj)), .val (.int (v0_2 pj)), .val (.int (v0_3 pj)), .val (.int (v0_4 pj)), .val (.int (v0_5 pj)), .val (.int (pq &&& (3 : Int32))), .val (.int (v0_6 pq)), .val (.ref b1), .val (.ref b10), .val (.ref b19), .unset, .unset, .unset, .unset] [(.int (pj &&& (3 : Int32))), (.ref b19)])) _
    refine XS.iloadN X20.here hx rfl (hb hby at_108) rfl ?_
    show Steps p.tables e below (T20.setTop (mkF m 109 #[.val (.int pj), .val (.int pq), .val (.int (pj &&& (3 : Int32))), .val (.int (v0_1 pj)), .val (.int (v0_2 pj)), .val (.int (v0_3 pj)), .val (.int (v0_4 pj)), .val (.int (v0_5 pj)), .val (.int (pq &&& (3 : Int32))), .val (.int (v0_6 pq)), .val (.ref b1), .val (.ref b10), .val (.ref b19), .unset, .unset, .unset, .unset] [(.int (v0_1 pj)), (.int (pj &&& (3 : Int32))), (.ref b19)])) _
    refine st21.trans ?_
    show Steps p.tables e below (T21.setTop (mkF m 112 #[.val (.int pj), .val (.int pq), .val (.int (pj &&& (3 : Int32))), .val (.int (v0_1 pj)), .val (.int (v0_2 pj)), .val (.int (v0_3 pj)), .val (.int (v0_4 pj)), .val (.int (v0_5 pj)), .val (.int (pq &&& (3 : Int32))), .val (.int (v0_6 pq)), .val (.ref b1), .val (.ref b10), .val (.ref b19), .unset, .unset, .unset, .unset] [])) _
    refine XS.aload X21.here hx rfl (hb hby at_112) rfl rfl ?_
    show Steps p.tables e below (T21.setTop (mkF m 114 #[.val (.int pj), .val (.int pq), .val (.int (pj &&& (3 : Int32))), .val (.int (v0_1 pj)), .val (.int (v0_2 pj)), .val (.int (v0_3 pj)), .val (.int (v0_4 pj)), .val (.int (v0_5 pj)), .val (.int (pq &&& (3 : Int32))), .val (.int (v0_6 pq)), .val (.ref b1), .val (.ref b10), .val (.ref b19), .unset, .unset, .unset, .unset] [(.ref b1)])) _
    refine XS.aload X21.here hx rfl (hb hby at_114) rfl rfl ?_
    show Steps p.tables e below (T21.setTop (mkF m 116 #[.val (.int pj), .val (.int pq), .val (.int (pj &&& (3 : Int32))), .val (.int (v0_1 pj)), .val (.int (v0_2 pj)), .val (.int (v0_3 pj)), .val (.int (v0_4 pj)), .val (.int (v0_5 pj)), .val (.int (pq &&& (3 : Int32))), .val (.int (v0_6 pq)), .val (.ref b1), .val (.ref b10), .val (.ref b19), .unset, .unset, .unset, .unset] [(.ref b10), (.ref b1)])) _
    refine XS.iloadN X21.here hx rfl (hb hby at_116) rfl ?_
    show Steps p.tables e below (T21.setTop (mkF m 117 #[.val (.int pj), .val (.int pq), .val (.int (pj &&& (3 : Int32))), .val (.int (v0_1 pj)), .val (.int (v0_2 pj)), .val (.int (v0_3 pj)), .val (.int (v0_4 pj)), .val (.int (v0_5 pj)), .val (.int (pq &&& (3 : Int32))), .val (.int (v0_6 pq)), .val (.ref b1), .val (.ref b10), .val (.ref b19), .unset, .unset, .unset, .unset] [(.int (pj &&& (3 : Int32))), (.ref b10), (.ref b1)])) _
    refine XS.iloadN X21.here hx rfl (hb hby at_117) rfl ?_
    show Steps p.tables e below (T21.setTop (mkF m 118 #[.val (.int pj), .val (.int pq), .val (.int (pj &&& (3 : Int32))), .val (.int (v0_1 pj)), .val (.int (v0_2 pj)), .val (.int (v0_3 pj)), .val (.int (v0_4 pj)), .val (.int (v0_5 pj)), .val (.int (pq &&& (3 : Int32))), .val (.int (v0_6 pq)), .val (.ref b1), .val (.ref b10), .val (.ref b19), .unset, .unset, .unset, .unset] [(.int (v0_1 pj)), (.int (pj &&& (3 : Int32))), (.ref b10), (.ref b1)])) _
    refine st22 _ ?_
    show Steps p.tables e below (T22.setTop (mkF m 121 #[.val (.int pj), .val (.int pq), .val (.int (pj &&& (3 : Int32))), .val (.int (v0_1 pj)), .val (.int (v0_2 pj)), .val (.int (v0_3 pj)), .val (.int (v0_4 pj)), .val (.int (v0_5 pj)), .val (.int (pq &&& (3 : Int32))), .val (.int (v0_6 pq)), .val (.ref b1), .val (.ref b10), .val (.ref b19), .unset, .unset, .unset, .unset] [])) _
    refine XS.aload X22.here hx rfl (hb hby at_121) rfl rfl ?_
    show Steps p.tables e below (T22.setTop (mkF m 123 #[.val (.int pj), .val (.int pq), .val (.int (pj &&& (3 : Int32))), .val (.int (v0_1 pj)), .val (.int (v0_2 pj)), .val (.int (v0_3 pj)), .val (.int (v0_4 pj)), .val (.int (v0_5 pj)), .val (.int (pq &&& (3 : Int32))), .val (.int (v0_6 pq)), .val (.ref b1), .val (.ref b10), .val (.ref b19), .unset, .unset, .unset, .unset] [(.ref b19)])) _
    refine XS.iload X22.here hx rfl (hb hby at_123) rfl ?_
    show Steps p.tables e below (T22.setTop (mkF m 125 #[.val (.int pj), .val (.int pq), .val (.int (pj &&& (3 : Int32))), .val (.int (v0_1 pj)), .val (.int (v0_2 pj)), .val (.int (v0_3 pj)), .val (.int (v0_4 pj)), .val (.int (v0_5 pj)), .val (.int (pq &&& (3 : Int32))), .val (.int (v0_6 pq)), .val (.ref b1), .val (.ref b10), .val (.ref b19), .unset, .unset, .unset, .unset] [(.int (v0_2 pj)), (.ref b19)])) _
    refine XS.iload X22.here hx rfl (hb hby at_125) rfl ?_
    show Steps p.tables e below (T22.setTop (mkF m 127 #[.val (.int pj), .val (.int pq), .val (.int (pj &&& (3 : Int32))), .val (.int (v0_1 pj)), .val (.int (v0_2 pj)), .val (.int (v0_3 pj)), .val (.int (v0_4 pj)), .val (.int (v0_5 pj)), .val (.int (pq &&& (3 : Int32))), .val (.int (v0_6 pq)), .val (.ref b1), .val (.ref b10), .val (.ref b19), .unset, .unset, .unset, .unset] [(.int (v0_3 pj)), (.int (v0_2 pj)), (.ref b19)])) _
    refine st23.trans ?_
    show Steps p.tables e below (T23.setTop (mkF m 130 #[.val (.int pj), .val (.int pq), .val (.int (pj &&& (3 : Int32))), .val (.int (v0_1 pj)), .val (.int (v0_2 pj)), .val (.int (v0_3 pj)), .val (.int (v0_4 pj)), .val (.int (v0_5 pj)), .val (.int (pq &&& (3 : Int32))), .val (.int (v0_6 pq)), .val (.ref b1), .val (.ref b10), .val (.ref b19), .unset, .unset, .unset, .unset] [])) _
    refine XS.aload X23.here hx rfl (hb hby at_130) rfl rfl ?_
    show Steps p.tables e below (T23.setTop (mkF m 132 #[.val (.int pj), .val (.int pq), .val (.int (pj &&& (3 : Int32))), .val (.int (v0_1 pj)), .val (.int (v0_2 pj)), .val (.int (v0_3 pj)), .val (.int (v0_4 pj)), .val (.int (v0_5 pj)), .val (.int (pq &&& (3 : Int32))), .val (.int (v0_6 pq)), .val (.ref b1), .val (.ref b10), .val (.ref b19), .unset, .unset, .unset, .unset] [(.ref b1)])) _
    refine XS.aload X23.here hx rfl (hb hby at_132) rfl rfl ?_
    show Steps p.tables e below (T23.setTop (mkF m 134 #[.val (.int pj), .val (.int pq), .val (.int (pj &&& (3 : Int32))), .val (.int (v0_1 pj)), .val (.int (v0_2 pj)), .val (.int (v0_3 pj)), .val (.int (v0_4 pj)), .val (.int (v0_5 pj)), .val (.int (pq &&& (3 : Int32))), .val (.int (v0_6 pq)), .val (.ref b1), .val (.ref b10), .val (.ref b19), .unset, .unset, .unset, .unset] [(.ref b10), (.ref b1)])) _
    refine XS.iload X23.here hx rfl (hb hby at_134) rfl ?_
    show Steps p.tables e below (T23.setTop (mkF m 136 #[.val (.int pj), .val (.int pq), .val (.int (pj &&& (3 : Int32))), .val (.int (v0_1 pj)), .val (.int (v0_2 pj)), .val (.int (v0_3 pj)), .val (.int (v0_4 pj)), .val (.int (v0_5 pj)), .val (.int (pq &&& (3 : Int32))), .val (.int (v0_6 pq)), .val (.ref b1), .val (.ref b10), .val (.ref b19), .unset, .unset, .unset, .unset] [(.int (v0_2 pj)), (.ref b10), (.ref b1)])) _
    refine XS.iload X23.here hx rfl (hb hby at_136) rfl ?_
    show Steps p.tables e below (T23.setTop (mkF m 138 #[.val (.int pj), .val (.int pq), .val (.int (pj &&& (3 : Int32))), .val (.int (v0_1 pj)), .val (.int (v0_2 pj)), .val (.int (v0_3 pj)), .val (.int (v0_4 pj)), .val (.int (v0_5 pj)), .val (.int (pq &&& (3 : Int32))), .val (.int (v0_6 pq)), .val (.ref b1), .val (.ref b10), .val (.ref b19), .unset, .unset, .unset, .unset] [(.int (v0_3 pj)), (.int (v0_2 pj)), (.ref b10), (.ref b1)])) _
    refine st24 _ ?_
    show Steps p.tables e below (T24.setTop (mkF m 141 #[.val (.int pj), .val (.int pq), .val (.int (pj &&& (3 : Int32))), .val (.int (v0_1 pj)), .val (.int (v0_2 pj)), .val (.int (v0_3 pj)), .val (.int (v0_4 pj)), .val (.int (v0_5 pj)), .val (.int (pq &&& (3 : Int32))), .val (.int (v0_6 pq)), .val (.ref b1), .val (.ref b10), .val (.ref b19), .unset, .unset, .unset, .unset] [])) _
    refine XS.aload X24.here hx rfl (hb hby at_141) rfl rfl ?_
    show Steps p.tables e below (T24.setTop (mkF m 143 #[.val (.int pj), .val (.int pq), .val (.int (pj &&& (3 : Int32))), .val (.int (v0_1 pj)), .val (.int (v0_2 pj)), .val (.int (v0_3 pj)), .val (.int (v0_4 pj)), .val (.int (v0_5 pj)), .val (.int (pq &&& (3 : Int32))), .val (.int (v0_6 pq)), .val (.ref b1), .val (.ref b10), .val (.ref b19), .unset, .unset, .unset, .unset] [(.ref b19)])) _
    refine XS.iload X24.here hx rfl (hb hby at_143) rfl ?_
    show Steps p.tables e below (T24.setTop (mkF m 145 #[.val (.int pj), .val (.int pq), .val (.int (pj &&& (3 : Int32))), .val (.int (v0_1 pj)), .val (.int (v0_2 pj)), .val (.int (v0_3 pj)), .val (.int (v0_4 pj)), .val (.int (v0_5 pj)), .val (.int (pq &&& (3 : Int32))), .val (.int (v0_6 pq)), .val (.ref b1), .val (.ref b10), .val (.ref b19), .unset, .unset, .unset, .unset] [(.int (v0_4 pj)), (.ref b19)])) _
    refine XS.iload X24.here hx rfl (hb hby at_145) rfl ?_
    show Steps p.tables e below (T24.setTop (mkF m 147 #[.val (.int pj), .val (.int pq), .val (.int (pj &&& (3 : Int32))), .val (.int (v0_1 pj)), .val (.int (v0_2 pj)), .val (.int (v0_3 pj)), .val (.int (v0_4 pj)), .val (.int (v0_5 pj)), .val (.int (pq &&& (3 : Int32))), .val (.int (v0_6 pq)), .val (.ref b1), .val (.ref b10), .val (.ref b19), .unset, .unset, .unset, .unset] [(.int (v0_5 pj)), (.int (v0_4 pj)), (.ref b19)])) _
    refine st25.trans ?_
    show Steps p.tables e below (T25.setTop (mkF m 150 #[.val (.int pj), .val (.int pq), .val (.int (pj &&& (3 : Int32))), .val (.int (v0_1 pj)), .val (.int (v0_2 pj)), .val (.int (v0_3 pj)), .val (.int (v0_4 pj)), .val (.int (v0_5 pj)), .val (.int (pq &&& (3 : Int32))), .val (.int (v0_6 pq)), .val (.ref b1), .val (.ref b10), .val (.ref b19), .unset, .unset, .unset, .unset] [])) _
    refine XS.aload X25.here hx rfl (hb hby at_150) rfl rfl ?_
    show Steps p.tables e below (T25.setTop (mkF m 152 #[.val (.int pj), .val (.int pq), .val (.int (pj &&& (3 : Int32))), .val (.int (v0_1 pj)), .val (.int (v0_2 pj)), .val (.int (v0_3 pj)), .val (.int (v0_4 pj)), .val (.int (v0_5 pj)), .val (.int (pq &&& (3 : Int32))), .val (.int (v0_6 pq)), .val (.ref b1), .val (.ref b10), .val (.ref b19), .unset, .unset, .unset, .unset] [(.ref b1)])) _
    refine XS.aload X25.here hx rfl (hb hby at_152) rfl rfl ?_
    show Steps p.tables e below (T25.setTop (mkF m 154 #[.val (.int pj), .val (.int pq), .val (.int (pj &&& (3 : Int32))), .val (.int (v0_1 pj)), .val (.int (v0_2 pj)), .val (.int (v0_3 pj)), .val (.int (v0_4 pj)), .val (.int (v0_5 pj)), .val (.int (pq &&& (3 : Int32))), .val (.int (v0_6 pq)), .val (.ref b1), .val (.ref b10), .val (.ref b19), .unset, .unset, .unset, .unset] [(.ref b10), (.ref b1)])) _
    refine XS.iload X25.here hx rfl (hb hby at_154) rfl ?_
    show Steps p.tables e below (T25.setTop (mkF m 156 #[.val (.int pj), .val (.int pq), .val (.int (pj &&& (3 : Int32))), .val (.int (v0_1 pj)), .val (.int (v0_2 pj)), .val (.int (v0_3 pj)), .val (.int (v0_4 pj)), .val (.int (v0_5 pj)), .val (.int (pq &&& (3 : Int32))), .val (.int (v0_6 pq)), .val (.ref b1), .val (.ref b10), .val (.ref b19), .unset, .unset, .unset, .unset] [(.int (v0_4 pj)), (.ref b10), (.ref b1)])) _
    refine XS.iload X25.here hx rfl (hb hby at_156) rfl ?_
    show Steps p.tables e below (T25.setTop (mkF m 158 #[.val (.int pj), .val (.int pq), .val (.int (pj &&& (3 : Int32))), .val (.int (v0_1 pj)), .val (.int (v0_2 pj)), .val (.int (v0_3 pj)), .val (.int (v0_4 pj)), .val (.int (v0_5 pj)), .val (.int (pq &&& (3 : Int32))), .val (.int (v0_6 pq)), .val (.ref b1), .val (.ref b10), .val (.ref b19), .unset, .unset, .unset, .unset] [(.int (v0_5 pj)), (.int (v0_4 pj)), (.ref b10), (.ref b1)])) _
    refine st26 _ ?_
    show Steps p.tables e below (T26.setTop (mkF m 161 #[.val (.int pj), .val (.int pq), .val (.int (pj &&& (3 : Int32))), .val (.int (v0_1 pj)), .val (.int (v0_2 pj)), .val (.int (v0_3 pj)), .val (.int (v0_4 pj)), .val (.int (v0_5 pj)), .val (.int (pq &&& (3 : Int32))), .val (.int (v0_6 pq)), .val (.ref b1), .val (.ref b10), .val (.ref b19), .unset, .unset, .unset, .unset] [])) _
    refine XS.aload X26.here hx rfl (hb hby at_161) rfl rfl ?_
    show Steps p.tables e below (T26.setTop (mkF m 163 #[.val (.int pj), .val (.int pq), .val (.int (pj &&& (3 : Int32))), .val (.int (v0_1 pj)), .val (.int (v0_2 pj)), .val (.int (v0_3 pj)), .val (.int (v0_4 pj)), .val (.int (v0_5 pj)), .val (.int (pq &&& (3 : Int32))), .val (.int (v0_6 pq)), .val (.ref b1), .val (.ref b10), .val (.ref b19), .unset, .unset, .unset, .unset] [(.ref b19)])) _
    refine XS.iload X26.here hx rfl (hb hby at_163) rfl ?_
    show Steps p.tables e below (T26.setTop (mkF m 165 #[.val (.int pj), .val (.int pq), .val (.int (pj &&& (3 : Int32))), .val (.int (v0_1 pj)), .val (.int (v0_2 pj)), .val (.int (v0_3 pj)), .val (.int (v0_4 pj)), .val (.int (v0_5 pj)), .val (.int (pq &&& (3 : Int32))), .val (.int (v0_6 pq)), .val (.ref b1), .val (.ref b10), .val (.ref b19), .unset, .unset, .unset, .unset] [(.int (pq &&& (3 : Int32))), (.ref b19)])) _
    refine st27.trans ?_
    show Steps p.tables e below (T27.setTop (mkF m 168 #[.val (.int pj), .val (.int pq), .val (.int (pj &&& (3 : Int32))), .val (.int (v0_1 pj)), .val (.int (v0_2 pj)), .val (.int (v0_3 pj)), .val (.int (v0_4 pj)), .val (.int (v0_5 pj)), .val (.int (pq &&& (3 : Int32))), .val (.int (v0_6 pq)), .val (.ref b1), .val (.ref b10), .val (.ref b19), .unset, .unset, .unset, .unset] [(.int (v0_30 pq pj))])) _
    refine XS.istore X27.here hx rfl (hb hby at_168) rfl (l' := #[.val (.int pj), .val (.int pq), .val (.int (pj &&& (3 : Int32))), .val (.int (v0_1 pj)), .val (.int (v0_2 pj)), .val (.int (v0_3 pj)), .val (.int (v0_4 pj)), .val (.int (v0_5 pj)), .val (.int (pq &&& (3 : Int32))), .val (.int (v0_6 pq)), .val (.ref b1), .val (.ref b10), .val (.ref b19), .val (.int (v0_30 pq pj)), .unset, .unset, .unset]) rfl ?_
    show Steps p.tables e below (T27.setTop (mkF m 170 #[.val (.int pj), .val (.int pq), .val (.int (pj &&& (3 : Int32))), .val (.int (v0_1 pj)), .val (.int (v0_2 pj)), .val (.int (v0_3 pj)), .val (.int (v0_4 pj)), .val (.int (v0_5 pj)), .val (.int (pq &&& (3 : Int32))), .val (.int (v0_6 pq)), .val (.ref b1), .val (.ref b10), .val (.ref b19), .val (.int (v0_30 pq pj)), .unset, .unset, .unset] [])) _
    refine XS.aload X27.here hx rfl (hb hby at_170) rfl rfl ?_
    show Steps p.tables e below (T27.setTop (mkF m 172 #[.val (.int pj), .val (.int pq), .val (.int (pj &&& (3 : Int32))), .val (.int (v0_1 pj)), .val (.int (v0_2 pj)), .val (.int (v0_3 pj)), .val (.int (v0_4 pj)), .val (.int (v0_5 pj)), .val (.int (pq &&& (3 : Int32))), .val (.int (v0_6 pq)), .val (.ref b1), .val (.ref b10), .val (.ref b19), .val (.int (v0_30 pq pj)), .unset, .unset, .unset] [(.ref b19)])) _
    refine XS.iload X27.here hx rfl (hb hby at_172) rfl ?_
    show Steps p.tables e below (T27.setTop (mkF m 174 #[.val (.int pj), .val (.int pq), .val (.int (pj &&& (3 : Int32))), .val (.int (v0_1 pj)), .val (.int (v0_2 pj)), .val (.int (v0_3 pj)), .val (.int (v0_4 pj)), .val (.int (v0_5 pj)), .val (.int (pq &&& (3 : Int32))), .val (.int (v0_6 pq)), .val (.ref b1), .val (.ref b10), .val (.ref b19), .val (.int (v0_30 pq pj)), .unset, .unset, .unset] [(.int (v0_6 pq)), (.ref b19)])) _
    refine st28.trans ?_
    show Steps p.tables e below (T28.setTop (mkF m 177 #[.val (.int pj), .val (.int pq), .val (.int (pj &&& (3 : Int32))), .val (.int (v0_1 pj)), .val (.int (v0_2 pj)), .val (.int (v0_3 pj)), .val (.int (v0_4 pj)), .val (.int (v0_5 pj)), .val (.int (pq &&& (3 : Int32))), .val (.int (v0_6 pq)), .val (.ref b1), .val (.ref b10), .val (.ref b19), .val (.int (v0_30 pq pj)), .unset, .unset, .unset] [(.int (f4 (v0_6 pq) (w0_29 pq pj)))])) _
    refine XS.istore X28.here hx rfl (hb hby at_177) rfl (l' := #[.val (.int pj), .val (.int pq), .val (.int (pj &&& (3 : Int32))), .val (.int (v0_1 pj)), .val (.int (v0_2 pj)), .val (.int (v0_3 pj)), .val (.int (v0_4 pj)), .val (.int (v0_5 pj)), .val (.int (pq &&& (3 : Int32))), .val (.int (v0_6 pq)), .val (.ref b1), .val (.ref b10), .val (.ref b19), .val (.int (v0_30 pq pj)), .val (.int (f4 (v0_6 pq) (w0_29 pq pj))), .unset, .unset]) rfl ?_
    show Steps p.tables e below (T28.setTop (mkF m 179 #[.val (.int pj), .val (.int pq), .val (.int (pj &&& (3 : Int32))), .val (.int (v0_1 pj)), .val (.int (v0_2 pj)), .val (.int (v0_3 pj)), .val (.int (v0_4 pj)), .val (.int (v0_5 pj)), .val (.int (pq &&& (3 : Int32))), .val (.int (v0_6 pq)), .val (.ref b1), .val (.ref b10), .val (.ref b19), .val (.int (v0_30 pq pj)), .val (.int (f4 (v0_6 pq) (w0_29 pq pj))), .unset, .unset] [])) _
    refine XS.aload X28.here hx rfl (hb hby at_179) rfl rfl ?_
    show Steps p.tables e below (T28.setTop (mkF m 181 #[.val (.int pj), .val (.int pq), .val (.int (pj &&& (3 : Int32))), .val (.int (v0_1 pj)), .val (.int (v0_2 pj)), .val (.int (v0_3 pj)), .val (.int (v0_4 pj)), .val (.int (v0_5 pj)), .val (.int (pq &&& (3 : Int32))), .val (.int (v0_6 pq)), .val (.ref b1), .val (.ref b10), .val (.ref b19), .val (.int (v0_30 pq pj)), .val (.int (f4 (v0_6 pq) (w0_29 pq pj))), .unset, .unset] [(.ref b19)])) _
    refine XS.iload X28.here hx rfl (hb hby at_181) rfl ?_
    show Steps p.tables e below (T28.setTop (mkF m 183 #[.val (.int pj), .val (.int pq), .val (.int (pj &&& (3 : Int32))), .val (.int (v0_1 pj)), .val (.int (v0_2 pj)), .val (.int (v0_3 pj)), .val (.int (v0_4 pj)), .val (.int (v0_5 pj)), .val (.int (pq &&& (3 : Int32))), .val (.int (v0_6 pq)), .val (.ref b1), .val (.ref b10), .val (.ref b19), .val (.int (v0_30 pq pj)), .val (.int (f4 (v0_6 pq) (w0_29 pq pj))), .unset, .unset] [(.int (v0_30 pq pj)), (.ref b19)])) _
    refine st29.trans ?_
    show Steps p.tables e below (T29.setTop (mkF m 186 #[.val (.int pj), .val (.int pq), .val (.int (pj &&& (3 : Int32))), .val (.int (v0_1 pj)), .val (.int (v0_2 pj)), .val (.int (v0_3 pj)), .val (.int (v0_4 pj)), .val (.int (v0_5 pj)), .val (.int (pq &&& (3 : Int32))), .val (.int (v0_6 pq)), .val (.ref b1), .val (.ref b10), .val (.ref b19), .val (.int (v0_30 pq pj)), .val (.int (f4 (v0_6 pq) (w0_29 pq pj))), .unset, .unset] [(.int (v0_33 pq pj))])) _
    refine XS.istore X29.here hx rfl (hb hby at_186) rfl (l' := #[.val (.int pj), .val (.int pq), .val (.int (pj &&& (3 : Int32))), .val (.int (v0_1 pj)), .val (.int (v0_2 pj)), .val (.int (v0_3 pj)), .val (.int (v0_4 pj)), .val (.int (v0_5 pj)), .val (.int (pq &&& (3 : Int32))), .val (.int (v0_6 pq)), .val (.ref b1), .val (.ref b10), .val (.ref b19), .val (.int (v0_30 pq pj)), .val (.int (f4 (v0_6 pq) (w0_29 pq pj))), .val (.int (v0_33 pq pj)), .unset]) rfl ?_
    show Steps p.tables e below (T29.setTop (mkF m 188 #[.val (.int pj), .val (.int pq), .val (.int (pj &&& (3 : Int32))), .val (.int (v0_1 pj)), .val (.int (v0_2 pj)), .val (.int (v0_3 pj)), .val (.int (v0_4 pj)), .val (.int (v0_5 pj)), .val (.int (pq &&& (3 : Int32))), .val (.int (v0_6 pq)), .val (.ref b1), .val (.ref b10), .val (.ref b19), .val (.int (v0_30 pq pj)), .val (.int (f4 (v0_6 pq) (w0_29 pq pj))), .val (.int (v0_33 pq pj)), .unset] [])) _
    refine XS.aload X29.here hx rfl (hb hby at_188) rfl rfl ?_
    show Steps p.tables e below (T29.setTop (mkF m 190 #[.val (.int pj), .val (.int pq), .val (.int (pj &&& (3 : Int32))), .val (.int (v0_1 pj)), .val (.int (v0_2 pj)), .val (.int (v0_3 pj)), .val (.int (v0_4 pj)), .val (.int (v0_5 pj)), .val (.int (pq &&& (3 : Int32))), .val (.int (v0_6 pq)), .val (.ref b1), .val (.ref b10), .val (.ref b19), .val (.int (v0_30 pq pj)), .val (.int (f4 (v0_6 pq) (w0_29 pq pj))), .val (.int (v0_33 pq pj)), .unset] [(.ref b19)])) _
    refine XS.iload X29.here hx rfl (hb hby at_190) rfl ?_
    show Steps p.tables e below (T29.setTop (mkF m 192 #[.val (.int pj), .val (.int pq), .val (.int (pj &&& (3 : Int32))), .val (.int (v0_1 pj)), .val (.int (v0_2 pj)), .val (.int (v0_3 pj)), .val (.int (v0_4 pj)), .val (.int (v0_5 pj)), .val (.int (pq &&& (3 : Int32))), .val (.int (v0_6 pq)), .val (.ref b1), .val (.ref b10), .val (.ref b19), .val (.int (v0_30 pq pj)), .val (.int (f4 (v0_6 pq) (w0_29 pq pj))), .val (.int (v0_33 pq pj)), .unset] [(.int (pq &&& (3 : Int32))), (.ref b19)])) _
    refine st30.trans ?_
    show Steps p.tables e below (T30.setTop (mkF m 195 #[.val (.int pj), .val (.int pq), .val (.int (pj &&& (3 : Int32))), .val (.int (v0_1 pj)), .val (.int (v0_2 pj)), .val (.int (v0_3 pj)), .val (.int (v0_4 pj)), .val (.int (v0_5 pj)), .val (.int (pq &&& (3 : Int32))), .val (.int (v0_6 pq)), .val (.ref b1), .val (.ref b10), .val (.ref b19), .val (.int (v0_30 pq pj)), .val (.int (f4 (v0_6 pq) (w0_29 pq pj))), .val (.int (v0_33 pq pj)), .unset] [(.int (v0_35 pq pj))])) _
    refine XS.istore X30.here hx rfl (hb hby at_195) rfl (l' := #[.val (.int pj), .val (.int pq), .val (.int (pj &&& (3 : Int32))), .val (.int (v0_1 pj)), .val (.int (v0_2 pj)), .val (.int (v0_3 pj)), .val (.int (v0_4 pj)), .val (.int (v0_5 pj)), .val (.int (pq &&& (3 : Int32))), .val (.int (v0_6 pq)), .val (.ref b1), .val (.ref b10), .val (.ref b19), .val (.int (v0_30 pq pj)), .val (.int (f4 (v0_6 pq) (w0_29 pq pj))), .val (.int (v0_33 pq pj)), .val (.int (v0_35 pq pj))]) rfl ?_
    show Steps p.tables e below (T30.setTop (mkF m 197 #[.val (.int pj), .val (.int pq), .val (.int (pj &&& (3 : Int32))), .val (.int (v0_1 pj)), .val (.int (v0_2 pj)), .val (.int (v0_3 pj)), .val (.int (v0_4 pj)), .val (.int (v0_5 pj)), .val (.int (pq &&& (3 : Int32))), .val (.int (v0_6 pq)), .val (.ref b1), .val (.ref b10), .val (.ref b19), .val (.int (v0_30 pq pj)), .val (.int (f4 (v0_6 pq) (w0_29 pq pj))), .val (.int (v0_33 pq pj)), .val (.int (v0_35 pq pj))] [])) _
    refine XS.iload X30.here hx rfl (hb hby at_197) rfl ?_
    show Steps p.tables e below (T30.setTop (mkF m 199 #[.val (.int pj), .val (.int pq), .val (.int (pj &&& (3 : Int32))), .val (.int (v0_1 pj)), .val (.int (v0_2 pj)), .val (.int (v0_3 pj)), .val (.int (v0_4 pj)), .val (.int (v0_5 pj)), .val (.int (pq &&& (3 : Int32))), .val (.int (v0_6 pq)), .val (.ref b1), .val (.ref b10), .val (.ref b19), .val (.int (v0_30 pq pj)), .val (.int (f4 (v0_6 pq) (w0_29 pq pj))), .val (.int (v0_33 pq pj)), .val (.int (v0_35 pq pj))] [(.int (v0_30 pq pj))])) _
    refine XS.aload X30.here hx rfl (hb hby at_199) rfl rfl ?_
    show Steps p.tables e below (T30.setTop (mkF m 201 #[.val (.int pj), .val (.int pq), .val (.int (pj &&& (3 : Int32))), .val (.int (v0_1 pj)), .val (.int (v0_2 pj)), .val (.int (v0_3 pj)), .val (.int (v0_4 pj)), .val (.int (v0_5 pj)), .val (.int (pq &&& (3 : Int32))), .val (.int (v0_6 pq)), .val (.ref b1), .val (.ref b10), .val (.ref b19), .val (.int (v0_30 pq pj)), .val (.int (f4 (v0_6 pq) (w0_29 pq pj))), .val (.int (v0_33 pq pj)), .val (.int (v0_35 pq pj))] [(.ref b1), (.int (v0_30 pq pj))])) _
    refine XS.iload X30.here hx rfl (hb hby at_201) rfl ?_
    show Steps p.tables e below (T30.setTop (mkF m 203 #[.val (.int pj), .val (.int pq), .val (.int (pj &&& (3 : Int32))), .val (.int (v0_1 pj)), .val (.int (v0_2 pj)), .val (.int (v0_3 pj)), .val (.int (v0_4 pj)), .val (.int (v0_5 pj)), .val (.int (pq &&& (3 : Int32))), .val (.int (v0_6 pq)), .val (.ref b1), .val (.ref b10), .val (.ref b19), .val (.int (v0_30 pq pj)), .val (.int (f4 (v0_6 pq) (w0_29 pq pj))), .val (.int (v0_33 pq pj)), .val (.int (v0_35 pq pj))] [(.int (pq &&& (3 : Int32))), (.ref b1), (.int (v0_30 pq pj))])) _
    refine X30.iaload hx (j := (pq &&& (3 : Int32))) (v := (.int (getI (w0_27 pj) (pq &&& (3 : Int32))))) Ar31.1 (State.isArrayOf_alike hZ.alike Ar31.2.1) Ar31.2.2 hin31 hat31 (g := (mkF m 203 #[.val (.int pj), .val (.int pq), .val (.int (pj &&& (3 : Int32))), .val (.int (v0_1 pj)), .val (.int (v0_2 pj)), .val (.int (v0_3 pj)), .val (.int (v0_4 pj)), .val (.int (v0_5 pj)), .val (.int (pq &&& (3 : Int32))), .val (.int (v0_6 pq)), .val (.ref b1), .val (.ref b10), .val (.ref b19), .val (.int (v0_30 pq pj)), .val (.int (f4 (v0_6 pq) (w0_29 pq pj))), .val (.int (v0_33 pq pj)), .val (.int (v0_35 pq pj))] [(.int (pq &&& (3 : Int32))), (.ref b1), (.int (v0_30 pq pj))])) rfl rfl (hb hby at_203) _ ?_
    show Steps p.tables e below (T30.setTop (mkF m 204 #[.val (.int pj), .val (.int pq), .val (.int (pj &&& (3 : Int32))), .val (.int (v0_1 pj)), .val (.int (v0_2 pj)), .val (.int (v0_3 pj)), .val (.int (v0_4 pj)), .val (.int (v0_5 pj)), .val (.int (pq &&& (3 : Int32))), .val (.int (v0_6 pq)), .val (.ref b1), .val (.ref b10), .val (.ref b19), .val (.int (v0_30 pq pj)), .val (.int (f4 (v0_6 pq) (w0_29 pq pj))), .val (.int (v0_33 pq pj)), .val (.int (v0_35 pq pj))] [(.int (v0_36 pj pq)), (.int (v0_30 pq pj))])) _
    exact k)
  by_cases hc204_33 : (v0_30 pq pj) = (v0_36 pj pq)
  · obtain ⟨cl34, Ar34, hin34, hat34⟩ := Ia.get (((((Vq26_0.keep Kq27 (ninS ne_b1_pa nin0)).keep Kq28 (ninS ne_b1_pa nin0)).keep Kq29 (ninS ne_b1_pa nin0)).keep Kq30 (ninS ne_b1_pa nin0))) (j := (v0_6 pq)) (own_mq _)
    have pre35 : ∀ t, Steps p.tables e below (T30.setTop (mkF m 214 #[.val (.int pj), .val (.int pq), .val (.int (pj &&& (3 : Int32))), .val (.int (v0_1 pj)), .val (.int (v0_2 pj)), .val (.int (v0_3 pj)), .val (.int (v0_4 pj)), .val (.int (v0_5 pj)), .val (.int (pq &&& (3 : Int32))), .val (.int (v0_6 pq)), .val (.ref b1), .val (.ref b10), .val (.ref b19), .val (.int (v0_30 pq pj)), .val (.int (f4 (v0_6 pq) (w0_29 pq pj))), .val (.int (v0_33 pq pj)), .val (.int (v0_35 pq pj))] [(.int (getI (w0_27 pj) (v0_6 pq))), (.int (f4 (v0_6 pq) (w0_29 pq pj)))])) t → Steps p.tables e below (s₁.setTop (entryFrame m #[(.int pj), (.int pq)] maxLocals)) t := fun t k => pre32 t (by
      show Steps p.tables e below (T30.setTop (mkF m 204 #[.val (.int pj), .val (.int pq), .val (.int (pj &&& (3 : Int32))), .val (.int (v0_1 pj)), .val (.int (v0_2 pj)), .val (.int (v0_3 pj)), .val (.int (v0_4 pj)), .val (.int (v0_5 pj)), .val (.int (pq &&& (3 : Int32))), .val (.int (v0_6 pq)), .val (.ref b1), .val (.ref b10), .val (.ref b19), .val (.int (v0_30 pq pj)), .val (.int (f4 (v0_6 pq) (w0_29 pq pj))), .val (.int (v0_33 pq pj)), .val (.int (v0_35 pq pj))] [(.int (v0_36 pj pq)), (.int (v0_30 pq pj))])) _
      refine XS.icmpNo X30.here hx rfl (hb hby at_204) rfl (teq hc204_33).2 ?_
      show Steps p.tables e below (T30.setTop (mkF m 207 #[.val (.int pj), .val (.int pq), .val (.int (pj &&& (3 : Int32))), .val (.int (v0_1 pj)), .val (.int (v0_2 pj)), .val (.int (v0_3 pj)), .val (.int (v0_4 pj)), .val (.int (v0_5 pj)), .val (.int (pq &&& (3 : Int32))), .val (.int (v0_6 pq)), .val (.ref b1), .val (.ref b10), .val (.ref b19), .val (.int (v0_30 pq pj)), .val (.int (f4 (v0_6 pq) (w0_29 pq pj))), .val (.int (v0_33 pq pj)), .val (.int (v0_35 pq pj))] [])) _
      refine XS.iload X30.here hx rfl (hb hby at_207) rfl ?_
      show Steps p.tables e below (T30.setTop (mkF m 209 #[.val (.int pj), .val (.int pq), .val (.int (pj &&& (3 : Int32))), .val (.int (v0_1 pj)), .val (.int (v0_2 pj)), .val (.int (v0_3 pj)), .val (.int (v0_4 pj)), .val (.int (v0_5 pj)), .val (.int (pq &&& (3 : Int32))), .val (.int (v0_6 pq)), .val (.ref b1), .val (.ref b10), .val (.ref b19), .val (.int (v0_30 pq pj)), .val (.int (f4 (v0_6 pq) (w0_29 pq pj))), .val (.int (v0_33 pq pj)), .val (.int (v0_35 pq pj))] [(.int (f4 (v0_6 pq) (w0_29 pq pj)))])) _
      refine XS.aload X30.here hx rfl (hb hby at_209) rfl rfl ?_
      show Steps p.tables e below (T30.setTop (mkF m 211 #[.val (.int pj), .val (.int pq), .val (.int (pj &&& (3 : Int32))), .val (.int (v0_1 pj)), .val (.int (v0_2 pj)), .val (.int (v0_3 pj)), .val (.int (v0_4 pj)), .val (.int (v0_5 pj)), .val (.int (pq &&& (3 : Int32))), .val (.int (v0_6 pq)), .val (.ref b1), .val (.ref b10), .val (.ref b19), .val (.int (v0_30 pq pj)), .val (.int (f4 (v0_6 pq) (w0_29 pq pj))), .val (.int (v0_33 pq pj)), .val (.int (v0_35 pq pj))] [(.ref b1), (.int (f4 (v0_6 pq) (w0_29 pq pj)))])) _
      refine XS.iload X30.here hx rfl (hb hby at_211) rfl ?_
      show Steps p.tables e below (T30.setTop (mkF m 213 #[.val (.int pj), .val (.int pq), .val (.int (pj &&& (3 : Int32))), .val (.int (v0_1 pj)), .val (.int (v0_2 pj)), .val (.int (v0_3 pj)), .val (.int (v0_4 pj)), .val (.int (v0_5 pj)), .val (.int (pq &&& (3 : Int32))), .val (.int (v0_6 pq)), .val (.ref b1), .val (.ref b10), .val (.ref b19), .val (.int (v0_30 pq pj)), .val (.int (f4 (v0_6 pq) (w0_29 pq pj))), .val (.int (v0_33 pq pj)), .val (.int (v0_35 pq pj))] [(.int (v0_6 pq)), (.ref b1), (.int (f4 (v0_6 pq) (w0_29 pq pj)))])) _
      refine X30.iaload hx (j := (v0_6 pq)) (v := (.int (getI (w0_27 pj) (v0_6 pq)))) Ar34.1 (State.isArrayOf_alike hZ.alike Ar34.2.1) Ar34.2.2 hin34 hat34 (g := (mkF m 213 #[.val (.int pj), .val (.int pq), .val (.int (pj &&& (3 : Int32))), .val (.int (v0_1 pj)), .val (.int (v0_2 pj)), .val (.int (v0_3 pj)), .val (.int (v0_4 pj)), .val (.int (v0_5 pj)), .val (.int (pq &&& (3 : Int32))), .val (.int (v0_6 pq)), .val (.ref b1), .val (.ref b10), .val (.ref b19), .val (.int (v0_30 pq pj)), .val (.int (f4 (v0_6 pq) (w0_29 pq pj))), .val (.int (v0_33 pq pj)), .val (.int (v0_35 pq pj))] [(.int (v0_6 pq)), (.ref b1), (.int (f4 (v0_6 pq) (w0_29 pq pj)))])) rfl rfl (hb hby at_213) _ ?_
      show Steps p.tables e below (T30.setTop (mkF m 214 #[.val (.int pj), .val (.int pq), .val (.int (pj &&& (3 : Int32))), .val (.int (v0_1 pj)), .val (.int (v0_2 pj)), .val (.int (v0_3 pj)), .val (.int (v0_4 pj)), .val (.int (v0_5 pj)), .val (.int (pq &&& (3 : Int32))), .val (.int (v0_6 pq)), .val (.ref b1), .val (.ref b10), .val (.ref b19), .val (.int (v0_30 pq pj)), .val (.int (f4 (v0_6 pq) (w0_29 pq pj))), .val (.int (v0_33 pq pj)), .val (.int (v0_35 pq pj))] [(.int (getI (w0_27 pj) (v0_6 pq))), (.int (f4 (v0_6 pq) (w0_29 pq pj)))])) _
      exact k)
    by_cases hc214_36 : (f4 (v0_6 pq) (w0_29 pq pj)) = (getI (w0_27 pj) (v0_6 pq))
    · have pre37 : ∀ t, Steps p.tables e below (T30.setTop (mkF m 221 #[.val (.int pj), .val (.int pq), .val (.int (pj &&& (3 : Int32))), .val (.int (v0_1 pj)), .val (.int (v0_2 pj)), .val (.int (v0_3 pj)), .val (.int (v0_4 pj)), .val (.int (v0_5 pj)), .val (.int (pq &&& (3 : Int32))), .val (.int (v0_6 pq)), .val (.ref b1), .val (.ref b10), .val (.ref b19), .val (.int (v0_30 pq pj)), .val (.int (f4 (v0_6 pq) (w0_29 pq pj))), .val (.int (v0_33 pq pj)), .val (.int (v0_35 pq pj))] [(.int (v0_30 pq pj)), (.int (v0_33 pq pj))])) t → Steps p.tables e below (s₁.setTop (entryFrame m #[(.int pj), (.int pq)] maxLocals)) t := fun t k => pre35 t (by
        show Steps p.tables e below (T30.setTop (mkF m 214 #[.val (.int pj), .val (.int pq), .val (.int (pj &&& (3 : Int32))), .val (.int (v0_1 pj)), .val (.int (v0_2 pj)), .val (.int (v0_3 pj)), .val (.int (v0_4 pj)), .val (.int (v0_5 pj)), .val (.int (pq &&& (3 : Int32))), .val (.int (v0_6 pq)), .val (.ref b1), .val (.ref b10), .val (.ref b19), .val (.int (v0_30 pq pj)), .val (.int (f4 (v0_6 pq) (w0_29 pq pj))), .val (.int (v0_33 pq pj)), .val (.int (v0_35 pq pj))] [(.int (getI (w0_27 pj) (v0_6 pq))), (.int (f4 (v0_6 pq) (w0_29 pq pj)))])) _
        refine XS.icmpNo X30.here hx rfl (hb hby at_214) rfl (teq hc214_36).2 ?_
        show Steps p.tables e below (T30.setTop (mkF m 217 #[.val (.int pj), .val (.int pq), .val (.int (pj &&& (3 : Int32))), .val (.int (v0_1 pj)), .val (.int (v0_2 pj)), .val (.int (v0_3 pj)), .val (.int (v0_4 pj)), .val (.int (v0_5 pj)), .val (.int (pq &&& (3 : Int32))), .val (.int (v0_6 pq)), .val (.ref b1), .val (.ref b10), .val (.ref b19), .val (.int (v0_30 pq pj)), .val (.int (f4 (v0_6 pq) (w0_29 pq pj))), .val (.int (v0_33 pq pj)), .val (.int (v0_35 pq pj))] [])) _
        refine XS.iload X30.here hx rfl (hb hby at_217) rfl ?_
        show Steps p.tables e below (T30.setTop (mkF m 219 #[.val (.int pj), .val (.int pq), .val (.int (pj &&& (3 : Int32))), .val (.int (v0_1 pj)), .val (.int (v0_2 pj)), .val (.int (v0_3 pj)), .val (.int (v0_4 pj)), .val (.int (v0_5 pj)), .val (.int (pq &&& (3 : Int32))), .val (.int (v0_6 pq)), .val (.ref b1), .val (.ref b10), .val (.ref b19), .val (.int (v0_30 pq pj)), .val (.int (f4 (v0_6 pq) (w0_29 pq pj))), .val (.int (v0_33 pq pj)), .val (.int (v0_35 pq pj))] [(.int (v0_33 pq pj))])) _
        refine XS.iload X30.here hx rfl (hb hby at_219) rfl ?_
        show Steps p.tables e below (T30.setTop (mkF m 221 #[.val (.int pj), .val (.int pq), .val (.int (pj &&& (3 : Int32))), .val (.int (v0_1 pj)), .val (.int (v0_2 pj)), .val (.int (v0_3 pj)), .val (.int (v0_4 pj)), .val (.int (v0_5 pj)), .val (.int (pq &&& (3 : Int32))), .val (.int (v0_6 pq)), .val (.ref b1), .val (.ref b10), .val (.ref b19), .val (.int (v0_30 pq pj)), .val (.int (f4 (v0_6 pq) (w0_29 pq pj))), .val (.int (v0_33 pq pj)), .val (.int (v0_35 pq pj))] [(.int (v0_30 pq pj)), (.int (v0_33 pq pj))])) _
        exact k)
      by_cases hc221_38 : (v0_33 pq pj) = (v0_30 pq pj)
      · have pre39 : ∀ t, Steps p.tables e below (T30.setTop (mkF m 228 #[.val (.int pj), .val (.int pq), .val (.int (pj &&& (3 : Int32))), .val (.int (v0_1 pj)), .val (.int (v0_2 pj)), .val (.int (v0_3 pj)), .val (.int (v0_4 pj)), .val (.int (v0_5 pj)), .val (.int (pq &&& (3 : Int32))), .val (.int (v0_6 pq)), .val (.ref b1), .val (.ref b10), .val (.ref b19), .val (.int (v0_30 pq pj)), .val (.int (f4 (v0_6 pq) (w0_29 pq pj))), .val (.int (v0_33 pq pj)), .val (.int (v0_35 pq pj))] [(.int (v0_30 pq pj)), (.int (v0_35 pq pj))])) t → Steps p.tables e below (s₁.setTop (entryFrame m #[(.int pj), (.int pq)] maxLocals)) t := fun t k => pre37 t (by
          show Steps p.tables e below (T30.setTop (mkF m 221 #[.val (.int pj), .val (.int pq), .val (.int (pj &&& (3 : Int32))), .val (.int (v0_1 pj)), .val (.int (v0_2 pj)), .val (.int (v0_3 pj)), .val (.int (v0_4 pj)), .val (.int (v0_5 pj)), .val (.int (pq &&& (3 : Int32))), .val (.int (v0_6 pq)), .val (.ref b1), .val (.ref b10), .val (.ref b19), .val (.int (v0_30 pq pj)), .val (.int (f4 (v0_6 pq) (w0_29 pq pj))), .val (.int (v0_33 pq pj)), .val (.int (v0_35 pq pj))] [(.int (v0_30 pq pj)), (.int (v0_33 pq pj))])) _
          refine XS.icmpNo X30.here hx rfl (hb hby at_221) rfl (teq hc221_38).2 ?_
          show Steps p.tables e below (T30.setTop (mkF m 224 #[.val (.int pj), .val (.int pq), .val (.int (pj &&& (3 : Int32))), .val (.int (v0_1 pj)), .val (.int (v0_2 pj)), .val (.int (v0_3 pj)), .val (.int (v0_4 pj)), .val (.int (v0_5 pj)), .val (.int (pq &&& (3 : Int32))), .val (.int (v0_6 pq)), .val (.ref b1), .val (.ref b10), .val (.ref b19), .val (.int (v0_30 pq pj)), .val (.int (f4 (v0_6 pq) (w0_29 pq pj))), .val (.int (v0_33 pq pj)), .val (.int (v0_35 pq pj))] [])) _
          refine XS.iload X30.here hx rfl (hb hby at_224) rfl ?_
          show Steps p.tables e below (T30.setTop (mkF m 226 #[.val (.int pj), .val (.int pq), .val (.int (pj &&& (3 : Int32))), .val (.int (v0_1 pj)), .val (.int (v0_2 pj)), .val (.int (v0_3 pj)), .val (.int (v0_4 pj)), .val (.int (v0_5 pj)), .val (.int (pq &&& (3 : Int32))), .val (.int (v0_6 pq)), .val (.ref b1), .val (.ref b10), .val (.ref b19), .val (.int (v0_30 pq pj)), .val (.int (f4 (v0_6 pq) (w0_29 pq pj))), .val (.int (v0_33 pq pj)), .val (.int (v0_35 pq pj))] [(.int (v0_35 pq pj))])) _
          refine XS.iload X30.here hx rfl (hb hby at_226) rfl ?_
          show Steps p.tables e below (T30.setTop (mkF m 228 #[.val (.int pj), .val (.int pq), .val (.int (pj &&& (3 : Int32))), .val (.int (v0_1 pj)), .val (.int (v0_2 pj)), .val (.int (v0_3 pj)), .val (.int (v0_4 pj)), .val (.int (v0_5 pj)), .val (.int (pq &&& (3 : Int32))), .val (.int (v0_6 pq)), .val (.ref b1), .val (.ref b10), .val (.ref b19), .val (.int (v0_30 pq pj)), .val (.int (f4 (v0_6 pq) (w0_29 pq pj))), .val (.int (v0_33 pq pj)), .val (.int (v0_35 pq pj))] [(.int (v0_30 pq pj)), (.int (v0_35 pq pj))])) _
          exact k)
        by_cases hc228_40 : (v0_35 pq pj) = (v0_30 pq pj)
        · have hv : (f0 pj pq) = (1 : Int32) := by simp only [f0, if_pos hc204_33, if_pos hc214_36, if_pos hc221_38, if_pos hc228_40]
          obtain ⟨fs, hr, hrun, hended, hW, hsame⟩ := X30.leave (v := some (.int (1 : Int32))) (fun h => nomatch (Bd.returns.symm.trans h)) hlk
          refine ⟨_, _, pre39 _ ?_, hrun, hended, _, _, rfl, ?_, ⟨_, rfl⟩, hW, hsame.mono (by decide) (by decide)⟩
          · show Steps p.tables e below (T30.setTop (mkF m 228 #[.val (.int pj), .val (.int pq), .val (.int (pj &&& (3 : Int32))), .val (.int (v0_1 pj)), .val (.int (v0_2 pj)), .val (.int (v0_3 pj)), .val (.int (v0_4 pj)), .val (.int (v0_5 pj)), .val (.int (pq &&& (3 : Int32))), .val (.int (v0_6 pq)), .val (.ref b1), .val (.ref b10), .val (.ref b19), .val (.int (v0_30 pq pj)), .val (.int (f4 (v0_6 pq) (w0_29 pq pj))), .val (.int (v0_33 pq pj)), .val (.int (v0_35 pq pj))] [(.int (v0_30 pq pj)), (.int (v0_35 pq pj))])) _
            refine XS.icmpNo X30.here hx rfl (hb hby at_228) rfl (teq hc228_40).2 ?_
            show Steps p.tables e below (T30.setTop (mkF m 231 #[.val (.int pj), .val (.int pq), .val (.int (pj &&& (3 : Int32))), .val (.int (v0_1 pj)), .val (.int (v0_2 pj)), .val (.int (v0_3 pj)), .val (.int (v0_4 pj)), .val (.int (v0_5 pj)), .val (.int (pq &&& (3 : Int32))), .val (.int (v0_6 pq)), .val (.ref b1), .val (.ref b10), .val (.ref b19), .val (.int (v0_30 pq pj)), .val (.int (f4 (v0_6 pq) (w0_29 pq pj))), .val (.int (v0_33 pq pj)), .val (.int (v0_35 pq pj))] [])) _
            refine XS.iconst X30.here hx rfl (hb hby at_231) ?_
            show Steps p.tables e below (T30.setTop (mkF m 232 #[.val (.int pj), .val (.int pq), .val (.int (pj &&& (3 : Int32))), .val (.int (v0_1 pj)), .val (.int (v0_2 pj)), .val (.int (v0_3 pj)), .val (.int (v0_4 pj)), .val (.int (v0_5 pj)), .val (.int (pq &&& (3 : Int32))), .val (.int (v0_6 pq)), .val (.ref b1), .val (.ref b10), .val (.ref b19), .val (.int (v0_30 pq pj)), .val (.int (f4 (v0_6 pq) (w0_29 pq pj))), .val (.int (v0_33 pq pj)), .val (.int (v0_35 pq pj))] [(.int (1 : Int32))])) _
            refine XS.goto X30.here hx rfl (pc0 := 232) (pc' := 236) rfl (hb hby at_232) (by decide) (by decide) ?_
            show Steps p.tables e below (T30.setTop (mkF m 236 #[.val (.int pj), .val (.int pq), .val (.int (pj &&& (3 : Int32))), .val (.int (v0_1 pj)), .val (.int (v0_2 pj)), .val (.int (v0_3 pj)), .val (.int (v0_4 pj)), .val (.int (v0_5 pj)), .val (.int (pq &&& (3 : Int32))), .val (.int (v0_6 pq)), .val (.ref b1), .val (.ref b10), .val (.ref b19), .val (.int (v0_30 pq pj)), .val (.int (f4 (v0_6 pq) (w0_29 pq pj))), .val (.int (v0_33 pq pj)), .val (.int (v0_35 pq pj))] [(.int (1 : Int32))])) _
            exact retN X30 hx (t := .boolean) Bd.returns (by simp) (hb hby at_236) hr
          · show Q0 Z pj pq h0 n0 _ T30.heap _
            exact ⟨by rw [hv], N30⟩
        · have hv : (f0 pj pq) = (0 : Int32) := by simp only [f0, if_pos hc204_33, if_pos hc214_36, if_pos hc221_38, if_neg hc228_40]
          obtain ⟨fs, hr, hrun, hended, hW, hsame⟩ := X30.leave (v := some (.int (0 : Int32))) (fun h => nomatch (Bd.returns.symm.trans h)) hlk
          refine ⟨_, _, pre39 _ ?_, hrun, hended, _, _, rfl, ?_, ⟨_, rfl⟩, hW, hsame.mono (by decide) (by decide)⟩
          · show Steps p.tables e below (T30.setTop (mkF m 228 #[.val (.int pj), .val (.int pq), .val (.int (pj &&& (3 : Int32))), .val (.int (v0_1 pj)), .val (.int (v0_2 pj)), .val (.int (v0_3 pj)), .val (.int (v0_4 pj)), .val (.int (v0_5 pj)), .val (.int (pq &&& (3 : Int32))), .val (.int (v0_6 pq)), .val (.ref b1), .val (.ref b10), .val (.ref b19), .val (.int (v0_30 pq pj)), .val (.int (f4 (v0_6 pq) (w0_29 pq pj))), .val (.int (v0_33 pq pj)), .val (.int (v0_35 pq pj))] [(.int (v0_30 pq pj)), (.int (v0_35 pq pj))])) _
            refine XS.icmpYes X30.here hx rfl (pc0 := 228) (pc' := 235) rfl (hb hby at_228) rfl (feq hc228_40).2 (by decide) (by decide) ?_
            show Steps p.tables e below (T30.setTop (mkF m 235 #[.val (.int pj), .val (.int pq), .val (.int (pj &&& (3 : Int32))), .val (.int (v0_1 pj)), .val (.int (v0_2 pj)), .val (.int (v0_3 pj)), .val (.int (v0_4 pj)), .val (.int (v0_5 pj)), .val (.int (pq &&& (3 : Int32))), .val (.int (v0_6 pq)), .val (.ref b1), .val (.ref b10), .val (.ref b19), .val (.int (v0_30 pq pj)), .val (.int (f4 (v0_6 pq) (w0_29 pq pj))), .val (.int (v0_33 pq pj)), .val (.int (v0_35 pq pj))] [])) _
            refine XS.iconst X30.here hx rfl (hb hby at_235) ?_
            show Steps p.tables e below (T30.setTop (mkF m 236 #[.val (.int pj), .val (.int pq), .val (.int (pj &&& (3 : Int32))), .val (.int (v0_1 pj)), .val (.int (v0_2 pj)), .val (.int (v0_3 pj)), .val (.int (v0_4 pj)), .val (.int (v0_5 pj)), .val (.int (pq &&& (3 : Int32))), .val (.int (v0_6 pq)), .val (.ref b1), .val (.ref b10), .val (.ref b19), .val (.int (v0_30 pq pj)), .val (.int (f4 (v0_6 pq) (w0_29 pq pj))), .val (.int (v0_33 pq pj)), .val (.int (v0_35 pq pj))] [(.int (0 : Int32))])) _
            exact retN X30 hx (t := .boolean) Bd.returns (by simp) (hb hby at_236) hr
          · show Q0 Z pj pq h0 n0 _ T30.heap _
            exact ⟨by rw [hv], N30⟩
      · have hv : (f0 pj pq) = (0 : Int32) := by simp only [f0, if_pos hc204_33, if_pos hc214_36, if_neg hc221_38]
        obtain ⟨fs, hr, hrun, hended, hW, hsame⟩ := X30.leave (v := some (.int (0 : Int32))) (fun h => nomatch (Bd.returns.symm.trans h)) hlk
        refine ⟨_, _, pre37 _ ?_, hrun, hended, _, _, rfl, ?_, ⟨_, rfl⟩, hW, hsame.mono (by decide) (by decide)⟩
        · show Steps p.tables e below (T30.setTop (mkF m 221 #[.val (.int pj), .val (.int pq), .val (.int (pj &&& (3 : Int32))), .val (.int (v0_1 pj)), .val (.int (v0_2 pj)), .val (.int (v0_3 pj)), .val (.int (v0_4 pj)), .val (.int (v0_5 pj)), .val (.int (pq &&& (3 : Int32))), .val (.int (v0_6 pq)), .val (.ref b1), .val (.ref b10), .val (.ref b19), .val (.int (v0_30 pq pj)), .val (.int (f4 (v0_6 pq) (w0_29 pq pj))), .val (.int (v0_33 pq pj)), .val (.int (v0_35 pq pj))] [(.int (v0_30 pq pj)), (.int (v0_33 pq pj))])) _
          refine XS.icmpYes X30.here hx rfl (pc0 := 221) (pc' := 235) rfl (hb hby at_221) rfl (feq hc221_38).2 (by decide) (by decide) ?_
          show Steps p.tables e below (T30.setTop (mkF m 235 #[.val (.int pj), .val (.int pq), .val (.int (pj &&& (3 : Int32))), .val (.int (v0_1 pj)), .val (.int (v0_2 pj)), .val (.int (v0_3 pj)), .val (.int (v0_4 pj)), .val (.int (v0_5 pj)), .val (.int (pq &&& (3 : Int32))), .val (.int (v0_6 pq)), .val (.ref b1), .val (.ref b10), .val (.ref b19), .val (.int (v0_30 pq pj)), .val (.int (f4 (v0_6 pq) (w0_29 pq pj))), .val (.int (v0_33 pq pj)), .val (.int (v0_35 pq pj))] [])) _
          refine XS.iconst X30.here hx rfl (hb hby at_235) ?_
          show Steps p.tables e below (T30.setTop (mkF m 236 #[.val (.int pj), .val (.int pq), .val (.int (pj &&& (3 : Int32))), .val (.int (v0_1 pj)), .val (.int (v0_2 pj)), .val (.int (v0_3 pj)), .val (.int (v0_4 pj)), .val (.int (v0_5 pj)), .val (.int (pq &&& (3 : Int32))), .val (.int (v0_6 pq)), .val (.ref b1), .val (.ref b10), .val (.ref b19), .val (.int (v0_30 pq pj)), .val (.int (f4 (v0_6 pq) (w0_29 pq pj))), .val (.int (v0_33 pq pj)), .val (.int (v0_35 pq pj))] [(.int (0 : Int32))])) _
          exact retN X30 hx (t := .boolean) Bd.returns (by simp) (hb hby at_236) hr
        · show Q0 Z pj pq h0 n0 _ T30.heap _
          exact ⟨by rw [hv], N30⟩
    · have hv : (f0 pj pq) = (0 : Int32) := by simp only [f0, if_pos hc204_33, if_neg hc214_36]
      obtain ⟨fs, hr, hrun, hended, hW, hsame⟩ := X30.leave (v := some (.int (0 : Int32))) (fun h => nomatch (Bd.returns.symm.trans h)) hlk
      refine ⟨_, _, pre35 _ ?_, hrun, hended, _, _, rfl, ?_, ⟨_, rfl⟩, hW, hsame.mono (by decide) (by decide)⟩
      · show Steps p.tables e below (T30.setTop (mkF m 214 #[.val (.int pj), .val (.int pq), .val (.int (pj &&& (3 : Int32))), .val (.int (v0_1 pj)), .val (.int (v0_2 pj)), .val (.int (v0_3 pj)), .val (.int (v0_4 pj)), .val (.int (v0_5 pj)), .val (.int (pq &&& (3 : Int32))), .val (.int (v0_6 pq)), .val (.ref b1), .val (.ref b10), .val (.ref b19), .val (.int (v0_30 pq pj)), .val (.int (f4 (v0_6 pq) (w0_29 pq pj))), .val (.int (v0_33 pq pj)), .val (.int (v0_35 pq pj))] [(.int (getI (w0_27 pj) (v0_6 pq))), (.int (f4 (v0_6 pq) (w0_29 pq pj)))])) _
        refine XS.icmpYes X30.here hx rfl (pc0 := 214) (pc' := 235) rfl (hb hby at_214) rfl (feq hc214_36).2 (by decide) (by decide) ?_
        show Steps p.tables e below (T30.setTop (mkF m 235 #[.val (.int pj), .val (.int pq), .val (.int (pj &&& (3 : Int32))), .val (.int (v0_1 pj)), .val (.int (v0_2 pj)), .val (.int (v0_3 pj)), .val (.int (v0_4 pj)), .val (.int (v0_5 pj)), .val (.int (pq &&& (3 : Int32))), .val (.int (v0_6 pq)), .val (.ref b1), .val (.ref b10), .val (.ref b19), .val (.int (v0_30 pq pj)), .val (.int (f4 (v0_6 pq) (w0_29 pq pj))), .val (.int (v0_33 pq pj)), .val (.int (v0_35 pq pj))] [])) _
        refine XS.iconst X30.here hx rfl (hb hby at_235) ?_
        show Steps p.tables e below (T30.setTop (mkF m 236 #[.val (.int pj), .val (.int pq), .val (.int (pj &&& (3 : Int32))), .val (.int (v0_1 pj)), .val (.int (v0_2 pj)), .val (.int (v0_3 pj)), .val (.int (v0_4 pj)), .val (.int (v0_5 pj)), .val (.int (pq &&& (3 : Int32))), .val (.int (v0_6 pq)), .val (.ref b1), .val (.ref b10), .val (.ref b19), .val (.int (v0_30 pq pj)), .val (.int (f4 (v0_6 pq) (w0_29 pq pj))), .val (.int (v0_33 pq pj)), .val (.int (v0_35 pq pj))] [(.int (0 : Int32))])) _
        exact retN X30 hx (t := .boolean) Bd.returns (by simp) (hb hby at_236) hr
      · show Q0 Z pj pq h0 n0 _ T30.heap _
        exact ⟨by rw [hv], N30⟩
  · have hv : (f0 pj pq) = (0 : Int32) := by simp only [f0, if_neg hc204_33]
    obtain ⟨fs, hr, hrun, hended, hW, hsame⟩ := X30.leave (v := some (.int (0 : Int32))) (fun h => nomatch (Bd.returns.symm.trans h)) hlk
    refine ⟨_, _, pre32 _ ?_, hrun, hended, _, _, rfl, ?_, ⟨_, rfl⟩, hW, hsame.mono (by decide) (by decide)⟩
    · show Steps p.tables e below (T30.setTop (mkF m 204 #[.val (.int pj), .val (.int pq), .val (.int (pj &&& (3 : Int32))), .val (.int (v0_1 pj)), .val (.int (v0_2 pj)), .val (.int (v0_3 pj)), .val (.int (v0_4 pj)), .val (.int (v0_5 pj)), .val (.int (pq &&& (3 : Int32))), .val (.int (v0_6 pq)), .val (.ref b1), .val (.ref b10), .val (.ref b19), .val (.int (v0_30 pq pj)), .val (.int (f4 (v0_6 pq) (w0_29 pq pj))), .val (.int (v0_33 pq pj)), .val (.int (v0_35 pq pj))] [(.int (v0_36 pj pq)), (.int (v0_30 pq pj))])) _
      refine XS.icmpYes X30.here hx rfl (pc0 := 204) (pc' := 235) rfl (hb hby at_204) rfl (feq hc204_33).2 (by decide) (by decide) ?_
      show Steps p.tables e below (T30.setTop (mkF m 235 #[.val (.int pj), .val (.int pq), .val (.int (pj &&& (3 : Int32))), .val (.int (v0_1 pj)), .val (.int (v0_2 pj)), .val (.int (v0_3 pj)), .val (.int (v0_4 pj)), .val (.int (v0_5 pj)), .val (.int (pq &&& (3 : Int32))), .val (.int (v0_6 pq)), .val (.ref b1), .val (.ref b10), .val (.ref b19), .val (.int (v0_30 pq pj)), .val (.int (f4 (v0_6 pq) (w0_29 pq pj))), .val (.int (v0_33 pq pj)), .val (.int (v0_35 pq pj))] [])) _
      refine XS.iconst X30.here hx rfl (hb hby at_235) ?_
      show Steps p.tables e below (T30.setTop (mkF m 236 #[.val (.int pj), .val (.int pq), .val (.int (pj &&& (3 : Int32))), .val (.int (v0_1 pj)), .val (.int (v0_2 pj)), .val (.int (v0_3 pj)), .val (.int (v0_4 pj)), .val (.int (v0_5 pj)), .val (.int (pq &&& (3 : Int32))), .val (.int (v0_6 pq)), .val (.ref b1), .val (.ref b10), .val (.ref b19), .val (.int (v0_30 pq pj)), .val (.int (f4 (v0_6 pq) (w0_29 pq pj))), .val (.int (v0_33 pq pj)), .val (.int (v0_35 pq pj))] [(.int (0 : Int32))])) _
      exact retN X30 hx (t := .boolean) Bd.returns (by simp) (hb hby at_236) hr
    · show Q0 Z pj pq h0 n0 _ T30.heap _
      exact ⟨by rw [hv], N30⟩

theorem law_true (pj pq : Int32) : f0 pj pq = 1 := by
  have h := (own_a4 pj pq).2.2.2.2
  have e1 : v0_30 pq pj = v0_36 pj pq := h.1
  have e2 : f4 (v0_6 pq) (w0_29 pq pj) = getI (w0_27 pj) (v0_6 pq) := h.2.1
  have e3 : v0_33 pq pj = v0_30 pq pj := h.2.2.1
  have e4 : v0_35 pq pj = v0_30 pq pj := h.2.2.2
  unfold f0
  rw [if_pos e1, if_pos e2, if_pos e3, if_pos e4]

set_option maxRecDepth 65536 in
set_option maxHeartbeats 40000000 in
theorem comes_1 {Post : Tables → Env → Array Value → State → Outcome → State → Prop} (hpost : ∀ tb e args s v u, (limb_1_1.after args s (.returned v) u = true ∧ limb_1_2.after args s (.returned v) u = true ∧ True) → FrameEnd s (.returned v) u (Jvm.fieldLocs frame_1_writes args s ++ Jvm.arrayLocs frame_1_arrays args s ++ Jvm.staticLocs frame_1_statics s) 24 128 → Post tb e args s (.returned v) u) :
    ArmFor flags0 classFile x code maxLocals ret World_1 tables_1 room_1 Calls_1 rest_1 Pre_1 Post := by
  intro l hfl _ _ p e ha hc hk s m args below hf hA hF happ hP
  obtain ⟨hcalls, hrest, hpre⟩ := hP
  obtain ⟨-, -, -, hnamed, -, -, -, hat⟩ := (Spec.applies_iff hf).mp happ
  obtain ⟨hg, hn⟩ := and_e (Cond.before_iff.mp (show (Jvm.Cond.and given_1 narrow_1).before args s = true from hpre))
  obtain ⟨g1, g2⟩ := and_e hg
  obtain ⟨g3, g4⟩ := and_e g2
  obtain ⟨w0, w1, rfl⟩ : ∃ w0 w1 : Value, args = #[w0, w1] := by
    have hs : args.size = 2 := by simpa [Cond.value, given_1] using g1
    obtain ⟨L⟩ := args
    match L, hs with
    | [w0, w1], _ => exact ⟨w0, w1, rfl⟩
  have hw := fun d (hd : d ∈ tables_1) => atoms_spec (ws := Jvm.Cond.code x code maxLocals ret :: tables_1) hat d (List.mem_cons_of_mem _ hd)
  obtain ⟨i0, ei0⟩ := is_v g3
  obtain rfl : w0 = (.int i0) := Option.some.inj ei0
  obtain ⟨i1, ei1⟩ := is_v g4
  obtain rfl : w1 = (.int i1) := Option.some.inj ei1
  obtain ⟨n, o, h1, h2, h3, _, L, rfl, ⟨rfl, N⟩, hq⟩ := rm0 l s _ hw tables_1 i0 i1 s.heap s.heap.size (Nat.le_refl _) p e ha hc hk s m _ below hf ((Spec.applies_iff_loose hf).mp happ).1 ⟨rfl, State.Warmed39.refl s, rfl⟩ trivial
  refine ⟨n, _, h1, h2, h3, hpost _ _ _ _ _ _ ⟨Cond.after_iff.mpr rfl, Cond.after_iff.mpr (eq_i res_at (Term.int_eval (1)) (congrArg Value.int (law_true i0 i1))), trivial⟩ ⟨hq.1, hq.2.1, (hq.2.2.sift fun y hy => Or.inr (N y hy)).mono (by decide) (by decide)⟩⟩
theorem main_1_1 : Claimed_1_1 := comes_1 fun _ _ _ _ _ _ h hF => ⟨h.1, hF⟩
theorem main_1_2 : Claimed_1_2 := comes_1 fun _ _ _ _ _ _ h hF => ⟨h.2.1, hF⟩
end Jvm.Pilot.@@N@@
namespace Jvm.Pilot.@@N@@
open Jvm Jvm.ClassFile Sem Op Lib Jvm.Free Jvm.Stand Jvm.Pilot.@@N@@.Jvm.D
/-! MADE BY PROGRAM (witnessworld.py) out of the Statement's table words and the real class files: 9 classes; the members and pool entries that the words name. The judged class is class 1, her method 1. -/
namespace start1
open Jvm.ClassFile
def u (s : String) : CpInfo := .utf8 (stringToUtf16 s)
/-- a pool by its gaps: so many unusable entries, then the entry; so many at the end -/
def gap : Nat → List CpInfo → List CpInfo
  | 0, r => r
  | n + 1, r => .unusable :: gap n r
def poolList (es : List (Nat × CpInfo)) (last : Nat) : List CpInfo := es.foldr (fun e r => gap e.1 (e.2 :: r)) (gap last [])
def pool (es : List (Nat × CpInfo)) (last : Nat) : Array CpInfo := ⟨poolList es last⟩
def fileOf (pool : Array CpInfo) (this : Nat) (attrs : Array Attribute := #[]) (ms : Array MethodInfo := #[]) (fl : Nat := 33) (sup : Nat := 0) (ifs : Array Nat := #[]) (fds : Array FieldInfo := #[]) : ClassFile where
  minorVersion := 0
  majorVersion := 65
  constantPool := pool
  accessFlags := fl
  thisClass := this
  superClass := sup
  interfaces := ifs
  fields := fds
  methods := ms
  attributes := attrs
def plain (name : String) (sup : Option ClassId) : Class where
  name := name
  kind := .ordinary
  loader := none
  accessFlags := 33
  super := sup
  interfaces := #[]
  cf := none
  fields := #[]
  methods := #[]
  instanceTypes := #[]
  staticTypes := #[]
  resolved := #[]
  callSites := []
  init := .initialized
  statics := none
  mirror := none

def pool0 : Array CpInfo := pool [(5, u "<init>"), (0, u "()V"), (1, .class_ 10), (1, u "java/lang/Object")] 113

def k0c0 : Code := { maxStack := 0, maxLocals := 1, code := object_method_1_code, exceptionTable := #[], attributes := #[] }
def k0m0 : Method := { name := "<init>", desc := "()V", sig := { parameters := [], returnType := none }, accessFlags := 1, code := some k0c0 }
/-- java/lang/Object -/
def k0 : Class := { plain "java/lang/Object" none with
  accessFlags := 33
  interfaces := #[]
  cf := some (fileOf pool0 8 #[] #[{ accessFlags := 1, nameIndex := 5, descriptorIndex := 6, attributes := #[] }] 33 0 #[] #[])
  fields := #[]
  methods := #[k0m0]
  instanceTypes := #[]
  staticTypes := #[]
  resolved := Array.replicate 124 none
  statics := none }

def pool1 : Array CpInfo := pool [(2, .class_ 4), (1, u "java/lang/Object"), (0, u "<init>"), (0, u "()V"), (0, .class_ 8), (0, u "com/example/shingle/shingle/Joined"), (0, .methodref 7 10), (0, .nameAndType 5 11), (0, u "(I)V"), (0, .methodref 7 13), (0, .nameAndType 14 15), (0, u "join"), (0, u "(II)V"), (0, .methodref 17 18), (0, .class_ 19), (0, .nameAndType 20 21), (0, u "com/example/shingle/shingle/JoinedRootPinLaw"), (0, u "refJoin"), (0, u "([I[III)V"), (0, .methodref 7 23), (0, .nameAndType 24 25), (0, u "root"), (0, u "(I)I"), (2, u "law"), (0, u "(II)Z")] 5

def k1m0 : Method := { name := "<init>", desc := "()V", sig := { parameters := [], returnType := none }, accessFlags := 1, code := none }
def k1c1 : Code := { maxStack := 4, maxLocals := 17, code := code, exceptionTable := #[], attributes := #[] }
def k1m1 : Method := { name := "law", desc := "(II)Z", sig := { parameters := [.int, .int], returnType := some .boolean }, accessFlags := 9, code := some k1c1 }
def k1c2 : Code := { maxStack := 5, maxLocals := 7, code := method_3_code, exceptionTable := #[], attributes := #[] }
def k1m2 : Method := { name := "refJoin", desc := "([I[III)V", sig := { parameters := [(.array .int), (.array .int), .int, .int], returnType := none }, accessFlags := 10, code := some k1c2 }
/-- com/example/shingle/shingle/JoinedRootPinLaw -/
def k1 : Class := { plain "com/example/shingle/shingle/JoinedRootPinLaw" (some 0) with
  accessFlags := 49
  interfaces := #[]
  cf := some (fileOf pool1 17 #[] #[{ accessFlags := 1, nameIndex := 5, descriptorIndex := 6, attributes := #[] }, { accessFlags := 9, nameIndex := 28, descriptorIndex := 29, attributes := #[] }, { accessFlags := 10, nameIndex := 20, descriptorIndex := 21, attributes := #[] }] 49 2 #[] #[])
  fields := #[]
  methods := #[k1m0, k1m1, k1m2]
  instanceTypes := #[]
  staticTypes := #[]
  resolved := Array.replicate 35 none
  statics := none }

def pool2 : Array CpInfo := pool [(1, .methodref 2 3), (0, .class_ 4), (0, .nameAndType 5 6), (0, u "java/lang/Object"), (0, u "<init>"), (0, u "()V"), (0, .fieldref 8 9), (0, .class_ 10), (0, .nameAndType 11 12), (0, u "com/example/shingle/shingle/Joined"), (0, u "parent"), (0, u "[I"), (0, .fieldref 8 14), (0, .nameAndType 15 12), (0, u "size"), (0, .methodref 8 17), (0, .nameAndType 18 19), (0, u "root"), (0, u "(I)I"), (0, u "(I)V"), (3, u "join"), (0, u "(II)V")] 2

def k2c0 : Code := { maxStack := 3, maxLocals := 3, code := prog_24_method_1_code, exceptionTable := #[], attributes := #[] }
def k2m0 : Method := { name := "<init>", desc := "(I)V", sig := { parameters := [.int], returnType := none }, accessFlags := 0, code := some k2c0 }
def k2c1 : Code := { maxStack := 5, maxLocals := 3, code := prog_24_method_2_code, exceptionTable := #[], attributes := #[] }
def k2m1 : Method := { name := "root", desc := "(I)I", sig := { parameters := [.int], returnType := some .int }, accessFlags := 0, code := some k2c1 }
def k2c2 : Code := { maxStack := 5, maxLocals := 6, code := prog_24_method_3_code, exceptionTable := #[], attributes := #[] }
def k2m2 : Method := { name := "join", desc := "(II)V", sig := { parameters := [.int, .int], returnType := none }, accessFlags := 0, code := some k2c2 }
/-- com/example/shingle/shingle/Joined -/
def k2 : Class := { plain "com/example/shingle/shingle/Joined" (some 0) with
  accessFlags := 48
  interfaces := #[]
  cf := some (fileOf pool2 8 #[] #[{ accessFlags := 0, nameIndex := 5, descriptorIndex := 20, attributes := #[] }, { accessFlags := 0, nameIndex := 18, descriptorIndex := 19, attributes := #[] }, { accessFlags := 0, nameIndex := 24, descriptorIndex := 25, attributes := #[] }] 48 2 #[] #[{ accessFlags := 18, nameIndex := 11, descriptorIndex := 12, attributes := #[] }, { accessFlags := 18, nameIndex := 15, descriptorIndex := 12, attributes := #[] }])
  fields := #[{ name := "parent", type := (.array .int), accessFlags := 18, slot := 0, constantValue := 0 }, { name := "size", type := (.array .int), accessFlags := 18, slot := 1, constantValue := 0 }]
  methods := #[k2m0, k2m1, k2m2]
  instanceTypes := #[(.array .int), (.array .int)]
  staticTypes := #[]
  resolved := Array.replicate 28 none
  statics := none }

def pool3 : Array CpInfo := pool [(1, u "java/lang/Cloneable"), (0, .class_ 1), (0, u "java/lang/Object"), (0, .class_ 3)] 3

/-- java/lang/Cloneable -/
def k3 : Class := { plain "java/lang/Cloneable" (some 0) with
  accessFlags := 1537
  interfaces := #[]
  cf := some (fileOf pool3 2 #[] #[] 1537 4 #[] #[])
  fields := #[]
  methods := #[]
  instanceTypes := #[]
  staticTypes := #[]
  resolved := Array.replicate 8 none
  statics := none }

def pool4 : Array CpInfo := pool [(1, u "java/io/Serializable"), (0, .class_ 1), (0, u "java/lang/Object"), (0, .class_ 3)] 3

/-- java/io/Serializable -/
def k4 : Class := { plain "java/io/Serializable" (some 0) with
  accessFlags := 1537
  interfaces := #[]
  cf := some (fileOf pool4 2 #[] #[] 1537 4 #[] #[])
  fields := #[]
  methods := #[]
  instanceTypes := #[]
  staticTypes := #[]
  resolved := Array.replicate 8 none
  statics := none }

/-- the primitive byte -/
def k5 : Class := { plain "byte" none with kind := .primitive 'B', accessFlags := 0x411 }
/-- [B -/
def k6 : Class := { plain "[B" (some 0) with kind := .array 5 .byte, interfaces := #[3, 4], accessFlags := 1041 }

/-- the primitive int -/
def k7 : Class := { plain "int" none with kind := .primitive 'I', accessFlags := 0x411 }
/-- [I -/
def k8 : Class := { plain "[I" (some 0) with kind := .array 7 .int, interfaces := #[3, 4], accessFlags := 1041 }

def heap : Heap := #[]
def classes : Array Class := #[k0, k1, k2, k3, k4, k5, k6, k7, k8]
def interned : List (Array UInt16 × Addr) := []
def slotsUsed : Nat := 0
def theMethod : MethodId := ⟨1, 1⟩
def args0 : Array Value := #[.int 5, .int 7]
def aboutOver (below : List Frame) : State where
  vm := { classes := classes, interned := interned.toArray }
  heap := heap
  slotsUsed := slotsUsed
  threads := #[{ frames := .invoking theMethod args0 :: below }]
def below0 : List Frame := [.native { method := ⟨0, 0⟩, args := #[] }]
def about1 : State := aboutOver below0
def p0 : Program := .bare "" "" ""
def e0 : Env := launch0.env 0 0 0
theorem w_frames : about1.frames = Frame.invoking theMethod args0 :: below0 := rfl
set_option maxRecDepth 65536 in
theorem w_args : argsFit about1.vm theMethod args0 = true := by decide +kernel
set_option maxRecDepth 65536 in
theorem w_heap : heapFits about1 = true := by decide +kernel
set_option maxRecDepth 65536 in
theorem w_runnable : about1.curStatus? = some .runnable := by decide +kernel
set_option maxRecDepth 65536 in
theorem w_alone : about1.alone = true := by decide +kernel
set_option maxRecDepth 65536 in
theorem w_named : about1.methodNamed? x = some theMethod := by decide +kernel
set_option maxRecDepth 65536 in
theorem w_hears : about1.hears theMethod below0 = true := by decide +kernel
set_option maxRecDepth 65536 in
theorem w_ripe : about1.ripe theMethod args0 below0 = true := by decide +kernel
theorem w_running : about1.status = .running := rfl
set_option maxRecDepth 65536 in
theorem w_room : about1.hasRoom e0.platform room_1 = true :=
  launch0.hasRoom_least _ room_1 (by decide +kernel) (by decide +kernel) (by decide +kernel) (by decide +kernel) (by decide +kernel) (by decide +kernel)
theorem allAtoms_all (ts : List Jvm.Cond) (a : Array Jvm.Value) (st : Jvm.State) : (allAtoms ts).before a st = ts.all (fun c => c.before a st) := by
  induction ts with
  | nil => rfl
  | cons c t ih =>
    show (Jvm.Cond.and c (allAtoms t)).before a st = _
    rw [Jvm.Cond.before_and, ih, List.all_cons]
def words1 : List Jvm.Cond := Jvm.Cond.code x code maxLocals ret :: tables_1
/-- a 'code' word, met by the world's own term for the bytes: nothing is compared byte by byte -/
theorem code_word {y : MethodName} {bytes : ByteArray} {mx : Nat} {rt : Option FieldType} {a : Array Value} {s : State} {m : MethodId} {meth : Method} {c : Code} (h1 : s.methodNamed? y = some m) (h2 : s.vm.method? m = some meth) (h3 : meth.code = some c) (h4 : c.code = bytes)
    (h5 : (c.maxLocals == mx && c.exceptionTable.isEmpty && decide (c.maxStack ≤ mostOperands) && decide (meth.sig.returnType = rt) && !meth.locks && decide (parseMethodDescriptor y.desc = some meth.sig)) = true) : (Jvm.Cond.code y bytes mx rt).before a s = true := by
  simp only [Bool.and_eq_true, beq_iff_eq, Bool.not_eq_true', decide_eq_true_eq] at h5
  obtain ⟨⟨⟨⟨⟨g1, g2⟩, g3⟩, g4⟩, g5⟩, g6⟩ := h5
  simp [Cond.before, Cond.holds, Cond.value, h1, h2, h3, h4, g1, g2, g3, g4, g5, g6]
def isCode : Jvm.Cond → Bool
  | .code _ _ _ _ => true
  | _ => false
theorem all_split {L : List Jvm.Cond} {P : Jvm.Cond → Bool} (h1 : L.all (fun c => isCode c || P c) = true) (h2 : ∀ c ∈ L.filter isCode, P c = true) : L.all P = true := by
  refine List.all_eq_true.mpr fun c hc => ?_
  have h := List.all_eq_true.mp h1 c hc
  rcases Bool.eq_false_or_eq_true (isCode c) with hi | hi
  · exact h2 c (List.mem_filter.mpr ⟨hc, hi⟩)
  · simpa [hi] using h
set_option maxRecDepth 65536 in
theorem w_c0 : (Jvm.Cond.code x code maxLocals ret).before args0 about1 = true := code_word (m := ⟨1, 1⟩) (meth := k1m1) (c := k1c1) (by decide +kernel) rfl rfl rfl (by decide +kernel)
set_option maxRecDepth 65536 in
theorem w_c1 : (Jvm.Cond.code ({ cls := "com/example/shingle/shingle/Joined", name := "<init>", desc := "(I)V" } : Jvm.MethodName) prog_24_method_1_code (3 : Nat) (Option.none : Option Jvm.ClassFile.FieldType)).before args0 about1 = true := code_word (m := ⟨2, 0⟩) (meth := k2m0) (c := k2c0) (by decide +kernel) rfl rfl rfl (by decide +kernel)
set_option maxRecDepth 65536 in
theorem w_c2 : (Jvm.Cond.code ({ cls := "java/lang/Object", name := "<init>", desc := "()V" } : Jvm.MethodName) object_method_1_code (1 : Nat) (Option.none : Option Jvm.ClassFile.FieldType)).before args0 about1 = true := code_word (m := ⟨0, 0⟩) (meth := k0m0) (c := k0c0) (by decide +kernel) rfl rfl rfl (by decide +kernel)
set_option maxRecDepth 65536 in
theorem w_c3 : (Jvm.Cond.code ({ cls := "com/example/shingle/shingle/Joined", name := "join", desc := "(II)V" } : Jvm.MethodName) prog_24_method_3_code (6 : Nat) (Option.none : Option Jvm.ClassFile.FieldType)).before args0 about1 = true := code_word (m := ⟨2, 2⟩) (meth := k2m2) (c := k2c2) (by decide +kernel) rfl rfl rfl (by decide +kernel)
set_option maxRecDepth 65536 in
theorem w_c4 : (Jvm.Cond.code ({ cls := "com/example/shingle/shingle/Joined", name := "root", desc := "(I)I" } : Jvm.MethodName) prog_24_method_2_code (3 : Nat) (Option.some Jvm.ClassFile.FieldType.int)).before args0 about1 = true := code_word (m := ⟨2, 1⟩) (meth := k2m1) (c := k2c1) (by decide +kernel) rfl rfl rfl (by decide +kernel)
set_option maxRecDepth 65536 in
theorem w_c5 : (Jvm.Cond.code ({ cls := "com/example/shingle/shingle/JoinedRootPinLaw", name := "refJoin", desc := "([I[III)V" } : Jvm.MethodName) method_3_code (7 : Nat) (Option.none : Option Jvm.ClassFile.FieldType)).before args0 about1 = true := code_word (m := ⟨1, 2⟩) (meth := k1m2) (c := k1c2) (by decide +kernel) rfl rfl rfl (by decide +kernel)
def codes1 : List Jvm.Cond := [Jvm.Cond.code x code maxLocals ret, Jvm.Cond.code ({ cls := "com/example/shingle/shingle/Joined", name := "<init>", desc := "(I)V" } : Jvm.MethodName) prog_24_method_1_code (3 : Nat) (Option.none : Option Jvm.ClassFile.FieldType), Jvm.Cond.code ({ cls := "java/lang/Object", name := "<init>", desc := "()V" } : Jvm.MethodName) object_method_1_code (1 : Nat) (Option.none : Option Jvm.ClassFile.FieldType), Jvm.Cond.code ({ cls := "com/example/shingle/shingle/Joined", name := "join", desc := "(II)V" } : Jvm.MethodName) prog_24_method_3_code (6 : Nat) (Option.none : Option Jvm.ClassFile.FieldType), Jvm.Cond.code ({ cls := "com/example/shingle/shingle/Joined", name := "root", desc := "(I)I" } : Jvm.MethodName) prog_24_method_2_code (3 : Nat) (Option.some Jvm.ClassFile.FieldType.int), Jvm.Cond.code ({ cls := "com/example/shingle/shingle/JoinedRootPinLaw", name := "refJoin", desc := "([I[III)V" } : Jvm.MethodName) method_3_code (7 : Nat) (Option.none : Option Jvm.ClassFile.FieldType)]
set_option maxRecDepth 65536 in
theorem codes_eq : words1.filter isCode = codes1 := rfl
theorem w_codes : ∀ c ∈ words1.filter isCode, c.before args0 about1 = true := by
  rw [codes_eq]
  intro c hc
  simp only [codes1, List.mem_cons, List.not_mem_nil, or_false] at hc
  rcases hc with rfl | rfl | rfl | rfl | rfl | rfl
  · exact w_c0
  · exact w_c1
  · exact w_c2
  · exact w_c3
  · exact w_c4
  · exact w_c5
set_option maxRecDepth 65536 in
theorem w_t1 : (words1.take 24).all (fun c => isCode c || c.before args0 about1) = true := by decide +kernel
set_option maxRecDepth 65536 in
theorem w_t2 : (words1.drop 24).all (fun c => isCode c || c.before args0 about1) = true := by decide +kernel
theorem w_tables : (allAtoms (Jvm.Cond.code x code maxLocals ret :: tables_1)).before args0 about1 = true := by
  rw [allAtoms_all]
  show words1.all (fun c => c.before args0 about1) = true
  refine all_split ?_ w_codes
  rw [← List.take_append_drop 24 words1, List.all_append, w_t1, w_t2]
  rfl
set_option maxRecDepth 65536 in
theorem w_case : (Jvm.Cond.and given_1 narrow_1).before args0 about1 = true := by decide +kernel
theorem w_applies : (headSpec (Jvm.Cond.code x code maxLocals ret :: tables_1) room_1).applies x e0.platform about1 = true :=
  (Spec.applies_iff w_frames).mpr ⟨w_running, w_runnable, w_alone, w_named, w_hears, w_ripe, w_room, w_tables⟩
theorem atStart : AtStart classFile x code maxLocals ret World_1 tables_1 room_1 Calls_1 rest_1 Pre_1 launch0 p0 e0 about1 theMethod args0 below0 :=
  ⟨lists_1, trivial, launch0.admits_env _ _ _, launch0.least_env, fairChoices_fair.cas, fairChoices_fair.clock, w_frames, w_args, w_heap, w_applies, trivial, trivial, w_case⟩
end start1
theorem witness_1 : WitnessClaimed_1 := ⟨start1.p0, start1.e0, start1.about1, start1.theMethod, start1.args0, start1.below0, start1.atStart⟩
end Jvm.Pilot.@@N@@
