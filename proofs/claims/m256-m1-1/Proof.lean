import JvmDerived
import JvmDerived.Pilot.@@N@@Statement
import JvmDerived.Pilot.@@N@@Code
set_option linter.unusedVariables false
set_option linter.unusedSimpArgs false
namespace Jvm.RoadKit
open Sem ClassFile Op Lib Jvm.Stand Jvm.Free Jvm.LawKit
section New
variable {p : Program} {l : Launch} {e : Env} {R : Room} {s : State} {m : MethodId} {args : Array Value} {below : List Frame} {meth : Method} {c : Code} {T : State} {locs : List Loc} {cells slots : Nat}
theorem retI (X : Stand p l e R s m args below meth c T locs cells slots) (hx : p.tables.exec = Jvm.exec) {pc : Nat} {Ls : Array Slot} {z : Int32} {rest : List Value} (hret : meth.sig.returnType = some .int) (hd : decode c.code pc = .ok (.ireturn, 1)) {fs : List Frame}
    (hl : ∀ (f : JFrame) (acts : List Action), f.method = m → f.locked = none → f.entered = [] → (doReturn e (T.setTop f) acts (some (.int z))).1 = T.setFrames fs) : Steps p.tables e below (T.setTop (mkF m pc Ls (.int z :: rest))) (T.setFrames fs) := by
  have hm' : T.vm.method? m = some meth := X.method'
  have hn : narrow .int (.int z) = .int z := rfl
  show Steps p.tables e below (T.setTop { method := m, pc := pc, locals := Ls, stack := _ :: rest, locked := none }) _
  jvm_step X.here [X.here.top, hx, hd, hm', hret, hn]
  first | (intro acts; rw [hl _ acts rfl rfl rfl]) | rw [hl _ _ rfl rfl rfl]
  exact Steps.refl _
end New
end Jvm.RoadKit
namespace Jvm.Pilot.@@N@@
open Jvm Jvm.ClassFile Sem Op Lib Jvm.Free Jvm.Stand Jvm.LawKit Jvm.RoadKit Bundle Jvm.Pilot.@@N@@.Jvm.D
theorem pd_0 : parseMethodDescriptor "()V" = some ⟨[], none⟩ := by decide +kernel
theorem pd_1 : parseMethodDescriptor "(Z)V" = some ⟨[.boolean], none⟩ := by decide +kernel
theorem pd_2 : parseMethodDescriptor "()I" = some ⟨[], some .int⟩ := by decide +kernel
theorem pd_3 : parseMethodDescriptor "(II)I" = some ⟨[.int, .int], some .int⟩ := by decide +kernel
theorem pd_4 : parseMethodDescriptor "(I)Z" = some ⟨[.int], some .boolean⟩ := by decide +kernel
theorem pd_5 : parseMethodDescriptor "(I)V" = some ⟨[.int], none⟩ := by decide +kernel
def getI (ps : List Int32) (j : Int32) : Int32 := ps.getD j.toNatClampNeg 0
def setI (ps : List Int32) (j x : Int32) : List Int32 := ps.set j.toNatClampNeg x
/-- an array of ints (or booleans) whose elements are all known -/
def Ia (Z : State) (h : Heap) (a : Addr) (k : ClassId) (ty : FieldType) (n : Int32) (ps : List Int32) : Prop := Arv Z h a k ty n (ps.map Value.int) (.int 0) ∧ ps.length = n.toNatClampNeg
section OwnArr
variable {Z : State} {h h' : Heap} {a b : Addr} {k : ClassId} {ty : FieldType} {n j x : Int32} {ps : List Int32} {v : Value} {sl : Nat} {ws : List Addr}
theorem Ia.lt (F : Ia Z h a k ty n ps) : a < h.size := F.1.lt
theorem Ia.ext (F : Ia Z h a k ty n ps) (E : Ext h h') : Ia Z h' a k ty n ps := ⟨F.1.ext E, F.2⟩
theorem Ia.other (F : Ia Z h b k ty n ps) (W : Wr h h' a sl v) (q : b ≠ a) : Ia Z h' b k ty n ps := ⟨F.1.other W q, F.2⟩
theorem Ia.keep (F : Ia Z h a k ty n ps) (K : Keep h h' ws) (q : a ∉ ws) : Ia Z h' a k ty n ps := ⟨F.1.keep K q, F.2⟩
theorem own_lenlt (hj : ¬ j < 0 ∧ j < n) : j.toNatClampNeg < n.toNatClampNeg := by
  obtain ⟨h1, h2⟩ := hj
  have e0 : (0 : Int32).toInt = 0 := rfl
  rw [Int32.lt_iff_toInt_lt] at h1 h2
  simp only [Int32.toNatClampNeg]; omega
theorem Ia.get (F : Ia Z h a k ty n ps) (hj : ¬ j < 0 ∧ j < n) : ∃ cl : Cell, Arr Z h a cl ty ∧ ¬ (j < 0 ∨ cl.slots.size ≤ j.toNatClampNeg) ∧ cl.slots[j.toNatClampNeg]? = some (.int (getI ps j)) := by
  obtain ⟨⟨cl, A, q1, S, q3, H, G⟩, hl⟩ := F
  have hin := inb_of S hj
  refine ⟨cl, A, hin, Has.at H hin ?_⟩
  simp only [getI, List.getD_eq_getElem?_getD, List.getElem?_map]
  cases ps[j.toNatClampNeg]? <;> rfl
theorem Ia.set (F : Ia Z h a k ty n ps) (hj : ¬ j < 0 ∧ j < n) (hv : fits ty (.int x) = true) (W : Wr h h' a j.toNatClampNeg (.int x)) : Ia Z h' a k ty n (setI ps j x) := by
  obtain ⟨⟨cl, A, q1, S, q3, H, G⟩, hl⟩ := F
  have hi : j.toNatClampNeg < (ps.map Value.int).length := by rw [List.length_map, hl]; exact own_lenlt hj
  have r := Arv.set A q1 S q3 H G hv W _ rfl hi
  refine ⟨?_, by rw [setI, List.length_set]; exact hl⟩
  rw [setI, List.map_set]; exact r
theorem Ia.new (A : Arr Z h a (newA k ty n) ty) (q : ¬ n < 0) (hd : defaultValue ty = .int 0) : Ia Z h a k ty n (List.replicate n.toNatClampNeg 0) := by
  refine ⟨?_, List.length_replicate⟩
  have r := Arv.new A q
  rw [hd] at r
  rw [List.map_replicate]
  exact r.pad (pad_rep [] (.int 0) n.toNatClampNeg)
theorem Ia.size (F : Ia Z h a k ty n ps) : ∃ cl : Cell, Arr Z h a cl ty ∧ cl.slots.size.toInt32 = n := by
  obtain ⟨⟨cl, A, q1, S, q3, H, G⟩, hl⟩ := F
  exact ⟨cl, A, len_of S q3⟩
end OwnArr

theorem d1_0 : decode prog_38_method_1_code 0 = .ok (.aload_n 0, 1) := by decide +kernel
theorem d1_1 : decode prog_38_method_1_code 1 = .ok (.invokespecial 1, 3) := by decide +kernel
theorem d1_4 : decode prog_38_method_1_code 4 = .ok (.aload_n 0, 1) := by decide +kernel
theorem d1_5 : decode prog_38_method_1_code 5 = .ok (.bipush 32, 2) := by decide +kernel
theorem d1_7 : decode prog_38_method_1_code 7 = .ok (.newarray .int, 2) := by decide +kernel
theorem d1_9 : decode prog_38_method_1_code 9 = .ok (.putfield 9, 3) := by decide +kernel
theorem d1_12 : decode prog_38_method_1_code 12 = .ok (.aload_n 0, 1) := by decide +kernel
theorem d1_13 : decode prog_38_method_1_code 13 = .ok (.bipush 32, 2) := by decide +kernel
theorem d1_15 : decode prog_38_method_1_code 15 = .ok (.newarray .boolean, 2) := by decide +kernel
theorem d1_17 : decode prog_38_method_1_code 17 = .ok (.putfield 13, 3) := by decide +kernel
theorem d1_20 : decode prog_38_method_1_code 20 = .ok (.return_, 1) := by decide +kernel
theorem pn_1 : plainName "com/example/glowcursor/glowcursor/parser/ControlSequence" = true := by first | (simp [plainName, overriddenIn]; done) | decide +kernel
theorem ef_1 (m : MethodId) (x0 : Addr) : entryFrame m #[(.ref x0)] 1 = mkF m 0 #[.val (.ref x0)] [] := by first | (simp [entryFrame, mkF, argsToLocals, Value.category]; done) | rfl
def Q1 (Z : State) (o0 : Addr) (u_parameters : Value) (u_subParameters : Value) (u_count : Value) (u_current : Value) (u_currentIsSubParameter : Value) (u_privateMarker : Value) (u_intermediate : Value) (h0 : Heap) (n0 : Nat) (v : Option Value) (h : Heap) (L : List Loc) : Prop := v = none ∧ Fr n0 L ∧ ∃ (pa sa : Addr) (ka kb : ClassId), n0 ≤ pa ∧ n0 ≤ sa ∧ h0.size ≤ pa ∧ h0.size ≤ sa ∧ o0 ≠ pa ∧ o0 ≠ sa ∧ pa ≠ sa ∧ Keep h0 h [o0] ∧ Fld Z h o0 "com/example/glowcursor/glowcursor/parser/ControlSequence" "parameters" "[I" (.ref pa) ∧ Fld Z h o0 "com/example/glowcursor/glowcursor/parser/ControlSequence" "subParameters" "[Z" (.ref sa) ∧ Fld Z h o0 "com/example/glowcursor/glowcursor/parser/ControlSequence" "count" "I" u_count ∧ Fld Z h o0 "com/example/glowcursor/glowcursor/parser/ControlSequence" "current" "I" u_current ∧ Fld Z h o0 "com/example/glowcursor/glowcursor/parser/ControlSequence" "currentIsSubParameter" "Z" u_currentIsSubParameter ∧ Fld Z h o0 "com/example/glowcursor/glowcursor/parser/ControlSequence" "privateMarker" "I" u_privateMarker ∧ Fld Z h o0 "com/example/glowcursor/glowcursor/parser/ControlSequence" "intermediate" "I" u_intermediate ∧ Ia Z h pa ka .int 32 (List.replicate (32 : Int32).toNatClampNeg 0) ∧ Ia Z h sa kb .boolean 32 (List.replicate (32 : Int32).toNatClampNeg 0)
set_option maxRecDepth 65536 in
set_option maxHeartbeats 40000000 in
theorem rm1 (l : Launch) (Z : State) (a0 : Array Value) (hw : ∀ d ∈ tables_1, d.before a0 Z = true) (ws : List Jvm.Cond) (o0 : Addr) (u_parameters : Value) (u_subParameters : Value) (u_count : Value) (u_current : Value) (u_currentIsSubParameter : Value) (u_privateMarker : Value) (u_intermediate : Value) (h0 : Heap) (n0 : Nat) (Z0 : n0 ≤ h0.size) (E_o0 : Exa Z h0 o0 "com/example/glowcursor/glowcursor/parser/ControlSequence") (g_o0 : n0 ≤ o0) (F_parameters_o0 : Fld Z h0 o0 "com/example/glowcursor/glowcursor/parser/ControlSequence" "parameters" "[I" u_parameters) (F_subParameters_o0 : Fld Z h0 o0 "com/example/glowcursor/glowcursor/parser/ControlSequence" "subParameters" "[Z" u_subParameters) (F_count_o0 : Fld Z h0 o0 "com/example/glowcursor/glowcursor/parser/ControlSequence" "count" "I" u_count) (F_current_o0 : Fld Z h0 o0 "com/example/glowcursor/glowcursor/parser/ControlSequence" "current" "I" u_current) (F_currentIsSubParameter_o0 : Fld Z h0 o0 "com/example/glowcursor/glowcursor/parser/ControlSequence" "currentIsSubParameter" "Z" u_currentIsSubParameter) (F_privateMarker_o0 : Fld Z h0 o0 "com/example/glowcursor/glowcursor/parser/ControlSequence" "privateMarker" "I" u_privateMarker) (F_intermediate_o0 : Fld Z h0 o0 "com/example/glowcursor/glowcursor/parser/ControlSequence" "intermediate" "I" u_intermediate)  :
    MetFree l (⟨"com/example/glowcursor/glowcursor/parser/ControlSequence", "<init>", "()V"⟩ : MethodName) (head1 (Jvm.Cond.code (⟨"com/example/glowcursor/glowcursor/parser/ControlSequence", "<init>", "()V"⟩ : MethodName) prog_38_method_1_code 1 none :: ws) ({ frames := 1, cells := 2, slots := 64, locals := 12 } : Room)) (fun a U => a = #[(.ref o0)] ∧ Z.Warmed39 U.vm ∧ U.heap = h0) (fun _ _ _ _ _ => True) (fun _ U o U' => ∃ v L, o = .returned v ∧ Q1 Z o0 u_parameters u_subParameters u_count u_current u_currentIsSubParameter u_privateMarker u_intermediate h0 n0 v U'.heap L ∧ FrameEnd U o U' L ({ frames := 1, cells := 2, slots := 64, locals := 12 } : Room).cells ({ frames := 1, cells := 2, slots := 64, locals := 12 } : Room).slots) := by
  refine MetFree.of_bodySF (plainFor_of_name pn_1) hisR ?_
  intro p e s m args below meth c s₁ Bd hml0 hP hK
  obtain ⟨rfl, hZ, hh⟩ := hP
  have hx := Bd.exec
  have hby := Bd.bytes
  have hml : c.maxLocals = 1 := hml0
  have hown : s.vm.findClass "com/example/glowcursor/glowcursor/parser/ControlSequence" = some m.cls := findClass_of_methodNamed Bd.named
  have hnm := (name_of_methodNamed Bd.named Bd.method).1
  have X0 : Stand p l e ({ frames := 1, cells := 2, slots := 64, locals := 12 } : Room) s m #[(.ref o0)] below meth c s₁ [] 0 0 := Stand.of_body Bd
  have e0 : s₁.heap = h0 := by rw [← hh, Bd.state]; rfl
  have N0 := Fr.nil n0
  have pre0 : ∀ t, Steps p.tables e below (s₁.setTop (mkF m 0 #[.val (.ref o0)] [])) t → Steps p.tables e below (s₁.setTop (entryFrame m #[(.ref o0)] 1)) t := fun t k => castTop (ef_1 m o0) k
  obtain ⟨T1, X1, e1, st1⟩ := initO X0 hx hZ hown (hw _ (List.mem_of_getElem? (i := 7) rfl)) (hw _ (List.mem_of_getElem? (i := 8) rfl)) (hw _ (List.mem_of_getElem? (i := 9) rfl)) e0 (g := (mkF m 1 #[.val (.ref o0)] [(.ref o0)])) rfl (by rw [hml]; rfl) rfl (hb hby d1_1) (by decide) (W := 0) (by show 2 * 0 + _ ≤ _; exact Nat.le_of_eq rfl) (by decide)
  obtain ⟨T2, h2, k2, X2, e2, E2, A2, st2⟩ := newP X1 hx hZ (hw _ (List.mem_of_getElem? (i := 10) rfl)) e1 (g := (mkF m 7 #[.val (.ref o0)] [(.int (32 : Int32)), (.ref o0)])) rfl (hb hby d1_7) rfl (by decide) (cap := 32) (by decide) (by decide) (by decide) (by decide)
  obtain ⟨b2, g2⟩ : ∃ z, z = h0.size := ⟨_, rfl⟩
  rw [← g2] at A2 st2
  have g_b2 : n0 ≤ b2 := Nat.le_trans Z0 (Nat.le_of_eq g2.symm)
  have sz_b2 : h0.size ≤ b2 := Nat.le_trans ((Keep.refl h0 [o0])).1 (Nat.le_of_eq g2.symm)
  have Z2 : n0 ≤ h2.size := Nat.le_trans Z0 E2.1
  have K2 : Keep h0 h2 [o0] := ((Keep.refl h0 [o0])).ext E2
  have V_b2 := Ia.new A2 (by decide) rfl
  obtain ⟨T3, h3, X3, e3, W3, st3⟩ := putF X2 hx hZ hown (host := "") (Or.inl (hw _ (List.mem_of_getElem? (i := 11) rfl))) Via.refl e2 ((F_parameters_o0.ext E2)) ((E_o0.ext E2)) (Or.inr ⟨(hw _ (List.mem_of_getElem? (i := 12) rfl)), rfl, hnm⟩) (hw _ (List.mem_of_getElem? (i := 2) rfl)) (ty := (.array .int)) (by decide) rfl rfl (g := (mkF m 9 #[.val (.ref o0)] [(.ref b2), (.ref o0)])) rfl rfl (hb hby d1_9)
  have Fw3 := ((F_parameters_o0.ext E2)).same W3
  have N3 := Fr.snoc X3 N0 g_o0
  have Z3 : n0 ≤ h3.size := Nat.le_trans Z2 (Keep.of_wr W3).1
  have K3 : Keep h0 h3 [o0] := (K2).wr W3 (Or.inl (List.mem_of_getElem? (i := 0) rfl))
  obtain ⟨T4, h4, k4, X4, e4, E4, A4, st4⟩ := newP X3 hx hZ (hw _ (List.mem_of_getElem? (i := 13) rfl)) e3 (g := (mkF m 15 #[.val (.ref o0)] [(.int (32 : Int32)), (.ref o0)])) rfl (hb hby d1_15) rfl (by decide) (cap := 32) (by decide) (by decide) (by decide) (by decide)
  obtain ⟨b4, g4⟩ : ∃ z, z = h3.size := ⟨_, rfl⟩
  rw [← g4] at A4 st4
  have g_b4 : n0 ≤ b4 := Nat.le_trans Z3 (Nat.le_of_eq g4.symm)
  have sz_b4 : h0.size ≤ b4 := Nat.le_trans (K3).1 (Nat.le_of_eq g4.symm)
  have Z4 : n0 ≤ h4.size := Nat.le_trans Z3 E4.1
  have K4 : Keep h0 h4 [o0] := (K3).ext E4
  have V_b4 := Ia.new A4 (by decide) rfl
  obtain ⟨T5, h5, X5, e5, W5, st5⟩ := putF X4 hx hZ hown (host := "") (Or.inl (hw _ (List.mem_of_getElem? (i := 14) rfl))) Via.refl e4 ((((F_subParameters_o0.ext E2).other W3 (Or.inr (slot_ne (Or.inr (hw _ (List.mem_of_getElem? (i := 15) rfl))) (Or.inr (hw _ (List.mem_of_getElem? (i := 12) rfl))) (by decide) (t := (.array .boolean)) (t' := (.array .int)) (by decide) (by decide)))).ext E4)) ((((E_o0.ext E2).wr W3).ext E4)) (Or.inr ⟨(hw _ (List.mem_of_getElem? (i := 15) rfl)), rfl, hnm⟩) (hw _ (List.mem_of_getElem? (i := 2) rfl)) (ty := (.array .boolean)) (by decide) rfl rfl (g := (mkF m 17 #[.val (.ref o0)] [(.ref b4), (.ref o0)])) rfl rfl (hb hby d1_17)
  have Fw5 := ((((F_subParameters_o0.ext E2).other W3 (Or.inr (slot_ne (Or.inr (hw _ (List.mem_of_getElem? (i := 15) rfl))) (Or.inr (hw _ (List.mem_of_getElem? (i := 12) rfl))) (by decide) (t := (.array .boolean)) (t' := (.array .int)) (by decide) (by decide)))).ext E4)).same W5
  have N5 := Fr.snoc X5 N3 g_o0
  have Z5 : n0 ≤ h5.size := Nat.le_trans Z4 (Keep.of_wr W5).1
  have K5 : Keep h0 h5 [o0] := (K4).wr W5 (Or.inl (List.mem_of_getElem? (i := 0) rfl))
  obtain ⟨fs, hr, hrun, hended, hW, hsame⟩ := X5.leave (v := none) (fun _ => rfl)
  refine ⟨_, _, pre0 _ ?_, hrun, hended, _, _, rfl, ?_, ⟨_, rfl⟩, hW, hsame.mono (by decide) (by decide)⟩
  · show Steps p.tables e below (s₁.setTop (mkF m 0 #[.val (.ref o0)] [])) _
    refine XS.aloadN X0.here hx rfl (hb hby d1_0) rfl rfl ?_
    show Steps p.tables e below (s₁.setTop (mkF m 1 #[.val (.ref o0)] [(.ref o0)])) _
    refine st1 _ ?_
    show Steps p.tables e below (T1.setTop (mkF m 4 #[.val (.ref o0)] [])) _
    refine XS.aloadN X1.here hx rfl (hb hby d1_4) rfl rfl ?_
    show Steps p.tables e below (T1.setTop (mkF m 5 #[.val (.ref o0)] [(.ref o0)])) _
    refine XS.bipush X1.here hx rfl (hb hby d1_5) ?_
    show Steps p.tables e below (T1.setTop (mkF m 7 #[.val (.ref o0)] [(.int (32 : Int32)), (.ref o0)])) _
    refine st2 _ ?_
    show Steps p.tables e below (T2.setTop (mkF m 9 #[.val (.ref o0)] [(.ref b2), (.ref o0)])) _
    refine st3 _ ?_
    show Steps p.tables e below (T3.setTop (mkF m 12 #[.val (.ref o0)] [])) _
    refine XS.aloadN X3.here hx rfl (hb hby d1_12) rfl rfl ?_
    show Steps p.tables e below (T3.setTop (mkF m 13 #[.val (.ref o0)] [(.ref o0)])) _
    refine XS.bipush X3.here hx rfl (hb hby d1_13) ?_
    show Steps p.tables e below (T3.setTop (mkF m 15 #[.val (.ref o0)] [(.int (32 : Int32)), (.ref o0)])) _
    refine st4 _ ?_
    show Steps p.tables e below (T4.setTop (mkF m 17 #[.val (.ref o0)] [(.ref b4), (.ref o0)])) _
    refine st5 _ ?_
    show Steps p.tables e below (T5.setTop (mkF m 20 #[.val (.ref o0)] [])) _
    exact X5.returnOut hx Bd.returns (hb hby d1_20) hr
  · show Q1 Z o0 u_parameters u_subParameters u_count u_current u_currentIsSubParameter u_privateMarker u_intermediate h0 n0 _ T5.heap _
    rw [e5]
    exact ⟨rfl, N5, b2, b4, k2, k4, g_b2, g_b4, sz_b2, sz_b4, (Nat.ne_of_lt (Nat.lt_of_lt_of_le E_o0.lt (Nat.le_of_eq g2.symm))), (Nat.ne_of_lt (Nat.lt_of_lt_of_le ((E_o0.ext E2).wr W3).lt (Nat.le_of_eq g4.symm))), (Nat.ne_of_lt (Nat.lt_of_lt_of_le (V_b2.other W3 (Ne.symm (Nat.ne_of_lt (Nat.lt_of_lt_of_le E_o0.lt (Nat.le_of_eq g2.symm))))).lt (Nat.le_of_eq g4.symm))), K5, ((Fw3.ext E4).other W5 (Or.inr (slot_ne (Or.inr (hw _ (List.mem_of_getElem? (i := 12) rfl))) (Or.inr (hw _ (List.mem_of_getElem? (i := 15) rfl))) (by decide) (t := (.array .int)) (t' := (.array .boolean)) (by decide) (by decide)))), Fw5, ((((F_count_o0.ext E2).other W3 (Or.inr (slot_ne (Or.inl (hw _ (List.mem_of_getElem? (i := 22) rfl))) (Or.inr (hw _ (List.mem_of_getElem? (i := 12) rfl))) (by decide) (t := .int) (t' := (.array .int)) (by decide) (by decide)))).ext E4).other W5 (Or.inr (slot_ne (Or.inl (hw _ (List.mem_of_getElem? (i := 22) rfl))) (Or.inr (hw _ (List.mem_of_getElem? (i := 15) rfl))) (by decide) (t := .int) (t' := (.array .boolean)) (by decide) (by decide)))), ((((F_current_o0.ext E2).other W3 (Or.inr (slot_ne (Or.inl (hw _ (List.mem_of_getElem? (i := 24) rfl))) (Or.inr (hw _ (List.mem_of_getElem? (i := 12) rfl))) (by decide) (t := .int) (t' := (.array .int)) (by decide) (by decide)))).ext E4).other W5 (Or.inr (slot_ne (Or.inl (hw _ (List.mem_of_getElem? (i := 24) rfl))) (Or.inr (hw _ (List.mem_of_getElem? (i := 15) rfl))) (by decide) (t := .int) (t' := (.array .boolean)) (by decide) (by decide)))), ((((F_currentIsSubParameter_o0.ext E2).other W3 (Or.inr (slot_ne (Or.inl (hw _ (List.mem_of_getElem? (i := 26) rfl))) (Or.inr (hw _ (List.mem_of_getElem? (i := 12) rfl))) (by decide) (t := .boolean) (t' := (.array .int)) (by decide) (by decide)))).ext E4).other W5 (Or.inr (slot_ne (Or.inl (hw _ (List.mem_of_getElem? (i := 26) rfl))) (Or.inr (hw _ (List.mem_of_getElem? (i := 15) rfl))) (by decide) (t := .boolean) (t' := (.array .boolean)) (by decide) (by decide)))), ((((F_privateMarker_o0.ext E2).other W3 (Or.inr (slot_ne (Or.inl (hw _ (List.mem_of_getElem? (i := 28) rfl))) (Or.inr (hw _ (List.mem_of_getElem? (i := 12) rfl))) (by decide) (t := .int) (t' := (.array .int)) (by decide) (by decide)))).ext E4).other W5 (Or.inr (slot_ne (Or.inl (hw _ (List.mem_of_getElem? (i := 28) rfl))) (Or.inr (hw _ (List.mem_of_getElem? (i := 15) rfl))) (by decide) (t := .int) (t' := (.array .boolean)) (by decide) (by decide)))), ((((F_intermediate_o0.ext E2).other W3 (Or.inr (slot_ne (Or.inl (hw _ (List.mem_of_getElem? (i := 30) rfl))) (Or.inr (hw _ (List.mem_of_getElem? (i := 12) rfl))) (by decide) (t := .int) (t' := (.array .int)) (by decide) (by decide)))).ext E4).other W5 (Or.inr (slot_ne (Or.inl (hw _ (List.mem_of_getElem? (i := 30) rfl))) (Or.inr (hw _ (List.mem_of_getElem? (i := 15) rfl))) (by decide) (t := .int) (t' := (.array .boolean)) (by decide) (by decide)))), (((V_b2.other W3 (Ne.symm (Nat.ne_of_lt (Nat.lt_of_lt_of_le E_o0.lt (Nat.le_of_eq g2.symm))))).ext E4).other W5 (Ne.symm (Nat.ne_of_lt (Nat.lt_of_lt_of_le E_o0.lt (Nat.le_of_eq g2.symm))))), (V_b4.other W5 (Ne.symm (Nat.ne_of_lt (Nat.lt_of_lt_of_le ((E_o0.ext E2).wr W3).lt (Nat.le_of_eq g4.symm)))))⟩
theorem d3_0 : decode prog_38_method_9_code 0 = .ok (.aload_n 0, 1) := by decide +kernel
theorem d3_1 : decode prog_38_method_9_code 1 = .ok (.iconst 0, 1) := by decide +kernel
theorem d3_2 : decode prog_38_method_9_code 2 = .ok (.putfield 27, 3) := by decide +kernel
theorem d3_5 : decode prog_38_method_9_code 5 = .ok (.aload_n 0, 1) := by decide +kernel
theorem d3_6 : decode prog_38_method_9_code 6 = .ok (.iconst (-1), 1) := by decide +kernel
theorem d3_7 : decode prog_38_method_9_code 7 = .ok (.putfield 30, 3) := by decide +kernel
theorem d3_10 : decode prog_38_method_9_code 10 = .ok (.aload_n 0, 1) := by decide +kernel
theorem d3_11 : decode prog_38_method_9_code 11 = .ok (.iconst 0, 1) := by decide +kernel
theorem d3_12 : decode prog_38_method_9_code 12 = .ok (.putfield 33, 3) := by decide +kernel
theorem d3_15 : decode prog_38_method_9_code 15 = .ok (.aload_n 0, 1) := by decide +kernel
theorem d3_16 : decode prog_38_method_9_code 16 = .ok (.iconst 0, 1) := by decide +kernel
theorem d3_17 : decode prog_38_method_9_code 17 = .ok (.putfield 17, 3) := by decide +kernel
theorem d3_20 : decode prog_38_method_9_code 20 = .ok (.aload_n 0, 1) := by decide +kernel
theorem d3_21 : decode prog_38_method_9_code 21 = .ok (.iconst 0, 1) := by decide +kernel
theorem d3_22 : decode prog_38_method_9_code 22 = .ok (.putfield 21, 3) := by decide +kernel
theorem d3_25 : decode prog_38_method_9_code 25 = .ok (.return_, 1) := by decide +kernel
theorem pn_3 : plainName "com/example/glowcursor/glowcursor/parser/ControlSequence" = true := by first | (simp [plainName, overriddenIn]; done) | decide +kernel
theorem ef_3 (m : MethodId) (x0 : Addr) : entryFrame m #[(.ref x0)] 1 = mkF m 0 #[.val (.ref x0)] [] := by first | (simp [entryFrame, mkF, argsToLocals, Value.category]; done) | rfl
def Q3 (Z : State) (o0 : Addr) (pa : Addr) (sa : Addr) (cnt : Int32) (cur : Int32) (cis : Int32) (um : Value) (ui : Value) (ka : ClassId) (ps : List Int32) (kb : ClassId) (ss : List Int32) (h0 : Heap) (n0 : Nat) (v : Option Value) (h : Heap) (L : List Loc) : Prop := v = none ∧ Fr n0 L ∧ Keep h0 h [o0, pa, sa] ∧ Fld Z h o0 "com/example/glowcursor/glowcursor/parser/ControlSequence" "parameters" "[I" (.ref pa) ∧ Fld Z h o0 "com/example/glowcursor/glowcursor/parser/ControlSequence" "subParameters" "[Z" (.ref sa) ∧ Fld Z h o0 "com/example/glowcursor/glowcursor/parser/ControlSequence" "count" "I" (.int (0 : Int32)) ∧ Fld Z h o0 "com/example/glowcursor/glowcursor/parser/ControlSequence" "current" "I" (.int (-1 : Int32)) ∧ Fld Z h o0 "com/example/glowcursor/glowcursor/parser/ControlSequence" "currentIsSubParameter" "Z" (.int (0 : Int32)) ∧ Fld Z h o0 "com/example/glowcursor/glowcursor/parser/ControlSequence" "privateMarker" "I" (.int (0 : Int32)) ∧ Fld Z h o0 "com/example/glowcursor/glowcursor/parser/ControlSequence" "intermediate" "I" (.int (0 : Int32)) ∧ Ia Z h pa ka .int (32 : Int32) ps ∧ Ia Z h sa kb .boolean (32 : Int32) ss
set_option maxRecDepth 65536 in
set_option maxHeartbeats 40000000 in
theorem rm3 (l : Launch) (Z : State) (a0 : Array Value) (hw : ∀ d ∈ tables_1, d.before a0 Z = true) (ws : List Jvm.Cond) (o0 : Addr) (pa : Addr) (sa : Addr) (cnt : Int32) (cur : Int32) (cis : Int32) (um : Value) (ui : Value) (ka : ClassId) (ps : List Int32) (kb : ClassId) (ss : List Int32) (h0 : Heap) (n0 : Nat) (Z0 : n0 ≤ h0.size) (E_o0 : Exa Z h0 o0 "com/example/glowcursor/glowcursor/parser/ControlSequence") (g_o0 : n0 ≤ o0) (F_parameters_o0 : Fld Z h0 o0 "com/example/glowcursor/glowcursor/parser/ControlSequence" "parameters" "[I" (.ref pa)) (F_subParameters_o0 : Fld Z h0 o0 "com/example/glowcursor/glowcursor/parser/ControlSequence" "subParameters" "[Z" (.ref sa)) (F_count_o0 : Fld Z h0 o0 "com/example/glowcursor/glowcursor/parser/ControlSequence" "count" "I" (.int cnt)) (F_current_o0 : Fld Z h0 o0 "com/example/glowcursor/glowcursor/parser/ControlSequence" "current" "I" (.int cur)) (F_currentIsSubParameter_o0 : Fld Z h0 o0 "com/example/glowcursor/glowcursor/parser/ControlSequence" "currentIsSubParameter" "Z" (.int cis)) (F_privateMarker_o0 : Fld Z h0 o0 "com/example/glowcursor/glowcursor/parser/ControlSequence" "privateMarker" "I" um) (F_intermediate_o0 : Fld Z h0 o0 "com/example/glowcursor/glowcursor/parser/ControlSequence" "intermediate" "I" ui) (V_pa : Ia Z h0 pa ka .int (32 : Int32) ps) (g_pa : n0 ≤ pa) (V_sa : Ia Z h0 sa kb .boolean (32 : Int32) ss) (g_sa : n0 ≤ sa) (ne_o0_pa : o0 ≠ pa) (ne_o0_sa : o0 ≠ sa) (ne_pa_sa : pa ≠ sa)  :
    MetFree l (⟨"com/example/glowcursor/glowcursor/parser/ControlSequence", "start", "()V"⟩ : MethodName) (head1 (Jvm.Cond.code (⟨"com/example/glowcursor/glowcursor/parser/ControlSequence", "start", "()V"⟩ : MethodName) prog_38_method_9_code 1 none :: ws) ({ frames := 0, cells := 0, slots := 0, locals := 0 } : Room)) (fun a U => a = #[(.ref o0)] ∧ Z.Warmed39 U.vm ∧ U.heap = h0) (fun _ _ _ _ _ => True) (fun _ U o U' => ∃ v L, o = .returned v ∧ Q3 Z o0 pa sa cnt cur cis um ui ka ps kb ss h0 n0 v U'.heap L ∧ FrameEnd U o U' L ({ frames := 0, cells := 0, slots := 0, locals := 0 } : Room).cells ({ frames := 0, cells := 0, slots := 0, locals := 0 } : Room).slots) := by
  refine MetFree.of_bodySF (plainFor_of_name pn_3) hisR ?_
  intro p e s m args below meth c s₁ Bd hml0 hP hK
  obtain ⟨rfl, hZ, hh⟩ := hP
  have hx := Bd.exec
  have hby := Bd.bytes
  have hml : c.maxLocals = 1 := hml0
  have hown : s.vm.findClass "com/example/glowcursor/glowcursor/parser/ControlSequence" = some m.cls := findClass_of_methodNamed Bd.named
  have hnm := (name_of_methodNamed Bd.named Bd.method).1
  have X0 : Stand p l e ({ frames := 0, cells := 0, slots := 0, locals := 0 } : Room) s m #[(.ref o0)] below meth c s₁ [] 0 0 := Stand.of_body Bd
  have e0 : s₁.heap = h0 := by rw [← hh, Bd.state]; rfl
  have N0 := Fr.nil n0
  have pre0 : ∀ t, Steps p.tables e below (s₁.setTop (mkF m 0 #[.val (.ref o0)] [])) t → Steps p.tables e below (s₁.setTop (entryFrame m #[(.ref o0)] 1)) t := fun t k => castTop (ef_3 m o0) k
  obtain ⟨T1, h1, X1, e1, W1, st1⟩ := putF X0 hx hZ hown (host := "") (Or.inl (hw _ (List.mem_of_getElem? (i := 21) rfl))) Via.refl e0 (F_count_o0) (E_o0) (Or.inl (hw _ (List.mem_of_getElem? (i := 22) rfl))) (hw _ (List.mem_of_getElem? (i := 2) rfl)) (ty := .int) (by decide) rfl rfl (g := (mkF m 2 #[.val (.ref o0)] [(.int (0 : Int32)), (.ref o0)])) rfl rfl (hb hby d3_2)
  have Fw1 := (F_count_o0).same W1
  have N1 := Fr.snoc X1 N0 g_o0
  have Z1 : n0 ≤ h1.size := Nat.le_trans Z0 (Keep.of_wr W1).1
  have K1 : Keep h0 h1 [o0, pa, sa] := ((Keep.refl h0 [o0, pa, sa])).wr W1 (Or.inl (List.mem_of_getElem? (i := 0) rfl))
  obtain ⟨T2, h2, X2, e2, W2, st2⟩ := putF X1 hx hZ hown (host := "") (Or.inl (hw _ (List.mem_of_getElem? (i := 23) rfl))) Via.refl e1 ((F_current_o0.other W1 (Or.inr (slot_ne (Or.inl (hw _ (List.mem_of_getElem? (i := 24) rfl))) (Or.inl (hw _ (List.mem_of_getElem? (i := 22) rfl))) (by decide) (t := .int) (t' := .int) (by decide) (by decide))))) ((E_o0.wr W1)) (Or.inl (hw _ (List.mem_of_getElem? (i := 24) rfl))) (hw _ (List.mem_of_getElem? (i := 2) rfl)) (ty := .int) (by decide) rfl rfl (g := (mkF m 7 #[.val (.ref o0)] [(.int (-1 : Int32)), (.ref o0)])) rfl rfl (hb hby d3_7)
  have Fw2 := ((F_current_o0.other W1 (Or.inr (slot_ne (Or.inl (hw _ (List.mem_of_getElem? (i := 24) rfl))) (Or.inl (hw _ (List.mem_of_getElem? (i := 22) rfl))) (by decide) (t := .int) (t' := .int) (by decide) (by decide))))).same W2
  have N2 := Fr.snoc X2 N1 g_o0
  have Z2 : n0 ≤ h2.size := Nat.le_trans Z1 (Keep.of_wr W2).1
  have K2 : Keep h0 h2 [o0, pa, sa] := (K1).wr W2 (Or.inl (List.mem_of_getElem? (i := 0) rfl))
  obtain ⟨T3, h3, X3, e3, W3, st3⟩ := putFN X2 hx hZ hown (hw _ (List.mem_of_getElem? (i := 25) rfl)) Via.refl e2 (((F_currentIsSubParameter_o0.other W1 (Or.inr (slot_ne (Or.inl (hw _ (List.mem_of_getElem? (i := 26) rfl))) (Or.inl (hw _ (List.mem_of_getElem? (i := 22) rfl))) (by decide) (t := .boolean) (t' := .int) (by decide) (by decide)))).other W2 (Or.inr (slot_ne (Or.inl (hw _ (List.mem_of_getElem? (i := 26) rfl))) (Or.inl (hw _ (List.mem_of_getElem? (i := 24) rfl))) (by decide) (t := .boolean) (t' := .int) (by decide) (by decide))))) (((E_o0.wr W1).wr W2)) (Or.inl (hw _ (List.mem_of_getElem? (i := 26) rfl))) (hw _ (List.mem_of_getElem? (i := 2) rfl)) (ty := .boolean) (v' := (.int (0 : Int32))) (by decide) rfl rfl (g := (mkF m 12 #[.val (.ref o0)] [(.int (0 : Int32)), (.ref o0)])) rfl rfl (hb hby d3_12)
  have Fw3 := (((F_currentIsSubParameter_o0.other W1 (Or.inr (slot_ne (Or.inl (hw _ (List.mem_of_getElem? (i := 26) rfl))) (Or.inl (hw _ (List.mem_of_getElem? (i := 22) rfl))) (by decide) (t := .boolean) (t' := .int) (by decide) (by decide)))).other W2 (Or.inr (slot_ne (Or.inl (hw _ (List.mem_of_getElem? (i := 26) rfl))) (Or.inl (hw _ (List.mem_of_getElem? (i := 24) rfl))) (by decide) (t := .boolean) (t' := .int) (by decide) (by decide))))).same W3
  have N3 := Fr.snoc X3 N2 g_o0
  have Z3 : n0 ≤ h3.size := Nat.le_trans Z2 (Keep.of_wr W3).1
  have K3 : Keep h0 h3 [o0, pa, sa] := (K2).wr W3 (Or.inl (List.mem_of_getElem? (i := 0) rfl))
  obtain ⟨T4, h4, X4, e4, W4, st4⟩ := putF X3 hx hZ hown (host := "") (Or.inl (hw _ (List.mem_of_getElem? (i := 27) rfl))) Via.refl e3 ((((F_privateMarker_o0.other W1 (Or.inr (slot_ne (Or.inl (hw _ (List.mem_of_getElem? (i := 28) rfl))) (Or.inl (hw _ (List.mem_of_getElem? (i := 22) rfl))) (by decide) (t := .int) (t' := .int) (by decide) (by decide)))).other W2 (Or.inr (slot_ne (Or.inl (hw _ (List.mem_of_getElem? (i := 28) rfl))) (Or.inl (hw _ (List.mem_of_getElem? (i := 24) rfl))) (by decide) (t := .int) (t' := .int) (by decide) (by decide)))).other W3 (Or.inr (slot_ne (Or.inl (hw _ (List.mem_of_getElem? (i := 28) rfl))) (Or.inl (hw _ (List.mem_of_getElem? (i := 26) rfl))) (by decide) (t := .int) (t' := .boolean) (by decide) (by decide))))) ((((E_o0.wr W1).wr W2).wr W3)) (Or.inl (hw _ (List.mem_of_getElem? (i := 28) rfl))) (hw _ (List.mem_of_getElem? (i := 2) rfl)) (ty := .int) (by decide) rfl rfl (g := (mkF m 17 #[.val (.ref o0)] [(.int (0 : Int32)), (.ref o0)])) rfl rfl (hb hby d3_17)
  have Fw4 := ((((F_privateMarker_o0.other W1 (Or.inr (slot_ne (Or.inl (hw _ (List.mem_of_getElem? (i := 28) rfl))) (Or.inl (hw _ (List.mem_of_getElem? (i := 22) rfl))) (by decide) (t := .int) (t' := .int) (by decide) (by decide)))).other W2 (Or.inr (slot_ne (Or.inl (hw _ (List.mem_of_getElem? (i := 28) rfl))) (Or.inl (hw _ (List.mem_of_getElem? (i := 24) rfl))) (by decide) (t := .int) (t' := .int) (by decide) (by decide)))).other W3 (Or.inr (slot_ne (Or.inl (hw _ (List.mem_of_getElem? (i := 28) rfl))) (Or.inl (hw _ (List.mem_of_getElem? (i := 26) rfl))) (by decide) (t := .int) (t' := .boolean) (by decide) (by decide))))).same W4
  have N4 := Fr.snoc X4 N3 g_o0
  have Z4 : n0 ≤ h4.size := Nat.le_trans Z3 (Keep.of_wr W4).1
  have K4 : Keep h0 h4 [o0, pa, sa] := (K3).wr W4 (Or.inl (List.mem_of_getElem? (i := 0) rfl))
  obtain ⟨T5, h5, X5, e5, W5, st5⟩ := putF X4 hx hZ hown (host := "") (Or.inl (hw _ (List.mem_of_getElem? (i := 29) rfl))) Via.refl e4 (((((F_intermediate_o0.other W1 (Or.inr (slot_ne (Or.inl (hw _ (List.mem_of_getElem? (i := 30) rfl))) (Or.inl (hw _ (List.mem_of_getElem? (i := 22) rfl))) (by decide) (t := .int) (t' := .int) (by decide) (by decide)))).other W2 (Or.inr (slot_ne (Or.inl (hw _ (List.mem_of_getElem? (i := 30) rfl))) (Or.inl (hw _ (List.mem_of_getElem? (i := 24) rfl))) (by decide) (t := .int) (t' := .int) (by decide) (by decide)))).other W3 (Or.inr (slot_ne (Or.inl (hw _ (List.mem_of_getElem? (i := 30) rfl))) (Or.inl (hw _ (List.mem_of_getElem? (i := 26) rfl))) (by decide) (t := .int) (t' := .boolean) (by decide) (by decide)))).other W4 (Or.inr (slot_ne (Or.inl (hw _ (List.mem_of_getElem? (i := 30) rfl))) (Or.inl (hw _ (List.mem_of_getElem? (i := 28) rfl))) (by decide) (t := .int) (t' := .int) (by decide) (by decide))))) (((((E_o0.wr W1).wr W2).wr W3).wr W4)) (Or.inl (hw _ (List.mem_of_getElem? (i := 30) rfl))) (hw _ (List.mem_of_getElem? (i := 2) rfl)) (ty := .int) (by decide) rfl rfl (g := (mkF m 22 #[.val (.ref o0)] [(.int (0 : Int32)), (.ref o0)])) rfl rfl (hb hby d3_22)
  have Fw5 := (((((F_intermediate_o0.other W1 (Or.inr (slot_ne (Or.inl (hw _ (List.mem_of_getElem? (i := 30) rfl))) (Or.inl (hw _ (List.mem_of_getElem? (i := 22) rfl))) (by decide) (t := .int) (t' := .int) (by decide) (by decide)))).other W2 (Or.inr (slot_ne (Or.inl (hw _ (List.mem_of_getElem? (i := 30) rfl))) (Or.inl (hw _ (List.mem_of_getElem? (i := 24) rfl))) (by decide) (t := .int) (t' := .int) (by decide) (by decide)))).other W3 (Or.inr (slot_ne (Or.inl (hw _ (List.mem_of_getElem? (i := 30) rfl))) (Or.inl (hw _ (List.mem_of_getElem? (i := 26) rfl))) (by decide) (t := .int) (t' := .boolean) (by decide) (by decide)))).other W4 (Or.inr (slot_ne (Or.inl (hw _ (List.mem_of_getElem? (i := 30) rfl))) (Or.inl (hw _ (List.mem_of_getElem? (i := 28) rfl))) (by decide) (t := .int) (t' := .int) (by decide) (by decide))))).same W5
  have N5 := Fr.snoc X5 N4 g_o0
  have Z5 : n0 ≤ h5.size := Nat.le_trans Z4 (Keep.of_wr W5).1
  have K5 : Keep h0 h5 [o0, pa, sa] := (K4).wr W5 (Or.inl (List.mem_of_getElem? (i := 0) rfl))
  obtain ⟨fs, hr, hrun, hended, hW, hsame⟩ := X5.leave (v := none) (fun _ => rfl)
  refine ⟨_, _, pre0 _ ?_, hrun, hended, _, _, rfl, ?_, ⟨_, rfl⟩, hW, hsame.mono (by decide) (by decide)⟩
  · show Steps p.tables e below (s₁.setTop (mkF m 0 #[.val (.ref o0)] [])) _
    refine XS.aloadN X0.here hx rfl (hb hby d3_0) rfl rfl ?_
    show Steps p.tables e below (s₁.setTop (mkF m 1 #[.val (.ref o0)] [(.ref o0)])) _
    refine XS.iconst X0.here hx rfl (hb hby d3_1) ?_
    show Steps p.tables e below (s₁.setTop (mkF m 2 #[.val (.ref o0)] [(.int (0 : Int32)), (.ref o0)])) _
    refine st1 _ ?_
    show Steps p.tables e below (T1.setTop (mkF m 5 #[.val (.ref o0)] [])) _
    refine XS.aloadN X1.here hx rfl (hb hby d3_5) rfl rfl ?_
    show Steps p.tables e below (T1.setTop (mkF m 6 #[.val (.ref o0)] [(.ref o0)])) _
    refine XS.iconst X1.here hx rfl (hb hby d3_6) ?_
    show Steps p.tables e below (T1.setTop (mkF m 7 #[.val (.ref o0)] [(.int (-1 : Int32)), (.ref o0)])) _
    refine st2 _ ?_
    show Steps p.tables e below (T2.setTop (mkF m 10 #[.val (.ref o0)] [])) _
    refine XS.aloadN X2.here hx rfl (hb hby d3_10) rfl rfl ?_
    show Steps p.tables e below (T2.setTop (mkF m 11 #[.val (.ref o0)] [(.ref o0)])) _
    refine XS.iconst X2.here hx rfl (hb hby d3_11) ?_
    show Steps p.tables e below (T2.setTop (mkF m 12 #[.val (.ref o0)] [(.int (0 : Int32)), (.ref o0)])) _
    refine st3 _ ?_
    show Steps p.tables e below (T3.setTop (mkF m 15 #[.val (.ref o0)] [])) _
    refine XS.aloadN X3.here hx rfl (hb hby d3_15) rfl rfl ?_
    show Steps p.tables e below (T3.setTop (mkF m 16 #[.val (.ref o0)] [(.ref o0)])) _
    refine XS.iconst X3.here hx rfl (hb hby d3_16) ?_
    show Steps p.tables e below (T3.setTop (mkF m 17 #[.val (.ref o0)] [(.int (0 : Int32)), (.ref o0)])) _
    refine st4 _ ?_
    show Steps p.tables e below (T4.setTop (mkF m 20 #[.val (.ref o0)] [])) _
    refine XS.aloadN X4.here hx rfl (hb hby d3_20) rfl rfl ?_
    show Steps p.tables e below (T4.setTop (mkF m 21 #[.val (.ref o0)] [(.ref o0)])) _
    refine XS.iconst X4.here hx rfl (hb hby d3_21) ?_
    show Steps p.tables e below (T4.setTop (mkF m 22 #[.val (.ref o0)] [(.int (0 : Int32)), (.ref o0)])) _
    refine st5 _ ?_
    show Steps p.tables e below (T5.setTop (mkF m 25 #[.val (.ref o0)] [])) _
    exact X5.returnOut hx Bd.returns (hb hby d3_25) hr
  · show Q3 Z o0 pa sa cnt cur cis um ui ka ps kb ss h0 n0 _ T5.heap _
    rw [e5]
    exact ⟨rfl, N5, K5, (((((F_parameters_o0.other W1 (Or.inr (slot_ne (Or.inr (hw _ (List.mem_of_getElem? (i := 12) rfl))) (Or.inl (hw _ (List.mem_of_getElem? (i := 22) rfl))) (by decide) (t := (.array .int)) (t' := .int) (by decide) (by decide)))).other W2 (Or.inr (slot_ne (Or.inr (hw _ (List.mem_of_getElem? (i := 12) rfl))) (Or.inl (hw _ (List.mem_of_getElem? (i := 24) rfl))) (by decide) (t := (.array .int)) (t' := .int) (by decide) (by decide)))).other W3 (Or.inr (slot_ne (Or.inr (hw _ (List.mem_of_getElem? (i := 12) rfl))) (Or.inl (hw _ (List.mem_of_getElem? (i := 26) rfl))) (by decide) (t := (.array .int)) (t' := .boolean) (by decide) (by decide)))).other W4 (Or.inr (slot_ne (Or.inr (hw _ (List.mem_of_getElem? (i := 12) rfl))) (Or.inl (hw _ (List.mem_of_getElem? (i := 28) rfl))) (by decide) (t := (.array .int)) (t' := .int) (by decide) (by decide)))).other W5 (Or.inr (slot_ne (Or.inr (hw _ (List.mem_of_getElem? (i := 12) rfl))) (Or.inl (hw _ (List.mem_of_getElem? (i := 30) rfl))) (by decide) (t := (.array .int)) (t' := .int) (by decide) (by decide)))), (((((F_subParameters_o0.other W1 (Or.inr (slot_ne (Or.inr (hw _ (List.mem_of_getElem? (i := 15) rfl))) (Or.inl (hw _ (List.mem_of_getElem? (i := 22) rfl))) (by decide) (t := (.array .boolean)) (t' := .int) (by decide) (by decide)))).other W2 (Or.inr (slot_ne (Or.inr (hw _ (List.mem_of_getElem? (i := 15) rfl))) (Or.inl (hw _ (List.mem_of_getElem? (i := 24) rfl))) (by decide) (t := (.array .boolean)) (t' := .int) (by decide) (by decide)))).other W3 (Or.inr (slot_ne (Or.inr (hw _ (List.mem_of_getElem? (i := 15) rfl))) (Or.inl (hw _ (List.mem_of_getElem? (i := 26) rfl))) (by decide) (t := (.array .boolean)) (t' := .boolean) (by decide) (by decide)))).other W4 (Or.inr (slot_ne (Or.inr (hw _ (List.mem_of_getElem? (i := 15) rfl))) (Or.inl (hw _ (List.mem_of_getElem? (i := 28) rfl))) (by decide) (t := (.array .boolean)) (t' := .int) (by decide) (by decide)))).other W5 (Or.inr (slot_ne (Or.inr (hw _ (List.mem_of_getElem? (i := 15) rfl))) (Or.inl (hw _ (List.mem_of_getElem? (i := 30) rfl))) (by decide) (t := (.array .boolean)) (t' := .int) (by decide) (by decide)))), ((((Fw1.other W2 (Or.inr (slot_ne (Or.inl (hw _ (List.mem_of_getElem? (i := 22) rfl))) (Or.inl (hw _ (List.mem_of_getElem? (i := 24) rfl))) (by decide) (t := .int) (t' := .int) (by decide) (by decide)))).other W3 (Or.inr (slot_ne (Or.inl (hw _ (List.mem_of_getElem? (i := 22) rfl))) (Or.inl (hw _ (List.mem_of_getElem? (i := 26) rfl))) (by decide) (t := .int) (t' := .boolean) (by decide) (by decide)))).other W4 (Or.inr (slot_ne (Or.inl (hw _ (List.mem_of_getElem? (i := 22) rfl))) (Or.inl (hw _ (List.mem_of_getElem? (i := 28) rfl))) (by decide) (t := .int) (t' := .int) (by decide) (by decide)))).other W5 (Or.inr (slot_ne (Or.inl (hw _ (List.mem_of_getElem? (i := 22) rfl))) (Or.inl (hw _ (List.mem_of_getElem? (i := 30) rfl))) (by decide) (t := .int) (t' := .int) (by decide) (by decide)))), (((Fw2.other W3 (Or.inr (slot_ne (Or.inl (hw _ (List.mem_of_getElem? (i := 24) rfl))) (Or.inl (hw _ (List.mem_of_getElem? (i := 26) rfl))) (by decide) (t := .int) (t' := .boolean) (by decide) (by decide)))).other W4 (Or.inr (slot_ne (Or.inl (hw _ (List.mem_of_getElem? (i := 24) rfl))) (Or.inl (hw _ (List.mem_of_getElem? (i := 28) rfl))) (by decide) (t := .int) (t' := .int) (by decide) (by decide)))).other W5 (Or.inr (slot_ne (Or.inl (hw _ (List.mem_of_getElem? (i := 24) rfl))) (Or.inl (hw _ (List.mem_of_getElem? (i := 30) rfl))) (by decide) (t := .int) (t' := .int) (by decide) (by decide)))), ((Fw3.other W4 (Or.inr (slot_ne (Or.inl (hw _ (List.mem_of_getElem? (i := 26) rfl))) (Or.inl (hw _ (List.mem_of_getElem? (i := 28) rfl))) (by decide) (t := .boolean) (t' := .int) (by decide) (by decide)))).other W5 (Or.inr (slot_ne (Or.inl (hw _ (List.mem_of_getElem? (i := 26) rfl))) (Or.inl (hw _ (List.mem_of_getElem? (i := 30) rfl))) (by decide) (t := .boolean) (t' := .int) (by decide) (by decide)))), (Fw4.other W5 (Or.inr (slot_ne (Or.inl (hw _ (List.mem_of_getElem? (i := 28) rfl))) (Or.inl (hw _ (List.mem_of_getElem? (i := 30) rfl))) (by decide) (t := .int) (t' := .int) (by decide) (by decide)))), Fw5, (((((V_pa.other W1 (Ne.symm ne_o0_pa)).other W2 (Ne.symm ne_o0_pa)).other W3 (Ne.symm ne_o0_pa)).other W4 (Ne.symm ne_o0_pa)).other W5 (Ne.symm ne_o0_pa)), (((((V_sa.other W1 (Ne.symm ne_o0_sa)).other W2 (Ne.symm ne_o0_sa)).other W3 (Ne.symm ne_o0_sa)).other W4 (Ne.symm ne_o0_sa)).other W5 (Ne.symm ne_o0_sa))⟩
theorem d4_0 : decode prog_38_method_13_code 0 = .ok (.aload_n 0, 1) := by decide +kernel
theorem d4_1 : decode prog_38_method_13_code 1 = .ok (.getfield 27, 3) := by decide +kernel
theorem d4_4 : decode prog_38_method_13_code 4 = .ok (.bipush 32, 2) := by decide +kernel
theorem d4_6 : decode prog_38_method_13_code 6 = .ok (.if_icmp .ge 39, 3) := by decide +kernel
theorem d4_9 : decode prog_38_method_13_code 9 = .ok (.aload_n 0, 1) := by decide +kernel
theorem d4_10 : decode prog_38_method_13_code 10 = .ok (.getfield 9, 3) := by decide +kernel
theorem d4_13 : decode prog_38_method_13_code 13 = .ok (.aload_n 0, 1) := by decide +kernel
theorem d4_14 : decode prog_38_method_13_code 14 = .ok (.getfield 27, 3) := by decide +kernel
theorem d4_17 : decode prog_38_method_13_code 17 = .ok (.aload_n 0, 1) := by decide +kernel
theorem d4_18 : decode prog_38_method_13_code 18 = .ok (.getfield 30, 3) := by decide +kernel
theorem d4_21 : decode prog_38_method_13_code 21 = .ok (.iastore, 1) := by decide +kernel
theorem d4_22 : decode prog_38_method_13_code 22 = .ok (.aload_n 0, 1) := by decide +kernel
theorem d4_23 : decode prog_38_method_13_code 23 = .ok (.getfield 13, 3) := by decide +kernel
theorem d4_26 : decode prog_38_method_13_code 26 = .ok (.aload_n 0, 1) := by decide +kernel
theorem d4_27 : decode prog_38_method_13_code 27 = .ok (.getfield 27, 3) := by decide +kernel
theorem d4_30 : decode prog_38_method_13_code 30 = .ok (.aload_n 0, 1) := by decide +kernel
theorem d4_31 : decode prog_38_method_13_code 31 = .ok (.getfield 33, 3) := by decide +kernel
theorem d4_34 : decode prog_38_method_13_code 34 = .ok (.bastore, 1) := by decide +kernel
theorem d4_35 : decode prog_38_method_13_code 35 = .ok (.aload_n 0, 1) := by decide +kernel
theorem d4_36 : decode prog_38_method_13_code 36 = .ok (.dup, 1) := by decide +kernel
theorem d4_37 : decode prog_38_method_13_code 37 = .ok (.getfield 27, 3) := by decide +kernel
theorem d4_40 : decode prog_38_method_13_code 40 = .ok (.iconst 1, 1) := by decide +kernel
theorem d4_41 : decode prog_38_method_13_code 41 = .ok (.iadd, 1) := by decide +kernel
theorem d4_42 : decode prog_38_method_13_code 42 = .ok (.putfield 27, 3) := by decide +kernel
theorem d4_45 : decode prog_38_method_13_code 45 = .ok (.aload_n 0, 1) := by decide +kernel
theorem d4_46 : decode prog_38_method_13_code 46 = .ok (.iconst (-1), 1) := by decide +kernel
theorem d4_47 : decode prog_38_method_13_code 47 = .ok (.putfield 30, 3) := by decide +kernel
theorem d4_50 : decode prog_38_method_13_code 50 = .ok (.aload_n 0, 1) := by decide +kernel
theorem d4_51 : decode prog_38_method_13_code 51 = .ok (.iload_n 1, 1) := by decide +kernel
theorem d4_52 : decode prog_38_method_13_code 52 = .ok (.putfield 33, 3) := by decide +kernel
theorem d4_55 : decode prog_38_method_13_code 55 = .ok (.return_, 1) := by decide +kernel
theorem pn_4 : plainName "com/example/glowcursor/glowcursor/parser/ControlSequence" = true := by first | (simp [plainName, overriddenIn]; done) | decide +kernel
theorem ef_4 (m : MethodId) (x0 : Addr) (x1 : Int32) : entryFrame m #[(.ref x0), (.int x1)] 2 = mkF m 0 #[.val (.ref x0), .val (.int x1)] [] := by first | (simp [entryFrame, mkF, argsToLocals, Value.category]; done) | rfl
def Q4 (Z : State) (o0 : Addr) (p0 : Int32) (pa : Addr) (sa : Addr) (cnt : Int32) (cur : Int32) (cis : Int32) (um : Value) (ui : Value) (ka : ClassId) (ps : List Int32) (kb : ClassId) (ss : List Int32) (h0 : Heap) (n0 : Nat) (v : Option Value) (h : Heap) (L : List Loc) : Prop := v = none ∧ Fr n0 L ∧ Keep h0 h [o0, pa, sa] ∧ Fld Z h o0 "com/example/glowcursor/glowcursor/parser/ControlSequence" "parameters" "[I" (.ref pa) ∧ Fld Z h o0 "com/example/glowcursor/glowcursor/parser/ControlSequence" "subParameters" "[Z" (.ref sa) ∧ Fld Z h o0 "com/example/glowcursor/glowcursor/parser/ControlSequence" "count" "I" (.int (cnt + (1 : Int32))) ∧ Fld Z h o0 "com/example/glowcursor/glowcursor/parser/ControlSequence" "current" "I" (.int (-1 : Int32)) ∧ Fld Z h o0 "com/example/glowcursor/glowcursor/parser/ControlSequence" "currentIsSubParameter" "Z" (.int (nar .boolean p0)) ∧ Fld Z h o0 "com/example/glowcursor/glowcursor/parser/ControlSequence" "privateMarker" "I" um ∧ Fld Z h o0 "com/example/glowcursor/glowcursor/parser/ControlSequence" "intermediate" "I" ui ∧ Ia Z h pa ka .int (32 : Int32) (setI ps cnt cur) ∧ Ia Z h sa kb .boolean (32 : Int32) (setI ss cnt (nar .boolean cis))
set_option maxRecDepth 65536 in
set_option maxHeartbeats 40000000 in
theorem rm4 (l : Launch) (Z : State) (a0 : Array Value) (hw : ∀ d ∈ tables_1, d.before a0 Z = true) (ws : List Jvm.Cond) (o0 : Addr) (p0 : Int32) (pa : Addr) (sa : Addr) (cnt : Int32) (cur : Int32) (cis : Int32) (um : Value) (ui : Value) (ka : ClassId) (ps : List Int32) (kb : ClassId) (ss : List Int32) (h0 : Heap) (n0 : Nat) (Z0 : n0 ≤ h0.size) (E_o0 : Exa Z h0 o0 "com/example/glowcursor/glowcursor/parser/ControlSequence") (g_o0 : n0 ≤ o0) (F_parameters_o0 : Fld Z h0 o0 "com/example/glowcursor/glowcursor/parser/ControlSequence" "parameters" "[I" (.ref pa)) (F_subParameters_o0 : Fld Z h0 o0 "com/example/glowcursor/glowcursor/parser/ControlSequence" "subParameters" "[Z" (.ref sa)) (F_count_o0 : Fld Z h0 o0 "com/example/glowcursor/glowcursor/parser/ControlSequence" "count" "I" (.int cnt)) (F_current_o0 : Fld Z h0 o0 "com/example/glowcursor/glowcursor/parser/ControlSequence" "current" "I" (.int cur)) (F_currentIsSubParameter_o0 : Fld Z h0 o0 "com/example/glowcursor/glowcursor/parser/ControlSequence" "currentIsSubParameter" "Z" (.int cis)) (F_privateMarker_o0 : Fld Z h0 o0 "com/example/glowcursor/glowcursor/parser/ControlSequence" "privateMarker" "I" um) (F_intermediate_o0 : Fld Z h0 o0 "com/example/glowcursor/glowcursor/parser/ControlSequence" "intermediate" "I" ui) (V_pa : Ia Z h0 pa ka .int (32 : Int32) ps) (g_pa : n0 ≤ pa) (V_sa : Ia Z h0 sa kb .boolean (32 : Int32) ss) (g_sa : n0 ≤ sa) (ne_o0_pa : o0 ≠ pa) (ne_o0_sa : o0 ≠ sa) (ne_pa_sa : pa ≠ sa) (hcn : ¬ cnt < (0 : Int32) ∧ cnt < (32 : Int32)) :
    MetFree l (⟨"com/example/glowcursor/glowcursor/parser/ControlSequence", "endParameter", "(Z)V"⟩ : MethodName) (head1 (Jvm.Cond.code (⟨"com/example/glowcursor/glowcursor/parser/ControlSequence", "endParameter", "(Z)V"⟩ : MethodName) prog_38_method_13_code 2 none :: ws) ({ frames := 0, cells := 0, slots := 0, locals := 0 } : Room)) (fun a U => a = #[(.ref o0), (.int p0)] ∧ Z.Warmed39 U.vm ∧ U.heap = h0) (fun _ _ _ _ _ => True) (fun _ U o U' => ∃ v L, o = .returned v ∧ Q4 Z o0 p0 pa sa cnt cur cis um ui ka ps kb ss h0 n0 v U'.heap L ∧ FrameEnd U o U' L ({ frames := 0, cells := 0, slots := 0, locals := 0 } : Room).cells ({ frames := 0, cells := 0, slots := 0, locals := 0 } : Room).slots) := by
  refine MetFree.of_bodySF (plainFor_of_name pn_4) hisR ?_
  intro p e s m args below meth c s₁ Bd hml0 hP hK
  obtain ⟨rfl, hZ, hh⟩ := hP
  have hx := Bd.exec
  have hby := Bd.bytes
  have hml : c.maxLocals = 2 := hml0
  have hown : s.vm.findClass "com/example/glowcursor/glowcursor/parser/ControlSequence" = some m.cls := findClass_of_methodNamed Bd.named
  have hnm := (name_of_methodNamed Bd.named Bd.method).1
  have X0 : Stand p l e ({ frames := 0, cells := 0, slots := 0, locals := 0 } : Room) s m #[(.ref o0), (.int p0)] below meth c s₁ [] 0 0 := Stand.of_body Bd
  have e0 : s₁.heap = h0 := by rw [← hh, Bd.state]; rfl
  have N0 := Fr.nil n0
  have pre0 : ∀ t, Steps p.tables e below (s₁.setTop (mkF m 0 #[.val (.ref o0), .val (.int p0)] [])) t → Steps p.tables e below (s₁.setTop (entryFrame m #[(.ref o0), (.int p0)] 2)) t := fun t k => castTop (ef_4 m o0 p0) k
  obtain ⟨T1, X1, e1, st1⟩ := getF X0 hx hZ hown (host := "") (Or.inl (hw _ (List.mem_of_getElem? (i := 21) rfl))) Via.refl e0 (F_count_o0) (g := (mkF m 1 #[.val (.ref o0), .val (.int p0)] [(.ref o0)])) rfl rfl (hb hby d4_1)
  obtain ⟨T2, X2, e2, st2⟩ := getF X1 hx hZ hown (host := "") (Or.inl (hw _ (List.mem_of_getElem? (i := 11) rfl))) Via.refl e1 (F_parameters_o0) (g := (mkF m 10 #[.val (.ref o0), .val (.int p0)] [(.ref o0)])) rfl rfl (hb hby d4_10)
  obtain ⟨T3, X3, e3, st3⟩ := getF X2 hx hZ hown (host := "") (Or.inl (hw _ (List.mem_of_getElem? (i := 21) rfl))) Via.refl e2 (F_count_o0) (g := (mkF m 14 #[.val (.ref o0), .val (.int p0)] [(.ref o0), (.ref pa)])) rfl rfl (hb hby d4_14)
  obtain ⟨T4, X4, e4, st4⟩ := getF X3 hx hZ hown (host := "") (Or.inl (hw _ (List.mem_of_getElem? (i := 23) rfl))) Via.refl e3 (F_current_o0) (g := (mkF m 18 #[.val (.ref o0), .val (.int p0)] [(.ref o0), (.int cnt), (.ref pa)])) rfl rfl (hb hby d4_18)
  obtain ⟨cl5, Ar5, hin5, hat5⟩ := Ia.get (V_pa) (j := cnt) hcn
  obtain ⟨T6, h6, X6, e6, W6, st6⟩ := stI X4 hx hZ e4 Ar5 (j := cnt) hin5 (g := (mkF m 21 #[.val (.ref o0), .val (.int p0)] [(.int cur), (.int cnt), (.ref pa)])) rfl rfl (hb hby d4_21)
  have Vw6 := Ia.set (V_pa) (j := cnt) (x := cur) hcn rfl W6
  have N6 := Fr.snoc X6 N0 g_pa
  have Z6 : n0 ≤ h6.size := Nat.le_trans Z0 (Keep.of_wr W6).1
  have K6 : Keep h0 h6 [o0, pa, sa] := ((Keep.refl h0 [o0, pa, sa])).wr W6 (Or.inl (List.mem_of_getElem? (i := 1) rfl))
  obtain ⟨T7, X7, e7, st7⟩ := getF X6 hx hZ hown (host := "") (Or.inl (hw _ (List.mem_of_getElem? (i := 14) rfl))) Via.refl e6 ((F_subParameters_o0.other W6 (Or.inl ne_o0_pa))) (g := (mkF m 23 #[.val (.ref o0), .val (.int p0)] [(.ref o0)])) rfl rfl (hb hby d4_23)
  obtain ⟨T8, X8, e8, st8⟩ := getF X7 hx hZ hown (host := "") (Or.inl (hw _ (List.mem_of_getElem? (i := 21) rfl))) Via.refl e7 ((F_count_o0.other W6 (Or.inl ne_o0_pa))) (g := (mkF m 27 #[.val (.ref o0), .val (.int p0)] [(.ref o0), (.ref sa)])) rfl rfl (hb hby d4_27)
  obtain ⟨T9, X9, e9, st9⟩ := getF X8 hx hZ hown (host := "") (Or.inl (hw _ (List.mem_of_getElem? (i := 25) rfl))) Via.refl e8 ((F_currentIsSubParameter_o0.other W6 (Or.inl ne_o0_pa))) (g := (mkF m 31 #[.val (.ref o0), .val (.int p0)] [(.ref o0), (.int cnt), (.ref sa)])) rfl rfl (hb hby d4_31)
  obtain ⟨cl10, Ar10, hin10, hat10⟩ := Ia.get ((V_sa.other W6 (Ne.symm ne_pa_sa))) (j := cnt) hcn
  obtain ⟨T11, h11, X11, e11, W11, st11⟩ := stZ X9 hx hZ e9 Ar10 (j := cnt) hin10 (g := (mkF m 34 #[.val (.ref o0), .val (.int p0)] [(.int cis), (.int cnt), (.ref sa)])) rfl rfl (hb hby d4_34)
  have Vw11 := Ia.set ((V_sa.other W6 (Ne.symm ne_pa_sa))) (j := cnt) (x := (nar .boolean cis)) hcn (fits_nar_bool _) W11
  have N11 := Fr.snoc X11 N6 g_sa
  have Z11 : n0 ≤ h11.size := Nat.le_trans Z6 (Keep.of_wr W11).1
  have K11 : Keep h0 h11 [o0, pa, sa] := (K6).wr W11 (Or.inl (List.mem_of_getElem? (i := 2) rfl))
  obtain ⟨T12, X12, e12, st12⟩ := getF X11 hx hZ hown (host := "") (Or.inl (hw _ (List.mem_of_getElem? (i := 21) rfl))) Via.refl e11 (((F_count_o0.other W6 (Or.inl ne_o0_pa)).other W11 (Or.inl ne_o0_sa))) (g := (mkF m 37 #[.val (.ref o0), .val (.int p0)] [(.ref o0), (.ref o0)])) rfl rfl (hb hby d4_37)
  obtain ⟨T13, h13, X13, e13, W13, st13⟩ := putF X12 hx hZ hown (host := "") (Or.inl (hw _ (List.mem_of_getElem? (i := 21) rfl))) Via.refl e12 (((F_count_o0.other W6 (Or.inl ne_o0_pa)).other W11 (Or.inl ne_o0_sa))) (((E_o0.wr W6).wr W11)) (Or.inl (hw _ (List.mem_of_getElem? (i := 22) rfl))) (hw _ (List.mem_of_getElem? (i := 2) rfl)) (ty := .int) (by decide) rfl rfl (g := (mkF m 42 #[.val (.ref o0), .val (.int p0)] [(.int (cnt + (1 : Int32))), (.ref o0)])) rfl rfl (hb hby d4_42)
  have Fw13 := (((F_count_o0.other W6 (Or.inl ne_o0_pa)).other W11 (Or.inl ne_o0_sa))).same W13
  have N13 := Fr.snoc X13 N11 g_o0
  have Z13 : n0 ≤ h13.size := Nat.le_trans Z11 (Keep.of_wr W13).1
  have K13 : Keep h0 h13 [o0, pa, sa] := (K11).wr W13 (Or.inl (List.mem_of_getElem? (i := 0) rfl))
  obtain ⟨T14, h14, X14, e14, W14, st14⟩ := putF X13 hx hZ hown (host := "") (Or.inl (hw _ (List.mem_of_getElem? (i := 23) rfl))) Via.refl e13 ((((F_current_o0.other W6 (Or.inl ne_o0_pa)).other W11 (Or.inl ne_o0_sa)).other W13 (Or.inr (slot_ne (Or.inl (hw _ (List.mem_of_getElem? (i := 24) rfl))) (Or.inl (hw _ (List.mem_of_getElem? (i := 22) rfl))) (by decide) (t := .int) (t' := .int) (by decide) (by decide))))) ((((E_o0.wr W6).wr W11).wr W13)) (Or.inl (hw _ (List.mem_of_getElem? (i := 24) rfl))) (hw _ (List.mem_of_getElem? (i := 2) rfl)) (ty := .int) (by decide) rfl rfl (g := (mkF m 47 #[.val (.ref o0), .val (.int p0)] [(.int (-1 : Int32)), (.ref o0)])) rfl rfl (hb hby d4_47)
  have Fw14 := ((((F_current_o0.other W6 (Or.inl ne_o0_pa)).other W11 (Or.inl ne_o0_sa)).other W13 (Or.inr (slot_ne (Or.inl (hw _ (List.mem_of_getElem? (i := 24) rfl))) (Or.inl (hw _ (List.mem_of_getElem? (i := 22) rfl))) (by decide) (t := .int) (t' := .int) (by decide) (by decide))))).same W14
  have N14 := Fr.snoc X14 N13 g_o0
  have Z14 : n0 ≤ h14.size := Nat.le_trans Z13 (Keep.of_wr W14).1
  have K14 : Keep h0 h14 [o0, pa, sa] := (K13).wr W14 (Or.inl (List.mem_of_getElem? (i := 0) rfl))
  obtain ⟨T15, h15, X15, e15, W15, st15⟩ := putFN X14 hx hZ hown (hw _ (List.mem_of_getElem? (i := 25) rfl)) Via.refl e14 (((((F_currentIsSubParameter_o0.other W6 (Or.inl ne_o0_pa)).other W11 (Or.inl ne_o0_sa)).other W13 (Or.inr (slot_ne (Or.inl (hw _ (List.mem_of_getElem? (i := 26) rfl))) (Or.inl (hw _ (List.mem_of_getElem? (i := 22) rfl))) (by decide) (t := .boolean) (t' := .int) (by decide) (by decide)))).other W14 (Or.inr (slot_ne (Or.inl (hw _ (List.mem_of_getElem? (i := 26) rfl))) (Or.inl (hw _ (List.mem_of_getElem? (i := 24) rfl))) (by decide) (t := .boolean) (t' := .int) (by decide) (by decide))))) (((((E_o0.wr W6).wr W11).wr W13).wr W14)) (Or.inl (hw _ (List.mem_of_getElem? (i := 26) rfl))) (hw _ (List.mem_of_getElem? (i := 2) rfl)) (ty := .boolean) (v' := (.int (nar .boolean p0))) (by decide) rfl (fits_nar_bool _) (g := (mkF m 52 #[.val (.ref o0), .val (.int p0)] [(.int p0), (.ref o0)])) rfl rfl (hb hby d4_52)
  have Fw15 := (((((F_currentIsSubParameter_o0.other W6 (Or.inl ne_o0_pa)).other W11 (Or.inl ne_o0_sa)).other W13 (Or.inr (slot_ne (Or.inl (hw _ (List.mem_of_getElem? (i := 26) rfl))) (Or.inl (hw _ (List.mem_of_getElem? (i := 22) rfl))) (by decide) (t := .boolean) (t' := .int) (by decide) (by decide)))).other W14 (Or.inr (slot_ne (Or.inl (hw _ (List.mem_of_getElem? (i := 26) rfl))) (Or.inl (hw _ (List.mem_of_getElem? (i := 24) rfl))) (by decide) (t := .boolean) (t' := .int) (by decide) (by decide))))).same W15
  have N15 := Fr.snoc X15 N14 g_o0
  have Z15 : n0 ≤ h15.size := Nat.le_trans Z14 (Keep.of_wr W15).1
  have K15 : Keep h0 h15 [o0, pa, sa] := (K14).wr W15 (Or.inl (List.mem_of_getElem? (i := 0) rfl))
  obtain ⟨fs, hr, hrun, hended, hW, hsame⟩ := X15.leave (v := none) (fun _ => rfl)
  refine ⟨_, _, pre0 _ ?_, hrun, hended, _, _, rfl, ?_, ⟨_, rfl⟩, hW, hsame.mono (by decide) (by decide)⟩
  · show Steps p.tables e below (s₁.setTop (mkF m 0 #[.val (.ref o0), .val (.int p0)] [])) _
    refine XS.aloadN X0.here hx rfl (hb hby d4_0) rfl rfl ?_
    show Steps p.tables e below (s₁.setTop (mkF m 1 #[.val (.ref o0), .val (.int p0)] [(.ref o0)])) _
    refine st1 _ ?_
    show Steps p.tables e below (T1.setTop (mkF m 4 #[.val (.ref o0), .val (.int p0)] [(.int cnt)])) _
    refine XS.bipush X1.here hx rfl (hb hby d4_4) ?_
    show Steps p.tables e below (T1.setTop (mkF m 6 #[.val (.ref o0), .val (.int p0)] [(.int (32 : Int32)), (.int cnt)])) _
    refine XS.icmpNo X1.here hx rfl (hb hby d4_6) rfl (tlt (hcn.2 : cnt < (32 : Int32))).2.1 ?_
    show Steps p.tables e below (T1.setTop (mkF m 9 #[.val (.ref o0), .val (.int p0)] [])) _
    refine XS.aloadN X1.here hx rfl (hb hby d4_9) rfl rfl ?_
    show Steps p.tables e below (T1.setTop (mkF m 10 #[.val (.ref o0), .val (.int p0)] [(.ref o0)])) _
    refine st2 _ ?_
    show Steps p.tables e below (T2.setTop (mkF m 13 #[.val (.ref o0), .val (.int p0)] [(.ref pa)])) _
    refine XS.aloadN X2.here hx rfl (hb hby d4_13) rfl rfl ?_
    show Steps p.tables e below (T2.setTop (mkF m 14 #[.val (.ref o0), .val (.int p0)] [(.ref o0), (.ref pa)])) _
    refine st3 _ ?_
    show Steps p.tables e below (T3.setTop (mkF m 17 #[.val (.ref o0), .val (.int p0)] [(.int cnt), (.ref pa)])) _
    refine XS.aloadN X3.here hx rfl (hb hby d4_17) rfl rfl ?_
    show Steps p.tables e below (T3.setTop (mkF m 18 #[.val (.ref o0), .val (.int p0)] [(.ref o0), (.int cnt), (.ref pa)])) _
    refine st4 _ ?_
    show Steps p.tables e below (T4.setTop (mkF m 21 #[.val (.ref o0), .val (.int p0)] [(.int cur), (.int cnt), (.ref pa)])) _
    refine st6 _ ?_
    show Steps p.tables e below (T6.setTop (mkF m 22 #[.val (.ref o0), .val (.int p0)] [])) _
    refine XS.aloadN X6.here hx rfl (hb hby d4_22) rfl rfl ?_
    show Steps p.tables e below (T6.setTop (mkF m 23 #[.val (.ref o0), .val (.int p0)] [(.ref o0)])) _
    refine st7 _ ?_
    show Steps p.tables e below (T7.setTop (mkF m 26 #[.val (.ref o0), .val (.int p0)] [(.ref sa)])) _
    refine XS.aloadN X7.here hx rfl (hb hby d4_26) rfl rfl ?_
    show Steps p.tables e below (T7.setTop (mkF m 27 #[.val (.ref o0), .val (.int p0)] [(.ref o0), (.ref sa)])) _
    refine st8 _ ?_
    show Steps p.tables e below (T8.setTop (mkF m 30 #[.val (.ref o0), .val (.int p0)] [(.int cnt), (.ref sa)])) _
    refine XS.aloadN X8.here hx rfl (hb hby d4_30) rfl rfl ?_
    show Steps p.tables e below (T8.setTop (mkF m 31 #[.val (.ref o0), .val (.int p0)] [(.ref o0), (.int cnt), (.ref sa)])) _
    refine st9 _ ?_
    show Steps p.tables e below (T9.setTop (mkF m 34 #[.val (.ref o0), .val (.int p0)] [(.int cis), (.int cnt), (.ref sa)])) _
    refine st11 _ ?_
    show Steps p.tables e below (T11.setTop (mkF m 35 #[.val (.ref o0), .val (.int p0)] [])) _
    refine XS.aloadN X11.here hx rfl (hb hby d4_35) rfl rfl ?_
    show Steps p.tables e below (T11.setTop (mkF m 36 #[.val (.ref o0), .val (.int p0)] [(.ref o0)])) _
    refine XS.dup X11.here hx rfl (hb hby d4_36) rfl rfl ?_
    show Steps p.tables e below (T11.setTop (mkF m 37 #[.val (.ref o0), .val (.int p0)] [(.ref o0), (.ref o0)])) _
    refine st12 _ ?_
    show Steps p.tables e below (T12.setTop (mkF m 40 #[.val (.ref o0), .val (.int p0)] [(.int cnt), (.ref o0)])) _
    refine XS.iconst X12.here hx rfl (hb hby d4_40) ?_
    show Steps p.tables e below (T12.setTop (mkF m 41 #[.val (.ref o0), .val (.int p0)] [(.int (1 : Int32)), (.int cnt), (.ref o0)])) _
    refine XS.iadd X12.here hx rfl (hb hby d4_41) rfl ?_
    show Steps p.tables e below (T12.setTop (mkF m 42 #[.val (.ref o0), .val (.int p0)] [(.int (cnt + (1 : Int32))), (.ref o0)])) _
    refine st13 _ ?_
    show Steps p.tables e below (T13.setTop (mkF m 45 #[.val (.ref o0), .val (.int p0)] [])) _
    refine XS.aloadN X13.here hx rfl (hb hby d4_45) rfl rfl ?_
    show Steps p.tables e below (T13.setTop (mkF m 46 #[.val (.ref o0), .val (.int p0)] [(.ref o0)])) _
    refine XS.iconst X13.here hx rfl (hb hby d4_46) ?_
    show Steps p.tables e below (T13.setTop (mkF m 47 #[.val (.ref o0), .val (.int p0)] [(.int (-1 : Int32)), (.ref o0)])) _
    refine st14 _ ?_
    show Steps p.tables e below (T14.setTop (mkF m 50 #[.val (.ref o0), .val (.int p0)] [])) _
    refine XS.aloadN X14.here hx rfl (hb hby d4_50) rfl rfl ?_
    show Steps p.tables e below (T14.setTop (mkF m 51 #[.val (.ref o0), .val (.int p0)] [(.ref o0)])) _
    refine XS.iloadN X14.here hx rfl (hb hby d4_51) rfl ?_
    show Steps p.tables e below (T14.setTop (mkF m 52 #[.val (.ref o0), .val (.int p0)] [(.int p0), (.ref o0)])) _
    refine st15 _ ?_
    show Steps p.tables e below (T15.setTop (mkF m 55 #[.val (.ref o0), .val (.int p0)] [])) _
    exact X15.returnOut hx Bd.returns (hb hby d4_55) hr
  · show Q4 Z o0 p0 pa sa cnt cur cis um ui ka ps kb ss h0 n0 _ T15.heap _
    rw [e15]
    exact ⟨rfl, N15, K15, (((((F_parameters_o0.other W6 (Or.inl ne_o0_pa)).other W11 (Or.inl ne_o0_sa)).other W13 (Or.inr (slot_ne (Or.inr (hw _ (List.mem_of_getElem? (i := 12) rfl))) (Or.inl (hw _ (List.mem_of_getElem? (i := 22) rfl))) (by decide) (t := (.array .int)) (t' := .int) (by decide) (by decide)))).other W14 (Or.inr (slot_ne (Or.inr (hw _ (List.mem_of_getElem? (i := 12) rfl))) (Or.inl (hw _ (List.mem_of_getElem? (i := 24) rfl))) (by decide) (t := (.array .int)) (t' := .int) (by decide) (by decide)))).other W15 (Or.inr (slot_ne (Or.inr (hw _ (List.mem_of_getElem? (i := 12) rfl))) (Or.inl (hw _ (List.mem_of_getElem? (i := 26) rfl))) (by decide) (t := (.array .int)) (t' := .boolean) (by decide) (by decide)))), (((((F_subParameters_o0.other W6 (Or.inl ne_o0_pa)).other W11 (Or.inl ne_o0_sa)).other W13 (Or.inr (slot_ne (Or.inr (hw _ (List.mem_of_getElem? (i := 15) rfl))) (Or.inl (hw _ (List.mem_of_getElem? (i := 22) rfl))) (by decide) (t := (.array .boolean)) (t' := .int) (by decide) (by decide)))).other W14 (Or.inr (slot_ne (Or.inr (hw _ (List.mem_of_getElem? (i := 15) rfl))) (Or.inl (hw _ (List.mem_of_getElem? (i := 24) rfl))) (by decide) (t := (.array .boolean)) (t' := .int) (by decide) (by decide)))).other W15 (Or.inr (slot_ne (Or.inr (hw _ (List.mem_of_getElem? (i := 15) rfl))) (Or.inl (hw _ (List.mem_of_getElem? (i := 26) rfl))) (by decide) (t := (.array .boolean)) (t' := .boolean) (by decide) (by decide)))), ((Fw13.other W14 (Or.inr (slot_ne (Or.inl (hw _ (List.mem_of_getElem? (i := 22) rfl))) (Or.inl (hw _ (List.mem_of_getElem? (i := 24) rfl))) (by decide) (t := .int) (t' := .int) (by decide) (by decide)))).other W15 (Or.inr (slot_ne (Or.inl (hw _ (List.mem_of_getElem? (i := 22) rfl))) (Or.inl (hw _ (List.mem_of_getElem? (i := 26) rfl))) (by decide) (t := .int) (t' := .boolean) (by decide) (by decide)))), (Fw14.other W15 (Or.inr (slot_ne (Or.inl (hw _ (List.mem_of_getElem? (i := 24) rfl))) (Or.inl (hw _ (List.mem_of_getElem? (i := 26) rfl))) (by decide) (t := .int) (t' := .boolean) (by decide) (by decide)))), Fw15, (((((F_privateMarker_o0.other W6 (Or.inl ne_o0_pa)).other W11 (Or.inl ne_o0_sa)).other W13 (Or.inr (slot_ne (Or.inl (hw _ (List.mem_of_getElem? (i := 28) rfl))) (Or.inl (hw _ (List.mem_of_getElem? (i := 22) rfl))) (by decide) (t := .int) (t' := .int) (by decide) (by decide)))).other W14 (Or.inr (slot_ne (Or.inl (hw _ (List.mem_of_getElem? (i := 28) rfl))) (Or.inl (hw _ (List.mem_of_getElem? (i := 24) rfl))) (by decide) (t := .int) (t' := .int) (by decide) (by decide)))).other W15 (Or.inr (slot_ne (Or.inl (hw _ (List.mem_of_getElem? (i := 28) rfl))) (Or.inl (hw _ (List.mem_of_getElem? (i := 26) rfl))) (by decide) (t := .int) (t' := .boolean) (by decide) (by decide)))), (((((F_intermediate_o0.other W6 (Or.inl ne_o0_pa)).other W11 (Or.inl ne_o0_sa)).other W13 (Or.inr (slot_ne (Or.inl (hw _ (List.mem_of_getElem? (i := 30) rfl))) (Or.inl (hw _ (List.mem_of_getElem? (i := 22) rfl))) (by decide) (t := .int) (t' := .int) (by decide) (by decide)))).other W14 (Or.inr (slot_ne (Or.inl (hw _ (List.mem_of_getElem? (i := 30) rfl))) (Or.inl (hw _ (List.mem_of_getElem? (i := 24) rfl))) (by decide) (t := .int) (t' := .int) (by decide) (by decide)))).other W15 (Or.inr (slot_ne (Or.inl (hw _ (List.mem_of_getElem? (i := 30) rfl))) (Or.inl (hw _ (List.mem_of_getElem? (i := 26) rfl))) (by decide) (t := .int) (t' := .boolean) (by decide) (by decide)))), ((((Vw6.other W11 ne_pa_sa).other W13 (Ne.symm ne_o0_pa)).other W14 (Ne.symm ne_o0_pa)).other W15 (Ne.symm ne_o0_pa)), (((Vw11.other W13 (Ne.symm ne_o0_sa)).other W14 (Ne.symm ne_o0_sa)).other W15 (Ne.symm ne_o0_sa))⟩
theorem d8_0 : decode prog_38_method_12_code 0 = .ok (.aload_n 0, 1) := by decide +kernel
theorem d8_1 : decode prog_38_method_12_code 1 = .ok (.aload_n 0, 1) := by decide +kernel
theorem d8_2 : decode prog_38_method_12_code 2 = .ok (.getfield 30, 3) := by decide +kernel
theorem d8_5 : decode prog_38_method_12_code 5 = .ok (.iconst (-1), 1) := by decide +kernel
theorem d8_6 : decode prog_38_method_12_code 6 = .ok (.if_icmp .ne 7, 3) := by decide +kernel
theorem d8_9 : decode prog_38_method_12_code 9 = .ok (.iload_n 1, 1) := by decide +kernel
theorem d8_10 : decode prog_38_method_12_code 10 = .ok (.goto 17, 3) := by decide +kernel
theorem d8_27 : decode prog_38_method_12_code 27 = .ok (.putfield 30, 3) := by decide +kernel
theorem d8_30 : decode prog_38_method_12_code 30 = .ok (.return_, 1) := by decide +kernel
theorem pn_8 : plainName "com/example/glowcursor/glowcursor/parser/ControlSequence" = true := by first | (simp [plainName, overriddenIn]; done) | decide +kernel
theorem ef_8 (m : MethodId) (x0 : Addr) (x1 : Int32) : entryFrame m #[(.ref x0), (.int x1)] 2 = mkF m 0 #[.val (.ref x0), .val (.int x1)] [] := by first | (simp [entryFrame, mkF, argsToLocals, Value.category]; done) | rfl
def Q8 (Z : State) (o0 : Addr) (p0 : Int32) (pa : Addr) (sa : Addr) (cnt : Int32) (cur : Int32) (cis : Int32) (um : Value) (ui : Value) (ka : ClassId) (ps : List Int32) (kb : ClassId) (ss : List Int32) (h0 : Heap) (n0 : Nat) (v : Option Value) (h : Heap) (L : List Loc) : Prop := v = none ∧ Fr n0 L ∧ Keep h0 h [o0, pa, sa] ∧ Fld Z h o0 "com/example/glowcursor/glowcursor/parser/ControlSequence" "parameters" "[I" (.ref pa) ∧ Fld Z h o0 "com/example/glowcursor/glowcursor/parser/ControlSequence" "subParameters" "[Z" (.ref sa) ∧ Fld Z h o0 "com/example/glowcursor/glowcursor/parser/ControlSequence" "count" "I" (.int cnt) ∧ Fld Z h o0 "com/example/glowcursor/glowcursor/parser/ControlSequence" "current" "I" (.int p0) ∧ Fld Z h o0 "com/example/glowcursor/glowcursor/parser/ControlSequence" "currentIsSubParameter" "Z" (.int cis) ∧ Fld Z h o0 "com/example/glowcursor/glowcursor/parser/ControlSequence" "privateMarker" "I" um ∧ Fld Z h o0 "com/example/glowcursor/glowcursor/parser/ControlSequence" "intermediate" "I" ui ∧ Ia Z h pa ka .int (32 : Int32) ps ∧ Ia Z h sa kb .boolean (32 : Int32) ss
set_option maxRecDepth 65536 in
set_option maxHeartbeats 40000000 in
theorem rm8 (l : Launch) (Z : State) (a0 : Array Value) (hw : ∀ d ∈ tables_1, d.before a0 Z = true) (ws : List Jvm.Cond) (o0 : Addr) (p0 : Int32) (pa : Addr) (sa : Addr) (cnt : Int32) (cur : Int32) (cis : Int32) (um : Value) (ui : Value) (ka : ClassId) (ps : List Int32) (kb : ClassId) (ss : List Int32) (h0 : Heap) (n0 : Nat) (Z0 : n0 ≤ h0.size) (E_o0 : Exa Z h0 o0 "com/example/glowcursor/glowcursor/parser/ControlSequence") (g_o0 : n0 ≤ o0) (F_parameters_o0 : Fld Z h0 o0 "com/example/glowcursor/glowcursor/parser/ControlSequence" "parameters" "[I" (.ref pa)) (F_subParameters_o0 : Fld Z h0 o0 "com/example/glowcursor/glowcursor/parser/ControlSequence" "subParameters" "[Z" (.ref sa)) (F_count_o0 : Fld Z h0 o0 "com/example/glowcursor/glowcursor/parser/ControlSequence" "count" "I" (.int cnt)) (F_current_o0 : Fld Z h0 o0 "com/example/glowcursor/glowcursor/parser/ControlSequence" "current" "I" (.int cur)) (F_currentIsSubParameter_o0 : Fld Z h0 o0 "com/example/glowcursor/glowcursor/parser/ControlSequence" "currentIsSubParameter" "Z" (.int cis)) (F_privateMarker_o0 : Fld Z h0 o0 "com/example/glowcursor/glowcursor/parser/ControlSequence" "privateMarker" "I" um) (F_intermediate_o0 : Fld Z h0 o0 "com/example/glowcursor/glowcursor/parser/ControlSequence" "intermediate" "I" ui) (V_pa : Ia Z h0 pa ka .int (32 : Int32) ps) (g_pa : n0 ≤ pa) (V_sa : Ia Z h0 sa kb .boolean (32 : Int32) ss) (g_sa : n0 ≤ sa) (ne_o0_pa : o0 ≠ pa) (ne_o0_sa : o0 ≠ sa) (ne_pa_sa : pa ≠ sa) (hcu : cur = (-1 : Int32)) :
    MetFree l (⟨"com/example/glowcursor/glowcursor/parser/ControlSequence", "addDigit", "(I)V"⟩ : MethodName) (head1 (Jvm.Cond.code (⟨"com/example/glowcursor/glowcursor/parser/ControlSequence", "addDigit", "(I)V"⟩ : MethodName) prog_38_method_12_code 2 none :: ws) ({ frames := 0, cells := 0, slots := 0, locals := 0 } : Room)) (fun a U => a = #[(.ref o0), (.int p0)] ∧ Z.Warmed39 U.vm ∧ U.heap = h0) (fun _ _ _ _ _ => True) (fun _ U o U' => ∃ v L, o = .returned v ∧ Q8 Z o0 p0 pa sa cnt cur cis um ui ka ps kb ss h0 n0 v U'.heap L ∧ FrameEnd U o U' L ({ frames := 0, cells := 0, slots := 0, locals := 0 } : Room).cells ({ frames := 0, cells := 0, slots := 0, locals := 0 } : Room).slots) := by
  refine MetFree.of_bodySF (plainFor_of_name pn_8) hisR ?_
  intro p e s m args below meth c s₁ Bd hml0 hP hK
  obtain ⟨rfl, hZ, hh⟩ := hP
  have hx := Bd.exec
  have hby := Bd.bytes
  have hml : c.maxLocals = 2 := hml0
  have hown : s.vm.findClass "com/example/glowcursor/glowcursor/parser/ControlSequence" = some m.cls := findClass_of_methodNamed Bd.named
  have hnm := (name_of_methodNamed Bd.named Bd.method).1
  have X0 : Stand p l e ({ frames := 0, cells := 0, slots := 0, locals := 0 } : Room) s m #[(.ref o0), (.int p0)] below meth c s₁ [] 0 0 := Stand.of_body Bd
  have e0 : s₁.heap = h0 := by rw [← hh, Bd.state]; rfl
  have N0 := Fr.nil n0
  have pre0 : ∀ t, Steps p.tables e below (s₁.setTop (mkF m 0 #[.val (.ref o0), .val (.int p0)] [])) t → Steps p.tables e below (s₁.setTop (entryFrame m #[(.ref o0), (.int p0)] 2)) t := fun t k => castTop (ef_8 m o0 p0) k
  obtain ⟨T1, X1, e1, st1⟩ := getF X0 hx hZ hown (host := "") (Or.inl (hw _ (List.mem_of_getElem? (i := 23) rfl))) Via.refl e0 (F_current_o0) (g := (mkF m 2 #[.val (.ref o0), .val (.int p0)] [(.ref o0), (.ref o0)])) rfl rfl (hb hby d8_2)
  obtain ⟨T2, h2, X2, e2, W2, st2⟩ := putF X1 hx hZ hown (host := "") (Or.inl (hw _ (List.mem_of_getElem? (i := 23) rfl))) Via.refl e1 (F_current_o0) (E_o0) (Or.inl (hw _ (List.mem_of_getElem? (i := 24) rfl))) (hw _ (List.mem_of_getElem? (i := 2) rfl)) (ty := .int) (by decide) rfl rfl (g := (mkF m 27 #[.val (.ref o0), .val (.int p0)] [(.int p0), (.ref o0)])) rfl rfl (hb hby d8_27)
  have Fw2 := (F_current_o0).same W2
  have N2 := Fr.snoc X2 N0 g_o0
  have Z2 : n0 ≤ h2.size := Nat.le_trans Z0 (Keep.of_wr W2).1
  have K2 : Keep h0 h2 [o0, pa, sa] := ((Keep.refl h0 [o0, pa, sa])).wr W2 (Or.inl (List.mem_of_getElem? (i := 0) rfl))
  obtain ⟨fs, hr, hrun, hended, hW, hsame⟩ := X2.leave (v := none) (fun _ => rfl)
  refine ⟨_, _, pre0 _ ?_, hrun, hended, _, _, rfl, ?_, ⟨_, rfl⟩, hW, hsame.mono (by decide) (by decide)⟩
  · show Steps p.tables e below (s₁.setTop (mkF m 0 #[.val (.ref o0), .val (.int p0)] [])) _
    refine XS.aloadN X0.here hx rfl (hb hby d8_0) rfl rfl ?_
    show Steps p.tables e below (s₁.setTop (mkF m 1 #[.val (.ref o0), .val (.int p0)] [(.ref o0)])) _
    refine XS.aloadN X0.here hx rfl (hb hby d8_1) rfl rfl ?_
    show Steps p.tables e below (s₁.setTop (mkF m 2 #[.val (.ref o0), .val (.int p0)] [(.ref o0), (.ref o0)])) _
    refine st1 _ ?_
    show Steps p.tables e below (T1.setTop (mkF m 5 #[.val (.ref o0), .val (.int p0)] [(.int cur), (.ref o0)])) _
    refine XS.iconst X1.here hx rfl (hb hby d8_5) ?_
    show Steps p.tables e below (T1.setTop (mkF m 6 #[.val (.ref o0), .val (.int p0)] [(.int (-1 : Int32)), (.int cur), (.ref o0)])) _
    refine XS.icmpNo X1.here hx rfl (hb hby d8_6) rfl (teq (hcu : cur = (-1 : Int32))).2 ?_
    show Steps p.tables e below (T1.setTop (mkF m 9 #[.val (.ref o0), .val (.int p0)] [(.ref o0)])) _
    refine XS.iloadN X1.here hx rfl (hb hby d8_9) rfl ?_
    show Steps p.tables e below (T1.setTop (mkF m 10 #[.val (.ref o0), .val (.int p0)] [(.int p0), (.ref o0)])) _
    refine XS.goto X1.here hx rfl (pc0 := 10) (pc' := 27) rfl (hb hby d8_10) (by decide) (by decide) ?_
    show Steps p.tables e below (T1.setTop (mkF m 27 #[.val (.ref o0), .val (.int p0)] [(.int p0), (.ref o0)])) _
    refine st2 _ ?_
    show Steps p.tables e below (T2.setTop (mkF m 30 #[.val (.ref o0), .val (.int p0)] [])) _
    exact X2.returnOut hx Bd.returns (hb hby d8_30) hr
  · show Q8 Z o0 p0 pa sa cnt cur cis um ui ka ps kb ss h0 n0 _ T2.heap _
    rw [e2]
    exact ⟨rfl, N2, K2, (F_parameters_o0.other W2 (Or.inr (slot_ne (Or.inr (hw _ (List.mem_of_getElem? (i := 12) rfl))) (Or.inl (hw _ (List.mem_of_getElem? (i := 24) rfl))) (by decide) (t := (.array .int)) (t' := .int) (by decide) (by decide)))), (F_subParameters_o0.other W2 (Or.inr (slot_ne (Or.inr (hw _ (List.mem_of_getElem? (i := 15) rfl))) (Or.inl (hw _ (List.mem_of_getElem? (i := 24) rfl))) (by decide) (t := (.array .boolean)) (t' := .int) (by decide) (by decide)))), (F_count_o0.other W2 (Or.inr (slot_ne (Or.inl (hw _ (List.mem_of_getElem? (i := 22) rfl))) (Or.inl (hw _ (List.mem_of_getElem? (i := 24) rfl))) (by decide) (t := .int) (t' := .int) (by decide) (by decide)))), Fw2, (F_currentIsSubParameter_o0.other W2 (Or.inr (slot_ne (Or.inl (hw _ (List.mem_of_getElem? (i := 26) rfl))) (Or.inl (hw _ (List.mem_of_getElem? (i := 24) rfl))) (by decide) (t := .boolean) (t' := .int) (by decide) (by decide)))), (F_privateMarker_o0.other W2 (Or.inr (slot_ne (Or.inl (hw _ (List.mem_of_getElem? (i := 28) rfl))) (Or.inl (hw _ (List.mem_of_getElem? (i := 24) rfl))) (by decide) (t := .int) (t' := .int) (by decide) (by decide)))), (F_intermediate_o0.other W2 (Or.inr (slot_ne (Or.inl (hw _ (List.mem_of_getElem? (i := 30) rfl))) (Or.inl (hw _ (List.mem_of_getElem? (i := 24) rfl))) (by decide) (t := .int) (t' := .int) (by decide) (by decide)))), (V_pa.other W2 (Ne.symm ne_o0_pa)), (V_sa.other W2 (Ne.symm ne_o0_sa))⟩
theorem d5_0 : decode prog_38_method_5_code 0 = .ok (.aload_n 0, 1) := by decide +kernel
theorem d5_1 : decode prog_38_method_5_code 1 = .ok (.getfield 27, 3) := by decide +kernel
theorem d5_4 : decode prog_38_method_5_code 4 = .ok (.ireturn, 1) := by decide +kernel
theorem pn_5 : plainName "com/example/glowcursor/glowcursor/parser/ControlSequence" = true := by first | (simp [plainName, overriddenIn]; done) | decide +kernel
theorem ef_5 (m : MethodId) (x0 : Addr) : entryFrame m #[(.ref x0)] 1 = mkF m 0 #[.val (.ref x0)] [] := by first | (simp [entryFrame, mkF, argsToLocals, Value.category]; done) | rfl
def f5 (cnt : Int32) : Int32 := cnt
def Q5 (Z : State) (o0 : Addr) (cnt : Int32) (h0 : Heap) (n0 : Nat) (v : Option Value) (h : Heap) (L : List Loc) : Prop := v = some (.int (f5 cnt)) ∧ Fr n0 L ∧ h = h0
set_option maxRecDepth 65536 in
set_option maxHeartbeats 40000000 in
theorem rm5 (l : Launch) (Z : State) (a0 : Array Value) (hw : ∀ d ∈ tables_1, d.before a0 Z = true) (ws : List Jvm.Cond) (o0 : Addr) (cnt : Int32) (h0 : Heap) (n0 : Nat) (Z0 : n0 ≤ h0.size) (E_o0 : Exa Z h0 o0 "com/example/glowcursor/glowcursor/parser/ControlSequence") (F_count_o0 : Fld Z h0 o0 "com/example/glowcursor/glowcursor/parser/ControlSequence" "count" "I" (.int cnt))  :
    MetFree l (⟨"com/example/glowcursor/glowcursor/parser/ControlSequence", "parameterCount", "()I"⟩ : MethodName) (head1 (Jvm.Cond.code (⟨"com/example/glowcursor/glowcursor/parser/ControlSequence", "parameterCount", "()I"⟩ : MethodName) prog_38_method_5_code 1 (some .int) :: ws) ({ frames := 0, cells := 0, slots := 0, locals := 0 } : Room)) (fun a U => a = #[(.ref o0)] ∧ Z.Warmed39 U.vm ∧ U.heap = h0) (fun _ _ _ _ _ => True) (fun _ U o U' => ∃ v L, o = .returned v ∧ Q5 Z o0 cnt h0 n0 v U'.heap L ∧ FrameEnd U o U' L ({ frames := 0, cells := 0, slots := 0, locals := 0 } : Room).cells ({ frames := 0, cells := 0, slots := 0, locals := 0 } : Room).slots) := by
  refine MetFree.of_bodySF (plainFor_of_name pn_5) hisR ?_
  intro p e s m args below meth c s₁ Bd hml0 hP hK
  obtain ⟨rfl, hZ, hh⟩ := hP
  have hx := Bd.exec
  have hby := Bd.bytes
  have hml : c.maxLocals = 1 := hml0
  have hown : s.vm.findClass "com/example/glowcursor/glowcursor/parser/ControlSequence" = some m.cls := findClass_of_methodNamed Bd.named
  have hnm := (name_of_methodNamed Bd.named Bd.method).1
  have X0 : Stand p l e ({ frames := 0, cells := 0, slots := 0, locals := 0 } : Room) s m #[(.ref o0)] below meth c s₁ [] 0 0 := Stand.of_body Bd
  have e0 : s₁.heap = h0 := by rw [← hh, Bd.state]; rfl
  have N0 := Fr.nil n0
  have pre0 : ∀ t, Steps p.tables e below (s₁.setTop (mkF m 0 #[.val (.ref o0)] [])) t → Steps p.tables e below (s₁.setTop (entryFrame m #[(.ref o0)] 1)) t := fun t k => castTop (ef_5 m o0) k
  obtain ⟨T1, X1, e1, st1⟩ := getF X0 hx hZ hown (host := "") (Or.inl (hw _ (List.mem_of_getElem? (i := 21) rfl))) Via.refl e0 (F_count_o0) (g := (mkF m 1 #[.val (.ref o0)] [(.ref o0)])) rfl rfl (hb hby d5_1)
  have hv : (f5 cnt) = cnt := rfl
  obtain ⟨fs, hr, hrun, hended, hW, hsame⟩ := X1.leave (v := some (.int cnt)) (fun h => by rw [Bd.returns] at h; cases h)
  refine ⟨_, _, pre0 _ ?_, hrun, hended, _, _, rfl, ?_, ⟨_, rfl⟩, hW, hsame.mono (by decide) (by decide)⟩
  · show Steps p.tables e below (s₁.setTop (mkF m 0 #[.val (.ref o0)] [])) _
    refine XS.aloadN X0.here hx rfl (hb hby d5_0) rfl rfl ?_
    show Steps p.tables e below (s₁.setTop (mkF m 1 #[.val (.ref o0)] [(.ref o0)])) _
    refine st1 _ ?_
    show Steps p.tables e below (T1.setTop (mkF m 4 #[.val (.ref o0)] [(.int cnt)])) _
    exact retI X1 hx Bd.returns (hb hby d5_4) hr
  · show Q5 Z o0 cnt h0 n0 _ T1.heap _
    rw [e1]
    exact ⟨by rw [hv], N0, rfl⟩
theorem d6_0 : decode prog_38_method_6_code 0 = .ok (.iload_n 1, 1) := by decide +kernel
theorem d6_1 : decode prog_38_method_6_code 1 = .ok (.aload_n 0, 1) := by decide +kernel
theorem d6_2 : decode prog_38_method_6_code 2 = .ok (.getfield 27, 3) := by decide +kernel
theorem d6_5 : decode prog_38_method_6_code 5 = .ok (.if_icmp .ge 13, 3) := by decide +kernel
theorem d6_8 : decode prog_38_method_6_code 8 = .ok (.aload_n 0, 1) := by decide +kernel
theorem d6_9 : decode prog_38_method_6_code 9 = .ok (.getfield 9, 3) := by decide +kernel
theorem d6_12 : decode prog_38_method_6_code 12 = .ok (.iload_n 1, 1) := by decide +kernel
theorem d6_13 : decode prog_38_method_6_code 13 = .ok (.iaload, 1) := by decide +kernel
theorem d6_14 : decode prog_38_method_6_code 14 = .ok (.iconst (-1), 1) := by decide +kernel
theorem d6_15 : decode prog_38_method_6_code 15 = .ok (.if_icmp .ne 5, 3) := by decide +kernel
theorem d6_18 : decode prog_38_method_6_code 18 = .ok (.iload_n 2, 1) := by decide +kernel
theorem d6_19 : decode prog_38_method_6_code 19 = .ok (.ireturn, 1) := by decide +kernel
theorem d6_20 : decode prog_38_method_6_code 20 = .ok (.aload_n 0, 1) := by decide +kernel
theorem d6_21 : decode prog_38_method_6_code 21 = .ok (.getfield 9, 3) := by decide +kernel
theorem d6_24 : decode prog_38_method_6_code 24 = .ok (.iload_n 1, 1) := by decide +kernel
theorem d6_25 : decode prog_38_method_6_code 25 = .ok (.iaload, 1) := by decide +kernel
theorem d6_26 : decode prog_38_method_6_code 26 = .ok (.ireturn, 1) := by decide +kernel
theorem pn_6 : plainName "com/example/glowcursor/glowcursor/parser/ControlSequence" = true := by first | (simp [plainName, overriddenIn]; done) | decide +kernel
theorem ef_6 (m : MethodId) (x0 : Addr) (x1 : Int32) (x2 : Int32) : entryFrame m #[(.ref x0), (.int x1), (.int x2)] 3 = mkF m 0 #[.val (.ref x0), .val (.int x1), .val (.int x2)] [] := by first | (simp [entryFrame, mkF, argsToLocals, Value.category]; done) | rfl
def f6 (p0 : Int32) (p1 : Int32) (cnt : Int32) (ps : List Int32) : Int32 := (if p0 < cnt then (if (getI ps p0) = (-1 : Int32) then p1 else (getI ps p0)) else p1)
def Q6 (Z : State) (o0 : Addr) (p0 : Int32) (p1 : Int32) (cnt : Int32) (pa : Addr) (ka : ClassId) (ps : List Int32) (h0 : Heap) (n0 : Nat) (v : Option Value) (h : Heap) (L : List Loc) : Prop := v = some (.int (f6 p0 p1 cnt ps)) ∧ Fr n0 L ∧ h = h0
set_option maxRecDepth 65536 in
set_option maxHeartbeats 40000000 in
theorem rm6 (l : Launch) (Z : State) (a0 : Array Value) (hw : ∀ d ∈ tables_1, d.before a0 Z = true) (ws : List Jvm.Cond) (o0 : Addr) (p0 : Int32) (p1 : Int32) (cnt : Int32) (pa : Addr) (ka : ClassId) (ps : List Int32) (h0 : Heap) (n0 : Nat) (Z0 : n0 ≤ h0.size) (E_o0 : Exa Z h0 o0 "com/example/glowcursor/glowcursor/parser/ControlSequence") (F_count_o0 : Fld Z h0 o0 "com/example/glowcursor/glowcursor/parser/ControlSequence" "count" "I" (.int cnt)) (F_parameters_o0 : Fld Z h0 o0 "com/example/glowcursor/glowcursor/parser/ControlSequence" "parameters" "[I" (.ref pa)) (V_pa : Ia Z h0 pa ka .int (32 : Int32) ps) (hix : ¬ p0 < (0 : Int32) ∧ p0 < (32 : Int32)) :
    MetFree l (⟨"com/example/glowcursor/glowcursor/parser/ControlSequence", "parameter", "(II)I"⟩ : MethodName) (head1 (Jvm.Cond.code (⟨"com/example/glowcursor/glowcursor/parser/ControlSequence", "parameter", "(II)I"⟩ : MethodName) prog_38_method_6_code 3 (some .int) :: ws) ({ frames := 0, cells := 0, slots := 0, locals := 0 } : Room)) (fun a U => a = #[(.ref o0), (.int p0), (.int p1)] ∧ Z.Warmed39 U.vm ∧ U.heap = h0) (fun _ _ _ _ _ => True) (fun _ U o U' => ∃ v L, o = .returned v ∧ Q6 Z o0 p0 p1 cnt pa ka ps h0 n0 v U'.heap L ∧ FrameEnd U o U' L ({ frames := 0, cells := 0, slots := 0, locals := 0 } : Room).cells ({ frames := 0, cells := 0, slots := 0, locals := 0 } : Room).slots) := by
  refine MetFree.of_bodySF (plainFor_of_name pn_6) hisR ?_
  intro p e s m args below meth c s₁ Bd hml0 hP hK
  obtain ⟨rfl, hZ, hh⟩ := hP
  have hx := Bd.exec
  have hby := Bd.bytes
  have hml : c.maxLocals = 3 := hml0
  have hown : s.vm.findClass "com/example/glowcursor/glowcursor/parser/ControlSequence" = some m.cls := findClass_of_methodNamed Bd.named
  have hnm := (name_of_methodNamed Bd.named Bd.method).1
  have X0 : Stand p l e ({ frames := 0, cells := 0, slots := 0, locals := 0 } : Room) s m #[(.ref o0), (.int p0), (.int p1)] below meth c s₁ [] 0 0 := Stand.of_body Bd
  have e0 : s₁.heap = h0 := by rw [← hh, Bd.state]; rfl
  have N0 := Fr.nil n0
  have pre0 : ∀ t, Steps p.tables e below (s₁.setTop (mkF m 0 #[.val (.ref o0), .val (.int p0), .val (.int p1)] [])) t → Steps p.tables e below (s₁.setTop (entryFrame m #[(.ref o0), (.int p0), (.int p1)] 3)) t := fun t k => castTop (ef_6 m o0 p0 p1) k
  obtain ⟨T1, X1, e1, st1⟩ := getF X0 hx hZ hown (host := "") (Or.inl (hw _ (List.mem_of_getElem? (i := 21) rfl))) Via.refl e0 (F_count_o0) (g := (mkF m 2 #[.val (.ref o0), .val (.int p0), .val (.int p1)] [(.ref o0), (.int p0)])) rfl rfl (hb hby d6_2)
  have pre2 : ∀ t, Steps p.tables e below (T1.setTop (mkF m 5 #[.val (.ref o0), .val (.int p0), .val (.int p1)] [(.int cnt), (.int p0)])) t → Steps p.tables e below (s₁.setTop (entryFrame m #[(.ref o0), (.int p0), (.int p1)] 3)) t := fun t k => pre0 t (by
    show Steps p.tables e below (s₁.setTop (mkF m 0 #[.val (.ref o0), .val (.int p0), .val (.int p1)] [])) _
    refine XS.iloadN X0.here hx rfl (hb hby d6_0) rfl ?_
    show Steps p.tables e below (s₁.setTop (mkF m 1 #[.val (.ref o0), .val (.int p0), .val (.int p1)] [(.int p0)])) _
    refine XS.aloadN X0.here hx rfl (hb hby d6_1) rfl rfl ?_
    show Steps p.tables e below (s₁.setTop (mkF m 2 #[.val (.ref o0), .val (.int p0), .val (.int p1)] [(.ref o0), (.int p0)])) _
    refine st1 _ ?_
    show Steps p.tables e below (T1.setTop (mkF m 5 #[.val (.ref o0), .val (.int p0), .val (.int p1)] [(.int cnt), (.int p0)])) _
    exact k)
  by_cases hc5_3 : p0 < cnt
  · obtain ⟨T4, X4, e4, st4⟩ := getF X1 hx hZ hown (host := "") (Or.inl (hw _ (List.mem_of_getElem? (i := 11) rfl))) Via.refl e1 (F_parameters_o0) (g := (mkF m 9 #[.val (.ref o0), .val (.int p0), .val (.int p1)] [(.ref o0)])) rfl rfl (hb hby d6_9)
    obtain ⟨cl5, Ar5, hin5, hat5⟩ := Ia.get (V_pa) (j := p0) hix
    have pre6 : ∀ t, Steps p.tables e below (T4.setTop (mkF m 15 #[.val (.ref o0), .val (.int p0), .val (.int p1)] [(.int (-1 : Int32)), (.int (getI ps p0))])) t → Steps p.tables e below (s₁.setTop (entryFrame m #[(.ref o0), (.int p0), (.int p1)] 3)) t := fun t k => pre2 t (by
      show Steps p.tables e below (T1.setTop (mkF m 5 #[.val (.ref o0), .val (.int p0), .val (.int p1)] [(.int cnt), (.int p0)])) _
      refine XS.icmpNo X1.here hx rfl (hb hby d6_5) rfl (tlt hc5_3).2.1 ?_
      show Steps p.tables e below (T1.setTop (mkF m 8 #[.val (.ref o0), .val (.int p0), .val (.int p1)] [])) _
      refine XS.aloadN X1.here hx rfl (hb hby d6_8) rfl rfl ?_
      show Steps p.tables e below (T1.setTop (mkF m 9 #[.val (.ref o0), .val (.int p0), .val (.int p1)] [(.ref o0)])) _
      refine st4 _ ?_
      show Steps p.tables e below (T4.setTop (mkF m 12 #[.val (.ref o0), .val (.int p0), .val (.int p1)] [(.ref pa)])) _
      refine XS.iloadN X4.here hx rfl (hb hby d6_12) rfl ?_
      show Steps p.tables e below (T4.setTop (mkF m 13 #[.val (.ref o0), .val (.int p0), .val (.int p1)] [(.int p0), (.ref pa)])) _
      refine X4.iaload hx (j := p0) (v := (.int (getI ps p0))) (by rw [e4]; exact Ar5.1) (State.isArrayOf_alike hZ.alike Ar5.2.1) Ar5.2.2 hin5 hat5 (g := (mkF m 13 #[.val (.ref o0), .val (.int p0), .val (.int p1)] [(.int p0), (.ref pa)])) rfl rfl (hb hby d6_13) _ ?_
      show Steps p.tables e below (T4.setTop (mkF m 14 #[.val (.ref o0), .val (.int p0), .val (.int p1)] [(.int (getI ps p0))])) _
      refine XS.iconst X4.here hx rfl (hb hby d6_14) ?_
      show Steps p.tables e below (T4.setTop (mkF m 15 #[.val (.ref o0), .val (.int p0), .val (.int p1)] [(.int (-1 : Int32)), (.int (getI ps p0))])) _
      exact k)
    by_cases hc15_7 : (getI ps p0) = (-1 : Int32)
    · have hv : (f6 p0 p1 cnt ps) = p1 := by simp only [f6, if_pos hc5_3, if_pos hc15_7]
      obtain ⟨fs, hr, hrun, hended, hW, hsame⟩ := X4.leave (v := some (.int p1)) (fun h => by rw [Bd.returns] at h; cases h)
      refine ⟨_, _, pre6 _ ?_, hrun, hended, _, _, rfl, ?_, ⟨_, rfl⟩, hW, hsame.mono (by decide) (by decide)⟩
      · show Steps p.tables e below (T4.setTop (mkF m 15 #[.val (.ref o0), .val (.int p0), .val (.int p1)] [(.int (-1 : Int32)), (.int (getI ps p0))])) _
        refine XS.icmpNo X4.here hx rfl (hb hby d6_15) rfl (teq hc15_7).2 ?_
        show Steps p.tables e below (T4.setTop (mkF m 18 #[.val (.ref o0), .val (.int p0), .val (.int p1)] [])) _
        refine XS.iloadN X4.here hx rfl (hb hby d6_18) rfl ?_
        show Steps p.tables e below (T4.setTop (mkF m 19 #[.val (.ref o0), .val (.int p0), .val (.int p1)] [(.int p1)])) _
        exact retI X4 hx Bd.returns (hb hby d6_19) hr
      · show Q6 Z o0 p0 p1 cnt pa ka ps h0 n0 _ T4.heap _
        rw [e4]
        exact ⟨by rw [hv], N0, rfl⟩
    · obtain ⟨T8, X8, e8, st8⟩ := getF X4 hx hZ hown (host := "") (Or.inl (hw _ (List.mem_of_getElem? (i := 11) rfl))) Via.refl e4 (F_parameters_o0) (g := (mkF m 21 #[.val (.ref o0), .val (.int p0), .val (.int p1)] [(.ref o0)])) rfl rfl (hb hby d6_21)
      obtain ⟨cl9, Ar9, hin9, hat9⟩ := Ia.get (V_pa) (j := p0) hix
      have hv : (f6 p0 p1 cnt ps) = (getI ps p0) := by simp only [f6, if_pos hc5_3, if_neg hc15_7]
      obtain ⟨fs, hr, hrun, hended, hW, hsame⟩ := X8.leave (v := some (.int (getI ps p0))) (fun h => by rw [Bd.returns] at h; cases h)
      refine ⟨_, _, pre6 _ ?_, hrun, hended, _, _, rfl, ?_, ⟨_, rfl⟩, hW, hsame.mono (by decide) (by decide)⟩
      · show Steps p.tables e below (T4.setTop (mkF m 15 #[.val (.ref o0), .val (.int p0), .val (.int p1)] [(.int (-1 : Int32)), (.int (getI ps p0))])) _
        refine XS.icmpYes X4.here hx rfl (pc0 := 15) (pc' := 20) rfl (hb hby d6_15) rfl (feq hc15_7).2 (by decide) (by decide) ?_
        show Steps p.tables e below (T4.setTop (mkF m 20 #[.val (.ref o0), .val (.int p0), .val (.int p1)] [])) _
        refine XS.aloadN X4.here hx rfl (hb hby d6_20) rfl rfl ?_
        show Steps p.tables e below (T4.setTop (mkF m 21 #[.val (.ref o0), .val (.int p0), .val (.int p1)] [(.ref o0)])) _
        refine st8 _ ?_
        show Steps p.tables e below (T8.setTop (mkF m 24 #[.val (.ref o0), .val (.int p0), .val (.int p1)] [(.ref pa)])) _
        refine XS.iloadN X8.here hx rfl (hb hby d6_24) rfl ?_
        show Steps p.tables e below (T8.setTop (mkF m 25 #[.val (.ref o0), .val (.int p0), .val (.int p1)] [(.int p0), (.ref pa)])) _
        refine X8.iaload hx (j := p0) (v := (.int (getI ps p0))) (by rw [e8]; exact Ar9.1) (State.isArrayOf_alike hZ.alike Ar9.2.1) Ar9.2.2 hin9 hat9 (g := (mkF m 25 #[.val (.ref o0), .val (.int p0), .val (.int p1)] [(.int p0), (.ref pa)])) rfl rfl (hb hby d6_25) _ ?_
        show Steps p.tables e below (T8.setTop (mkF m 26 #[.val (.ref o0), .val (.int p0), .val (.int p1)] [(.int (getI ps p0))])) _
        exact retI X8 hx Bd.returns (hb hby d6_26) hr
      · show Q6 Z o0 p0 p1 cnt pa ka ps h0 n0 _ T8.heap _
        rw [e8]
        exact ⟨by rw [hv], N0, rfl⟩
  · have hv : (f6 p0 p1 cnt ps) = p1 := by simp only [f6, if_neg hc5_3]
    obtain ⟨fs, hr, hrun, hended, hW, hsame⟩ := X1.leave (v := some (.int p1)) (fun h => by rw [Bd.returns] at h; cases h)
    refine ⟨_, _, pre2 _ ?_, hrun, hended, _, _, rfl, ?_, ⟨_, rfl⟩, hW, hsame.mono (by decide) (by decide)⟩
    · show Steps p.tables e below (T1.setTop (mkF m 5 #[.val (.ref o0), .val (.int p0), .val (.int p1)] [(.int cnt), (.int p0)])) _
      refine XS.icmpYes X1.here hx rfl (pc0 := 5) (pc' := 18) rfl (hb hby d6_5) rfl (flt hc5_3).2.1 (by decide) (by decide) ?_
      show Steps p.tables e below (T1.setTop (mkF m 18 #[.val (.ref o0), .val (.int p0), .val (.int p1)] [])) _
      refine XS.iloadN X1.here hx rfl (hb hby d6_18) rfl ?_
      show Steps p.tables e below (T1.setTop (mkF m 19 #[.val (.ref o0), .val (.int p0), .val (.int p1)] [(.int p1)])) _
      exact retI X1 hx Bd.returns (hb hby d6_19) hr
    · show Q6 Z o0 p0 p1 cnt pa ka ps h0 n0 _ T1.heap _
      rw [e1]
      exact ⟨by rw [hv], N0, rfl⟩
theorem d7_0 : decode prog_38_method_7_code 0 = .ok (.iload_n 1, 1) := by decide +kernel
theorem d7_1 : decode prog_38_method_7_code 1 = .ok (.aload_n 0, 1) := by decide +kernel
theorem d7_2 : decode prog_38_method_7_code 2 = .ok (.getfield 27, 3) := by decide +kernel
theorem d7_5 : decode prog_38_method_7_code 5 = .ok (.if_icmp .ge 16, 3) := by decide +kernel
theorem d7_8 : decode prog_38_method_7_code 8 = .ok (.aload_n 0, 1) := by decide +kernel
theorem d7_9 : decode prog_38_method_7_code 9 = .ok (.getfield 13, 3) := by decide +kernel
theorem d7_12 : decode prog_38_method_7_code 12 = .ok (.iload_n 1, 1) := by decide +kernel
theorem d7_13 : decode prog_38_method_7_code 13 = .ok (.baload, 1) := by decide +kernel
theorem d7_14 : decode prog_38_method_7_code 14 = .ok (.ifCond .eq 7, 3) := by decide +kernel
theorem d7_17 : decode prog_38_method_7_code 17 = .ok (.iconst 1, 1) := by decide +kernel
theorem d7_18 : decode prog_38_method_7_code 18 = .ok (.goto 4, 3) := by decide +kernel
theorem d7_21 : decode prog_38_method_7_code 21 = .ok (.iconst 0, 1) := by decide +kernel
theorem d7_22 : decode prog_38_method_7_code 22 = .ok (.ireturn, 1) := by decide +kernel
theorem pn_7 : plainName "com/example/glowcursor/glowcursor/parser/ControlSequence" = true := by first | (simp [plainName, overriddenIn]; done) | decide +kernel
theorem ef_7 (m : MethodId) (x0 : Addr) (x1 : Int32) : entryFrame m #[(.ref x0), (.int x1)] 2 = mkF m 0 #[.val (.ref x0), .val (.int x1)] [] := by first | (simp [entryFrame, mkF, argsToLocals, Value.category]; done) | rfl
def f7 (p0 : Int32) (cnt : Int32) (ss : List Int32) : Int32 := (if p0 < cnt then (if (getI ss p0) = (0 : Int32) then (0 : Int32) else (1 : Int32)) else (0 : Int32))
def Q7 (Z : State) (o0 : Addr) (p0 : Int32) (cnt : Int32) (sa : Addr) (kb : ClassId) (ss : List Int32) (h0 : Heap) (n0 : Nat) (v : Option Value) (h : Heap) (L : List Loc) : Prop := v = some (.int (f7 p0 cnt ss)) ∧ Fr n0 L ∧ h = h0
set_option maxRecDepth 65536 in
set_option maxHeartbeats 40000000 in
theorem rm7 (l : Launch) (Z : State) (a0 : Array Value) (hw : ∀ d ∈ tables_1, d.before a0 Z = true) (ws : List Jvm.Cond) (o0 : Addr) (p0 : Int32) (cnt : Int32) (sa : Addr) (kb : ClassId) (ss : List Int32) (h0 : Heap) (n0 : Nat) (Z0 : n0 ≤ h0.size) (E_o0 : Exa Z h0 o0 "com/example/glowcursor/glowcursor/parser/ControlSequence") (F_count_o0 : Fld Z h0 o0 "com/example/glowcursor/glowcursor/parser/ControlSequence" "count" "I" (.int cnt)) (F_subParameters_o0 : Fld Z h0 o0 "com/example/glowcursor/glowcursor/parser/ControlSequence" "subParameters" "[Z" (.ref sa)) (V_sa : Ia Z h0 sa kb .boolean (32 : Int32) ss) (hix : ¬ p0 < (0 : Int32) ∧ p0 < (32 : Int32)) :
    MetFree l (⟨"com/example/glowcursor/glowcursor/parser/ControlSequence", "isSubParameter", "(I)Z"⟩ : MethodName) (head1 (Jvm.Cond.code (⟨"com/example/glowcursor/glowcursor/parser/ControlSequence", "isSubParameter", "(I)Z"⟩ : MethodName) prog_38_method_7_code 2 (some .boolean) :: ws) ({ frames := 0, cells := 0, slots := 0, locals := 0 } : Room)) (fun a U => a = #[(.ref o0), (.int p0)] ∧ Z.Warmed39 U.vm ∧ U.heap = h0) (fun _ _ _ _ _ => True) (fun _ U o U' => ∃ v L, o = .returned v ∧ Q7 Z o0 p0 cnt sa kb ss h0 n0 v U'.heap L ∧ FrameEnd U o U' L ({ frames := 0, cells := 0, slots := 0, locals := 0 } : Room).cells ({ frames := 0, cells := 0, slots := 0, locals := 0 } : Room).slots) := by
  refine MetFree.of_bodySF (plainFor_of_name pn_7) hisR ?_
  intro p e s m args below meth c s₁ Bd hml0 hP hK
  obtain ⟨rfl, hZ, hh⟩ := hP
  have hx := Bd.exec
  have hby := Bd.bytes
  have hml : c.maxLocals = 2 := hml0
  have hown : s.vm.findClass "com/example/glowcursor/glowcursor/parser/ControlSequence" = some m.cls := findClass_of_methodNamed Bd.named
  have hnm := (name_of_methodNamed Bd.named Bd.method).1
  have X0 : Stand p l e ({ frames := 0, cells := 0, slots := 0, locals := 0 } : Room) s m #[(.ref o0), (.int p0)] below meth c s₁ [] 0 0 := Stand.of_body Bd
  have e0 : s₁.heap = h0 := by rw [← hh, Bd.state]; rfl
  have N0 := Fr.nil n0
  have pre0 : ∀ t, Steps p.tables e below (s₁.setTop (mkF m 0 #[.val (.ref o0), .val (.int p0)] [])) t → Steps p.tables e below (s₁.setTop (entryFrame m #[(.ref o0), (.int p0)] 2)) t := fun t k => castTop (ef_7 m o0 p0) k
  obtain ⟨T1, X1, e1, st1⟩ := getF X0 hx hZ hown (host := "") (Or.inl (hw _ (List.mem_of_getElem? (i := 21) rfl))) Via.refl e0 (F_count_o0) (g := (mkF m 2 #[.val (.ref o0), .val (.int p0)] [(.ref o0), (.int p0)])) rfl rfl (hb hby d7_2)
  have pre2 : ∀ t, Steps p.tables e below (T1.setTop (mkF m 5 #[.val (.ref o0), .val (.int p0)] [(.int cnt), (.int p0)])) t → Steps p.tables e below (s₁.setTop (entryFrame m #[(.ref o0), (.int p0)] 2)) t := fun t k => pre0 t (by
    show Steps p.tables e below (s₁.setTop (mkF m 0 #[.val (.ref o0), .val (.int p0)] [])) _
    refine XS.iloadN X0.here hx rfl (hb hby d7_0) rfl ?_
    show Steps p.tables e below (s₁.setTop (mkF m 1 #[.val (.ref o0), .val (.int p0)] [(.int p0)])) _
    refine XS.aloadN X0.here hx rfl (hb hby d7_1) rfl rfl ?_
    show Steps p.tables e below (s₁.setTop (mkF m 2 #[.val (.ref o0), .val (.int p0)] [(.ref o0), (.int p0)])) _
    refine st1 _ ?_
    show Steps p.tables e below (T1.setTop (mkF m 5 #[.val (.ref o0), .val (.int p0)] [(.int cnt), (.int p0)])) _
    exact k)
  by_cases hc5_3 : p0 < cnt
  · obtain ⟨T4, X4, e4, st4⟩ := getF X1 hx hZ hown (host := "") (Or.inl (hw _ (List.mem_of_getElem? (i := 14) rfl))) Via.refl e1 (F_subParameters_o0) (g := (mkF m 9 #[.val (.ref o0), .val (.int p0)] [(.ref o0)])) rfl rfl (hb hby d7_9)
    obtain ⟨cl5, Ar5, hin5, hat5⟩ := Ia.get (V_sa) (j := p0) hix
    have pre6 : ∀ t, Steps p.tables e below (T4.setTop (mkF m 14 #[.val (.ref o0), .val (.int p0)] [(.int (getI ss p0))])) t → Steps p.tables e below (s₁.setTop (entryFrame m #[(.ref o0), (.int p0)] 2)) t := fun t k => pre2 t (by
      show Steps p.tables e below (T1.setTop (mkF m 5 #[.val (.ref o0), .val (.int p0)] [(.int cnt), (.int p0)])) _
      refine XS.icmpNo X1.here hx rfl (hb hby d7_5) rfl (tlt hc5_3).2.1 ?_
      show Steps p.tables e below (T1.setTop (mkF m 8 #[.val (.ref o0), .val (.int p0)] [])) _
      refine XS.aloadN X1.here hx rfl (hb hby d7_8) rfl rfl ?_
      show Steps p.tables e below (T1.setTop (mkF m 9 #[.val (.ref o0), .val (.int p0)] [(.ref o0)])) _
      refine st4 _ ?_
      show Steps p.tables e below (T4.setTop (mkF m 12 #[.val (.ref o0), .val (.int p0)] [(.ref sa)])) _
      refine XS.iloadN X4.here hx rfl (hb hby d7_12) rfl ?_
      show Steps p.tables e below (T4.setTop (mkF m 13 #[.val (.ref o0), .val (.int p0)] [(.int p0), (.ref sa)])) _
      refine X4.baloadBooleans hx (j := p0) (v := (.int (getI ss p0))) (by rw [e4]; exact Ar5.1) (State.isArrayOf_alike hZ.alike Ar5.2.1) Ar5.2.2 hin5 hat5 (g := (mkF m 13 #[.val (.ref o0), .val (.int p0)] [(.int p0), (.ref sa)])) rfl rfl (hb hby d7_13) _ ?_
      show Steps p.tables e below (T4.setTop (mkF m 14 #[.val (.ref o0), .val (.int p0)] [(.int (getI ss p0))])) _
      exact k)
    by_cases hc14_7 : (getI ss p0) = (0 : Int32)
    · have hv : (f7 p0 cnt ss) = (0 : Int32) := by simp only [f7, if_pos hc5_3, if_pos hc14_7]
      obtain ⟨fs, hr, hrun, hended, hW, hsame⟩ := X4.leave (v := some (.int (0 : Int32))) (fun h => by rw [Bd.returns] at h; cases h)
      refine ⟨_, _, pre6 _ ?_, hrun, hended, _, _, rfl, ?_, ⟨_, rfl⟩, hW, hsame.mono (by decide) (by decide)⟩
      · show Steps p.tables e below (T4.setTop (mkF m 14 #[.val (.ref o0), .val (.int p0)] [(.int (getI ss p0))])) _
        refine XS.ifYes X4.here hx rfl (pc0 := 14) (pc' := 21) rfl (hb hby d7_14) rfl ((if0 _ _).trans (teq hc14_7).1) (by decide) (by decide) ?_
        show Steps p.tables e below (T4.setTop (mkF m 21 #[.val (.ref o0), .val (.int p0)] [])) _
        refine XS.iconst X4.here hx rfl (hb hby d7_21) ?_
        show Steps p.tables e below (T4.setTop (mkF m 22 #[.val (.ref o0), .val (.int p0)] [(.int (0 : Int32))])) _
        exact retN X4 hx (t := .boolean) Bd.returns (by simp) (hb hby d7_22) hr
      · show Q7 Z o0 p0 cnt sa kb ss h0 n0 _ T4.heap _
        rw [e4]
        exact ⟨by rw [hv], N0, rfl⟩
    · have hv : (f7 p0 cnt ss) = (1 : Int32) := by simp only [f7, if_pos hc5_3, if_neg hc14_7]
      obtain ⟨fs, hr, hrun, hended, hW, hsame⟩ := X4.leave (v := some (.int (1 : Int32))) (fun h => by rw [Bd.returns] at h; cases h)
      refine ⟨_, _, pre6 _ ?_, hrun, hended, _, _, rfl, ?_, ⟨_, rfl⟩, hW, hsame.mono (by decide) (by decide)⟩
      · show Steps p.tables e below (T4.setTop (mkF m 14 #[.val (.ref o0), .val (.int p0)] [(.int (getI ss p0))])) _
        refine XS.ifNo X4.here hx rfl (hb hby d7_14) rfl ((if0 _ _).trans (feq hc14_7).1) ?_
        show Steps p.tables e below (T4.setTop (mkF m 17 #[.val (.ref o0), .val (.int p0)] [])) _
        refine XS.iconst X4.here hx rfl (hb hby d7_17) ?_
        show Steps p.tables e below (T4.setTop (mkF m 18 #[.val (.ref o0), .val (.int p0)] [(.int (1 : Int32))])) _
        refine XS.goto X4.here hx rfl (pc0 := 18) (pc' := 22) rfl (hb hby d7_18) (by decide) (by decide) ?_
        show Steps p.tables e below (T4.setTop (mkF m 22 #[.val (.ref o0), .val (.int p0)] [(.int (1 : Int32))])) _
        exact retN X4 hx (t := .boolean) Bd.returns (by simp) (hb hby d7_22) hr
      · show Q7 Z o0 p0 cnt sa kb ss h0 n0 _ T4.heap _
        rw [e4]
        exact ⟨by rw [hv], N0, rfl⟩
  · have hv : (f7 p0 cnt ss) = (0 : Int32) := by simp only [f7, if_neg hc5_3]
    obtain ⟨fs, hr, hrun, hended, hW, hsame⟩ := X1.leave (v := some (.int (0 : Int32))) (fun h => by rw [Bd.returns] at h; cases h)
    refine ⟨_, _, pre2 _ ?_, hrun, hended, _, _, rfl, ?_, ⟨_, rfl⟩, hW, hsame.mono (by decide) (by decide)⟩
    · show Steps p.tables e below (T1.setTop (mkF m 5 #[.val (.ref o0), .val (.int p0)] [(.int cnt), (.int p0)])) _
      refine XS.icmpYes X1.here hx rfl (pc0 := 5) (pc' := 21) rfl (hb hby d7_5) rfl (flt hc5_3).2.1 (by decide) (by decide) ?_
      show Steps p.tables e below (T1.setTop (mkF m 21 #[.val (.ref o0), .val (.int p0)] [])) _
      refine XS.iconst X1.here hx rfl (hb hby d7_21) ?_
      show Steps p.tables e below (T1.setTop (mkF m 22 #[.val (.ref o0), .val (.int p0)] [(.int (0 : Int32))])) _
      exact retN X1 hx (t := .boolean) Bd.returns (by simp) (hb hby d7_22) hr
    · show Q7 Z o0 p0 cnt sa kb ss h0 n0 _ T1.heap _
      rw [e1]
      exact ⟨by rw [hv], N0, rfl⟩
theorem pn_0 : plainName "com/example/glowcursor/glowcursor/parser/ControlSequenceEndParameterPinLaw" = true := by first | (simp [plainName, overriddenIn]; done) | decide +kernel
theorem ef_0 (m : MethodId) (x0 : Int32) (x1 : Int32) (x2 : Int32) (x3 : Int32) : entryFrame m #[(.int x0), (.int x1), (.int x2), (.int x3)] maxLocals = mkF m 0 #[.val (.int x0), .val (.int x1), .val (.int x2), .val (.int x3), .unset, .unset, .unset, .unset, .unset, .unset, .unset, .unset, .unset] [] := by first | (simp [entryFrame, mkF, argsToLocals, Value.category, maxLocals]; done) | rfl
def v0_1 (pf : Int32) : Int32 := (if (pf &&& (1 : Int32)) = (0 : Int32) then (0 : Int32) else (1 : Int32))
def v0_2 (pf : Int32) : Int32 := (if (pf &&& (2 : Int32)) = (0 : Int32) then (0 : Int32) else (1 : Int32))
def v0_3 (pf : Int32) : Int32 := (if (pf &&& (4 : Int32)) = (0 : Int32) then (0 : Int32) else (1 : Int32))
def v0_4 (pf : Int32) : Int32 := (if (pf &&& (8 : Int32)) = (0 : Int32) then (0 : Int32) else (1 : Int32))
def v0_5 (px : Int32) : Int32 := ((px &&& (2147483647 : Int32)) % (10 : Int32))
def v0_6 (py : Int32) : Int32 := ((py &&& (2147483647 : Int32)) % (10 : Int32))
def v0_7 (pd : Int32) : Int32 := (f6 (0 : Int32) pd (3 : Int32) (setI (setI (setI (List.replicate (32 : Int32).toNatClampNeg 0) (0 : Int32) (-1 : Int32)) (1 : Int32) (-1 : Int32)) (2 : Int32) (-1 : Int32)))
def v0_8 (pd : Int32) : Int32 := (f6 (1 : Int32) pd (3 : Int32) (setI (setI (setI (List.replicate (32 : Int32).toNatClampNeg 0) (0 : Int32) (-1 : Int32)) (1 : Int32) (-1 : Int32)) (2 : Int32) (-1 : Int32)))
def v0_9 (pd : Int32) : Int32 := (f6 (2 : Int32) pd (3 : Int32) (setI (setI (setI (List.replicate (32 : Int32).toNatClampNeg 0) (0 : Int32) (-1 : Int32)) (1 : Int32) (-1 : Int32)) (2 : Int32) (-1 : Int32)))
def v0_10 (pf : Int32) : Int32 := (f7 (0 : Int32) (3 : Int32) (setI (setI (setI (List.replicate (32 : Int32).toNatClampNeg 0) (0 : Int32) (nar .boolean (0 : Int32))) (1 : Int32) (nar .boolean (nar .boolean (v0_2 pf)))) (2 : Int32) (nar .boolean (nar .boolean (v0_4 pf)))))
def v0_11 (pf : Int32) : Int32 := (f7 (1 : Int32) (3 : Int32) (setI (setI (setI (List.replicate (32 : Int32).toNatClampNeg 0) (0 : Int32) (nar .boolean (0 : Int32))) (1 : Int32) (nar .boolean (nar .boolean (v0_2 pf)))) (2 : Int32) (nar .boolean (nar .boolean (v0_4 pf)))))
def v0_12 (pf : Int32) : Int32 := (f7 (2 : Int32) (3 : Int32) (setI (setI (setI (List.replicate (32 : Int32).toNatClampNeg 0) (0 : Int32) (nar .boolean (0 : Int32))) (1 : Int32) (nar .boolean (nar .boolean (v0_2 pf)))) (2 : Int32) (nar .boolean (nar .boolean (v0_4 pf)))))
def v0_13 (pd : Int32) (py : Int32) : Int32 := (f6 (0 : Int32) pd (3 : Int32) (setI (setI (setI (List.replicate (32 : Int32).toNatClampNeg 0) (0 : Int32) (-1 : Int32)) (1 : Int32) (v0_6 py)) (2 : Int32) (-1 : Int32)))
def v0_14 (pd : Int32) (py : Int32) : Int32 := (f6 (1 : Int32) pd (3 : Int32) (setI (setI (setI (List.replicate (32 : Int32).toNatClampNeg 0) (0 : Int32) (-1 : Int32)) (1 : Int32) (v0_6 py)) (2 : Int32) (-1 : Int32)))
def v0_15 (pd : Int32) (py : Int32) : Int32 := (f6 (2 : Int32) pd (3 : Int32) (setI (setI (setI (List.replicate (32 : Int32).toNatClampNeg 0) (0 : Int32) (-1 : Int32)) (1 : Int32) (v0_6 py)) (2 : Int32) (-1 : Int32)))
def v0_16 (pd : Int32) (px : Int32) : Int32 := (f6 (0 : Int32) pd (3 : Int32) (setI (setI (setI (List.replicate (32 : Int32).toNatClampNeg 0) (0 : Int32) (v0_5 px)) (1 : Int32) (-1 : Int32)) (2 : Int32) (-1 : Int32)))
def v0_17 (pd : Int32) (px : Int32) : Int32 := (f6 (1 : Int32) pd (3 : Int32) (setI (setI (setI (List.replicate (32 : Int32).toNatClampNeg 0) (0 : Int32) (v0_5 px)) (1 : Int32) (-1 : Int32)) (2 : Int32) (-1 : Int32)))
def v0_18 (pd : Int32) (px : Int32) : Int32 := (f6 (2 : Int32) pd (3 : Int32) (setI (setI (setI (List.replicate (32 : Int32).toNatClampNeg 0) (0 : Int32) (v0_5 px)) (1 : Int32) (-1 : Int32)) (2 : Int32) (-1 : Int32)))
def v0_19 (pd : Int32) (px : Int32) (py : Int32) : Int32 := (f6 (0 : Int32) pd (3 : Int32) (setI (setI (setI (List.replicate (32 : Int32).toNatClampNeg 0) (0 : Int32) (v0_5 px)) (1 : Int32) (v0_6 py)) (2 : Int32) (-1 : Int32)))
def v0_20 (pd : Int32) (px : Int32) (py : Int32) : Int32 := (f6 (1 : Int32) pd (3 : Int32) (setI (setI (setI (List.replicate (32 : Int32).toNatClampNeg 0) (0 : Int32) (v0_5 px)) (1 : Int32) (v0_6 py)) (2 : Int32) (-1 : Int32)))
def v0_21 (pd : Int32) (px : Int32) (py : Int32) : Int32 := (f6 (2 : Int32) pd (3 : Int32) (setI (setI (setI (List.replicate (32 : Int32).toNatClampNeg 0) (0 : Int32) (v0_5 px)) (1 : Int32) (v0_6 py)) (2 : Int32) (-1 : Int32)))
def f0 (pf : Int32) (px : Int32) (py : Int32) (pd : Int32) : Int32 := (if (v0_1 pf) = (0 : Int32) then (if (v0_3 pf) = (0 : Int32) then (if (f5 (3 : Int32)) = (3 : Int32) then (if (v0_7 pd) = pd then (if (v0_8 pd) = pd then (if (v0_9 pd) = pd then (if (v0_10 pf) = (0 : Int32) then (if (v0_11 pf) = (v0_2 pf) then (if (v0_12 pf) = (v0_4 pf) then (1 : Int32) else (0 : Int32)) else (0 : Int32)) else (0 : Int32)) else (0 : Int32)) else (0 : Int32)) else (0 : Int32)) else (0 : Int32)) else (if (f5 (3 : Int32)) = (3 : Int32) then (if (v0_13 pd py) = pd then (if (v0_14 pd py) = (v0_6 py) then (if (v0_15 pd py) = pd then (if (v0_10 pf) = (0 : Int32) then (if (v0_11 pf) = (v0_2 pf) then (if (v0_12 pf) = (v0_4 pf) then (1 : Int32) else (0 : Int32)) else (0 : Int32)) else (0 : Int32)) else (0 : Int32)) else (0 : Int32)) else (0 : Int32)) else (0 : Int32))) else (if (v0_3 pf) = (0 : Int32) then (if (f5 (3 : Int32)) = (3 : Int32) then (if (v0_16 pd px) = (v0_5 px) then (if (v0_17 pd px) = pd then (if (v0_18 pd px) = pd then (if (v0_10 pf) = (0 : Int32) then (if (v0_11 pf) = (v0_2 pf) then (if (v0_12 pf) = (v0_4 pf) then (1 : Int32) else (0 : Int32)) else (0 : Int32)) else (0 : Int32)) else (0 : Int32)) else (0 : Int32)) else (0 : Int32)) else (0 : Int32)) else (if (f5 (3 : Int32)) = (3 : Int32) then (if (v0_19 pd px py) = (v0_5 px) then (if (v0_20 pd px py) = (v0_6 py) then (if (v0_21 pd px py) = pd then (if (v0_10 pf) = (0 : Int32) then (if (v0_11 pf) = (v0_2 pf) then (if (v0_12 pf) = (v0_4 pf) then (1 : Int32) else (0 : Int32)) else (0 : Int32)) else (0 : Int32)) else (0 : Int32)) else (0 : Int32)) else (0 : Int32)) else (0 : Int32))))
def Q0 (Z : State) (pf : Int32) (px : Int32) (py : Int32) (pd : Int32)  (h0 : Heap) (n0 : Nat) (v : Option Value) (h : Heap) (L : List Loc) : Prop := v = some (.int (f0 pf px py pd)) ∧ Fr n0 L
set_option maxRecDepth 65536 in
set_option maxHeartbeats 40000000 in
theorem rm0 (l : Launch) (Z : State) (a0 : Array Value) (hw : ∀ d ∈ tables_1, d.before a0 Z = true) (ws : List Jvm.Cond) (pf : Int32) (px : Int32) (py : Int32) (pd : Int32)  (h0 : Heap) (n0 : Nat) (Z0 : n0 ≤ h0.size)   :
    MetFree l x (head1 (Jvm.Cond.code x code maxLocals ret :: ws) room_1) (fun a U => a = #[(.int pf), (.int px), (.int py), (.int pd)] ∧ Z.Warmed39 U.vm ∧ U.heap = h0) (fun _ _ _ _ _ => True) (fun _ U o U' => ∃ v L, o = .returned v ∧ Q0 Z pf px py pd h0 n0 v U'.heap L ∧ FrameEnd U o U' L room_1.cells room_1.slots) := by
  refine MetFree.of_bodySF (plainFor_of_name pn_0) hisR ?_
  intro p e s m args below meth c s₁ Bd hml0 hP hK
  obtain ⟨rfl, hZ, hh⟩ := hP
  have hx := Bd.exec
  have hby := Bd.bytes
  have hml : c.maxLocals = 13 := hml0
  have hown : s.vm.findClass "com/example/glowcursor/glowcursor/parser/ControlSequenceEndParameterPinLaw" = some m.cls := findClass_of_methodNamed Bd.named
  have hnm := (name_of_methodNamed Bd.named Bd.method).1
  have X0 : Stand p l e room_1 s m #[(.int pf), (.int px), (.int py), (.int pd)] below meth c s₁ [] 0 0 := Stand.of_body Bd
  have e0 : s₁.heap = h0 := by rw [← hh, Bd.state]; rfl
  have N0 := Fr.nil n0
  have pre0 : ∀ t, Steps p.tables e below (s₁.setTop (mkF m 0 #[.val (.int pf), .val (.int px), .val (.int py), .val (.int pd), .unset, .unset, .unset, .unset, .unset, .unset, .unset, .unset, .unset] [])) t → Steps p.tables e below (s₁.setTop (entryFrame m #[(.int pf), (.int px), (.int py), (.int pd)] maxLocals)) t := fun t k => castTop (ef_0 m pf px py pd) k
  have pre1 : ∀ t, Steps p.tables e below (s₁.setTop (mkF m 3 #[.val (.int pf), .val (.int px), .val (.int py), .val (.int pd), .unset, .unset, .unset, .unset, .unset, .unset, .unset, .unset, .unset] [(.int (pf &&& (1 : Int32)))])) t → Steps p.tables e below (s₁.setTop (entryFrame m #[(.int pf), (.int px), (.int py), (.int pd)] maxLocals)) t := fun t k => pre0 t (by
    show Steps p.tables e below (s₁.setTop (mkF m 0 #[.val (.int pf), .val (.int px), .val (.int py), .val (.int pd), .unset, .unset, .unset, .unset, .unset, .unset, .unset, .unset, .unset] [])) _
    refine XS.iloadN X0.here hx rfl (hb hby at_0) rfl ?_
    show Steps p.tables e below (s₁.setTop (mkF m 1 #[.val (.int pf), .val (.int px), .val (.int py), .val (.int pd), .unset, .unset, .unset, .unset, .unset, .unset, .unset, .unset, .unset] [(.int pf)])) _
    refine XS.iconst X0.here hx rfl (hb hby at_1) ?_
    show Steps p.tables e below (s₁.setTop (mkF m 2 #[.val (.int pf), .val (.int px), .val (.int py), .val (.int pd), .unset, .unset, .unset, .unset, .unset, .unset, .unset, .unset, .unset] [(.int (1 : Int32)), (.int pf)])) _
    refine XS.iand X0.here hx rfl (hb hby at_2) rfl ?_
    show Steps p.tables e below (s₁.setTop (mkF m 3 #[.val (.int pf), .val (.int px), .val (.int py), .val (.int pd), .unset, .unset, .unset, .unset, .unset, .unset, .unset, .unset, .unset] [(.int (pf &&& (1 : Int32)))])) _
    exact k)
  have pre3 : ∀ t, Steps p.tables e below (s₁.setTop (mkF m 11 #[.val (.int pf), .val (.int px), .val (.int py), .val (.int pd), .unset, .unset, .unset, .unset, .unset, .unset, .unset, .unset, .unset] [(.int (if (pf &&& (1 : Int32)) = (0 : Int32) then (0 : Int32) else (1 : Int32)))])) t → Steps p.tables e below (s₁.setTop (entryFrame m #[(.int pf), (.int px), (.int py), (.int pd)] maxLocals)) t := fun t k => pre1 t (by
    show Steps p.tables e below (s₁.setTop (mkF m 3 #[.val (.int pf), .val (.int px), .val (.int py), .val (.int pd), .unset, .unset, .unset, .unset, .unset, .unset, .unset, .unset, .unset] [(.int (pf &&& (1 : Int32)))])) _
    by_cases hd3_2 : (pf &&& (1 : Int32)) = (0 : Int32)
    · try simp only [if_pos hd3_2] at k
      show Steps p.tables e below (s₁.setTop (mkF m 3 #[.val (.int pf), .val (.int px), .val (.int py), .val (.int pd), .unset, .unset, .unset, .unset, .unset, .unset, .unset, .unset, .unset] [(.int (pf &&& (1 : Int32)))])) _
      refine XS.ifYes X0.here hx rfl (pc0 := 3) (pc' := 10) rfl (hb hby at_3) rfl ((if0 _ _).trans (teq hd3_2).1) (by decide) (by decide) ?_
      show Steps p.tables e below (s₁.setTop (mkF m 10 #[.val (.int pf), .val (.int px), .val (.int py), .val (.int pd), .unset, .unset, .unset, .unset, .unset, .unset, .unset, .unset, .unset] [])) _
      refine XS.iconst X0.here hx rfl (hb hby at_10) ?_
      exact k
    · try simp only [if_neg hd3_2] at k
      show Steps p.tables e below (s₁.setTop (mkF m 3 #[.val (.int pf), .val (.int px), .val (.int py), .val (.int pd), .unset, .unset, .unset, .unset, .unset, .unset, .unset, .unset, .unset] [(.int (pf &&& (1 : Int32)))])) _
      refine XS.ifNo X0.here hx rfl (hb hby at_3) rfl ((if0 _ _).trans (feq hd3_2).1) ?_
      show Steps p.tables e below (s₁.setTop (mkF m 6 #[.val (.int pf), .val (.int px), .val (.int py), .val (.int pd), .unset, .unset, .unset, .unset, .unset, .unset, .unset, .unset, .unset] [])) _
      refine XS.iconst X0.here hx rfl (hb hby at_6) ?_
      show Steps p.tables e below (s₁.setTop (mkF m 7 #[.val (.int pf), .val (.int px), .val (.int py), .val (.int pd), .unset, .unset, .unset, .unset, .unset, .unset, .unset, .unset, .unset] [(.int (1 : Int32))])) _
      refine XS.goto X0.here hx rfl (pc0 := 7) (pc' := 11) rfl (hb hby at_7) (by decide) (by decide) ?_
      exact k
    )
  have pre4 : ∀ t, Steps p.tables e below (s₁.setTop (mkF m 16 #[.val (.int pf), .val (.int px), .val (.int py), .val (.int pd), .val (.int (v0_1 pf)), .unset, .unset, .unset, .unset, .unset, .unset, .unset, .unset] [(.int (pf &&& (2 : Int32)))])) t → Steps p.tables e below (s₁.setTop (entryFrame m #[(.int pf), (.int px), (.int py), (.int pd)] maxLocals)) t := fun t k => pre3 t (by
    show Steps p.tables e below (s₁.setTop (mkF m 11 #[.val (.int pf), .val (.int px), .val (.int py), .val (.int pd), .unset, .unset, .unset, .unset, .unset, .unset, .unset, .unset, .unset] [(.int (v0_1 pf))])) _
    refine XS.istore X0.here hx rfl (hb hby at_11) rfl (l' := #[.val (.int pf), .val (.int px), .val (.int py), .val (.int pd), .val (.int (v0_1 pf)), .unset, .unset, .unset, .unset, .unset, .unset, .unset, .unset]) rfl ?_
    show Steps p.tables e below (s₁.setTop (mkF m 13 #[.val (.int pf), .val (.int px), .val (.int py), .val (.int pd), .val (.int (v0_1 pf)), .unset, .unset, .unset, .unset, .unset, .unset, .unset, .unset] [])) _
    refine XS.iloadN X0.here hx rfl (hb hby at_13) rfl ?_
    show Steps p.tables e below (s₁.setTop (mkF m 14 #[.val (.int pf), .val (.int px), .val (.int py), .val (.int pd), .val (.int (v0_1 pf)), .unset, .unset, .unset, .unset, .unset, .unset, .unset, .unset] [(.int pf)])) _
    refine XS.iconst X0.here hx rfl (hb hby at_14) ?_
    show Steps p.tables e below (s₁.setTop (mkF m 15 #[.val (.int pf), .val (.int px), .val (.int py), .val (.int pd), .val (.int (v0_1 pf)), .unset, .unset, .unset, .unset, .unset, .unset, .unset, .unset] [(.int (2 : Int32)), (.int pf)])) _
    refine XS.iand X0.here hx rfl (hb hby at_15) rfl ?_
    show Steps p.tables e below (s₁.setTop (mkF m 16 #[.val (.int pf), .val (.int px), .val (.int py), .val (.int pd), .val (.int (v0_1 pf)), .unset, .unset, .unset, .unset, .unset, .unset, .unset, .unset] [(.int (pf &&& (2 : Int32)))])) _
    exact k)
  have pre6 : ∀ t, Steps p.tables e below (s₁.setTop (mkF m 24 #[.val (.int pf), .val (.int px), .val (.int py), .val (.int pd), .val (.int (v0_1 pf)), .unset, .unset, .unset, .unset, .unset, .unset, .unset, .unset] [(.int (if (pf &&& (2 : Int32)) = (0 : Int32) then (0 : Int32) else (1 : Int32)))])) t → Steps p.tables e below (s₁.setTop (entryFrame m #[(.int pf), (.int px), (.int py), (.int pd)] maxLocals)) t := fun t k => pre4 t (by
    show Steps p.tables e below (s₁.setTop (mkF m 16 #[.val (.int pf), .val (.int px), .val (.int py), .val (.int pd), .val (.int (v0_1 pf)), .unset, .unset, .unset, .unset, .unset, .unset, .unset, .unset] [(.int (pf &&& (2 : Int32)))])) _
    by_cases hd16_5 : (pf &&& (2 : Int32)) = (0 : Int32)
    · try simp only [if_pos hd16_5] at k
      show Steps p.tables e below (s₁.setTop (mkF m 16 #[.val (.int pf), .val (.int px), .val (.int py), .val (.int pd), .val (.int (v0_1 pf)), .unset, .unset, .unset, .unset, .unset, .unset, .unset, .unset] [(.int (pf &&& (2 : Int32)))])) _
      refine XS.ifYes X0.here hx rfl (pc0 := 16) (pc' := 23) rfl (hb hby at_16) rfl ((if0 _ _).trans (teq hd16_5).1) (by decide) (by decide) ?_
      show Steps p.tables e below (s₁.setTop (mkF m 23 #[.val (.int pf), .val (.int px), .val (.int py), .val (.int pd), .val (.int (v0_1 pf)), .unset, .unset, .unset, .unset, .unset, .unset, .unset, .unset] [])) _
      refine XS.iconst X0.here hx rfl (hb hby at_23) ?_
      exact k
    · try simp only [if_neg hd16_5] at k
      show Steps p.tables e below (s₁.setTop (mkF m 16 #[.val (.int pf), .val (.int px), .val (.int py), .val (.int pd), .val (.int (v0_1 pf)), .unset, .unset, .unset, .unset, .unset, .unset, .unset, .unset] [(.int (pf &&& (2 : Int32)))])) _
      refine XS.ifNo X0.here hx rfl (hb hby at_16) rfl ((if0 _ _).trans (feq hd16_5).1) ?_
      show Steps p.tables e below (s₁.setTop (mkF m 19 #[.val (.int pf), .val (.int px), .val (.int py), .val (.int pd), .val (.int (v0_1 pf)), .unset, .unset, .unset, .unset, .unset, .unset, .unset, .unset] [])) _
      refine XS.iconst X0.here hx rfl (hb hby at_19) ?_
      show Steps p.tables e below (s₁.setTop (mkF m 20 #[.val (.int pf), .val (.int px), .val (.int py), .val (.int pd), .val (.int (v0_1 pf)), .unset, .unset, .unset, .unset, .unset, .unset, .unset, .unset] [(.int (1 : Int32))])) _
      refine XS.goto X0.here hx rfl (pc0 := 20) (pc' := 24) rfl (hb hby at_20) (by decide) (by decide) ?_
      exact k
    )
  have pre7 : ∀ t, Steps p.tables e below (s₁.setTop (mkF m 29 #[.val (.int pf), .val (.int px), .val (.int py), .val (.int pd), .val (.int (v0_1 pf)), .val (.int (v0_2 pf)), .unset, .unset, .unset, .unset, .unset, .unset, .unset] [(.int (pf &&& (4 : Int32)))])) t → Steps p.tables e below (s₁.setTop (entryFrame m #[(.int pf), (.int px), (.int py), (.int pd)] maxLocals)) t := fun t k => pre6 t (by
    show Steps p.tables e below (s₁.setTop (mkF m 24 #[.val (.int pf), .val (.int px), .val (.int py), .val (.int pd), .val (.int (v0_1 pf)), .unset, .unset, .unset, .unset, .unset, .unset, .unset, .unset] [(.int (v0_2 pf))])) _
    refine XS.istore X0.here hx rfl (hb hby at_24) rfl (l' := #[.val (.int pf), .val (.int px), .val (.int py), .val (.int pd), .val (.int (v0_1 pf)), .val (.int (v0_2 pf)), .unset, .unset, .unset, .unset, .unset, .unset, .unset]) rfl ?_
    show Steps p.tables e below (s₁.setTop (mkF m 26 #[.val (.int pf), .val (.int px), .val (.int py), .val (.int pd), .val (.int (v0_1 pf)), .val (.int (v0_2 pf)), .unset, .unset, .unset, .unset, .unset, .unset, .unset] [])) _
    refine XS.iloadN X0.here hx rfl (hb hby at_26) rfl ?_
    show Steps p.tables e below (s₁.setTop (mkF m 27 #[.val (.int pf), .val (.int px), .val (.int py), .val (.int pd), .val (.int (v0_1 pf)), .val (.int (v0_2 pf)), .unset, .unset, .unset, .unset, .unset, .unset, .unset] [(.int pf)])) _
    refine XS.iconst X0.here hx rfl (hb hby at_27) ?_
    show Steps p.tables e below (s₁.setTop (mkF m 28 #[.val (.int pf), .val (.int px), .val (.int py), .val (.int pd), .val (.int (v0_1 pf)), .val (.int (v0_2 pf)), .unset, .unset, .unset, .unset, .unset, .unset, .unset] [(.int (4 : Int32)), (.int pf)])) _
    refine XS.iand X0.here hx rfl (hb hby at_28) rfl ?_
    show Steps p.tables e below (s₁.setTop (mkF m 29 #[.val (.int pf), .val (.int px), .val (.int py), .val (.int pd), .val (.int (v0_1 pf)), .val (.int (v0_2 pf)), .unset, .unset, .unset, .unset, .unset, .unset, .unset] [(.int (pf &&& (4 : Int32)))])) _
    exact k)
  have pre9 : ∀ t, Steps p.tables e below (s₁.setTop (mkF m 37 #[.val (.int pf), .val (.int px), .val (.int py), .val (.int pd), .val (.int (v0_1 pf)), .val (.int (v0_2 pf)), .unset, .unset, .unset, .unset, .unset, .unset, .unset] [(.int (if (pf &&& (4 : Int32)) = (0 : Int32) then (0 : Int32) else (1 : Int32)))])) t → Steps p.tables e below (s₁.setTop (entryFrame m #[(.int pf), (.int px), (.int py), (.int pd)] maxLocals)) t := fun t k => pre7 t (by
    show Steps p.tables e below (s₁.setTop (mkF m 29 #[.val (.int pf), .val (.int px), .val (.int py), .val (.int pd), .val (.int (v0_1 pf)), .val (.int (v0_2 pf)), .unset, .unset, .unset, .unset, .unset, .unset, .unset] [(.int (pf &&& (4 : Int32)))])) _
    by_cases hd29_8 : (pf &&& (4 : Int32)) = (0 : Int32)
    · try simp only [if_pos hd29_8] at k
      show Steps p.tables e below (s₁.setTop (mkF m 29 #[.val (.int pf), .val (.int px), .val (.int py), .val (.int pd), .val (.int (v0_1 pf)), .val (.int (v0_2 pf)), .unset, .unset, .unset, .unset, .unset, .unset, .unset] [(.int (pf &&& (4 : Int32)))])) _
      refine XS.ifYes X0.here hx rfl (pc0 := 29) (pc' := 36) rfl (hb hby at_29) rfl ((if0 _ _).trans (teq hd29_8).1) (by decide) (by decide) ?_
      show Steps p.tables e below (s₁.setTop (mkF m 36 #[.val (.int pf), .val (.int px), .val (.int py), .val (.int pd), .val (.int (v0_1 pf)), .val (.int (v0_2 pf)), .unset, .unset, .unset, .unset, .unset, .unset, .unset] [])) _
      refine XS.iconst X0.here hx rfl (hb hby at_36) ?_
      exact k
    · try simp only [if_neg hd29_8] at k
      show Steps p.tables e below (s₁.setTop (mkF m 29 #[.val (.int pf), .val (.int px), .val (.int py), .val (.int pd), .val (.int (v0_1 pf)), .val (.int (v0_2 pf)), .unset, .unset, .unset, .unset, .unset, .unset, .unset] [(.int (pf &&& (4 : Int32)))])) _
      refine XS.ifNo X0.here hx rfl (hb hby at_29) rfl ((if0 _ _).trans (feq hd29_8).1) ?_
      show Steps p.tables e below (s₁.setTop (mkF m 32 #[.val (.int pf), .val (.int px), .val (.int py), .val (.int pd), .val (.int (v0_1 pf)), .val (.int (v0_2 pf)), .unset, .unset, .unset, .unset, .unset, .unset, .unset] [])) _
      refine XS.iconst X0.here hx rfl (hb hby at_32) ?_
      show Steps p.tables e below (s₁.setTop (mkF m 33 #[.val (.int pf), .val (.int px), .val (.int py), .val (.int pd), .val (.int (v0_1 pf)), .val (.int (v0_2 pf)), .unset, .unset, .unset, .unset, .unset, .unset, .unset] [(.int (1 : Int32))])) _
      refine XS.goto X0.here hx rfl (pc0 := 33) (pc' := 37) rfl (hb hby at_33) (by decide) (by decide) ?_
      exact k
    )
  have pre10 : ∀ t, Steps p.tables e below (s₁.setTop (mkF m 43 #[.val (.int pf), .val (.int px), .val (.int py), .val (.int pd), .val (.int (v0_1 pf)), .val (.int (v0_2 pf)), .val (.int (v0_3 pf)), .unset, .unset, .unset, .unset, .unset, .unset] [(.int (pf &&& (8 : Int32)))])) t → Steps p.tables e below (s₁.setTop (entryFrame m #[(.int pf), (.int px), (.int py), (.int pd)] maxLocals)) t := fun t k => pre9 t (by
    show Steps p.tables e below (s₁.setTop (mkF m 37 #[.val (.int pf), .val (.int px), .val (.int py), .val (.int pd), .val (.int (v0_1 pf)), .val (.int (v0_2 pf)), .unset, .unset, .unset, .unset, .unset, .unset, .unset] [(.int (v0_3 pf))])) _
    refine XS.istore X0.here hx rfl (hb hby at_37) rfl (l' := #[.val (.int pf), .val (.int px), .val (.int py), .val (.int pd), .val (.int (v0_1 pf)), .val (.int (v0_2 pf)), .val (.int (v0_3 pf)), .unset, .unset, .unset, .unset, .unset, .unset]) rfl ?_
    show Steps p.tables e below (s₁.setTop (mkF m 39 #[.val (.int pf), .val (.int px), .val (.int py), .val (.int pd), .val (.int (v0_1 pf)), .val (.int (v0_2 pf)), .val (.int (v0_3 pf)), .unset, .unset, .unset, .unset, .unset, .unset] [])) _
    refine XS.iloadN X0.here hx rfl (hb hby at_39) rfl ?_
    show Steps p.tables e below (s₁.setTop (mkF m 40 #[.val (.int pf), .val (.int px), .val (.int py), .val (.int pd), .val (.int (v0_1 pf)), .val (.int (v0_2 pf)), .val (.int (v0_3 pf)), .unset, .unset, .unset, .unset, .unset, .unset] [(.int pf)])) _
    refine XS.bipush X0.here hx rfl (hb hby at_40) ?_
    show Steps p.tables e below (s₁.setTop (mkF m 42 #[.val (.int pf), .val (.int px), .val (.int py), .val (.int pd), .val (.int (v0_1 pf)), .val (.int (v0_2 pf)), .val (.int (v0_3 pf)), .unset, .unset, .unset, .unset, .unset, .unset] [(.int (8 : Int32)), (.int pf)])) _
    refine XS.iand X0.here hx rfl (hb hby at_42) rfl ?_
    show Steps p.tables e below (s₁.setTop (mkF m 43 #[.val (.int pf), .val (.int px), .val (.int py), .val (.int pd), .val (.int (v0_1 pf)), .val (.int (v0_2 pf)), .val (.int (v0_3 pf)), .unset, .unset, .unset, .unset, .unset, .unset] [(.int (pf &&& (8 : Int32)))])) _
    exact k)
  have pre12 : ∀ t, Steps p.tables e below (s₁.setTop (mkF m 51 #[.val (.int pf), .val (.int px), .val (.int py), .val (.int pd), .val (.int (v0_1 pf)), .val (.int (v0_2 pf)), .val (.int (v0_3 pf)), .unset, .unset, .unset, .unset, .unset, .unset] [(.int (if (pf &&& (8 : Int32)) = (0 : Int32) then (0 : Int32) else (1 : Int32)))])) t → Steps p.tables e below (s₁.setTop (entryFrame m #[(.int pf), (.int px), (.int py), (.int pd)] maxLocals)) t := fun t k => pre10 t (by
    show Steps p.tables e below (s₁.setTop (mkF m 43 #[.val (.int pf), .val (.int px), .val (.int py), .val (.int pd), .val (.int (v0_1 pf)), .val (.int (v0_2 pf)), .val (.int (v0_3 pf)), .unset, .unset, .unset, .unset, .unset, .unset] [(.int (pf &&& (8 : Int32)))])) _
    by_cases hd43_11 : (pf &&& (8 : Int32)) = (0 : Int32)
    · try simp only [if_pos hd43_11] at k
      show Steps p.tables e below (s₁.setTop (mkF m 43 #[.val (.int pf), .val (.int px), .val (.int py), .val (.int pd), .val (.int (v0_1 pf)), .val (.int (v0_2 pf)), .val (.int (v0_3 pf)), .unset, .unset, .unset, .unset, .unset, .unset] [(.int (pf &&& (8 : Int32)))])) _
      refine XS.ifYes X0.here hx rfl (pc0 := 43) (pc' := 50) rfl (hb hby at_43) rfl ((if0 _ _).trans (teq hd43_11).1) (by decide) (by decide) ?_
      show Steps p.tables e below (s₁.setTop (mkF m 50 #[.val (.int pf), .val (.int px), .val (.int py), .val (.int pd), .val (.int (v0_1 pf)), .val (.int (v0_2 pf)), .val (.int (v0_3 pf)), .unset, .unset, .unset, .unset, .unset, .unset] [])) _
      refine XS.iconst X0.here hx rfl (hb hby at_50) ?_
      exact k
    · try simp only [if_neg hd43_11] at k
      show Steps p.tables e below (s₁.setTop (mkF m 43 #[.val (.int pf), .val (.int px), .val (.int py), .val (.int pd), .val (.int (v0_1 pf)), .val (.int (v0_2 pf)), .val (.int (v0_3 pf)), .unset, .unset, .unset, .unset, .unset, .unset] [(.int (pf &&& (8 : Int32)))])) _
      refine XS.ifNo X0.here hx rfl (hb hby at_43) rfl ((if0 _ _).trans (feq hd43_11).1) ?_
      show Steps p.tables e below (s₁.setTop (mkF m 46 #[.val (.int pf), .val (.int px), .val (.int py), .val (.int pd), .val (.int (v0_1 pf)), .val (.int (v0_2 pf)), .val (.int (v0_3 pf)), .unset, .unset, .unset, .unset, .unset, .unset] [])) _
      refine XS.iconst X0.here hx rfl (hb hby at_46) ?_
      show Steps p.tables e below (s₁.setTop (mkF m 47 #[.val (.int pf), .val (.int px), .val (.int py), .val (.int pd), .val (.int (v0_1 pf)), .val (.int (v0_2 pf)), .val (.int (v0_3 pf)), .unset, .unset, .unset, .unset, .unset, .unset] [(.int (1 : Int32))])) _
      refine XS.goto X0.here hx rfl (pc0 := 47) (pc' := 51) rfl (hb hby at_47) (by decide) (by decide) ?_
      exact k
    )
  obtain ⟨T13, h13, X13, e13, E13, A13, D13, -, st13⟩ := newO X0 hx hZ hown (hw _ (List.mem_of_getElem? (i := 1) rfl)) (hw _ (List.mem_of_getElem? (i := 2) rfl)) (hw _ (List.mem_of_getElem? (i := 3) rfl)) e0 (g := (mkF m 71 #[.val (.int pf), .val (.int px), .val (.int py), .val (.int pd), .val (.int (v0_1 pf)), .val (.int (v0_2 pf)), .val (.int (v0_3 pf)), .val (.int (v0_4 pf)), .val (.int (v0_5 px)), .val (.int (v0_6 py)), .unset, .unset, .unset] [])) rfl (hb hby at_71) (by decide) (by decide)
  obtain ⟨b13, g13⟩ : ∃ z, z = h0.size := ⟨_, rfl⟩
  rw [← g13] at A13 D13 st13
  have g_b13 : n0 ≤ b13 := Nat.le_trans Z0 (Nat.le_of_eq g13.symm)
  have sz_b13 : h0.size ≤ b13 := Nat.le_trans ((Keep.refl h0 [])).1 (Nat.le_of_eq g13.symm)
  have Z13 : n0 ≤ h13.size := Nat.le_trans Z0 E13.1
  have K13 : Keep h0 h13 [] := ((Keep.refl h0 [])).ext E13
  have F_parameters_b13 : Fld Z h13 b13 "com/example/glowcursor/glowcursor/parser/ControlSequence" "parameters" "[I" .null := D13 (Or.inr (hw _ (List.mem_of_getElem? (i := 12) rfl))) (ty := (.array .int)) (by decide)
  have F_subParameters_b13 : Fld Z h13 b13 "com/example/glowcursor/glowcursor/parser/ControlSequence" "subParameters" "[Z" .null := D13 (Or.inr (hw _ (List.mem_of_getElem? (i := 15) rfl))) (ty := (.array .boolean)) (by decide)
  have F_count_b13 : Fld Z h13 b13 "com/example/glowcursor/glowcursor/parser/ControlSequence" "count" "I" (.int (0 : Int32)) := D13 (Or.inl (hw _ (List.mem_of_getElem? (i := 22) rfl))) (ty := .int) (by decide)
  have F_current_b13 : Fld Z h13 b13 "com/example/glowcursor/glowcursor/parser/ControlSequence" "current" "I" (.int (0 : Int32)) := D13 (Or.inl (hw _ (List.mem_of_getElem? (i := 24) rfl))) (ty := .int) (by decide)
  have F_currentIsSubParameter_b13 : Fld Z h13 b13 "com/example/glowcursor/glowcursor/parser/ControlSequence" "currentIsSubParameter" "Z" (.int (0 : Int32)) := D13 (Or.inl (hw _ (List.mem_of_getElem? (i := 26) rfl))) (ty := .boolean) (by decide)
  have F_privateMarker_b13 : Fld Z h13 b13 "com/example/glowcursor/glowcursor/parser/ControlSequence" "privateMarker" "I" (.int (0 : Int32)) := D13 (Or.inl (hw _ (List.mem_of_getElem? (i := 28) rfl))) (ty := .int) (by decide)
  have F_intermediate_b13 : Fld Z h13 b13 "com/example/glowcursor/glowcursor/parser/ControlSequence" "intermediate" "I" (.int (0 : Int32)) := D13 (Or.inl (hw _ (List.mem_of_getElem? (i := 30) rfl))) (ty := .int) (by decide)
  obtain ⟨_, _, ⟨T14, L14, k14, n14⟩, -, X14, ⟨Lc14, hQ14, l14, y14, z14⟩, st14⟩ := X13.specialBack hx (y := (⟨"com/example/glowcursor/glowcursor/parser/ControlSequence", "<init>", "()V"⟩ : MethodName)) rfl hown (mvT hZ (hw _ (List.mem_of_getElem? (i := 4) rfl))) (mvT hZ (hw _ (List.mem_of_getElem? (i := 5) rfl))) (mvT hZ (hw _ (List.mem_of_getElem? (i := 6) rfl))) (by decide) (backOf (W := 1) (rm1 l Z a0 hw [] b13 .null .null (.int (0 : Int32)) (.int (0 : Int32)) (.int (0 : Int32)) (.int (0 : Int32)) (.int (0 : Int32)) h13 n0 Z13 (A13) g_b13 (F_parameters_b13) (F_subParameters_b13) (F_count_b13) (F_current_b13) (F_currentIsSubParameter_b13) (F_privateMarker_b13) (F_intermediate_b13)) hZ (hw _ (List.mem_of_getElem? (i := 6) rfl)) (hw _ (List.mem_of_getElem? (i := 3) rfl)) (by decide) (by decide)) (g := (mkF m 75 #[.val (.int pf), .val (.int px), .val (.int py), .val (.int pd), .val (.int (v0_1 pf)), .val (.int (v0_2 pf)), .val (.int (v0_3 pf)), .val (.int (v0_4 pf)), .val (.int (v0_5 px)), .val (.int (v0_6 py)), .unset, .unset, .unset] [(.ref b13), (.ref b13)])) rfl (by rw [hml]; rfl) (Steps.refl _) (a := b13) (argsL := []) (rest := [(.ref b13)]) (lenOf pd_0 rfl) rfl (by show 2 * 0 + _ ≤ _; exact Nat.le_of_eq rfl) (hb hby at_75) (fun _ _ => ⟨rfl, e13, (by decide : 1 + 2 ≤ _), (by decide : 8 + 64 ≤ _)⟩)
  dsimp only [Pt.U, Pt.locs, Pt.cells, Pt.slots] at X14 l14 y14 z14 st14 hQ14
  subst l14 y14 z14
  obtain ⟨rfl, N14q, pa, sa, ka, kb, g_pa, g_sa, z_pa, z_sa, ne1, ne2, ne3, Kq14, Fq14_0, Fq14_1, Fq14_2, Fq14_3, Fq14_4, Fq14_5, Fq14_6, Vq14_0, Vq14_1⟩ := hQ14
  have N14 := Fr.app N0 N14q
  have sz_pa : h0.size ≤ pa := Nat.le_trans (K13).1 z_pa
  have sz_sa : h0.size ≤ sa := Nat.le_trans (K13).1 z_sa
  have Z14 : n0 ≤ T14.heap.size := Nat.le_trans Z13 Kq14.1
  have K14 : Keep h0 T14.heap [] := (K13).trans Kq14 (allS (Or.inr sz_b13) all0)
  obtain ⟨cq15, kq15, q15a, q15b, q15c⟩ := isOf hZ rfl ((A13.keep Kq14))
  obtain ⟨_, _, ⟨T15, L15, k15, n15⟩, -, X15, ⟨Lc15, hQ15, l15, y15, z15⟩, st15⟩ := X14.virtualBack hx (y := (⟨"com/example/glowcursor/glowcursor/parser/ControlSequence", "start", "()V"⟩ : MethodName)) (z := (⟨"com/example/glowcursor/glowcursor/parser/ControlSequence", "start", "()V"⟩ : MethodName)) hown (mvT hZ (hw _ (List.mem_of_getElem? (i := 16) rfl))) (mvT hZ (hw _ (List.mem_of_getElem? (i := 17) rfl))) (notFace_of_selects (args := #[]) (mvT hZ (hw _ (List.mem_of_getElem? (i := 19) rfl)))) (mvT hZ (hw _ (List.mem_of_getElem? (i := 19) rfl))) (mvT hZ (hw _ (List.mem_of_getElem? (i := 18) rfl))) (by decide) (backOf (W := 0) (rm3 l Z a0 hw [] b13 pa sa (0 : Int32) (0 : Int32) (0 : Int32) (.int (0 : Int32)) (.int (0 : Int32)) ka (List.replicate (32 : Int32).toNatClampNeg 0) kb (List.replicate (32 : Int32).toNatClampNeg 0) T14.heap n0 Z14 ((A13.keep Kq14)) g_b13 (Fq14_0) (Fq14_1) (Fq14_2) (Fq14_3) (Fq14_4) (Fq14_5) (Fq14_6) (Vq14_0) g_pa (Vq14_1) g_sa (ne1) (ne2) (ne3)) hZ (hw _ (List.mem_of_getElem? (i := 20) rfl)) (hw _ (List.mem_of_getElem? (i := 3) rfl)) (by decide) (by decide)) q15a q15c (g := (mkF m 82 #[.val (.int pf), .val (.int px), .val (.int py), .val (.int pd), .val (.int (v0_1 pf)), .val (.int (v0_2 pf)), .val (.int (v0_3 pf)), .val (.int (v0_4 pf)), .val (.int (v0_5 px)), .val (.int (v0_6 py)), .val (.ref b13), .unset, .unset] [(.ref b13)])) rfl (by rw [hml]; rfl) (Steps.refl _) (argsL := []) (rest := []) (lenOf pd_0 rfl) rfl (by show 2 * 0 + _ ≤ _; exact Nat.le_of_eq rfl) (hb hby at_82) (fun _ _ => ⟨rfl, rfl, (by decide : 3 + 0 ≤ _), (by decide : 72 + 0 ≤ _)⟩)
  dsimp only [Pt.U, Pt.locs, Pt.cells, Pt.slots] at X15 l15 y15 z15 st15 hQ15
  subst l15 y15 z15
  obtain ⟨rfl, N15q, Kq15, Fq15_0, Fq15_1, Fq15_2, Fq15_3, Fq15_4, Fq15_5, Fq15_6, Vq15_0, Vq15_1⟩ := hQ15
  have N15 := Fr.app N14 N15q
  have Z15 : n0 ≤ T15.heap.size := Nat.le_trans Z14 Kq15.1
  have K15 : Keep h0 T15.heap [] := (K14).trans Kq15 (allS (Or.inr sz_b13) (allS (Or.inr sz_pa) (allS (Or.inr sz_sa) all0)))
  have pre16 : ∀ t, Steps p.tables e below (T15.setTop (mkF m 87 #[.val (.int pf), .val (.int px), .val (.int py), .val (.int pd), .val (.int (v0_1 pf)), .val (.int (v0_2 pf)), .val (.int (v0_3 pf)), .val (.int (v0_4 pf)), .val (.int (v0_5 px)), .val (.int (v0_6 py)), .val (.ref b13), .unset, .unset] [(.int (v0_1 pf))])) t → Steps p.tables e below (s₁.setTop (entryFrame m #[(.int pf), (.int px), (.int py), (.int pd)] maxLocals)) t := fun t k => pre12 t (by
    show Steps p.tables e below (s₁.setTop (mkF m 51 #[.val (.int pf), .val (.int px), .val (.int py), .val (.int pd), .val (.int (v0_1 pf)), .val (.int (v0_2 pf)), .val (.int (v0_3 pf)), .unset, .unset, .unset, .unset, .unset, .unset] [(.int (v0_4 pf))])) _
    refine XS.istore X0.here hx rfl (hb hby at_51) rfl (l' := #[.val (.int pf), .val (.int px), .val (.int py), .val (.int pd), .val (.int (v0_1 pf)), .val (.int (v0_2 pf)), .val (.int (v0_3 pf)), .val (.int (v0_4 pf)), .unset, .unset, .unset, .unset, .unset]) rfl ?_
    show Steps p.tables e below (s₁.setTop (mkF m 53 #[.val (.int pf), .val (.int px), .val (.int py), .val (.int pd), .val (.int (v0_1 pf)), .val (.int (v0_2 pf)), .val (.int (v0_3 pf)), .val (.int (v0_4 pf)), .unset, .unset, .unset, .unset, .unset] [])) _
    refine XS.iloadN X0.here hx rfl (hb hby at_53) rfl ?_
    show Steps p.tables e below (s₁.setTop (mkF m 54 #[.val (.int pf), .val (.int px), .val (.int py), .val (.int pd), .val (.int (v0_1 pf)), .val (.int (v0_2 pf)), .val (.int (v0_3 pf)), .val (.int (v0_4 pf)), .unset, .unset, .unset, .unset, .unset] [(.int px)])) _
    refine X0.ldcInt hx hown (mvT hZ (hw _ (List.mem_of_getElem? (i := 0) rfl))) (g := (mkF m 54 #[.val (.int pf), .val (.int px), .val (.int py), .val (.int pd), .val (.int (v0_1 pf)), .val (.int (v0_2 pf)), .val (.int (v0_3 pf)), .val (.int (v0_4 pf)), .unset, .unset, .unset, .unset, .unset] [(.int px)])) rfl (hb hby at_54) _ ?_
    show Steps p.tables e below (s₁.setTop (mkF m 56 #[.val (.int pf), .val (.int px), .val (.int py), .val (.int pd), .val (.int (v0_1 pf)), .val (.int (v0_2 pf)), .val (.int (v0_3 pf)), .val (.int (v0_4 pf)), .unset, .unset, .unset, .unset, .unset] [(.int (2147483647 : Int32)), (.int px)])) _
    refine XS.iand X0.here hx rfl (hb hby at_56) rfl ?_
    show Steps p.tables e below (s₁.setTop (mkF m 57 #[.val (.int pf), .val (.int px), .val (.int py), .val (.int pd), .val (.int (v0_1 pf)), .val (.int (v0_2 pf)), .val (.int (v0_3 pf)), .val (.int (v0_4 pf)), .unset, .unset, .unset, .unset, .unset] [(.int (px &&& (2147483647 : Int32)))])) _
    refine XS.bipush X0.here hx rfl (hb hby at_57) ?_
    show Steps p.tables e below (s₁.setTop (mkF m 59 #[.val (.int pf), .val (.int px), .val (.int py), .val (.int pd), .val (.int (v0_1 pf)), .val (.int (v0_2 pf)), .val (.int (v0_3 pf)), .val (.int (v0_4 pf)), .unset, .unset, .unset, .unset, .unset] [(.int (10 : Int32)), (.int (px &&& (2147483647 : Int32)))])) _
    refine XS.irem X0.here hx rfl (hb hby at_59) rfl (by decide) ?_
    rw [irem_eq_mod]
    show Steps p.tables e below (s₁.setTop (mkF m 60 #[.val (.int pf), .val (.int px), .val (.int py), .val (.int pd), .val (.int (v0_1 pf)), .val (.int (v0_2 pf)), .val (.int (v0_3 pf)), .val (.int (v0_4 pf)), .unset, .unset, .unset, .unset, .unset] [(.int ((px &&& (2147483647 : Int32)) % (10 : Int32)))])) _
    refine XS.istore X0.here hx rfl (hb hby at_60) rfl (l' := #[.val (.int pf), .val (.int px), .val (.int py), .val (.int pd), .val (.int (v0_1 pf)), .val (.int (v0_2 pf)), .val (.int (v0_3 pf)), .val (.int (v0_4 pf)), .val (.int ((px &&& (2147483647 : Int32)) % (10 : Int32))), .unset, .unset, .unset, .unset]) rfl ?_
    show Steps p.tables e below (s₁.setTop (mkF m 62 #[.val (.int pf), .val (.int px), .val (.int py), .val (.int pd), .val (.int (v0_1 pf)), .val (.int (v0_2 pf)), .val (.int (v0_3 pf)), .val (.int (v0_4 pf)), .val (.int (v0_5 px)), .unset, .unset, .unset, .unset] [])) _
    refine XS.iloadN X0.here hx rfl (hb hby at_62) rfl ?_
    show Steps p.tables e below (s₁.setTop (mkF m 63 #[.val (.int pf), .val (.int px), .val (.int py), .val (.int pd), .val (.int (v0_1 pf)), .val (.int (v0_2 pf)), .val (.int (v0_3 pf)), .val (.int (v0_4 pf)), .val (.int (v0_5 px)), .unset, .unset, .unset, .unset] [(.int py)])) _
    refine X0.ldcInt hx hown (mvT hZ (hw _ (List.mem_of_getElem? (i := 0) rfl))) (g := (mkF m 63 #[.val (.int pf), .val (.int px), .val (.int py), .val (.int pd), .val (.int (v0_1 pf)), .val (.int (v0_2 pf)), .val (.int (v0_3 pf)), .val (.int (v0_4 pf)), .val (.int (v0_5 px)), .unset, .unset, .unset, .unset] [(.int py)])) rfl (hb hby at_63) _ ?_
    show Steps p.tables e below (s₁.setTop (mkF m 65 #[.val (.int pf), .val (.int px), .val (.int py), .val (.int pd), .val (.int (v0_1 pf)), .val (.int (v0_2 pf)), .val (.int (v0_3 pf)), .val (.int (v0_4 pf)), .val (.int (v0_5 px)), .unset, .unset, .unset, .unset] [(.int (2147483647 : Int32)), (.int py)])) _
    refine XS.iand X0.here hx rfl (hb hby at_65) rfl ?_
    show Steps p.tables e below (s₁.setTop (mkF m 66 #[.val (.int pf), .val (.int px), .val (.int py), .val (.int pd), .val (.int (v0_1 pf)), .val (.int (v0_2 pf)), .val (.int (v0_3 pf)), .val (.int (v0_4 pf)), .val (.int (v0_5 px)), .unset, .unset, .unset, .unset] [(.int (py &&& (2147483647 : Int32)))])) _
    refine XS.bipush X0.here hx rfl (hb hby at_66) ?_
    show Steps p.tables e below (s₁.setTop (mkF m 68 #[.val (.int pf), .val (.int px), .val (.int py), .val (.int pd), .val (.int (v0_1 pf)), .val (.int (v0_2 pf)), .val (.int (v0_3 pf)), .val (.int (v0_4 pf)), .val (.int (v0_5 px)), .unset, .unset, .unset, .unset] [(.int (10 : Int32)), (.int (py &&& (2147483647 : Int32)))])) _
    refine XS.irem X0.here hx rfl (hb hby at_68) rfl (by decide) ?_
    rw [irem_eq_mod]
    show Steps p.tables e below (s₁.setTop (mkF m 69 #[.val (.int pf), .val (.int px), .val (.int py), .val (.int pd), .val (.int (v0_1 pf)), .val (.int (v0_2 pf)), .val (.int (v0_3 pf)), .val (.int (v0_4 pf)), .val (.int (v0_5 px)), .unset, .unset, .unset, .unset] [(.int ((py &&& (2147483647 : Int32)) % (10 : Int32)))])) _
    refine XS.istore X0.here hx rfl (hb hby at_69) rfl (l' := #[.val (.int pf), .val (.int px), .val (.int py), .val (.int pd), .val (.int (v0_1 pf)), .val (.int (v0_2 pf)), .val (.int (v0_3 pf)), .val (.int (v0_4 pf)), .val (.int (v0_5 px)), .val (.int ((py &&& (2147483647 : Int32)) % (10 : Int32))), .unset, .unset, .unset]) rfl ?_
    show Steps p.tables e below (s₁.setTop (mkF m 71 #[.val (.int pf), .val (.int px), .val (.int py), .val (.int pd), .val (.int (v0_1 pf)), .val (.int (v0_2 pf)), .val (.int (v0_3 pf)), .val (.int (v0_4 pf)), .val (.int (v0_5 px)), .val (.int (v0_6 py)), .unset, .unset, .unset] [])) _
    refine st13 _ ?_
    show Steps p.tables e below (T13.setTop (mkF m 74 #[.val (.int pf), .val (.int px), .val (.int py), .val (.int pd), .val (.int (v0_1 pf)), .val (.int (v0_2 pf)), .val (.int (v0_3 pf)), .val (.int (v0_4 pf)), .val (.int (v0_5 px)), .val (.int (v0_6 py)), .unset, .unset, .unset] [(.ref b13)])) _
    refine XS.dup X13.here hx rfl (hb hby at_74) rfl rfl ?_
    show Steps p.tables e below (T13.setTop (mkF m 75 #[.val (.int pf), .val (.int px), .val (.int py), .val (.int pd), .val (.int (v0_1 pf)), .val (.int (v0_2 pf)), .val (.int (v0_3 pf)), .val (.int (v0_4 pf)), .val (.int (v0_5 px)), .val (.int (v0_6 py)), .unset, .unset, .unset] [(.ref b13), (.ref b13)])) _
    refine st14.trans ?_
    show Steps p.tables e below (T14.setTop (mkF m 78 #[.val (.int pf), .val (.int px), .val (.int py), .val (.int pd), .val (.int (v0_1 pf)), .val (.int (v0_2 pf)), .val (.int (v0_3 pf)), .val (.int (v0_4 pf)), .val (.int (v0_5 px)), .val (.int (v0_6 py)), .unset, .unset, .unset] [(.ref b13)])) _
    refine XS.astore X14.here hx rfl (hb hby at_78) rfl rfl (l' := #[.val (.int pf), .val (.int px), .val (.int py), .val (.int pd), .val (.int (v0_1 pf)), .val (.int (v0_2 pf)), .val (.int (v0_3 pf)), .val (.int (v0_4 pf)), .val (.int (v0_5 px)), .val (.int (v0_6 py)), .val (.ref b13), .unset, .unset]) rfl ?_
    show Steps p.tables e below (T14.setTop (mkF m 80 #[.val (.int pf), .val (.int px), .val (.int py), .val (.int pd), .val (.int (v0_1 pf)), .val (.int (v0_2 pf)), .val (.int (v0_3 pf)), .val (.int (v0_4 pf)), .val (.int (v0_5 px)), .val (.int (v0_6 py)), .val (.ref b13), .unset, .unset] [])) _
    refine XS.aload X14.here hx rfl (hb hby at_80) rfl rfl ?_
    show Steps p.tables e below (T14.setTop (mkF m 82 #[.val (.int pf), .val (.int px), .val (.int py), .val (.int pd), .val (.int (v0_1 pf)), .val (.int (v0_2 pf)), .val (.int (v0_3 pf)), .val (.int (v0_4 pf)), .val (.int (v0_5 px)), .val (.int (v0_6 py)), .val (.ref b13), .unset, .unset] [(.ref b13)])) _
    refine st15.trans ?_
    show Steps p.tables e below (T15.setTop (mkF m 85 #[.val (.int pf), .val (.int px), .val (.int py), .val (.int pd), .val (.int (v0_1 pf)), .val (.int (v0_2 pf)), .val (.int (v0_3 pf)), .val (.int (v0_4 pf)), .val (.int (v0_5 px)), .val (.int (v0_6 py)), .val (.ref b13), .unset, .unset] [])) _
    refine XS.iload X15.here hx rfl (hb hby at_85) rfl ?_
    show Steps p.tables e below (T15.setTop (mkF m 87 #[.val (.int pf), .val (.int px), .val (.int py), .val (.int pd), .val (.int (v0_1 pf)), .val (.int (v0_2 pf)), .val (.int (v0_3 pf)), .val (.int (v0_4 pf)), .val (.int (v0_5 px)), .val (.int (v0_6 py)), .val (.ref b13), .unset, .unset] [(.int (v0_1 pf))])) _
    exact k)
  by_cases hc87_17 : (v0_1 pf) = (0 : Int32)
  · obtain ⟨cq18, kq18, q18a, q18b, q18c⟩ := isOf hZ rfl (((A13.keep Kq14).keep Kq15))
    obtain ⟨_, _, ⟨T18, L18, k18, n18⟩, -, X18, ⟨Lc18, hQ18, l18, y18, z18⟩, st18⟩ := X15.virtualBack hx (y := (⟨"com/example/glowcursor/glowcursor/parser/ControlSequence", "endParameter", "(Z)V"⟩ : MethodName)) (z := (⟨"com/example/glowcursor/glowcursor/parser/ControlSequence", "endParameter", "(Z)V"⟩ : MethodName)) hown (mvT hZ (hw _ (List.mem_of_getElem? (i := 31) rfl))) (mvT hZ (hw _ (List.mem_of_getElem? (i := 32) rfl))) (notFace_of_selects (args := #[]) (mvT hZ (hw _ (List.mem_of_getElem? (i := 34) rfl)))) (mvT hZ (hw _ (List.mem_of_getElem? (i := 34) rfl))) (mvT hZ (hw _ (List.mem_of_getElem? (i := 33) rfl))) (by decide) (backOf (W := 0) (rm4 l Z a0 hw [] b13 (v0_2 pf) pa sa (0 : Int32) (-1 : Int32) (0 : Int32) (.int (0 : Int32)) (.int (0 : Int32)) ka (List.replicate (32 : Int32).toNatClampNeg 0) kb (List.replicate (32 : Int32).toNatClampNeg 0) T15.heap n0 Z15 (((A13.keep Kq14).keep Kq15)) g_b13 (Fq15_0) (Fq15_1) (Fq15_2) (Fq15_3) (Fq15_4) (Fq15_5) (Fq15_6) (Vq15_0) g_pa (Vq15_1) g_sa (ne1) (ne2) (ne3) (by decide)) hZ (hw _ (List.mem_of_getElem? (i := 35) rfl)) (hw _ (List.mem_of_getElem? (i := 3) rfl)) (by decide) (by decide)) q18a q18c (g := (mkF m 101 #[.val (.int pf), .val (.int px), .val (.int py), .val (.int pd), .val (.int (v0_1 pf)), .val (.int (v0_2 pf)), .val (.int (v0_3 pf)), .val (.int (v0_4 pf)), .val (.int (v0_5 px)), .val (.int (v0_6 py)), .val (.ref b13), .unset, .unset] [(.int (v0_2 pf)), (.ref b13)])) rfl (by rw [hml]; rfl) (Steps.refl _) (argsL := [(.int (v0_2 pf))]) (rest := []) (lenOf pd_1 rfl) rfl (by show 2 * 0 + _ ≤ _; exact Nat.le_of_eq rfl) (hb hby at_101) (fun _ _ => ⟨rfl, rfl, (by decide : 3 + 0 ≤ _), (by decide : 72 + 0 ≤ _)⟩)
    dsimp only [Pt.U, Pt.locs, Pt.cells, Pt.slots] at X18 l18 y18 z18 st18 hQ18
    subst l18 y18 z18
    obtain ⟨rfl, N18q, Kq18, Fq18_0, Fq18_1, Fq18_2, Fq18_3, Fq18_4, Fq18_5, Fq18_6, Vq18_0, Vq18_1⟩ := hQ18
    have N18 := Fr.app N15 N18q
    have Z18 : n0 ≤ T18.heap.size := Nat.le_trans Z15 Kq18.1
    have K18 : Keep h0 T18.heap [] := (K15).trans Kq18 (allS (Or.inr sz_b13) (allS (Or.inr sz_pa) (allS (Or.inr sz_sa) all0)))
    have Fq18_2 : Fld Z T18.heap b13 "com/example/glowcursor/glowcursor/parser/ControlSequence" "count" "I" (.int (1 : Int32)) := Fq18_2
    have pre19 : ∀ t, Steps p.tables e below (T18.setTop (mkF m 106 #[.val (.int pf), .val (.int px), .val (.int py), .val (.int pd), .val (.int (v0_1 pf)), .val (.int (v0_2 pf)), .val (.int (v0_3 pf)), .val (.int (v0_4 pf)), .val (.int (v0_5 px)), .val (.int (v0_6 py)), .val (.ref b13), .unset, .unset] [(.int (v0_3 pf))])) t → Steps p.tables e below (s₁.setTop (entryFrame m #[(.int pf), (.int px), (.int py), (.int pd)] maxLocals)) t := fun t k => pre16 t (by
      show Steps p.tables e below (T15.setTop (mkF m 87 #[.val (.int pf), .val (.int px), .val (.int py), .val (.int pd), .val (.int (v0_1 pf)), .val (.int (v0_2 pf)), .val (.int (v0_3 pf)), .val (.int (v0_4 pf)), .val (.int (v0_5 px)), .val (.int (v0_6 py)), .val (.ref b13), .unset, .unset] [(.int (v0_1 pf))])) _
      refine XS.ifYes X15.here hx rfl (pc0 := 87) (pc' := 97) rfl (hb hby at_87) rfl ((if0 _ _).trans (teq hc87_17).1) (by decide) (by decide) ?_
      show Steps p.tables e below (T15.setTop (mkF m 97 #[.val (.int pf), .val (.int px), .val (.int py), .val (.int pd), .val (.int (v0_1 pf)), .val (.int (v0_2 pf)), .val (.int (v0_3 pf)), .val (.int (v0_4 pf)), .val (.int (v0_5 px)), .val (.int (v0_6 py)), .val (.ref b13), .unset, .unset] [])) _
      refine XS.aload X15.here hx rfl (hb hby at_97) rfl rfl ?_
      show Steps p.tables e below (T15.setTop (mkF m 99 #[.val (.int pf), .val (.int px), .val (.int py), .val (.int pd), .val (.int (v0_1 pf)), .val (.int (v0_2 pf)), .val (.int (v0_3 pf)), .val (.int (v0_4 pf)), .val (.int (v0_5 px)), .val (.int (v0_6 py)), .val (.ref b13), .unset, .unset] [(.ref b13)])) _
      refine XS.iload X15.here hx rfl (hb hby at_99) rfl ?_
      show Steps p.tables e below (T15.setTop (mkF m 101 #[.val (.int pf), .val (.int px), .val (.int py), .val (.int pd), .val (.int (v0_1 pf)), .val (.int (v0_2 pf)), .val (.int (v0_3 pf)), .val (.int (v0_4 pf)), .val (.int (v0_5 px)), .val (.int (v0_6 py)), .val (.ref b13), .unset, .unset] [(.int (v0_2 pf)), (.ref b13)])) _
      refine st18.trans ?_
      show Steps p.tables e below (T18.setTop (mkF m 104 #[.val (.int pf), .val (.int px), .val (.int py), .val (.int pd), .val (.int (v0_1 pf)), .val (.int (v0_2 pf)), .val (.int (v0_3 pf)), .val (.int (v0_4 pf)), .val (.int (v0_5 px)), .val (.int (v0_6 py)), .val (.ref b13), .unset, .unset] [])) _
      refine XS.iload X18.here hx rfl (hb hby at_104) rfl ?_
      show Steps p.tables e below (T18.setTop (mkF m 106 #[.val (.int pf), .val (.int px), .val (.int py), .val (.int pd), .val (.int (v0_1 pf)), .val (.int (v0_2 pf)), .val (.int (v0_3 pf)), .val (.int (v0_4 pf)), .val (.int (v0_5 px)), .val (.int (v0_6 py)), .val (.ref b13), .unset, .unset] [(.int (v0_3 pf))])) _
      exact k)
    by_cases hc106_20 : (v0_3 pf) = (0 : Int32)
    · obtain ⟨cq21, kq21, q21a, q21b, q21c⟩ := isOf hZ rfl ((((A13.keep Kq14).keep Kq15).keep Kq18))
      obtain ⟨_, _, ⟨T21, L21, k21, n21⟩, -, X21, ⟨Lc21, hQ21, l21, y21, z21⟩, st21⟩ := X18.virtualBack hx (y := (⟨"com/example/glowcursor/glowcursor/parser/ControlSequence", "endParameter", "(Z)V"⟩ : MethodName)) (z := (⟨"com/example/glowcursor/glowcursor/parser/ControlSequence", "endParameter", "(Z)V"⟩ : MethodName)) hown (mvT hZ (hw _ (List.mem_of_getElem? (i := 31) rfl))) (mvT hZ (hw _ (List.mem_of_getElem? (i := 32) rfl))) (notFace_of_selects (args := #[]) (mvT hZ (hw _ (List.mem_of_getElem? (i := 34) rfl)))) (mvT hZ (hw _ (List.mem_of_getElem? (i := 34) rfl))) (mvT hZ (hw _ (List.mem_of_getElem? (i := 33) rfl))) (by decide) (backOf (W := 0) (rm4 l Z a0 hw [] b13 (v0_4 pf) pa sa (1 : Int32) (-1 : Int32) (nar .boolean (v0_2 pf)) (.int (0 : Int32)) (.int (0 : Int32)) ka (setI (List.replicate (32 : Int32).toNatClampNeg 0) (0 : Int32) (-1 : Int32)) kb (setI (List.replicate (32 : Int32).toNatClampNeg 0) (0 : Int32) (nar .boolean (0 : Int32))) T18.heap n0 Z18 ((((A13.keep Kq14).keep Kq15).keep Kq18)) g_b13 (Fq18_0) (Fq18_1) (Fq18_2) (Fq18_3) (Fq18_4) (Fq18_5) (Fq18_6) (Vq18_0) g_pa (Vq18_1) g_sa (ne1) (ne2) (ne3) (by decide)) hZ (hw _ (List.mem_of_getElem? (i := 35) rfl)) (hw _ (List.mem_of_getElem? (i := 3) rfl)) (by decide) (by decide)) q21a q21c (g := (mkF m 120 #[.val (.int pf), .val (.int px), .val (.int py), .val (.int pd), .val (.int (v0_1 pf)), .val (.int (v0_2 pf)), .val (.int (v0_3 pf)), .val (.int (v0_4 pf)), .val (.int (v0_5 px)), .val (.int (v0_6 py)), .val (.ref b13), .unset, .unset] [(.int (v0_4 pf)), (.ref b13)])) rfl (by rw [hml]; rfl) (Steps.refl _) (argsL := [(.int (v0_4 pf))]) (rest := []) (lenOf pd_1 rfl) rfl (by show 2 * 0 + _ ≤ _; exact Nat.le_of_eq rfl) (hb hby at_120) (fun _ _ => ⟨rfl, rfl, (by decide : 3 + 0 ≤ _), (by decide : 72 + 0 ≤ _)⟩)
      dsimp only [Pt.U, Pt.locs, Pt.cells, Pt.slots] at X21 l21 y21 z21 st21 hQ21
      subst l21 y21 z21
      obtain ⟨rfl, N21q, Kq21, Fq21_0, Fq21_1, Fq21_2, Fq21_3, Fq21_4, Fq21_5, Fq21_6, Vq21_0, Vq21_1⟩ := hQ21
      have N21 := Fr.app N18 N21q
      have Z21 : n0 ≤ T21.heap.size := Nat.le_trans Z18 Kq21.1
      have K21 : Keep h0 T21.heap [] := (K18).trans Kq21 (allS (Or.inr sz_b13) (allS (Or.inr sz_pa) (allS (Or.inr sz_sa) all0)))
      have Fq21_2 : Fld Z T21.heap b13 "com/example/glowcursor/glowcursor/parser/ControlSequence" "count" "I" (.int (2 : Int32)) := Fq21_2
      obtain ⟨cq22, kq22, q22a, q22b, q22c⟩ := isOf hZ rfl (((((A13.keep Kq14).keep Kq15).keep Kq18).keep Kq21))
      obtain ⟨_, _, ⟨T22, L22, k22, n22⟩, -, X22, ⟨Lc22, hQ22, l22, y22, z22⟩, st22⟩ := X21.virtualBack hx (y := (⟨"com/example/glowcursor/glowcursor/parser/ControlSequence", "endParameter", "(Z)V"⟩ : MethodName)) (z := (⟨"com/example/glowcursor/glowcursor/parser/ControlSequence", "endParameter", "(Z)V"⟩ : MethodName)) hown (mvT hZ (hw _ (List.mem_of_getElem? (i := 31) rfl))) (mvT hZ (hw _ (List.mem_of_getElem? (i := 32) rfl))) (notFace_of_selects (args := #[]) (mvT hZ (hw _ (List.mem_of_getElem? (i := 34) rfl)))) (mvT hZ (hw _ (List.mem_of_getElem? (i := 34) rfl))) (mvT hZ (hw _ (List.mem_of_getElem? (i := 33) rfl))) (by decide) (backOf (W := 0) (rm4 l Z a0 hw [] b13 (0 : Int32) pa sa (2 : Int32) (-1 : Int32) (nar .boolean (v0_4 pf)) (.int (0 : Int32)) (.int (0 : Int32)) ka (setI (setI (List.replicate (32 : Int32).toNatClampNeg 0) (0 : Int32) (-1 : Int32)) (1 : Int32) (-1 : Int32)) kb (setI (setI (List.replicate (32 : Int32).toNatClampNeg 0) (0 : Int32) (nar .boolean (0 : Int32))) (1 : Int32) (nar .boolean (nar .boolean (v0_2 pf)))) T21.heap n0 Z21 (((((A13.keep Kq14).keep Kq15).keep Kq18).keep Kq21)) g_b13 (Fq21_0) (Fq21_1) (Fq21_2) (Fq21_3) (Fq21_4) (Fq21_5) (Fq21_6) (Vq21_0) g_pa (Vq21_1) g_sa (ne1) (ne2) (ne3) (by decide)) hZ (hw _ (List.mem_of_getElem? (i := 35) rfl)) (hw _ (List.mem_of_getElem? (i := 3) rfl)) (by decide) (by decide)) q22a q22c (g := (mkF m 126 #[.val (.int pf), .val (.int px), .val (.int py), .val (.int pd), .val (.int (v0_1 pf)), .val (.int (v0_2 pf)), .val (.int (v0_3 pf)), .val (.int (v0_4 pf)), .val (.int (v0_5 px)), .val (.int (v0_6 py)), .val (.ref b13), .unset, .unset] [(.int (0 : Int32)), (.ref b13)])) rfl (by rw [hml]; rfl) (Steps.refl _) (argsL := [(.int (0 : Int32))]) (rest := []) (lenOf pd_1 rfl) rfl (by show 2 * 0 + _ ≤ _; exact Nat.le_of_eq rfl) (hb hby at_126) (fun _ _ => ⟨rfl, rfl, (by decide : 3 + 0 ≤ _), (by decide : 72 + 0 ≤ _)⟩)
      dsimp only [Pt.U, Pt.locs, Pt.cells, Pt.slots] at X22 l22 y22 z22 st22 hQ22
      subst l22 y22 z22
      obtain ⟨rfl, N22q, Kq22, Fq22_0, Fq22_1, Fq22_2, Fq22_3, Fq22_4, Fq22_5, Fq22_6, Vq22_0, Vq22_1⟩ := hQ22
      have N22 := Fr.app N21 N22q
      have Z22 : n0 ≤ T22.heap.size := Nat.le_trans Z21 Kq22.1
      have K22 : Keep h0 T22.heap [] := (K21).trans Kq22 (allS (Or.inr sz_b13) (allS (Or.inr sz_pa) (allS (Or.inr sz_sa) all0)))
      have Fq22_2 : Fld Z T22.heap b13 "com/example/glowcursor/glowcursor/parser/ControlSequence" "count" "I" (.int (3 : Int32)) := Fq22_2
      obtain ⟨cq23, kq23, q23a, q23b, q23c⟩ := isOf hZ rfl ((((((A13.keep Kq14).keep Kq15).keep Kq18).keep Kq21).keep Kq22))
      obtain ⟨_, _, ⟨T23, L23, k23, n23⟩, -, X23, ⟨Lc23, hQ23, l23, y23, z23⟩, st23⟩ := X22.virtualBack hx (y := (⟨"com/example/glowcursor/glowcursor/parser/ControlSequence", "parameterCount", "()I"⟩ : MethodName)) (z := (⟨"com/example/glowcursor/glowcursor/parser/ControlSequence", "parameterCount", "()I"⟩ : MethodName)) hown (mvT hZ (hw _ (List.mem_of_getElem? (i := 36) rfl))) (mvT hZ (hw _ (List.mem_of_getElem? (i := 37) rfl))) (notFace_of_selects (args := #[]) (mvT hZ (hw _ (List.mem_of_getElem? (i := 39) rfl)))) (mvT hZ (hw _ (List.mem_of_getElem? (i := 39) rfl))) (mvT hZ (hw _ (List.mem_of_getElem? (i := 38) rfl))) (by decide) (backOf (W := 0) (rm5 l Z a0 hw [] b13 (3 : Int32) T22.heap n0 Z22 ((((((A13.keep Kq14).keep Kq15).keep Kq18).keep Kq21).keep Kq22)) (Fq22_2)) hZ (hw _ (List.mem_of_getElem? (i := 40) rfl)) (hw _ (List.mem_of_getElem? (i := 3) rfl)) (by decide) (by decide)) q23a q23c (g := (mkF m 157 #[.val (.int pf), .val (.int px), .val (.int py), .val (.int pd), .val (.int (v0_1 pf)), .val (.int (v0_2 pf)), .val (.int (v0_3 pf)), .val (.int (v0_4 pf)), .val (.int (v0_5 px)), .val (.int (v0_6 py)), .val (.ref b13), .val (.int pd), .val (.int pd)] [(.ref b13)])) rfl (by rw [hml]; rfl) (Steps.refl _) (argsL := []) (rest := []) (lenOf pd_2 rfl) rfl (by show 2 * 0 + _ ≤ _; exact Nat.le_of_eq rfl) (hb hby at_157) (fun _ _ => ⟨rfl, rfl, (by decide : 3 + 0 ≤ _), (by decide : 72 + 0 ≤ _)⟩)
      dsimp only [Pt.U, Pt.locs, Pt.cells, Pt.slots] at X23 l23 y23 z23 st23 hQ23
      subst l23 y23 z23
      obtain ⟨rfl, N23q, e23⟩ := hQ23
      have N23 := Fr.app N22 N23q
      have pre24 : ∀ t, Steps p.tables e below (T23.setTop (mkF m 161 #[.val (.int pf), .val (.int px), .val (.int py), .val (.int pd), .val (.int (v0_1 pf)), .val (.int (v0_2 pf)), .val (.int (v0_3 pf)), .val (.int (v0_4 pf)), .val (.int (v0_5 px)), .val (.int (v0_6 py)), .val (.ref b13), .val (.int pd), .val (.int pd)] [(.int (3 : Int32)), (.int (f5 (3 : Int32)))])) t → Steps p.tables e below (s₁.setTop (entryFrame m #[(.int pf), (.int px), (.int py), (.int pd)] maxLocals)) t := fun t k => pre19 t (by
        show Steps p.tables e below (T18.setTop (mkF m 106 #[.val (.int pf), .val (.int px), .val (.int py), .val (.int pd), .val (.int (v0_1 pf)), .val (.int (v0_2 pf)), .val (.int (v0_3 pf)), .val (.int (v0_4 pf)), .val (.int (v0_5 px)), .val (.int (v0_6 py)), .val (.ref b13), .unset, .unset] [(.int (v0_3 pf))])) _
        refine XS.ifYes X18.here hx rfl (pc0 := 106) (pc' := 116) rfl (hb hby at_106) rfl ((if0 _ _).trans (teq hc106_20).1) (by decide) (by decide) ?_
        show Steps p.tables e below (T18.setTop (mkF m 116 #[.val (.int pf), .val (.int px), .val (.int py), .val (.int pd), .val (.int (v0_1 pf)), .val (.int (v0_2 pf)), .val (.int (v0_3 pf)), .val (.int (v0_4 pf)), .val (.int (v0_5 px)), .val (.int (v0_6 py)), .val (.ref b13), .unset, .unset] [])) _
        refine XS.aload X18.here hx rfl (hb hby at_116) rfl rfl ?_
        show Steps p.tables e below (T18.setTop (mkF m 118 #[.val (.int pf), .val (.int px), .val (.int py), .val (.int pd), .val (.int (v0_1 pf)), .val (.int (v0_2 pf)), .val (.int (v0_3 pf)), .val (.int (v0_4 pf)), .val (.int (v0_5 px)), .val (.int (v0_6 py)), .val (.ref b13), .unset, .unset] [(.ref b13)])) _
        refine XS.iload X18.here hx rfl (hb hby at_118) rfl ?_
        show Steps p.tables e below (T18.setTop (mkF m 120 #[.val (.int pf), .val (.int px), .val (.int py), .val (.int pd), .val (.int (v0_1 pf)), .val (.int (v0_2 pf)), .val (.int (v0_3 pf)), .val (.int (v0_4 pf)), .val (.int (v0_5 px)), .val (.int (v0_6 py)), .val (.ref b13), .unset, .unset] [(.int (v0_4 pf)), (.ref b13)])) _
        refine st21.trans ?_
        show Steps p.tables e below (T21.setTop (mkF m 123 #[.val (.int pf), .val (.int px), .val (.int py), .val (.int pd), .val (.int (v0_1 pf)), .val (.int (v0_2 pf)), .val (.int (v0_3 pf)), .val (.int (v0_4 pf)), .val (.int (v0_5 px)), .val (.int (v0_6 py)), .val (.ref b13), .unset, .unset] [])) _
        refine XS.aload X21.here hx rfl (hb hby at_123) rfl rfl ?_
        show Steps p.tables e below (T21.setTop (mkF m 125 #[.val (.int pf), .val (.int px), .val (.int py), .val (.int pd), .val (.int (v0_1 pf)), .val (.int (v0_2 pf)), .val (.int (v0_3 pf)), .val (.int (v0_4 pf)), .val (.int (v0_5 px)), .val (.int (v0_6 py)), .val (.ref b13), .unset, .unset] [(.ref b13)])) _
        refine XS.iconst X21.here hx rfl (hb hby at_125) ?_
        show Steps p.tables e below (T21.setTop (mkF m 126 #[.val (.int pf), .val (.int px), .val (.int py), .val (.int pd), .val (.int (v0_1 pf)), .val (.int (v0_2 pf)), .val (.int (v0_3 pf)), .val (.int (v0_4 pf)), .val (.int (v0_5 px)), .val (.int (v0_6 py)), .val (.ref b13), .unset, .unset] [(.int (0 : Int32)), (.ref b13)])) _
        refine st22.trans ?_
        show Steps p.tables e below (T22.setTop (mkF m 129 #[.val (.int pf), .val (.int px), .val (.int py), .val (.int pd), .val (.int (v0_1 pf)), .val (.int (v0_2 pf)), .val (.int (v0_3 pf)), .val (.int (v0_4 pf)), .val (.int (v0_5 px)), .val (.int (v0_6 py)), .val (.ref b13), .unset, .unset] [])) _
        refine XS.iload X22.here hx rfl (hb hby at_129) rfl ?_
        show Steps p.tables e below (T22.setTop (mkF m 131 #[.val (.int pf), .val (.int px), .val (.int py), .val (.int pd), .val (.int (v0_1 pf)), .val (.int (v0_2 pf)), .val (.int (v0_3 pf)), .val (.int (v0_4 pf)), .val (.int (v0_5 px)), .val (.int (v0_6 py)), .val (.ref b13), .unset, .unset] [(.int (v0_1 pf))])) _
        refine XS.ifYes X22.here hx rfl (pc0 := 131) (pc' := 139) rfl (hb hby at_131) rfl ((if0 _ _).trans (teq hc87_17).1) (by decide) (by decide) ?_
        show Steps p.tables e below (T22.setTop (mkF m 139 #[.val (.int pf), .val (.int px), .val (.int py), .val (.int pd), .val (.int (v0_1 pf)), .val (.int (v0_2 pf)), .val (.int (v0_3 pf)), .val (.int (v0_4 pf)), .val (.int (v0_5 px)), .val (.int (v0_6 py)), .val (.ref b13), .unset, .unset] [])) _
        refine XS.iloadN X22.here hx rfl (hb hby at_139) rfl ?_
        show Steps p.tables e below (T22.setTop (mkF m 140 #[.val (.int pf), .val (.int px), .val (.int py), .val (.int pd), .val (.int (v0_1 pf)), .val (.int (v0_2 pf)), .val (.int (v0_3 pf)), .val (.int (v0_4 pf)), .val (.int (v0_5 px)), .val (.int (v0_6 py)), .val (.ref b13), .unset, .unset] [(.int pd)])) _
        refine XS.istore X22.here hx rfl (hb hby at_140) rfl (l' := #[.val (.int pf), .val (.int px), .val (.int py), .val (.int pd), .val (.int (v0_1 pf)), .val (.int (v0_2 pf)), .val (.int (v0_3 pf)), .val (.int (v0_4 pf)), .val (.int (v0_5 px)), .val (.int (v0_6 py)), .val (.ref b13), .val (.int pd), .unset]) rfl ?_
        show Steps p.tables e below (T22.setTop (mkF m 142 #[.val (.int pf), .val (.int px), .val (.int py), .val (.int pd), .val (.int (v0_1 pf)), .val (.int (v0_2 pf)), .val (.int (v0_3 pf)), .val (.int (v0_4 pf)), .val (.int (v0_5 px)), .val (.int (v0_6 py)), .val (.ref b13), .val (.int pd), .unset] [])) _
        refine XS.iload X22.here hx rfl (hb hby at_142) rfl ?_
        show Steps p.tables e below (T22.setTop (mkF m 144 #[.val (.int pf), .val (.int px), .val (.int py), .val (.int pd), .val (.int (v0_1 pf)), .val (.int (v0_2 pf)), .val (.int (v0_3 pf)), .val (.int (v0_4 pf)), .val (.int (v0_5 px)), .val (.int (v0_6 py)), .val (.ref b13), .val (.int pd), .unset] [(.int (v0_3 pf))])) _
        refine XS.ifYes X22.here hx rfl (pc0 := 144) (pc' := 152) rfl (hb hby at_144) rfl ((if0 _ _).trans (teq hc106_20).1) (by decide) (by decide) ?_
        show Steps p.tables e below (T22.setTop (mkF m 152 #[.val (.int pf), .val (.int px), .val (.int py), .val (.int pd), .val (.int (v0_1 pf)), .val (.int (v0_2 pf)), .val (.int (v0_3 pf)), .val (.int (v0_4 pf)), .val (.int (v0_5 px)), .val (.int (v0_6 py)), .val (.ref b13), .val (.int pd), .unset] [])) _
        refine XS.iloadN X22.here hx rfl (hb hby at_152) rfl ?_
        show Steps p.tables e below (T22.setTop (mkF m 153 #[.val (.int pf), .val (.int px), .val (.int py), .val (.int pd), .val (.int (v0_1 pf)), .val (.int (v0_2 pf)), .val (.int (v0_3 pf)), .val (.int (v0_4 pf)), .val (.int (v0_5 px)), .val (.int (v0_6 py)), .val (.ref b13), .val (.int pd), .unset] [(.int pd)])) _
        refine XS.istore X22.here hx rfl (hb hby at_153) rfl (l' := #[.val (.int pf), .val (.int px), .val (.int py), .val (.int pd), .val (.int (v0_1 pf)), .val (.int (v0_2 pf)), .val (.int (v0_3 pf)), .val (.int (v0_4 pf)), .val (.int (v0_5 px)), .val (.int (v0_6 py)), .val (.ref b13), .val (.int pd), .val (.int pd)]) rfl ?_
        show Steps p.tables e below (T22.setTop (mkF m 155 #[.val (.int pf), .val (.int px), .val (.int py), .val (.int pd), .val (.int (v0_1 pf)), .val (.int (v0_2 pf)), .val (.int (v0_3 pf)), .val (.int (v0_4 pf)), .val (.int (v0_5 px)), .val (.int (v0_6 py)), .val (.ref b13), .val (.int pd), .val (.int pd)] [])) _
        refine XS.aload X22.here hx rfl (hb hby at_155) rfl rfl ?_
        show Steps p.tables e below (T22.setTop (mkF m 157 #[.val (.int pf), .val (.int px), .val (.int py), .val (.int pd), .val (.int (v0_1 pf)), .val (.int (v0_2 pf)), .val (.int (v0_3 pf)), .val (.int (v0_4 pf)), .val (.int (v0_5 px)), .val (.int (v0_6 py)), .val (.ref b13), .val (.int pd), .val (.int pd)] [(.ref b13)])) _
        refine st23.trans ?_
        show Steps p.tables e below (T23.setTop (mkF m 160 #[.val (.int pf), .val (.int px), .val (.int py), .val (.int pd), .val (.int (v0_1 pf)), .val (.int (v0_2 pf)), .val (.int (v0_3 pf)), .val (.int (v0_4 pf)), .val (.int (v0_5 px)), .val (.int (v0_6 py)), .val (.ref b13), .val (.int pd), .val (.int pd)] [(.int (f5 (3 : Int32)))])) _
        refine XS.iconst X23.here hx rfl (hb hby at_160) ?_
        show Steps p.tables e below (T23.setTop (mkF m 161 #[.val (.int pf), .val (.int px), .val (.int py), .val (.int pd), .val (.int (v0_1 pf)), .val (.int (v0_2 pf)), .val (.int (v0_3 pf)), .val (.int (v0_4 pf)), .val (.int (v0_5 px)), .val (.int (v0_6 py)), .val (.ref b13), .val (.int pd), .val (.int pd)] [(.int (3 : Int32)), (.int (f5 (3 : Int32)))])) _
        exact k)
      by_cases hc161_25 : (f5 (3 : Int32)) = (3 : Int32)
      · obtain ⟨cq26, kq26, q26a, q26b, q26c⟩ := isOf hZ e23 ((((((A13.keep Kq14).keep Kq15).keep Kq18).keep Kq21).keep Kq22))
        obtain ⟨_, _, ⟨T26, L26, k26, n26⟩, -, X26, ⟨Lc26, hQ26, l26, y26, z26⟩, st26⟩ := X23.virtualBack hx (y := (⟨"com/example/glowcursor/glowcursor/parser/ControlSequence", "parameter", "(II)I"⟩ : MethodName)) (z := (⟨"com/example/glowcursor/glowcursor/parser/ControlSequence", "parameter", "(II)I"⟩ : MethodName)) hown (mvT hZ (hw _ (List.mem_of_getElem? (i := 41) rfl))) (mvT hZ (hw _ (List.mem_of_getElem? (i := 42) rfl))) (notFace_of_selects (args := #[]) (mvT hZ (hw _ (List.mem_of_getElem? (i := 44) rfl)))) (mvT hZ (hw _ (List.mem_of_getElem? (i := 44) rfl))) (mvT hZ (hw _ (List.mem_of_getElem? (i := 43) rfl))) (by decide) (backOf (W := 0) (rm6 l Z a0 hw [] b13 (0 : Int32) pd (3 : Int32) pa ka (setI (setI (setI (List.replicate (32 : Int32).toNatClampNeg 0) (0 : Int32) (-1 : Int32)) (1 : Int32) (-1 : Int32)) (2 : Int32) (-1 : Int32)) T22.heap n0 Z22 ((((((A13.keep Kq14).keep Kq15).keep Kq18).keep Kq21).keep Kq22)) (Fq22_2) (Fq22_0) (Vq22_0) (by decide)) hZ (hw _ (List.mem_of_getElem? (i := 45) rfl)) (hw _ (List.mem_of_getElem? (i := 3) rfl)) (by decide) (by decide)) q26a q26c (g := (mkF m 168 #[.val (.int pf), .val (.int px), .val (.int py), .val (.int pd), .val (.int (v0_1 pf)), .val (.int (v0_2 pf)), .val (.int (v0_3 pf)), .val (.int (v0_4 pf)), .val (.int (v0_5 px)), .val (.int (v0_6 py)), .val (.ref b13), .val (.int pd), .val (.int pd)] [(.int pd), (.int (0 : Int32)), (.ref b13)])) rfl (by rw [hml]; rfl) (Steps.refl _) (argsL := [(.int (0 : Int32)), (.int pd)]) (rest := []) (lenOf pd_3 rfl) rfl (by show 2 * 0 + _ ≤ _; exact Nat.le_of_eq rfl) (hb hby at_168) (fun _ _ => ⟨rfl, e23, (by decide : 3 + 0 ≤ _), (by decide : 72 + 0 ≤ _)⟩)
        dsimp only [Pt.U, Pt.locs, Pt.cells, Pt.slots] at X26 l26 y26 z26 st26 hQ26
        subst l26 y26 z26
        obtain ⟨rfl, N26q, e26⟩ := hQ26
        have N26 := Fr.app N23 N26q
        have pre27 : ∀ t, Steps p.tables e below (T26.setTop (mkF m 173 #[.val (.int pf), .val (.int px), .val (.int py), .val (.int pd), .val (.int (v0_1 pf)), .val (.int (v0_2 pf)), .val (.int (v0_3 pf)), .val (.int (v0_4 pf)), .val (.int (v0_5 px)), .val (.int (v0_6 py)), .val (.ref b13), .val (.int pd), .val (.int pd)] [(.int pd), (.int (v0_7 pd))])) t → Steps p.tables e below (s₁.setTop (entryFrame m #[(.int pf), (.int px), (.int py), (.int pd)] maxLocals)) t := fun t k => pre24 t (by
          show Steps p.tables e below (T23.setTop (mkF m 161 #[.val (.int pf), .val (.int px), .val (.int py), .val (.int pd), .val (.int (v0_1 pf)), .val (.int (v0_2 pf)), .val (.int (v0_3 pf)), .val (.int (v0_4 pf)), .val (.int (v0_5 px)), .val (.int (v0_6 py)), .val (.ref b13), .val (.int pd), .val (.int pd)] [(.int (3 : Int32)), (.int (f5 (3 : Int32)))])) _
          refine XS.icmpNo X23.here hx rfl (hb hby at_161) rfl (teq hc161_25).2 ?_
          show Steps p.tables e below (T23.setTop (mkF m 164 #[.val (.int pf), .val (.int px), .val (.int py), .val (.int pd), .val (.int (v0_1 pf)), .val (.int (v0_2 pf)), .val (.int (v0_3 pf)), .val (.int (v0_4 pf)), .val (.int (v0_5 px)), .val (.int (v0_6 py)), .val (.ref b13), .val (.int pd), .val (.int pd)] [])) _
          refine XS.aload X23.here hx rfl (hb hby at_164) rfl rfl ?_
          show Steps p.tables e below (T23.setTop (mkF m 166 #[.val (.int pf), .val (.int px), .val (.int py), .val (.int pd), .val (.int (v0_1 pf)), .val (.int (v0_2 pf)), .val (.int (v0_3 pf)), .val (.int (v0_4 pf)), .val (.int (v0_5 px)), .val (.int (v0_6 py)), .val (.ref b13), .val (.int pd), .val (.int pd)] [(.ref b13)])) _
          refine XS.iconst X23.here hx rfl (hb hby at_166) ?_
          show Steps p.tables e below (T23.setTop (mkF m 167 #[.val (.int pf), .val (.int px), .val (.int py), .val (.int pd), .val (.int (v0_1 pf)), .val (.int (v0_2 pf)), .val (.int (v0_3 pf)), .val (.int (v0_4 pf)), .val (.int (v0_5 px)), .val (.int (v0_6 py)), .val (.ref b13), .val (.int pd), .val (.int pd)] [(.int (0 : Int32)), (.ref b13)])) _
          refine XS.iloadN X23.here hx rfl (hb hby at_167) rfl ?_
          show Steps p.tables e below (T23.setTop (mkF m 168 #[.val (.int pf), .val (.int px), .val (.int py), .val (.int pd), .val (.int (v0_1 pf)), .val (.int (v0_2 pf)), .val (.int (v0_3 pf)), .val (.int (v0_4 pf)), .val (.int (v0_5 px)), .val (.int (v0_6 py)), .val (.ref b13), .val (.int pd), .val (.int pd)] [(.int pd), (.int (0 : Int32)), (.ref b13)])) _
          refine st26.trans ?_
          show Steps p.tables e below (T26.setTop (mkF m 171 #[.val (.int pf), .val (.int px), .val (.int py), .val (.int pd), .val (.int (v0_1 pf)), .val (.int (v0_2 pf)), .val (.int (v0_3 pf)), .val (.int (v0_4 pf)), .val (.int (v0_5 px)), .val (.int (v0_6 py)), .val (.ref b13), .val (.int pd), .val (.int pd)] [(.int (v0_7 pd))])) _
          refine XS.iload X26.here hx rfl (hb hby at_171) rfl ?_
          show Steps p.tables e below (T26.setTop (mkF m 173 #[.val (.int pf), .val (.int px), .val (.int py), .val (.int pd), .val (.int (v0_1 pf)), .val (.int (v0_2 pf)), .val (.int (v0_3 pf)), .val (.int (v0_4 pf)), .val (.int (v0_5 px)), .val (.int (v0_6 py)), .val (.ref b13), .val (.int pd), .val (.int pd)] [(.int pd), (.int (v0_7 pd))])) _
          exact k)
        by_cases hc173_28 : (v0_7 pd) = pd
        · obtain ⟨cq29, kq29, q29a, q29b, q29c⟩ := isOf hZ e26 ((((((A13.keep Kq14).keep Kq15).keep Kq18).keep Kq21).keep Kq22))
          obtain ⟨_, _, ⟨T29, L29, k29, n29⟩, -, X29, ⟨Lc29, hQ29, l29, y29, z29⟩, st29⟩ := X26.virtualBack hx (y := (⟨"com/example/glowcursor/glowcursor/parser/ControlSequence", "parameter", "(II)I"⟩ : MethodName)) (z := (⟨"com/example/glowcursor/glowcursor/parser/ControlSequence", "parameter", "(II)I"⟩ : MethodName)) hown (mvT hZ (hw _ (List.mem_of_getElem? (i := 41) rfl))) (mvT hZ (hw _ (List.mem_of_getElem? (i := 42) rfl))) (notFace_of_selects (args := #[]) (mvT hZ (hw _ (List.mem_of_getElem? (i := 44) rfl)))) (mvT hZ (hw _ (List.mem_of_getElem? (i := 44) rfl))) (mvT hZ (hw _ (List.mem_of_getElem? (i := 43) rfl))) (by decide) (backOf (W := 0) (rm6 l Z a0 hw [] b13 (1 : Int32) pd (3 : Int32) pa ka (setI (setI (setI (List.replicate (32 : Int32).toNatClampNeg 0) (0 : Int32) (-1 : Int32)) (1 : Int32) (-1 : Int32)) (2 : Int32) (-1 : Int32)) T22.heap n0 Z22 ((((((A13.keep Kq14).keep Kq15).keep Kq18).keep Kq21).keep Kq22)) (Fq22_2) (Fq22_0) (Vq22_0) (by decide)) hZ (hw _ (List.mem_of_getElem? (i := 45) rfl)) (hw _ (List.mem_of_getElem? (i := 3) rfl)) (by decide) (by decide)) q29a q29c (g := (mkF m 180 #[.val (.int pf), .val (.int px), .val (.int py), .val (.int pd), .val (.int (v0_1 pf)), .val (.int (v0_2 pf)), .val (.int (v0_3 pf)), .val (.int (v0_4 pf)), .val (.int (v0_5 px)), .val (.int (v0_6 py)), .val (.ref b13), .val (.int pd), .val (.int pd)] [(.int pd), (.int (1 : Int32)), (.ref b13)])) rfl (by rw [hml]; rfl) (Steps.refl _) (argsL := [(.int (1 : Int32)), (.int pd)]) (rest := []) (lenOf pd_3 rfl) rfl (by show 2 * 0 + _ ≤ _; exact Nat.le_of_eq rfl) (hb hby at_180) (fun _ _ => ⟨rfl, e26, (by decide : 3 + 0 ≤ _), (by decide : 72 + 0 ≤ _)⟩)
          dsimp only [Pt.U, Pt.locs, Pt.cells, Pt.slots] at X29 l29 y29 z29 st29 hQ29
          subst l29 y29 z29
          obtain ⟨rfl, N29q, e29⟩ := hQ29
          have N29 := Fr.app N26 N29q
          have pre30 : ∀ t, Steps p.tables e below (T29.setTop (mkF m 185 #[.val (.int pf), .val (.int px), .val (.int py), .val (.int pd), .val (.int (v0_1 pf)), .val (.int (v0_2 pf)), .val (.int (v0_3 pf)), .val (.int (v0_4 pf)), .val (.int (v0_5 px)), .val (.int (v0_6 py)), .val (.ref b13), .val (.int pd), .val (.int pd)] [(.int pd), (.int (v0_8 pd))])) t → Steps p.tables e below (s₁.setTop (entryFrame m #[(.int pf), (.int px), (.int py), (.int pd)] maxLocals)) t := fun t k => pre27 t (by
            show Steps p.tables e below (T26.setTop (mkF m 173 #[.val (.int pf), .val (.int px), .val (.int py), .val (.int pd), .val (.int (v0_1 pf)), .val (.int (v0_2 pf)), .val (.int (v0_3 pf)), .val (.int (v0_4 pf)), .val (.int (v0_5 px)), .val (.int (v0_6 py)), .val (.ref b13), .val (.int pd), .val (.int pd)] [(.int pd), (.int (v0_7 pd))])) _
            refine XS.icmpNo X26.here hx rfl (hb hby at_173) rfl (teq hc173_28).2 ?_
            show Steps p.tables e below (T26.setTop (mkF m 176 #[.val (.int pf), .val (.int px), .val (.int py), .val (.int pd), .val (.int (v0_1 pf)), .val (.int (v0_2 pf)), .val (.int (v0_3 pf)), .val (.int (v0_4 pf)), .val (.int (v0_5 px)), .val (.int (v0_6 py)), .val (.ref b13), .val (.int pd), .val (.int pd)] [])) _
            refine XS.aload X26.here hx rfl (hb hby at_176) rfl rfl ?_
            show Steps p.tables e below (T26.setTop (mkF m 178 #[.val (.int pf), .val (.int px), .val (.int py), .val (.int pd), .val (.int (v0_1 pf)), .val (.int (v0_2 pf)), .val (.int (v0_3 pf)), .val (.int (v0_4 pf)), .val (.int (v0_5 px)), .val (.int (v0_6 py)), .val (.ref b13), .val (.int pd), .val (.int pd)] [(.ref b13)])) _
            refine XS.iconst X26.here hx rfl (hb hby at_178) ?_
            show Steps p.tables e below (T26.setTop (mkF m 179 #[.val (.int pf), .val (.int px), .val (.int py), .val (.int pd), .val (.int (v0_1 pf)), .val (.int (v0_2 pf)), .val (.int (v0_3 pf)), .val (.int (v0_4 pf)), .val (.int (v0_5 px)), .val (.int (v0_6 py)), .val (.ref b13), .val (.int pd), .val (.int pd)] [(.int (1 : Int32)), (.ref b13)])) _
            refine XS.iloadN X26.here hx rfl (hb hby at_179) rfl ?_
            show Steps p.tables e below (T26.setTop (mkF m 180 #[.val (.int pf), .val (.int px), .val (.int py), .val (.int pd), .val (.int (v0_1 pf)), .val (.int (v0_2 pf)), .val (.int (v0_3 pf)), .val (.int (v0_4 pf)), .val (.int (v0_5 px)), .val (.int (v0_6 py)), .val (.ref b13), .val (.int pd), .val (.int pd)] [(.int pd), (.int (1 : Int32)), (.ref b13)])) _
            refine st29.trans ?_
            show Steps p.tables e below (T29.setTop (mkF m 183 #[.val (.int pf), .val (.int px), .val (.int py), .val (.int pd), .val (.int (v0_1 pf)), .val (.int (v0_2 pf)), .val (.int (v0_3 pf)), .val (.int (v0_4 pf)), .val (.int (v0_5 px)), .val (.int (v0_6 py)), .val (.ref b13), .val (.int pd), .val (.int pd)] [(.int (v0_8 pd))])) _
            refine XS.iload X29.here hx rfl (hb hby at_183) rfl ?_
            show Steps p.tables e below (T29.setTop (mkF m 185 #[.val (.int pf), .val (.int px), .val (.int py), .val (.int pd), .val (.int (v0_1 pf)), .val (.int (v0_2 pf)), .val (.int (v0_3 pf)), .val (.int (v0_4 pf)), .val (.int (v0_5 px)), .val (.int (v0_6 py)), .val (.ref b13), .val (.int pd), .val (.int pd)] [(.int pd), (.int (v0_8 pd))])) _
            exact k)
          by_cases hc185_31 : (v0_8 pd) = pd
          · obtain ⟨cq32, kq32, q32a, q32b, q32c⟩ := isOf hZ e29 ((((((A13.keep Kq14).keep Kq15).keep Kq18).keep Kq21).keep Kq22))
            obtain ⟨_, _, ⟨T32, L32, k32, n32⟩, -, X32, ⟨Lc32, hQ32, l32, y32, z32⟩, st32⟩ := X29.virtualBack hx (y := (⟨"com/example/glowcursor/glowcursor/parser/ControlSequence", "parameter", "(II)I"⟩ : MethodName)) (z := (⟨"com/example/glowcursor/glowcursor/parser/ControlSequence", "parameter", "(II)I"⟩ : MethodName)) hown (mvT hZ (hw _ (List.mem_of_getElem? (i := 41) rfl))) (mvT hZ (hw _ (List.mem_of_getElem? (i := 42) rfl))) (notFace_of_selects (args := #[]) (mvT hZ (hw _ (List.mem_of_getElem? (i := 44) rfl)))) (mvT hZ (hw _ (List.mem_of_getElem? (i := 44) rfl))) (mvT hZ (hw _ (List.mem_of_getElem? (i := 43) rfl))) (by decide) (backOf (W := 0) (rm6 l Z a0 hw [] b13 (2 : Int32) pd (3 : Int32) pa ka (setI (setI (setI (List.replicate (32 : Int32).toNatClampNeg 0) (0 : Int32) (-1 : Int32)) (1 : Int32) (-1 : Int32)) (2 : Int32) (-1 : Int32)) T22.heap n0 Z22 ((((((A13.keep Kq14).keep Kq15).keep Kq18).keep Kq21).keep Kq22)) (Fq22_2) (Fq22_0) (Vq22_0) (by decide)) hZ (hw _ (List.mem_of_getElem? (i := 45) rfl)) (hw _ (List.mem_of_getElem? (i := 3) rfl)) (by decide) (by decide)) q32a q32c (g := (mkF m 192 #[.val (.int pf), .val (.int px), .val (.int py), .val (.int pd), .val (.int (v0_1 pf)), .val (.int (v0_2 pf)), .val (.int (v0_3 pf)), .val (.int (v0_4 pf)), .val (.int (v0_5 px)), .val (.int (v0_6 py)), .val (.ref b13), .val (.int pd), .val (.int pd)] [(.int pd), (.int (2 : Int32)), (.ref b13)])) rfl (by rw [hml]; rfl) (Steps.refl _) (argsL := [(.int (2 : Int32)), (.int pd)]) (rest := []) (lenOf pd_3 rfl) rfl (by show 2 * 0 + _ ≤ _; exact Nat.le_of_eq rfl) (hb hby at_192) (fun _ _ => ⟨rfl, e29, (by decide : 3 + 0 ≤ _), (by decide : 72 + 0 ≤ _)⟩)
            dsimp only [Pt.U, Pt.locs, Pt.cells, Pt.slots] at X32 l32 y32 z32 st32 hQ32
            subst l32 y32 z32
            obtain ⟨rfl, N32q, e32⟩ := hQ32
            have N32 := Fr.app N29 N32q
            have pre33 : ∀ t, Steps p.tables e below (T32.setTop (mkF m 196 #[.val (.int pf), .val (.int px), .val (.int py), .val (.int pd), .val (.int (v0_1 pf)), .val (.int (v0_2 pf)), .val (.int (v0_3 pf)), .val (.int (v0_4 pf)), .val (.int (v0_5 px)), .val (.int (v0_6 py)), .val (.ref b13), .val (.int pd), .val (.int pd)] [(.int pd), (.int (v0_9 pd))])) t → Steps p.tables e below (s₁.setTop (entryFrame m #[(.int pf), (.int px), (.int py), (.int pd)] maxLocals)) t := fun t k => pre30 t (by
              show Steps p.tables e below (T29.setTop (mkF m 185 #[.val (.int pf), .val (.int px), .val (.int py), .val (.int pd), .val (.int (v0_1 pf)), .val (.int (v0_2 pf)), .val (.int (v0_3 pf)), .val (.int (v0_4 pf)), .val (.int (v0_5 px)), .val (.int (v0_6 py)), .val (.ref b13), .val (.int pd), .val (.int pd)] [(.int pd), (.int (v0_8 pd))])) _
              refine XS.icmpNo X29.here hx rfl (hb hby at_185) rfl (teq hc185_31).2 ?_
              show Steps p.tables e below (T29.setTop (mkF m 188 #[.val (.int pf), .val (.int px), .val (.int py), .val (.int pd), .val (.int (v0_1 pf)), .val (.int (v0_2 pf)), .val (.int (v0_3 pf)), .val (.int (v0_4 pf)), .val (.int (v0_5 px)), .val (.int (v0_6 py)), .val (.ref b13), .val (.int pd), .val (.int pd)] [])) _
              refine XS.aload X29.here hx rfl (hb hby at_188) rfl rfl ?_
              show Steps p.tables e below (T29.setTop (mkF m 190 #[.val (.int pf), .val (.int px), .val (.int py), .val (.int pd), .val (.int (v0_1 pf)), .val (.int (v0_2 pf)), .val (.int (v0_3 pf)), .val (.int (v0_4 pf)), .val (.int (v0_5 px)), .val (.int (v0_6 py)), .val (.ref b13), .val (.int pd), .val (.int pd)] [(.ref b13)])) _
              refine XS.iconst X29.here hx rfl (hb hby at_190) ?_
              show Steps p.tables e below (T29.setTop (mkF m 191 #[.val (.int pf), .val (.int px), .val (.int py), .val (.int pd), .val (.int (v0_1 pf)), .val (.int (v0_2 pf)), .val (.int (v0_3 pf)), .val (.int (v0_4 pf)), .val (.int (v0_5 px)), .val (.int (v0_6 py)), .val (.ref b13), .val (.int pd), .val (.int pd)] [(.int (2 : Int32)), (.ref b13)])) _
              refine XS.iloadN X29.here hx rfl (hb hby at_191) rfl ?_
              show Steps p.tables e below (T29.setTop (mkF m 192 #[.val (.int pf), .val (.int px), .val (.int py), .val (.int pd), .val (.int (v0_1 pf)), .val (.int (v0_2 pf)), .val (.int (v0_3 pf)), .val (.int (v0_4 pf)), .val (.int (v0_5 px)), .val (.int (v0_6 py)), .val (.ref b13), .val (.int pd), .val (.int pd)] [(.int pd), (.int (2 : Int32)), (.ref b13)])) _
              refine st32.trans ?_
              show Steps p.tables e below (T32.setTop (mkF m 195 #[.val (.int pf), .val (.int px), .val (.int py), .val (.int pd), .val (.int (v0_1 pf)), .val (.int (v0_2 pf)), .val (.int (v0_3 pf)), .val (.int (v0_4 pf)), .val (.int (v0_5 px)), .val (.int (v0_6 py)), .val (.ref b13), .val (.int pd), .val (.int pd)] [(.int (v0_9 pd))])) _
              refine XS.iloadN X32.here hx rfl (hb hby at_195) rfl ?_
              show Steps p.tables e below (T32.setTop (mkF m 196 #[.val (.int pf), .val (.int px), .val (.int py), .val (.int pd), .val (.int (v0_1 pf)), .val (.int (v0_2 pf)), .val (.int (v0_3 pf)), .val (.int (v0_4 pf)), .val (.int (v0_5 px)), .val (.int (v0_6 py)), .val (.ref b13), .val (.int pd), .val (.int pd)] [(.int pd), (.int (v0_9 pd))])) _
              exact k)
            by_cases hc196_34 : (v0_9 pd) = pd
            · obtain ⟨cq35, kq35, q35a, q35b, q35c⟩ := isOf hZ e32 ((((((A13.keep Kq14).keep Kq15).keep Kq18).keep Kq21).keep Kq22))
              obtain ⟨_, _, ⟨T35, L35, k35, n35⟩, -, X35, ⟨Lc35, hQ35, l35, y35, z35⟩, st35⟩ := X32.virtualBack hx (y := (⟨"com/example/glowcursor/glowcursor/parser/ControlSequence", "isSubParameter", "(I)Z"⟩ : MethodName)) (z := (⟨"com/example/glowcursor/glowcursor/parser/ControlSequence", "isSubParameter", "(I)Z"⟩ : MethodName)) hown (mvT hZ (hw _ (List.mem_of_getElem? (i := 46) rfl))) (mvT hZ (hw _ (List.mem_of_getElem? (i := 47) rfl))) (notFace_of_selects (args := #[]) (mvT hZ (hw _ (List.mem_of_getElem? (i := 49) rfl)))) (mvT hZ (hw _ (List.mem_of_getElem? (i := 49) rfl))) (mvT hZ (hw _ (List.mem_of_getElem? (i := 48) rfl))) (by decide) (backOf (W := 0) (rm7 l Z a0 hw [] b13 (0 : Int32) (3 : Int32) sa kb (setI (setI (setI (List.replicate (32 : Int32).toNatClampNeg 0) (0 : Int32) (nar .boolean (0 : Int32))) (1 : Int32) (nar .boolean (nar .boolean (v0_2 pf)))) (2 : Int32) (nar .boolean (nar .boolean (v0_4 pf)))) T22.heap n0 Z22 ((((((A13.keep Kq14).keep Kq15).keep Kq18).keep Kq21).keep Kq22)) (Fq22_2) (Fq22_1) (Vq22_1) (by decide)) hZ (hw _ (List.mem_of_getElem? (i := 50) rfl)) (hw _ (List.mem_of_getElem? (i := 3) rfl)) (by decide) (by decide)) q35a q35c (g := (mkF m 202 #[.val (.int pf), .val (.int px), .val (.int py), .val (.int pd), .val (.int (v0_1 pf)), .val (.int (v0_2 pf)), .val (.int (v0_3 pf)), .val (.int (v0_4 pf)), .val (.int (v0_5 px)), .val (.int (v0_6 py)), .val (.ref b13), .val (.int pd), .val (.int pd)] [(.int (0 : Int32)), (.ref b13)])) rfl (by rw [hml]; rfl) (Steps.refl _) (argsL := [(.int (0 : Int32))]) (rest := []) (lenOf pd_4 rfl) rfl (by show 2 * 0 + _ ≤ _; exact Nat.le_of_eq rfl) (hb hby at_202) (fun _ _ => ⟨rfl, e32, (by decide : 3 + 0 ≤ _), (by decide : 72 + 0 ≤ _)⟩)
              dsimp only [Pt.U, Pt.locs, Pt.cells, Pt.slots] at X35 l35 y35 z35 st35 hQ35
              subst l35 y35 z35
              obtain ⟨rfl, N35q, e35⟩ := hQ35
              have N35 := Fr.app N32 N35q
              have pre36 : ∀ t, Steps p.tables e below (T35.setTop (mkF m 205 #[.val (.int pf), .val (.int px), .val (.int py), .val (.int pd), .val (.int (v0_1 pf)), .val (.int (v0_2 pf)), .val (.int (v0_3 pf)), .val (.int (v0_4 pf)), .val (.int (v0_5 px)), .val (.int (v0_6 py)), .val (.ref b13), .val (.int pd), .val (.int pd)] [(.int (v0_10 pf))])) t → Steps p.tables e below (s₁.setTop (entryFrame m #[(.int pf), (.int px), (.int py), (.int pd)] maxLocals)) t := fun t k => pre33 t (by
                show Steps p.tables e below (T32.setTop (mkF m 196 #[.val (.int pf), .val (.int px), .val (.int py), .val (.int pd), .val (.int (v0_1 pf)), .val (.int (v0_2 pf)), .val (.int (v0_3 pf)), .val (.int (v0_4 pf)), .val (.int (v0_5 px)), .val (.int (v0_6 py)), .val (.ref b13), .val (.int pd), .val (.int pd)] [(.int pd), (.int (v0_9 pd))])) _
                refine XS.icmpNo X32.here hx rfl (hb hby at_196) rfl (teq hc196_34).2 ?_
                show Steps p.tables e below (T32.setTop (mkF m 199 #[.val (.int pf), .val (.int px), .val (.int py), .val (.int pd), .val (.int (v0_1 pf)), .val (.int (v0_2 pf)), .val (.int (v0_3 pf)), .val (.int (v0_4 pf)), .val (.int (v0_5 px)), .val (.int (v0_6 py)), .val (.ref b13), .val (.int pd), .val (.int pd)] [])) _
                refine XS.aload X32.here hx rfl (hb hby at_199) rfl rfl ?_
                show Steps p.tables e below (T32.setTop (mkF m 201 #[.val (.int pf), .val (.int px), .val (.int py), .val (.int pd), .val (.int (v0_1 pf)), .val (.int (v0_2 pf)), .val (.int (v0_3 pf)), .val (.int (v0_4 pf)), .val (.int (v0_5 px)), .val (.int (v0_6 py)), .val (.ref b13), .val (.int pd), .val (.int pd)] [(.ref b13)])) _
                refine XS.iconst X32.here hx rfl (hb hby at_201) ?_
                show Steps p.tables e below (T32.setTop (mkF m 202 #[.val (.int pf), .val (.int px), .val (.int py), .val (.int pd), .val (.int (v0_1 pf)), .val (.int (v0_2 pf)), .val (.int (v0_3 pf)), .val (.int (v0_4 pf)), .val (.int (v0_5 px)), .val (.int (v0_6 py)), .val (.ref b13), .val (.int pd), .val (.int pd)] [(.int (0 : Int32)), (.ref b13)])) _
                refine st35.trans ?_
                show Steps p.tables e below (T35.setTop (mkF m 205 #[.val (.int pf), .val (.int px), .val (.int py), .val (.int pd), .val (.int (v0_1 pf)), .val (.int (v0_2 pf)), .val (.int (v0_3 pf)), .val (.int (v0_4 pf)), .val (.int (v0_5 px)), .val (.int (v0_6 py)), .val (.ref b13), .val (.int pd), .val (.int pd)] [(.int (v0_10 pf))])) _
                exact k)
              by_cases hc205_37 : (v0_10 pf) = (0 : Int32)
              · obtain ⟨cq38, kq38, q38a, q38b, q38c⟩ := isOf hZ e35 ((((((A13.keep Kq14).keep Kq15).keep Kq18).keep Kq21).keep Kq22))
                obtain ⟨_, _, ⟨T38, L38, k38, n38⟩, -, X38, ⟨Lc38, hQ38, l38, y38, z38⟩, st38⟩ := X35.virtualBack hx (y := (⟨"com/example/glowcursor/glowcursor/parser/ControlSequence", "isSubParameter", "(I)Z"⟩ : MethodName)) (z := (⟨"com/example/glowcursor/glowcursor/parser/ControlSequence", "isSubParameter", "(I)Z"⟩ : MethodName)) hown (mvT hZ (hw _ (List.mem_of_getElem? (i := 46) rfl))) (mvT hZ (hw _ (List.mem_of_getElem? (i := 47) rfl))) (notFace_of_selects (args := #[]) (mvT hZ (hw _ (List.mem_of_getElem? (i := 49) rfl)))) (mvT hZ (hw _ (List.mem_of_getElem? (i := 49) rfl))) (mvT hZ (hw _ (List.mem_of_getElem? (i := 48) rfl))) (by decide) (backOf (W := 0) (rm7 l Z a0 hw [] b13 (1 : Int32) (3 : Int32) sa kb (setI (setI (setI (List.replicate (32 : Int32).toNatClampNeg 0) (0 : Int32) (nar .boolean (0 : Int32))) (1 : Int32) (nar .boolean (nar .boolean (v0_2 pf)))) (2 : Int32) (nar .boolean (nar .boolean (v0_4 pf)))) T22.heap n0 Z22 ((((((A13.keep Kq14).keep Kq15).keep Kq18).keep Kq21).keep Kq22)) (Fq22_2) (Fq22_1) (Vq22_1) (by decide)) hZ (hw _ (List.mem_of_getElem? (i := 50) rfl)) (hw _ (List.mem_of_getElem? (i := 3) rfl)) (by decide) (by decide)) q38a q38c (g := (mkF m 211 #[.val (.int pf), .val (.int px), .val (.int py), .val (.int pd), .val (.int (v0_1 pf)), .val (.int (v0_2 pf)), .val (.int (v0_3 pf)), .val (.int (v0_4 pf)), .val (.int (v0_5 px)), .val (.int (v0_6 py)), .val (.ref b13), .val (.int pd), .val (.int pd)] [(.int (1 : Int32)), (.ref b13)])) rfl (by rw [hml]; rfl) (Steps.refl _) (argsL := [(.int (1 : Int32))]) (rest := []) (lenOf pd_4 rfl) rfl (by show 2 * 0 + _ ≤ _; exact Nat.le_of_eq rfl) (hb hby at_211) (fun _ _ => ⟨rfl, e35, (by decide : 3 + 0 ≤ _), (by decide : 72 + 0 ≤ _)⟩)
                dsimp only [Pt.U, Pt.locs, Pt.cells, Pt.slots] at X38 l38 y38 z38 st38 hQ38
                subst l38 y38 z38
                obtain ⟨rfl, N38q, e38⟩ := hQ38
                have N38 := Fr.app N35 N38q
                have pre39 : ∀ t, Steps p.tables e below (T38.setTop (mkF m 216 #[.val (.int pf), .val (.int px), .val (.int py), .val (.int pd), .val (.int (v0_1 pf)), .val (.int (v0_2 pf)), .val (.int (v0_3 pf)), .val (.int (v0_4 pf)), .val (.int (v0_5 px)), .val (.int (v0_6 py)), .val (.ref b13), .val (.int pd), .val (.int pd)] [(.int (v0_2 pf)), (.int (v0_11 pf))])) t → Steps p.tables e below (s₁.setTop (entryFrame m #[(.int pf), (.int px), (.int py), (.int pd)] maxLocals)) t := fun t k => pre36 t (by
                  show Steps p.tables e below (T35.setTop (mkF m 205 #[.val (.int pf), .val (.int px), .val (.int py), .val (.int pd), .val (.int (v0_1 pf)), .val (.int (v0_2 pf)), .val (.int (v0_3 pf)), .val (.int (v0_4 pf)), .val (.int (v0_5 px)), .val (.int (v0_6 py)), .val (.ref b13), .val (.int pd), .val (.int pd)] [(.int (v0_10 pf))])) _
                  refine XS.ifNo X35.here hx rfl (hb hby at_205) rfl ((if0 _ _).trans (teq hc205_37).2) ?_
                  show Steps p.tables e below (T35.setTop (mkF m 208 #[.val (.int pf), .val (.int px), .val (.int py), .val (.int pd), .val (.int (v0_1 pf)), .val (.int (v0_2 pf)), .val (.int (v0_3 pf)), .val (.int (v0_4 pf)), .val (.int (v0_5 px)), .val (.int (v0_6 py)), .val (.ref b13), .val (.int pd), .val (.int pd)] [])) _
                  refine XS.aload X35.here hx rfl (hb hby at_208) rfl rfl ?_
                  show Steps p.tables e below (T35.setTop (mkF m 210 #[.val (.int pf), .val (.int px), .val (.int py), .val (.int pd), .val (.int (v0_1 pf)), .val (.int (v0_2 pf)), .val (.int (v0_3 pf)), .val (.int (v0_4 pf)), .val (.int (v0_5 px)), .val (.int (v0_6 py)), .val (.ref b13), .val (.int pd), .val (.int pd)] [(.ref b13)])) _
                  refine XS.iconst X35.here hx rfl (hb hby at_210) ?_
                  show Steps p.tables e below (T35.setTop (mkF m 211 #[.val (.int pf), .val (.int px), .val (.int py), .val (.int pd), .val (.int (v0_1 pf)), .val (.int (v0_2 pf)), .val (.int (v0_3 pf)), .val (.int (v0_4 pf)), .val (.int (v0_5 px)), .val (.int (v0_6 py)), .val (.ref b13), .val (.int pd), .val (.int pd)] [(.int (1 : Int32)), (.ref b13)])) _
                  refine st38.trans ?_
                  show Steps p.tables e below (T38.setTop (mkF m 214 #[.val (.int pf), .val (.int px), .val (.int py), .val (.int pd), .val (.int (v0_1 pf)), .val (.int (v0_2 pf)), .val (.int (v0_3 pf)), .val (.int (v0_4 pf)), .val (.int (v0_5 px)), .val (.int (v0_6 py)), .val (.ref b13), .val (.int pd), .val (.int pd)] [(.int (v0_11 pf))])) _
                  refine XS.iload X38.here hx rfl (hb hby at_214) rfl ?_
                  show Steps p.tables e below (T38.setTop (mkF m 216 #[.val (.int pf), .val (.int px), .val (.int py), .val (.int pd), .val (.int (v0_1 pf)), .val (.int (v0_2 pf)), .val (.int (v0_3 pf)), .val (.int (v0_4 pf)), .val (.int (v0_5 px)), .val (.int (v0_6 py)), .val (.ref b13), .val (.int pd), .val (.int pd)] [(.int (v0_2 pf)), (.int (v0_11 pf))])) _
                  exact k)
                by_cases hc216_40 : (v0_11 pf) = (v0_2 pf)
                · obtain ⟨cq41, kq41, q41a, q41b, q41c⟩ := isOf hZ e38 ((((((A13.keep Kq14).keep Kq15).keep Kq18).keep Kq21).keep Kq22))
                  obtain ⟨_, _, ⟨T41, L41, k41, n41⟩, -, X41, ⟨Lc41, hQ41, l41, y41, z41⟩, st41⟩ := X38.virtualBack hx (y := (⟨"com/example/glowcursor/glowcursor/parser/ControlSequence", "isSubParameter", "(I)Z"⟩ : MethodName)) (z := (⟨"com/example/glowcursor/glowcursor/parser/ControlSequence", "isSubParameter", "(I)Z"⟩ : MethodName)) hown (mvT hZ (hw _ (List.mem_of_getElem? (i := 46) rfl))) (mvT hZ (hw _ (List.mem_of_getElem? (i := 47) rfl))) (notFace_of_selects (args := #[]) (mvT hZ (hw _ (List.mem_of_getElem? (i := 49) rfl)))) (mvT hZ (hw _ (List.mem_of_getElem? (i := 49) rfl))) (mvT hZ (hw _ (List.mem_of_getElem? (i := 48) rfl))) (by decide) (backOf (W := 0) (rm7 l Z a0 hw [] b13 (2 : Int32) (3 : Int32) sa kb (setI (setI (setI (List.replicate (32 : Int32).toNatClampNeg 0) (0 : Int32) (nar .boolean (0 : Int32))) (1 : Int32) (nar .boolean (nar .boolean (v0_2 pf)))) (2 : Int32) (nar .boolean (nar .boolean (v0_4 pf)))) T22.heap n0 Z22 ((((((A13.keep Kq14).keep Kq15).keep Kq18).keep Kq21).keep Kq22)) (Fq22_2) (Fq22_1) (Vq22_1) (by decide)) hZ (hw _ (List.mem_of_getElem? (i := 50) rfl)) (hw _ (List.mem_of_getElem? (i := 3) rfl)) (by decide) (by decide)) q41a q41c (g := (mkF m 222 #[.val (.int pf), .val (.int px), .val (.int py), .val (.int pd), .val (.int (v0_1 pf)), .val (.int (v0_2 pf)), .val (.int (v0_3 pf)), .val (.int (v0_4 pf)), .val (.int (v0_5 px)), .val (.int (v0_6 py)), .val (.ref b13), .val (.int pd), .val (.int pd)] [(.int (2 : Int32)), (.ref b13)])) rfl (by rw [hml]; rfl) (Steps.refl _) (argsL := [(.int (2 : Int32))]) (rest := []) (lenOf pd_4 rfl) rfl (by show 2 * 0 + _ ≤ _; exact Nat.le_of_eq rfl) (hb hby at_222) (fun _ _ => ⟨rfl, e38, (by decide : 3 + 0 ≤ _), (by decide : 72 + 0 ≤ _)⟩)
                  dsimp only [Pt.U, Pt.locs, Pt.cells, Pt.slots] at X41 l41 y41 z41 st41 hQ41
                  subst l41 y41 z41
                  obtain ⟨rfl, N41q, e41⟩ := hQ41
                  have N41 := Fr.app N38 N41q
                  have pre42 : ∀ t, Steps p.tables e below (T41.setTop (mkF m 227 #[.val (.int pf), .val (.int px), .val (.int py), .val (.int pd), .val (.int (v0_1 pf)), .val (.int (v0_2 pf)), .val (.int (v0_3 pf)), .val (.int (v0_4 pf)), .val (.int (v0_5 px)), .val (.int (v0_6 py)), .val (.ref b13), .val (.int pd), .val (.int pd)] [(.int (v0_4 pf)), (.int (v0_12 pf))])) t → Steps p.tables e below (s₁.setTop (entryFrame m #[(.int pf), (.int px), (.int py), (.int pd)] maxLocals)) t := fun t k => pre39 t (by
                    show Steps p.tables e below (T38.setTop (mkF m 216 #[.val (.int pf), .val (.int px), .val (.int py), .val (.int pd), .val (.int (v0_1 pf)), .val (.int (v0_2 pf)), .val (.int (v0_3 pf)), .val (.int (v0_4 pf)), .val (.int (v0_5 px)), .val (.int (v0_6 py)), .val (.ref b13), .val (.int pd), .val (.int pd)] [(.int (v0_2 pf)), (.int (v0_11 pf))])) _
                    refine XS.icmpNo X38.here hx rfl (hb hby at_216) rfl (teq hc216_40).2 ?_
                    show Steps p.tables e below (T38.setTop (mkF m 219 #[.val (.int pf), .val (.int px), .val (.int py), .val (.int pd), .val (.int (v0_1 pf)), .val (.int (v0_2 pf)), .val (.int (v0_3 pf)), .val (.int (v0_4 pf)), .val (.int (v0_5 px)), .val (.int (v0_6 py)), .val (.ref b13), .val (.int pd), .val (.int pd)] [])) _
                    refine XS.aload X38.here hx rfl (hb hby at_219) rfl rfl ?_
                    show Steps p.tables e below (T38.setTop (mkF m 221 #[.val (.int pf), .val (.int px), .val (.int py), .val (.int pd), .val (.int (v0_1 pf)), .val (.int (v0_2 pf)), .val (.int (v0_3 pf)), .val (.int (v0_4 pf)), .val (.int (v0_5 px)), .val (.int (v0_6 py)), .val (.ref b13), .val (.int pd), .val (.int pd)] [(.ref b13)])) _
                    refine XS.iconst X38.here hx rfl (hb hby at_221) ?_
                    show Steps p.tables e below (T38.setTop (mkF m 222 #[.val (.int pf), .val (.int px), .val (.int py), .val (.int pd), .val (.int (v0_1 pf)), .val (.int (v0_2 pf)), .val (.int (v0_3 pf)), .val (.int (v0_4 pf)), .val (.int (v0_5 px)), .val (.int (v0_6 py)), .val (.ref b13), .val (.int pd), .val (.int pd)] [(.int (2 : Int32)), (.ref b13)])) _
                    refine st41.trans ?_
                    show Steps p.tables e below (T41.setTop (mkF m 225 #[.val (.int pf), .val (.int px), .val (.int py), .val (.int pd), .val (.int (v0_1 pf)), .val (.int (v0_2 pf)), .val (.int (v0_3 pf)), .val (.int (v0_4 pf)), .val (.int (v0_5 px)), .val (.int (v0_6 py)), .val (.ref b13), .val (.int pd), .val (.int pd)] [(.int (v0_12 pf))])) _
                    refine XS.iload X41.here hx rfl (hb hby at_225) rfl ?_
                    show Steps p.tables e below (T41.setTop (mkF m 227 #[.val (.int pf), .val (.int px), .val (.int py), .val (.int pd), .val (.int (v0_1 pf)), .val (.int (v0_2 pf)), .val (.int (v0_3 pf)), .val (.int (v0_4 pf)), .val (.int (v0_5 px)), .val (.int (v0_6 py)), .val (.ref b13), .val (.int pd), .val (.int pd)] [(.int (v0_4 pf)), (.int (v0_12 pf))])) _
                    exact k)
                  by_cases hc227_43 : (v0_12 pf) = (v0_4 pf)
                  · have hv : (f0 pf px py pd) = (1 : Int32) := by simp only [f0, if_pos hc87_17, if_pos hc106_20, if_pos hc161_25, if_pos hc173_28, if_pos hc185_31, if_pos hc196_34, if_pos hc205_37, if_pos hc216_40, if_pos hc227_43]
                    obtain ⟨fs, hr, hrun, hended, hW, hsame⟩ := X41.leave (v := some (.int (1 : Int32))) (fun h => by rw [Bd.returns] at h; cases h)
                    refine ⟨_, _, pre42 _ ?_, hrun, hended, _, _, rfl, ?_, ⟨_, rfl⟩, hW, hsame.mono (by decide) (by decide)⟩
                    · show Steps p.tables e below (T41.setTop (mkF m 227 #[.val (.int pf), .val (.int px), .val (.int py), .val (.int pd), .val (.int (v0_1 pf)), .val (.int (v0_2 pf)), .val (.int (v0_3 pf)), .val (.int (v0_4 pf)), .val (.int (v0_5 px)), .val (.int (v0_6 py)), .val (.ref b13), .val (.int pd), .val (.int pd)] [(.int (v0_4 pf)), (.int (v0_12 pf))])) _
                      refine XS.icmpNo X41.here hx rfl (hb hby at_227) rfl (teq hc227_43).2 ?_
                      show Steps p.tables e below (T41.setTop (mkF m 230 #[.val (.int pf), .val (.int px), .val (.int py), .val (.int pd), .val (.int (v0_1 pf)), .val (.int (v0_2 pf)), .val (.int (v0_3 pf)), .val (.int (v0_4 pf)), .val (.int (v0_5 px)), .val (.int (v0_6 py)), .val (.ref b13), .val (.int pd), .val (.int pd)] [])) _
                      refine XS.iconst X41.here hx rfl (hb hby at_230) ?_
                      show Steps p.tables e below (T41.setTop (mkF m 231 #[.val (.int pf), .val (.int px), .val (.int py), .val (.int pd), .val (.int (v0_1 pf)), .val (.int (v0_2 pf)), .val (.int (v0_3 pf)), .val (.int (v0_4 pf)), .val (.int (v0_5 px)), .val (.int (v0_6 py)), .val (.ref b13), .val (.int pd), .val (.int pd)] [(.int (1 : Int32))])) _
                      refine XS.goto X41.here hx rfl (pc0 := 231) (pc' := 235) rfl (hb hby at_231) (by decide) (by decide) ?_
                      show Steps p.tables e below (T41.setTop (mkF m 235 #[.val (.int pf), .val (.int px), .val (.int py), .val (.int pd), .val (.int (v0_1 pf)), .val (.int (v0_2 pf)), .val (.int (v0_3 pf)), .val (.int (v0_4 pf)), .val (.int (v0_5 px)), .val (.int (v0_6 py)), .val (.ref b13), .val (.int pd), .val (.int pd)] [(.int (1 : Int32))])) _
                      exact retN X41 hx (t := .boolean) Bd.returns (by simp) (hb hby at_235) hr
                    · show Q0 Z pf px py pd h0 n0 _ T41.heap _
                      rw [e41]
                      exact ⟨by rw [hv], N41⟩
                  · have hv : (f0 pf px py pd) = (0 : Int32) := by simp only [f0, if_pos hc87_17, if_pos hc106_20, if_pos hc161_25, if_pos hc173_28, if_pos hc185_31, if_pos hc196_34, if_pos hc205_37, if_pos hc216_40, if_neg hc227_43]
                    obtain ⟨fs, hr, hrun, hended, hW, hsame⟩ := X41.leave (v := some (.int (0 : Int32))) (fun h => by rw [Bd.returns] at h; cases h)
                    refine ⟨_, _, pre42 _ ?_, hrun, hended, _, _, rfl, ?_, ⟨_, rfl⟩, hW, hsame.mono (by decide) (by decide)⟩
                    · show Steps p.tables e below (T41.setTop (mkF m 227 #[.val (.int pf), .val (.int px), .val (.int py), .val (.int pd), .val (.int (v0_1 pf)), .val (.int (v0_2 pf)), .val (.int (v0_3 pf)), .val (.int (v0_4 pf)), .val (.int (v0_5 px)), .val (.int (v0_6 py)), .val (.ref b13), .val (.int pd), .val (.int pd)] [(.int (v0_4 pf)), (.int (v0_12 pf))])) _
                      refine XS.icmpYes X41.here hx rfl (pc0 := 227) (pc' := 234) rfl (hb hby at_227) rfl (feq hc227_43).2 (by decide) (by decide) ?_
                      show Steps p.tables e below (T41.setTop (mkF m 234 #[.val (.int pf), .val (.int px), .val (.int py), .val (.int pd), .val (.int (v0_1 pf)), .val (.int (v0_2 pf)), .val (.int (v0_3 pf)), .val (.int (v0_4 pf)), .val (.int (v0_5 px)), .val (.int (v0_6 py)), .val (.ref b13), .val (.int pd), .val (.int pd)] [])) _
                      refine XS.iconst X41.here hx rfl (hb hby at_234) ?_
                      show Steps p.tables e below (T41.setTop (mkF m 235 #[.val (.int pf), .val (.int px), .val (.int py), .val (.int pd), .val (.int (v0_1 pf)), .val (.int (v0_2 pf)), .val (.int (v0_3 pf)), .val (.int (v0_4 pf)), .val (.int (v0_5 px)), .val (.int (v0_6 py)), .val (.ref b13), .val (.int pd), .val (.int pd)] [(.int (0 : Int32))])) _
                      exact retN X41 hx (t := .boolean) Bd.returns (by simp) (hb hby at_235) hr
                    · show Q0 Z pf px py pd h0 n0 _ T41.heap _
                      rw [e41]
                      exact ⟨by rw [hv], N41⟩
                · have hv : (f0 pf px py pd) = (0 : Int32) := by simp only [f0, if_pos hc87_17, if_pos hc106_20, if_pos hc161_25, if_pos hc173_28, if_pos hc185_31, if_pos hc196_34, if_pos hc205_37, if_neg hc216_40]
                  obtain ⟨fs, hr, hrun, hended, hW, hsame⟩ := X38.leave (v := some (.int (0 : Int32))) (fun h => by rw [Bd.returns] at h; cases h)
                  refine ⟨_, _, pre39 _ ?_, hrun, hended, _, _, rfl, ?_, ⟨_, rfl⟩, hW, hsame.mono (by decide) (by decide)⟩
                  · show Steps p.tables e below (T38.setTop (mkF m 216 #[.val (.int pf), .val (.int px), .val (.int py), .val (.int pd), .val (.int (v0_1 pf)), .val (.int (v0_2 pf)), .val (.int (v0_3 pf)), .val (.int (v0_4 pf)), .val (.int (v0_5 px)), .val (.int (v0_6 py)), .val (.ref b13), .val (.int pd), .val (.int pd)] [(.int (v0_2 pf)), (.int (v0_11 pf))])) _
                    refine XS.icmpYes X38.here hx rfl (pc0 := 216) (pc' := 234) rfl (hb hby at_216) rfl (feq hc216_40).2 (by decide) (by decide) ?_
                    show Steps p.tables e below (T38.setTop (mkF m 234 #[.val (.int pf), .val (.int px), .val (.int py), .val (.int pd), .val (.int (v0_1 pf)), .val (.int (v0_2 pf)), .val (.int (v0_3 pf)), .val (.int (v0_4 pf)), .val (.int (v0_5 px)), .val (.int (v0_6 py)), .val (.ref b13), .val (.int pd), .val (.int pd)] [])) _
                    refine XS.iconst X38.here hx rfl (hb hby at_234) ?_
                    show Steps p.tables e below (T38.setTop (mkF m 235 #[.val (.int pf), .val (.int px), .val (.int py), .val (.int pd), .val (.int (v0_1 pf)), .val (.int (v0_2 pf)), .val (.int (v0_3 pf)), .val (.int (v0_4 pf)), .val (.int (v0_5 px)), .val (.int (v0_6 py)), .val (.ref b13), .val (.int pd), .val (.int pd)] [(.int (0 : Int32))])) _
                    exact retN X38 hx (t := .boolean) Bd.returns (by simp) (hb hby at_235) hr
                  · show Q0 Z pf px py pd h0 n0 _ T38.heap _
                    rw [e38]
                    exact ⟨by rw [hv], N38⟩
              · have hv : (f0 pf px py pd) = (0 : Int32) := by simp only [f0, if_pos hc87_17, if_pos hc106_20, if_pos hc161_25, if_pos hc173_28, if_pos hc185_31, if_pos hc196_34, if_neg hc205_37]
                obtain ⟨fs, hr, hrun, hended, hW, hsame⟩ := X35.leave (v := some (.int (0 : Int32))) (fun h => by rw [Bd.returns] at h; cases h)
                refine ⟨_, _, pre36 _ ?_, hrun, hended, _, _, rfl, ?_, ⟨_, rfl⟩, hW, hsame.mono (by decide) (by decide)⟩
                · show Steps p.tables e below (T35.setTop (mkF m 205 #[.val (.int pf), .val (.int px), .val (.int py), .val (.int pd), .val (.int (v0_1 pf)), .val (.int (v0_2 pf)), .val (.int (v0_3 pf)), .val (.int (v0_4 pf)), .val (.int (v0_5 px)), .val (.int (v0_6 py)), .val (.ref b13), .val (.int pd), .val (.int pd)] [(.int (v0_10 pf))])) _
                  refine XS.ifYes X35.here hx rfl (pc0 := 205) (pc' := 234) rfl (hb hby at_205) rfl ((if0 _ _).trans (feq hc205_37).2) (by decide) (by decide) ?_
                  show Steps p.tables e below (T35.setTop (mkF m 234 #[.val (.int pf), .val (.int px), .val (.int py), .val (.int pd), .val (.int (v0_1 pf)), .val (.int (v0_2 pf)), .val (.int (v0_3 pf)), .val (.int (v0_4 pf)), .val (.int (v0_5 px)), .val (.int (v0_6 py)), .val (.ref b13), .val (.int pd), .val (.int pd)] [])) _
                  refine XS.iconst X35.here hx rfl (hb hby at_234) ?_
                  show Steps p.tables e below (T35.setTop (mkF m 235 #[.val (.int pf), .val (.int px), .val (.int py), .val (.int pd), .val (.int (v0_1 pf)), .val (.int (v0_2 pf)), .val (.int (v0_3 pf)), .val (.int (v0_4 pf)), .val (.int (v0_5 px)), .val (.int (v0_6 py)), .val (.ref b13), .val (.int pd), .val (.int pd)] [(.int (0 : Int32))])) _
                  exact retN X35 hx (t := .boolean) Bd.returns (by simp) (hb hby at_235) hr
                · show Q0 Z pf px py pd h0 n0 _ T35.heap _
                  rw [e35]
                  exact ⟨by rw [hv], N35⟩
            · have hv : (f0 pf px py pd) = (0 : Int32) := by simp only [f0, if_pos hc87_17, if_pos hc106_20, if_pos hc161_25, if_pos hc173_28, if_pos hc185_31, if_neg hc196_34]
              obtain ⟨fs, hr, hrun, hended, hW, hsame⟩ := X32.leave (v := some (.int (0 : Int32))) (fun h => by rw [Bd.returns] at h; cases h)
              refine ⟨_, _, pre33 _ ?_, hrun, hended, _, _, rfl, ?_, ⟨_, rfl⟩, hW, hsame.mono (by decide) (by decide)⟩
              · show Steps p.tables e below (T32.setTop (mkF m 196 #[.val (.int pf), .val (.int px), .val (.int py), .val (.int pd), .val (.int (v0_1 pf)), .val (.int (v0_2 pf)), .val (.int (v0_3 pf)), .val (.int (v0_4 pf)), .val (.int (v0_5 px)), .val (.int (v0_6 py)), .val (.ref b13), .val (.int pd), .val (.int pd)] [(.int pd), (.int (v0_9 pd))])) _
                refine XS.icmpYes X32.here hx rfl (pc0 := 196) (pc' := 234) rfl (hb hby at_196) rfl (feq hc196_34).2 (by decide) (by decide) ?_
                show Steps p.tables e below (T32.setTop (mkF m 234 #[.val (.int pf), .val (.int px), .val (.int py), .val (.int pd), .val (.int (v0_1 pf)), .val (.int (v0_2 pf)), .val (.int (v0_3 pf)), .val (.int (v0_4 pf)), .val (.int (v0_5 px)), .val (.int (v0_6 py)), .val (.ref b13), .val (.int pd), .val (.int pd)] [])) _
                refine XS.iconst X32.here hx rfl (hb hby at_234) ?_
                show Steps p.tables e below (T32.setTop (mkF m 235 #[.val (.int pf), .val (.int px), .val (.int py), .val (.int pd), .val (.int (v0_1 pf)), .val (.int (v0_2 pf)), .val (.int (v0_3 pf)), .val (.int (v0_4 pf)), .val (.int (v0_5 px)), .val (.int (v0_6 py)), .val (.ref b13), .val (.int pd), .val (.int pd)] [(.int (0 : Int32))])) _
                exact retN X32 hx (t := .boolean) Bd.returns (by simp) (hb hby at_235) hr
              · show Q0 Z pf px py pd h0 n0 _ T32.heap _
                rw [e32]
                exact ⟨by rw [hv], N32⟩
          · have hv : (f0 pf px py pd) = (0 : Int32) := by simp only [f0, if_pos hc87_17, if_pos hc106_20, if_pos hc161_25, if_pos hc173_28, if_neg hc185_31]
            obtain ⟨fs, hr, hrun, hended, hW, hsame⟩ := X29.leave (v := some (.int (0 : Int32))) (fun h => by rw [Bd.returns] at h; cases h)
            refine ⟨_, _, pre30 _ ?_, hrun, hended, _, _, rfl, ?_, ⟨_, rfl⟩, hW, hsame.mono (by decide) (by decide)⟩
            · show Steps p.tables e below (T29.setTop (mkF m 185 #[.val (.int pf), .val (.int px), .val (.int py), .val (.int pd), .val (.int (v0_1 pf)), .val (.int (v0_2 pf)), .val (.int (v0_3 pf)), .val (.int (v0_4 pf)), .val (.int (v0_5 px)), .val (.int (v0_6 py)), .val (.ref b13), .val (.int pd), .val (.int pd)] [(.int pd), (.int (v0_8 pd))])) _
              refine XS.icmpYes X29.here hx rfl (pc0 := 185) (pc' := 234) rfl (hb hby at_185) rfl (feq hc185_31).2 (by decide) (by decide) ?_
              show Steps p.tables e below (T29.setTop (mkF m 234 #[.val (.int pf), .val (.int px), .val (.int py), .val (.int pd), .val (.int (v0_1 pf)), .val (.int (v0_2 pf)), .val (.int (v0_3 pf)), .val (.int (v0_4 pf)), .val (.int (v0_5 px)), .val (.int (v0_6 py)), .val (.ref b13), .val (.int pd), .val (.int pd)] [])) _
              refine XS.iconst X29.here hx rfl (hb hby at_234) ?_
              show Steps p.tables e below (T29.setTop (mkF m 235 #[.val (.int pf), .val (.int px), .val (.int py), .val (.int pd), .val (.int (v0_1 pf)), .val (.int (v0_2 pf)), .val (.int (v0_3 pf)), .val (.int (v0_4 pf)), .val (.int (v0_5 px)), .val (.int (v0_6 py)), .val (.ref b13), .val (.int pd), .val (.int pd)] [(.int (0 : Int32))])) _
              exact retN X29 hx (t := .boolean) Bd.returns (by simp) (hb hby at_235) hr
            · show Q0 Z pf px py pd h0 n0 _ T29.heap _
              rw [e29]
              exact ⟨by rw [hv], N29⟩
        · have hv : (f0 pf px py pd) = (0 : Int32) := by simp only [f0, if_pos hc87_17, if_pos hc106_20, if_pos hc161_25, if_neg hc173_28]
          obtain ⟨fs, hr, hrun, hended, hW, hsame⟩ := X26.leave (v := some (.int (0 : Int32))) (fun h => by rw [Bd.returns] at h; cases h)
          refine ⟨_, _, pre27 _ ?_, hrun, hended, _, _, rfl, ?_, ⟨_, rfl⟩, hW, hsame.mono (by decide) (by decide)⟩
          · show Steps p.tables e below (T26.setTop (mkF m 173 #[.val (.int pf), .val (.int px), .val (.int py), .val (.int pd), .val (.int (v0_1 pf)), .val (.int (v0_2 pf)), .val (.int (v0_3 pf)), .val (.int (v0_4 pf)), .val (.int (v0_5 px)), .val (.int (v0_6 py)), .val (.ref b13), .val (.int pd), .val (.int pd)] [(.int pd), (.int (v0_7 pd))])) _
            refine XS.icmpYes X26.here hx rfl (pc0 := 173) (pc' := 234) rfl (hb hby at_173) rfl (feq hc173_28).2 (by decide) (by decide) ?_
            show Steps p.tables e below (T26.setTop (mkF m 234 #[.val (.int pf), .val (.int px), .val (.int py), .val (.int pd), .val (.int (v0_1 pf)), .val (.int (v0_2 pf)), .val (.int (v0_3 pf)), .val (.int (v0_4 pf)), .val (.int (v0_5 px)), .val (.int (v0_6 py)), .val (.ref b13), .val (.int pd), .val (.int pd)] [])) _
            refine XS.iconst X26.here hx rfl (hb hby at_234) ?_
            show Steps p.tables e below (T26.setTop (mkF m 235 #[.val (.int pf), .val (.int px), .val (.int py), .val (.int pd), .val (.int (v0_1 pf)), .val (.int (v0_2 pf)), .val (.int (v0_3 pf)), .val (.int (v0_4 pf)), .val (.int (v0_5 px)), .val (.int (v0_6 py)), .val (.ref b13), .val (.int pd), .val (.int pd)] [(.int (0 : Int32))])) _
            exact retN X26 hx (t := .boolean) Bd.returns (by simp) (hb hby at_235) hr
          · show Q0 Z pf px py pd h0 n0 _ T26.heap _
            rw [e26]
            exact ⟨by rw [hv], N26⟩
      · have hv : (f0 pf px py pd) = (0 : Int32) := by simp only [f0, if_pos hc87_17, if_pos hc106_20, if_neg hc161_25]
        obtain ⟨fs, hr, hrun, hended, hW, hsame⟩ := X23.leave (v := some (.int (0 : Int32))) (fun h => by rw [Bd.returns] at h; cases h)
        refine ⟨_, _, pre24 _ ?_, hrun, hended, _, _, rfl, ?_, ⟨_, rfl⟩, hW, hsame.mono (by decide) (by decide)⟩
        · show Steps p.tables e below (T23.setTop (mkF m 161 #[.val (.int pf), .val (.int px), .val (.int py), .val (.int pd), .val (.int (v0_1 pf)), .val (.int (v0_2 pf)), .val (.int (v0_3 pf)), .val (.int (v0_4 pf)), .val (.int (v0_5 px)), .val (.int (v0_6 py)), .val (.ref b13), .val (.int pd), .val (.int pd)] [(.int (3 : Int32)), (.int (f5 (3 : Int32)))])) _
          refine XS.icmpYes X23.here hx rfl (pc0 := 161) (pc' := 234) rfl (hb hby at_161) rfl (feq hc161_25).2 (by decide) (by decide) ?_
          show Steps p.tables e below (T23.setTop (mkF m 234 #[.val (.int pf), .val (.int px), .val (.int py), .val (.int pd), .val (.int (v0_1 pf)), .val (.int (v0_2 pf)), .val (.int (v0_3 pf)), .val (.int (v0_4 pf)), .val (.int (v0_5 px)), .val (.int (v0_6 py)), .val (.ref b13), .val (.int pd), .val (.int pd)] [])) _
          refine XS.iconst X23.here hx rfl (hb hby at_234) ?_
          show Steps p.tables e below (T23.setTop (mkF m 235 #[.val (.int pf), .val (.int px), .val (.int py), .val (.int pd), .val (.int (v0_1 pf)), .val (.int (v0_2 pf)), .val (.int (v0_3 pf)), .val (.int (v0_4 pf)), .val (.int (v0_5 px)), .val (.int (v0_6 py)), .val (.ref b13), .val (.int pd), .val (.int pd)] [(.int (0 : Int32))])) _
          exact retN X23 hx (t := .boolean) Bd.returns (by simp) (hb hby at_235) hr
        · show Q0 Z pf px py pd h0 n0 _ T23.heap _
          rw [e23]
          exact ⟨by rw [hv], N23⟩
    · obtain ⟨cq44, kq44, q44a, q44b, q44c⟩ := isOf hZ rfl ((((A13.keep Kq14).keep Kq15).keep Kq18))
      obtain ⟨_, _, ⟨T44, L44, k44, n44⟩, -, X44, ⟨Lc44, hQ44, l44, y44, z44⟩, st44⟩ := X18.virtualBack hx (y := (⟨"com/example/glowcursor/glowcursor/parser/ControlSequence", "addDigit", "(I)V"⟩ : MethodName)) (z := (⟨"com/example/glowcursor/glowcursor/parser/ControlSequence", "addDigit", "(I)V"⟩ : MethodName)) hown (mvT hZ (hw _ (List.mem_of_getElem? (i := 51) rfl))) (mvT hZ (hw _ (List.mem_of_getElem? (i := 52) rfl))) (notFace_of_selects (args := #[]) (mvT hZ (hw _ (List.mem_of_getElem? (i := 54) rfl)))) (mvT hZ (hw _ (List.mem_of_getElem? (i := 54) rfl))) (mvT hZ (hw _ (List.mem_of_getElem? (i := 53) rfl))) (by decide) (backOf (W := 0) (rm8 l Z a0 hw [] b13 (v0_6 py) pa sa (1 : Int32) (-1 : Int32) (nar .boolean (v0_2 pf)) (.int (0 : Int32)) (.int (0 : Int32)) ka (setI (List.replicate (32 : Int32).toNatClampNeg 0) (0 : Int32) (-1 : Int32)) kb (setI (List.replicate (32 : Int32).toNatClampNeg 0) (0 : Int32) (nar .boolean (0 : Int32))) T18.heap n0 Z18 ((((A13.keep Kq14).keep Kq15).keep Kq18)) g_b13 (Fq18_0) (Fq18_1) (Fq18_2) (Fq18_3) (Fq18_4) (Fq18_5) (Fq18_6) (Vq18_0) g_pa (Vq18_1) g_sa (ne1) (ne2) (ne3) rfl) hZ (hw _ (List.mem_of_getElem? (i := 55) rfl)) (hw _ (List.mem_of_getElem? (i := 3) rfl)) (by decide) (by decide)) q44a q44c (g := (mkF m 113 #[.val (.int pf), .val (.int px), .val (.int py), .val (.int pd), .val (.int (v0_1 pf)), .val (.int (v0_2 pf)), .val (.int (v0_3 pf)), .val (.int (v0_4 pf)), .val (.int (v0_5 px)), .val (.int (v0_6 py)), .val (.ref b13), .unset, .unset] [(.int (v0_6 py)), (.ref b13)])) rfl (by rw [hml]; rfl) (Steps.refl _) (argsL := [(.int (v0_6 py))]) (rest := []) (lenOf pd_5 rfl) rfl (by show 2 * 0 + _ ≤ _; exact Nat.le_of_eq rfl) (hb hby at_113) (fun _ _ => ⟨rfl, rfl, (by decide : 3 + 0 ≤ _), (by decide : 72 + 0 ≤ _)⟩)
      dsimp only [Pt.U, Pt.locs, Pt.cells, Pt.slots] at X44 l44 y44 z44 st44 hQ44
      subst l44 y44 z44
      obtain ⟨rfl, N44q, Kq44, Fq44_0, Fq44_1, Fq44_2, Fq44_3, Fq44_4, Fq44_5, Fq44_6, Vq44_0, Vq44_1⟩ := hQ44
      have N44 := Fr.app N18 N44q
      have Z44 : n0 ≤ T44.heap.size := Nat.le_trans Z18 Kq44.1
      have K44 : Keep h0 T44.heap [] := (K18).trans Kq44 (allS (Or.inr sz_b13) (allS (Or.inr sz_pa) (allS (Or.inr sz_sa) all0)))
      obtain ⟨cq45, kq45, q45a, q45b, q45c⟩ := isOf hZ rfl (((((A13.keep Kq14).keep Kq15).keep Kq18).keep Kq44))
      obtain ⟨_, _, ⟨T45, L45, k45, n45⟩, -, X45, ⟨Lc45, hQ45, l45, y45, z45⟩, st45⟩ := X44.virtualBack hx (y := (⟨"com/example/glowcursor/glowcursor/parser/ControlSequence", "endParameter", "(Z)V"⟩ : MethodName)) (z := (⟨"com/example/glowcursor/glowcursor/parser/ControlSequence", "endParameter", "(Z)V"⟩ : MethodName)) hown (mvT hZ (hw _ (List.mem_of_getElem? (i := 31) rfl))) (mvT hZ (hw _ (List.mem_of_getElem? (i := 32) rfl))) (notFace_of_selects (args := #[]) (mvT hZ (hw _ (List.mem_of_getElem? (i := 34) rfl)))) (mvT hZ (hw _ (List.mem_of_getElem? (i := 34) rfl))) (mvT hZ (hw _ (List.mem_of_getElem? (i := 33) rfl))) (by decide) (backOf (W := 0) (rm4 l Z a0 hw [] b13 (v0_4 pf) pa sa (1 : Int32) (v0_6 py) (nar .boolean (v0_2 pf)) (.int (0 : Int32)) (.int (0 : Int32)) ka (setI (List.replicate (32 : Int32).toNatClampNeg 0) (0 : Int32) (-1 : Int32)) kb (setI (List.replicate (32 : Int32).toNatClampNeg 0) (0 : Int32) (nar .boolean (0 : Int32))) T44.heap n0 Z44 (((((A13.keep Kq14).keep Kq15).keep Kq18).keep Kq44)) g_b13 (Fq44_0) (Fq44_1) (Fq44_2) (Fq44_3) (Fq44_4) (Fq44_5) (Fq44_6) (Vq44_0) g_pa (Vq44_1) g_sa (ne1) (ne2) (ne3) (by decide)) hZ (hw _ (List.mem_of_getElem? (i := 35) rfl)) (hw _ (List.mem_of_getElem? (i := 3) rfl)) (by decide) (by decide)) q45a q45c (g := (mkF m 120 #[.val (.int pf), .val (.int px), .val (.int py), .val (.int pd), .val (.int (v0_1 pf)), .val (.int (v0_2 pf)), .val (.int (v0_3 pf)), .val (.int (v0_4 pf)), .val (.int (v0_5 px)), .val (.int (v0_6 py)), .val (.ref b13), .unset, .unset] [(.int (v0_4 pf)), (.ref b13)])) rfl (by rw [hml]; rfl) (Steps.refl _) (argsL := [(.int (v0_4 pf))]) (rest := []) (lenOf pd_1 rfl) rfl (by show 2 * 0 + _ ≤ _; exact Nat.le_of_eq rfl) (hb hby at_120) (fun _ _ => ⟨rfl, rfl, (by decide : 3 + 0 ≤ _), (by decide : 72 + 0 ≤ _)⟩)
      dsimp only [Pt.U, Pt.locs, Pt.cells, Pt.slots] at X45 l45 y45 z45 st45 hQ45
      subst l45 y45 z45
      obtain ⟨rfl, N45q, Kq45, Fq45_0, Fq45_1, Fq45_2, Fq45_3, Fq45_4, Fq45_5, Fq45_6, Vq45_0, Vq45_1⟩ := hQ45
      have N45 := Fr.app N44 N45q
      have Z45 : n0 ≤ T45.heap.size := Nat.le_trans Z44 Kq45.1
      have K45 : Keep h0 T45.heap [] := (K44).trans Kq45 (allS (Or.inr sz_b13) (allS (Or.inr sz_pa) (allS (Or.inr sz_sa) all0)))
      have Fq45_2 : Fld Z T45.heap b13 "com/example/glowcursor/glowcursor/parser/ControlSequence" "count" "I" (.int (2 : Int32)) := Fq45_2
      obtain ⟨cq46, kq46, q46a, q46b, q46c⟩ := isOf hZ rfl ((((((A13.keep Kq14).keep Kq15).keep Kq18).keep Kq44).keep Kq45))
      obtain ⟨_, _, ⟨T46, L46, k46, n46⟩, -, X46, ⟨Lc46, hQ46, l46, y46, z46⟩, st46⟩ := X45.virtualBack hx (y := (⟨"com/example/glowcursor/glowcursor/parser/ControlSequence", "endParameter", "(Z)V"⟩ : MethodName)) (z := (⟨"com/example/glowcursor/glowcursor/parser/ControlSequence", "endParameter", "(Z)V"⟩ : MethodName)) hown (mvT hZ (hw _ (List.mem_of_getElem? (i := 31) rfl))) (mvT hZ (hw _ (List.mem_of_getElem? (i := 32) rfl))) (notFace_of_selects (args := #[]) (mvT hZ (hw _ (List.mem_of_getElem? (i := 34) rfl)))) (mvT hZ (hw _ (List.mem_of_getElem? (i := 34) rfl))) (mvT hZ (hw _ (List.mem_of_getElem? (i := 33) rfl))) (by decide) (backOf (W := 0) (rm4 l Z a0 hw [] b13 (0 : Int32) pa sa (2 : Int32) (-1 : Int32) (nar .boolean (v0_4 pf)) (.int (0 : Int32)) (.int (0 : Int32)) ka (setI (setI (List.replicate (32 : Int32).toNatClampNeg 0) (0 : Int32) (-1 : Int32)) (1 : Int32) (v0_6 py)) kb (setI (setI (List.replicate (32 : Int32).toNatClampNeg 0) (0 : Int32) (nar .boolean (0 : Int32))) (1 : Int32) (nar .boolean (nar .boolean (v0_2 pf)))) T45.heap n0 Z45 ((((((A13.keep Kq14).keep Kq15).keep Kq18).keep Kq44).keep Kq45)) g_b13 (Fq45_0) (Fq45_1) (Fq45_2) (Fq45_3) (Fq45_4) (Fq45_5) (Fq45_6) (Vq45_0) g_pa (Vq45_1) g_sa (ne1) (ne2) (ne3) (by decide)) hZ (hw _ (List.mem_of_getElem? (i := 35) rfl)) (hw _ (List.mem_of_getElem? (i := 3) rfl)) (by decide) (by decide)) q46a q46c (g := (mkF m 126 #[.val (.int pf), .val (.int px), .val (.int py), .val (.int pd), .val (.int (v0_1 pf)), .val (.int (v0_2 pf)), .val (.int (v0_3 pf)), .val (.int (v0_4 pf)), .val (.int (v0_5 px)), .val (.int (v0_6 py)), .val (.ref b13), .unset, .unset] [(.int (0 : Int32)), (.ref b13)])) rfl (by rw [hml]; rfl) (Steps.refl _) (argsL := [(.int (0 : Int32))]) (rest := []) (lenOf pd_1 rfl) rfl (by show 2 * 0 + _ ≤ _; exact Nat.le_of_eq rfl) (hb hby at_126) (fun _ _ => ⟨rfl, rfl, (by decide : 3 + 0 ≤ _), (by decide : 72 + 0 ≤ _)⟩)
      dsimp only [Pt.U, Pt.locs, Pt.cells, Pt.slots] at X46 l46 y46 z46 st46 hQ46
      subst l46 y46 z46
      obtain ⟨rfl, N46q, Kq46, Fq46_0, Fq46_1, Fq46_2, Fq46_3, Fq46_4, Fq46_5, Fq46_6, Vq46_0, Vq46_1⟩ := hQ46
      have N46 := Fr.app N45 N46q
      have Z46 : n0 ≤ T46.heap.size := Nat.le_trans Z45 Kq46.1
      have K46 : Keep h0 T46.heap [] := (K45).trans Kq46 (allS (Or.inr sz_b13) (allS (Or.inr sz_pa) (allS (Or.inr sz_sa) all0)))
      have Fq46_2 : Fld Z T46.heap b13 "com/example/glowcursor/glowcursor/parser/ControlSequence" "count" "I" (.int (3 : Int32)) := Fq46_2
      obtain ⟨cq47, kq47, q47a, q47b, q47c⟩ := isOf hZ rfl (((((((A13.keep Kq14).keep Kq15).keep Kq18).keep Kq44).keep Kq45).keep Kq46))
      obtain ⟨_, _, ⟨T47, L47, k47, n47⟩, -, X47, ⟨Lc47, hQ47, l47, y47, z47⟩, st47⟩ := X46.virtualBack hx (y := (⟨"com/example/glowcursor/glowcursor/parser/ControlSequence", "parameterCount", "()I"⟩ : MethodName)) (z := (⟨"com/example/glowcursor/glowcursor/parser/ControlSequence", "parameterCount", "()I"⟩ : MethodName)) hown (mvT hZ (hw _ (List.mem_of_getElem? (i := 36) rfl))) (mvT hZ (hw _ (List.mem_of_getElem? (i := 37) rfl))) (notFace_of_selects (args := #[]) (mvT hZ (hw _ (List.mem_of_getElem? (i := 39) rfl)))) (mvT hZ (hw _ (List.mem_of_getElem? (i := 39) rfl))) (mvT hZ (hw _ (List.mem_of_getElem? (i := 38) rfl))) (by decide) (backOf (W := 0) (rm5 l Z a0 hw [] b13 (3 : Int32) T46.heap n0 Z46 (((((((A13.keep Kq14).keep Kq15).keep Kq18).keep Kq44).keep Kq45).keep Kq46)) (Fq46_2)) hZ (hw _ (List.mem_of_getElem? (i := 40) rfl)) (hw _ (List.mem_of_getElem? (i := 3) rfl)) (by decide) (by decide)) q47a q47c (g := (mkF m 157 #[.val (.int pf), .val (.int px), .val (.int py), .val (.int pd), .val (.int (v0_1 pf)), .val (.int (v0_2 pf)), .val (.int (v0_3 pf)), .val (.int (v0_4 pf)), .val (.int (v0_5 px)), .val (.int (v0_6 py)), .val (.ref b13), .val (.int pd), .val (.int (v0_6 py))] [(.ref b13)])) rfl (by rw [hml]; rfl) (Steps.refl _) (argsL := []) (rest := []) (lenOf pd_2 rfl) rfl (by show 2 * 0 + _ ≤ _; exact Nat.le_of_eq rfl) (hb hby at_157) (fun _ _ => ⟨rfl, rfl, (by decide : 3 + 0 ≤ _), (by decide : 72 + 0 ≤ _)⟩)
      dsimp only [Pt.U, Pt.locs, Pt.cells, Pt.slots] at X47 l47 y47 z47 st47 hQ47
      subst l47 y47 z47
      obtain ⟨rfl, N47q, e47⟩ := hQ47
      have N47 := Fr.app N46 N47q
      have pre48 : ∀ t, Steps p.tables e below (T47.setTop (mkF m 161 #[.val (.int pf), .val (.int px), .val (.int py), .val (.int pd), .val (.int (v0_1 pf)), .val (.int (v0_2 pf)), .val (.int (v0_3 pf)), .val (.int (v0_4 pf)), .val (.int (v0_5 px)), .val (.int (v0_6 py)), .val (.ref b13), .val (.int pd), .val (.int (v0_6 py))] [(.int (3 : Int32)), (.int (f5 (3 : Int32)))])) t → Steps p.tables e below (s₁.setTop (entryFrame m #[(.int pf), (.int px), (.int py), (.int pd)] maxLocals)) t := fun t k => pre19 t (by
        show Steps p.tables e below (T18.setTop (mkF m 106 #[.val (.int pf), .val (.int px), .val (.int py), .val (.int pd), .val (.int (v0_1 pf)), .val (.int (v0_2 pf)), .val (.int (v0_3 pf)), .val (.int (v0_4 pf)), .val (.int (v0_5 px)), .val (.int (v0_6 py)), .val (.ref b13), .unset, .unset] [(.int (v0_3 pf))])) _
        refine XS.ifNo X18.here hx rfl (hb hby at_106) rfl ((if0 _ _).trans (feq hc106_20).1) ?_
        show Steps p.tables e below (T18.setTop (mkF m 109 #[.val (.int pf), .val (.int px), .val (.int py), .val (.int pd), .val (.int (v0_1 pf)), .val (.int (v0_2 pf)), .val (.int (v0_3 pf)), .val (.int (v0_4 pf)), .val (.int (v0_5 px)), .val (.int (v0_6 py)), .val (.ref b13), .unset, .unset] [])) _
        refine XS.aload X18.here hx rfl (hb hby at_109) rfl rfl ?_
        show Steps p.tables e below (T18.setTop (mkF m 111 #[.val (.int pf), .val (.int px), .val (.int py), .val (.int pd), .val (.int (v0_1 pf)), .val (.int (v0_2 pf)), .val (.int (v0_3 pf)), .val (.int (v0_4 pf)), .val (.int (v0_5 px)), .val (.int (v0_6 py)), .val (.ref b13), .unset, .unset] [(.ref b13)])) _
        refine XS.iload X18.here hx rfl (hb hby at_111) rfl ?_
        show Steps p.tables e below (T18.setTop (mkF m 113 #[.val (.int pf), .val (.int px), .val (.int py), .val (.int pd), .val (.int (v0_1 pf)), .val (.int (v0_2 pf)), .val (.int (v0_3 pf)), .val (.int (v0_4 pf)), .val (.int (v0_5 px)), .val (.int (v0_6 py)), .val (.ref b13), .unset, .unset] [(.int (v0_6 py)), (.ref b13)])) _
        refine st44.trans ?_
        show Steps p.tables e below (T44.setTop (mkF m 116 #[.val (.int pf), .val (.int px), .val (.int py), .val (.int pd), .val (.int (v0_1 pf)), .val (.int (v0_2 pf)), .val (.int (v0_3 pf)), .val (.int (v0_4 pf)), .val (.int (v0_5 px)), .val (.int (v0_6 py)), .val (.ref b13), .unset, .unset] [])) _
        refine XS.aload X44.here hx rfl (hb hby at_116) rfl rfl ?_
        show Steps p.tables e below (T44.setTop (mkF m 118 #[.val (.int pf), .val (.int px), .val (.int py), .val (.int pd), .val (.int (v0_1 pf)), .val (.int (v0_2 pf)), .val (.int (v0_3 pf)), .val (.int (v0_4 pf)), .val (.int (v0_5 px)), .val (.int (v0_6 py)), .val (.ref b13), .unset, .unset] [(.ref b13)])) _
        refine XS.iload X44.here hx rfl (hb hby at_118) rfl ?_
        show Steps p.tables e below (T44.setTop (mkF m 120 #[.val (.int pf), .val (.int px), .val (.int py), .val (.int pd), .val (.int (v0_1 pf)), .val (.int (v0_2 pf)), .val (.int (v0_3 pf)), .val (.int (v0_4 pf)), .val (.int (v0_5 px)), .val (.int (v0_6 py)), .val (.ref b13), .unset, .unset] [(.int (v0_4 pf)), (.ref b13)])) _
        refine st45.trans ?_
        show Steps p.tables e below (T45.setTop (mkF m 123 #[.val (.int pf), .val (.int px), .val (.int py), .val (.int pd), .val (.int (v0_1 pf)), .val (.int (v0_2 pf)), .val (.int (v0_3 pf)), .val (.int (v0_4 pf)), .val (.int (v0_5 px)), .val (.int (v0_6 py)), .val (.ref b13), .unset, .unset] [])) _
        refine XS.aload X45.here hx rfl (hb hby at_123) rfl rfl ?_
        show Steps p.tables e below (T45.setTop (mkF m 125 #[.val (.int pf), .val (.int px), .val (.int py), .val (.int pd), .val (.int (v0_1 pf)), .val (.int (v0_2 pf)), .val (.int (v0_3 pf)), .val (.int (v0_4 pf)), .val (.int (v0_5 px)), .val (.int (v0_6 py)), .val (.ref b13), .unset, .unset] [(.ref b13)])) _
        refine XS.iconst X45.here hx rfl (hb hby at_125) ?_
        show Steps p.tables e below (T45.setTop (mkF m 126 #[.val (.int pf), .val (.int px), .val (.int py), .val (.int pd), .val (.int (v0_1 pf)), .val (.int (v0_2 pf)), .val (.int (v0_3 pf)), .val (.int (v0_4 pf)), .val (.int (v0_5 px)), .val (.int (v0_6 py)), .val (.ref b13), .unset, .unset] [(.int (0 : Int32)), (.ref b13)])) _
        refine st46.trans ?_
        show Steps p.tables e below (T46.setTop (mkF m 129 #[.val (.int pf), .val (.int px), .val (.int py), .val (.int pd), .val (.int (v0_1 pf)), .val (.int (v0_2 pf)), .val (.int (v0_3 pf)), .val (.int (v0_4 pf)), .val (.int (v0_5 px)), .val (.int (v0_6 py)), .val (.ref b13), .unset, .unset] [])) _
        refine XS.iload X46.here hx rfl (hb hby at_129) rfl ?_
        show Steps p.tables e below (T46.setTop (mkF m 131 #[.val (.int pf), .val (.int px), .val (.int py), .val (.int pd), .val (.int (v0_1 pf)), .val (.int (v0_2 pf)), .val (.int (v0_3 pf)), .val (.int (v0_4 pf)), .val (.int (v0_5 px)), .val (.int (v0_6 py)), .val (.ref b13), .unset, .unset] [(.int (v0_1 pf))])) _
        refine XS.ifYes X46.here hx rfl (pc0 := 131) (pc' := 139) rfl (hb hby at_131) rfl ((if0 _ _).trans (teq hc87_17).1) (by decide) (by decide) ?_
        show Steps p.tables e below (T46.setTop (mkF m 139 #[.val (.int pf), .val (.int px), .val (.int py), .val (.int pd), .val (.int (v0_1 pf)), .val (.int (v0_2 pf)), .val (.int (v0_3 pf)), .val (.int (v0_4 pf)), .val (.int (v0_5 px)), .val (.int (v0_6 py)), .val (.ref b13), .unset, .unset] [])) _
        refine XS.iloadN X46.here hx rfl (hb hby at_139) rfl ?_
        show Steps p.tables e below (T46.setTop (mkF m 140 #[.val (.int pf), .val (.int px), .val (.int py), .val (.int pd), .val (.int (v0_1 pf)), .val (.int (v0_2 pf)), .val (.int (v0_3 pf)), .val (.int (v0_4 pf)), .val (.int (v0_5 px)), .val (.int (v0_6 py)), .val (.ref b13), .unset, .unset] [(.int pd)])) _
        refine XS.istore X46.here hx rfl (hb hby at_140) rfl (l' := #[.val (.int pf), .val (.int px), .val (.int py), .val (.int pd), .val (.int (v0_1 pf)), .val (.int (v0_2 pf)), .val (.int (v0_3 pf)), .val (.int (v0_4 pf)), .val (.int (v0_5 px)), .val (.int (v0_6 py)), .val (.ref b13), .val (.int pd), .unset]) rfl ?_
        show Steps p.tables e below (T46.setTop (mkF m 142 #[.val (.int pf), .val (.int px), .val (.int py), .val (.int pd), .val (.int (v0_1 pf)), .val (.int (v0_2 pf)), .val (.int (v0_3 pf)), .val (.int (v0_4 pf)), .val (.int (v0_5 px)), .val (.int (v0_6 py)), .val (.ref b13), .val (.int pd), .unset] [])) _
        refine XS.iload X46.here hx rfl (hb hby at_142) rfl ?_
        show Steps p.tables e below (T46.setTop (mkF m 144 #[.val (.int pf), .val (.int px), .val (.int py), .val (.int pd), .val (.int (v0_1 pf)), .val (.int (v0_2 pf)), .val (.int (v0_3 pf)), .val (.int (v0_4 pf)), .val (.int (v0_5 px)), .val (.int (v0_6 py)), .val (.ref b13), .val (.int pd), .unset] [(.int (v0_3 pf))])) _
        refine XS.ifNo X46.here hx rfl (hb hby at_144) rfl ((if0 _ _).trans (feq hc106_20).1) ?_
        show Steps p.tables e below (T46.setTop (mkF m 147 #[.val (.int pf), .val (.int px), .val (.int py), .val (.int pd), .val (.int (v0_1 pf)), .val (.int (v0_2 pf)), .val (.int (v0_3 pf)), .val (.int (v0_4 pf)), .val (.int (v0_5 px)), .val (.int (v0_6 py)), .val (.ref b13), .val (.int pd), .unset] [])) _
        refine XS.iload X46.here hx rfl (hb hby at_147) rfl ?_
        show Steps p.tables e below (T46.setTop (mkF m 149 #[.val (.int pf), .val (.int px), .val (.int py), .val (.int pd), .val (.int (v0_1 pf)), .val (.int (v0_2 pf)), .val (.int (v0_3 pf)), .val (.int (v0_4 pf)), .val (.int (v0_5 px)), .val (.int (v0_6 py)), .val (.ref b13), .val (.int pd), .unset] [(.int (v0_6 py))])) _
        refine XS.goto X46.here hx rfl (pc0 := 149) (pc' := 153) rfl (hb hby at_149) (by decide) (by decide) ?_
        show Steps p.tables e below (T46.setTop (mkF m 153 #[.val (.int pf), .val (.int px), .val (.int py), .val (.int pd), .val (.int (v0_1 pf)), .val (.int (v0_2 pf)), .val (.int (v0_3 pf)), .val (.int (v0_4 pf)), .val (.int (v0_5 px)), .val (.int (v0_6 py)), .val (.ref b13), .val (.int pd), .unset] [(.int (v0_6 py))])) _
        refine XS.istore X46.here hx rfl (hb hby at_153) rfl (l' := #[.val (.int pf), .val (.int px), .val (.int py), .val (.int pd), .val (.int (v0_1 pf)), .val (.int (v0_2 pf)), .val (.int (v0_3 pf)), .val (.int (v0_4 pf)), .val (.int (v0_5 px)), .val (.int (v0_6 py)), .val (.ref b13), .val (.int pd), .val (.int (v0_6 py))]) rfl ?_
        show Steps p.tables e below (T46.setTop (mkF m 155 #[.val (.int pf), .val (.int px), .val (.int py), .val (.int pd), .val (.int (v0_1 pf)), .val (.int (v0_2 pf)), .val (.int (v0_3 pf)), .val (.int (v0_4 pf)), .val (.int (v0_5 px)), .val (.int (v0_6 py)), .val (.ref b13), .val (.int pd), .val (.int (v0_6 py))] [])) _
        refine XS.aload X46.here hx rfl (hb hby at_155) rfl rfl ?_
        show Steps p.tables e below (T46.setTop (mkF m 157 #[.val (.int pf), .val (.int px), .val (.int py), .val (.int pd), .val (.int (v0_1 pf)), .val (.int (v0_2 pf)), .val (.int (v0_3 pf)), .val (.int (v0_4 pf)), .val (.int (v0_5 px)), .val (.int (v0_6 py)), .val (.ref b13), .val (.int pd), .val (.int (v0_6 py))] [(.ref b13)])) _
        refine st47.trans ?_
        show Steps p.tables e below (T47.setTop (mkF m 160 #[.val (.int pf), .val (.int px), .val (.int py), .val (.int pd), .val (.int (v0_1 pf)), .val (.int (v0_2 pf)), .val (.int (v0_3 pf)), .val (.int (v0_4 pf)), .val (.int (v0_5 px)), .val (.int (v0_6 py)), .val (.ref b13), .val (.int pd), .val (.int (v0_6 py))] [(.int (f5 (3 : Int32)))])) _
        refine XS.iconst X47.here hx rfl (hb hby at_160) ?_
        show Steps p.tables e below (T47.setTop (mkF m 161 #[.val (.int pf), .val (.int px), .val (.int py), .val (.int pd), .val (.int (v0_1 pf)), .val (.int (v0_2 pf)), .val (.int (v0_3 pf)), .val (.int (v0_4 pf)), .val (.int (v0_5 px)), .val (.int (v0_6 py)), .val (.ref b13), .val (.int pd), .val (.int (v0_6 py))] [(.int (3 : Int32)), (.int (f5 (3 : Int32)))])) _
        exact k)
      by_cases hc161_49 : (f5 (3 : Int32)) = (3 : Int32)
      · obtain ⟨cq50, kq50, q50a, q50b, q50c⟩ := isOf hZ e47 (((((((A13.keep Kq14).keep Kq15).keep Kq18).keep Kq44).keep Kq45).keep Kq46))
        obtain ⟨_, _, ⟨T50, L50, k50, n50⟩, -, X50, ⟨Lc50, hQ50, l50, y50, z50⟩, st50⟩ := X47.virtualBack hx (y := (⟨"com/example/glowcursor/glowcursor/parser/ControlSequence", "parameter", "(II)I"⟩ : MethodName)) (z := (⟨"com/example/glowcursor/glowcursor/parser/ControlSequence", "parameter", "(II)I"⟩ : MethodName)) hown (mvT hZ (hw _ (List.mem_of_getElem? (i := 41) rfl))) (mvT hZ (hw _ (List.mem_of_getElem? (i := 42) rfl))) (notFace_of_selects (args := #[]) (mvT hZ (hw _ (List.mem_of_getElem? (i := 44) rfl)))) (mvT hZ (hw _ (List.mem_of_getElem? (i := 44) rfl))) (mvT hZ (hw _ (List.mem_of_getElem? (i := 43) rfl))) (by decide) (backOf (W := 0) (rm6 l Z a0 hw [] b13 (0 : Int32) pd (3 : Int32) pa ka (setI (setI (setI (List.replicate (32 : Int32).toNatClampNeg 0) (0 : Int32) (-1 : Int32)) (1 : Int32) (v0_6 py)) (2 : Int32) (-1 : Int32)) T46.heap n0 Z46 (((((((A13.keep Kq14).keep Kq15).keep Kq18).keep Kq44).keep Kq45).keep Kq46)) (Fq46_2) (Fq46_0) (Vq46_0) (by decide)) hZ (hw _ (List.mem_of_getElem? (i := 45) rfl)) (hw _ (List.mem_of_getElem? (i := 3) rfl)) (by decide) (by decide)) q50a q50c (g := (mkF m 168 #[.val (.int pf), .val (.int px), .val (.int py), .val (.int pd), .val (.int (v0_1 pf)), .val (.int (v0_2 pf)), .val (.int (v0_3 pf)), .val (.int (v0_4 pf)), .val (.int (v0_5 px)), .val (.int (v0_6 py)), .val (.ref b13), .val (.int pd), .val (.int (v0_6 py))] [(.int pd), (.int (0 : Int32)), (.ref b13)])) rfl (by rw [hml]; rfl) (Steps.refl _) (argsL := [(.int (0 : Int32)), (.int pd)]) (rest := []) (lenOf pd_3 rfl) rfl (by show 2 * 0 + _ ≤ _; exact Nat.le_of_eq rfl) (hb hby at_168) (fun _ _ => ⟨rfl, e47, (by decide : 3 + 0 ≤ _), (by decide : 72 + 0 ≤ _)⟩)
        dsimp only [Pt.U, Pt.locs, Pt.cells, Pt.slots] at X50 l50 y50 z50 st50 hQ50
        subst l50 y50 z50
        obtain ⟨rfl, N50q, e50⟩ := hQ50
        have N50 := Fr.app N47 N50q
        have pre51 : ∀ t, Steps p.tables e below (T50.setTop (mkF m 173 #[.val (.int pf), .val (.int px), .val (.int py), .val (.int pd), .val (.int (v0_1 pf)), .val (.int (v0_2 pf)), .val (.int (v0_3 pf)), .val (.int (v0_4 pf)), .val (.int (v0_5 px)), .val (.int (v0_6 py)), .val (.ref b13), .val (.int pd), .val (.int (v0_6 py))] [(.int pd), (.int (v0_13 pd py))])) t → Steps p.tables e below (s₁.setTop (entryFrame m #[(.int pf), (.int px), (.int py), (.int pd)] maxLocals)) t := fun t k => pre48 t (by
          show Steps p.tables e below (T47.setTop (mkF m 161 #[.val (.int pf), .val (.int px), .val (.int py), .val (.int pd), .val (.int (v0_1 pf)), .val (.int (v0_2 pf)), .val (.int (v0_3 pf)), .val (.int (v0_4 pf)), .val (.int (v0_5 px)), .val (.int (v0_6 py)), .val (.ref b13), .val (.int pd), .val (.int (v0_6 py))] [(.int (3 : Int32)), (.int (f5 (3 : Int32)))])) _
          refine XS.icmpNo X47.here hx rfl (hb hby at_161) rfl (teq hc161_49).2 ?_
          show Steps p.tables e below (T47.setTop (mkF m 164 #[.val (.int pf), .val (.int px), .val (.int py), .val (.int pd), .val (.int (v0_1 pf)), .val (.int (v0_2 pf)), .val (.int (v0_3 pf)), .val (.int (v0_4 pf)), .val (.int (v0_5 px)), .val (.int (v0_6 py)), .val (.ref b13), .val (.int pd), .val (.int (v0_6 py))] [])) _
          refine XS.aload X47.here hx rfl (hb hby at_164) rfl rfl ?_
          show Steps p.tables e below (T47.setTop (mkF m 166 #[.val (.int pf), .val (.int px), .val (.int py), .val (.int pd), .val (.int (v0_1 pf)), .val (.int (v0_2 pf)), .val (.int (v0_3 pf)), .val (.int (v0_4 pf)), .val (.int (v0_5 px)), .val (.int (v0_6 py)), .val (.ref b13), .val (.int pd), .val (.int (v0_6 py))] [(.ref b13)])) _
          refine XS.iconst X47.here hx rfl (hb hby at_166) ?_
          show Steps p.tables e below (T47.setTop (mkF m 167 #[.val (.int pf), .val (.int px), .val (.int py), .val (.int pd), .val (.int (v0_1 pf)), .val (.int (v0_2 pf)), .val (.int (v0_3 pf)), .val (.int (v0_4 pf)), .val (.int (v0_5 px)), .val (.int (v0_6 py)), .val (.ref b13), .val (.int pd), .val (.int (v0_6 py))] [(.int (0 : Int32)), (.ref b13)])) _
          refine XS.iloadN X47.here hx rfl (hb hby at_167) rfl ?_
          show Steps p.tables e below (T47.setTop (mkF m 168 #[.val (.int pf), .val (.int px), .val (.int py), .val (.int pd), .val (.int (v0_1 pf)), .val (.int (v0_2 pf)), .val (.int (v0_3 pf)), .val (.int (v0_4 pf)), .val (.int (v0_5 px)), .val (.int (v0_6 py)), .val (.ref b13), .val (.int pd), .val (.int (v0_6 py))] [(.int pd), (.int (0 : Int32)), (.ref b13)])) _
          refine st50.trans ?_
          show Steps p.tables e below (T50.setTop (mkF m 171 #[.val (.int pf), .val (.int px), .val (.int py), .val (.int pd), .val (.int (v0_1 pf)), .val (.int (v0_2 pf)), .val (.int (v0_3 pf)), .val (.int (v0_4 pf)), .val (.int (v0_5 px)), .val (.int (v0_6 py)), .val (.ref b13), .val (.int pd), .val (.int (v0_6 py))] [(.int (v0_13 pd py))])) _
          refine XS.iload X50.here hx rfl (hb hby at_171) rfl ?_
          show Steps p.tables e below (T50.setTop (mkF m 173 #[.val (.int pf), .val (.int px), .val (.int py), .val (.int pd), .val (.int (v0_1 pf)), .val (.int (v0_2 pf)), .val (.int (v0_3 pf)), .val (.int (v0_4 pf)), .val (.int (v0_5 px)), .val (.int (v0_6 py)), .val (.ref b13), .val (.int pd), .val (.int (v0_6 py))] [(.int pd), (.int (v0_13 pd py))])) _
          exact k)
        by_cases hc173_52 : (v0_13 pd py) = pd
        · obtain ⟨cq53, kq53, q53a, q53b, q53c⟩ := isOf hZ e50 (((((((A13.keep Kq14).keep Kq15).keep Kq18).keep Kq44).keep Kq45).keep Kq46))
          obtain ⟨_, _, ⟨T53, L53, k53, n53⟩, -, X53, ⟨Lc53, hQ53, l53, y53, z53⟩, st53⟩ := X50.virtualBack hx (y := (⟨"com/example/glowcursor/glowcursor/parser/ControlSequence", "parameter", "(II)I"⟩ : MethodName)) (z := (⟨"com/example/glowcursor/glowcursor/parser/ControlSequence", "parameter", "(II)I"⟩ : MethodName)) hown (mvT hZ (hw _ (List.mem_of_getElem? (i := 41) rfl))) (mvT hZ (hw _ (List.mem_of_getElem? (i := 42) rfl))) (notFace_of_selects (args := #[]) (mvT hZ (hw _ (List.mem_of_getElem? (i := 44) rfl)))) (mvT hZ (hw _ (List.mem_of_getElem? (i := 44) rfl))) (mvT hZ (hw _ (List.mem_of_getElem? (i := 43) rfl))) (by decide) (backOf (W := 0) (rm6 l Z a0 hw [] b13 (1 : Int32) pd (3 : Int32) pa ka (setI (setI (setI (List.replicate (32 : Int32).toNatClampNeg 0) (0 : Int32) (-1 : Int32)) (1 : Int32) (v0_6 py)) (2 : Int32) (-1 : Int32)) T46.heap n0 Z46 (((((((A13.keep Kq14).keep Kq15).keep Kq18).keep Kq44).keep Kq45).keep Kq46)) (Fq46_2) (Fq46_0) (Vq46_0) (by decide)) hZ (hw _ (List.mem_of_getElem? (i := 45) rfl)) (hw _ (List.mem_of_getElem? (i := 3) rfl)) (by decide) (by decide)) q53a q53c (g := (mkF m 180 #[.val (.int pf), .val (.int px), .val (.int py), .val (.int pd), .val (.int (v0_1 pf)), .val (.int (v0_2 pf)), .val (.int (v0_3 pf)), .val (.int (v0_4 pf)), .val (.int (v0_5 px)), .val (.int (v0_6 py)), .val (.ref b13), .val (.int pd), .val (.int (v0_6 py))] [(.int pd), (.int (1 : Int32)), (.ref b13)])) rfl (by rw [hml]; rfl) (Steps.refl _) (argsL := [(.int (1 : Int32)), (.int pd)]) (rest := []) (lenOf pd_3 rfl) rfl (by show 2 * 0 + _ ≤ _; exact Nat.le_of_eq rfl) (hb hby at_180) (fun _ _ => ⟨rfl, e50, (by decide : 3 + 0 ≤ _), (by decide : 72 + 0 ≤ _)⟩)
          dsimp only [Pt.U, Pt.locs, Pt.cells, Pt.slots] at X53 l53 y53 z53 st53 hQ53
          subst l53 y53 z53
          obtain ⟨rfl, N53q, e53⟩ := hQ53
          have N53 := Fr.app N50 N53q
          have pre54 : ∀ t, Steps p.tables e below (T53.setTop (mkF m 185 #[.val (.int pf), .val (.int px), .val (.int py), .val (.int pd), .val (.int (v0_1 pf)), .val (.int (v0_2 pf)), .val (.int (v0_3 pf)), .val (.int (v0_4 pf)), .val (.int (v0_5 px)), .val (.int (v0_6 py)), .val (.ref b13), .val (.int pd), .val (.int (v0_6 py))] [(.int (v0_6 py)), (.int (v0_14 pd py))])) t → Steps p.tables e below (s₁.setTop (entryFrame m #[(.int pf), (.int px), (.int py), (.int pd)] maxLocals)) t := fun t k => pre51 t (by
            show Steps p.tables e below (T50.setTop (mkF m 173 #[.val (.int pf), .val (.int px), .val (.int py), .val (.int pd), .val (.int (v0_1 pf)), .val (.int (v0_2 pf)), .val (.int (v0_3 pf)), .val (.int (v0_4 pf)), .val (.int (v0_5 px)), .val (.int (v0_6 py)), .val (.ref b13), .val (.int pd), .val (.int (v0_6 py))] [(.int pd), (.int (v0_13 pd py))])) _
            refine XS.icmpNo X50.here hx rfl (hb hby at_173) rfl (teq hc173_52).2 ?_
            show Steps p.tables e below (T50.setTop (mkF m 176 #[.val (.int pf), .val (.int px), .val (.int py), .val (.int pd), .val (.int (v0_1 pf)), .val (.int (v0_2 pf)), .val (.int (v0_3 pf)), .val (.int (v0_4 pf)), .val (.int (v0_5 px)), .val (.int (v0_6 py)), .val (.ref b13), .val (.int pd), .val (.int (v0_6 py))] [])) _
            refine XS.aload X50.here hx rfl (hb hby at_176) rfl rfl ?_
            show Steps p.tables e below (T50.setTop (mkF m 178 #[.val (.int pf), .val (.int px), .val (.int py), .val (.int pd), .val (.int (v0_1 pf)), .val (.int (v0_2 pf)), .val (.int (v0_3 pf)), .val (.int (v0_4 pf)), .val (.int (v0_5 px)), .val (.int (v0_6 py)), .val (.ref b13), .val (.int pd), .val (.int (v0_6 py))] [(.ref b13)])) _
            refine XS.iconst X50.here hx rfl (hb hby at_178) ?_
            show Steps p.tables e below (T50.setTop (mkF m 179 #[.val (.int pf), .val (.int px), .val (.int py), .val (.int pd), .val (.int (v0_1 pf)), .val (.int (v0_2 pf)), .val (.int (v0_3 pf)), .val (.int (v0_4 pf)), .val (.int (v0_5 px)), .val (.int (v0_6 py)), .val (.ref b13), .val (.int pd), .val (.int (v0_6 py))] [(.int (1 : Int32)), (.ref b13)])) _
            refine XS.iloadN X50.here hx rfl (hb hby at_179) rfl ?_
            show Steps p.tables e below (T50.setTop (mkF m 180 #[.val (.int pf), .val (.int px), .val (.int py), .val (.int pd), .val (.int (v0_1 pf)), .val (.int (v0_2 pf)), .val (.int (v0_3 pf)), .val (.int (v0_4 pf)), .val (.int (v0_5 px)), .val (.int (v0_6 py)), .val (.ref b13), .val (.int pd), .val (.int (v0_6 py))] [(.int pd), (.int (1 : Int32)), (.ref b13)])) _
            refine st53.trans ?_
            show Steps p.tables e below (T53.setTop (mkF m 183 #[.val (.int pf), .val (.int px), .val (.int py), .val (.int pd), .val (.int (v0_1 pf)), .val (.int (v0_2 pf)), .val (.int (v0_3 pf)), .val (.int (v0_4 pf)), .val (.int (v0_5 px)), .val (.int (v0_6 py)), .val (.ref b13), .val (.int pd), .val (.int (v0_6 py))] [(.int (v0_14 pd py))])) _
            refine XS.iload X53.here hx rfl (hb hby at_183) rfl ?_
            show Steps p.tables e below (T53.setTop (mkF m 185 #[.val (.int pf), .val (.int px), .val (.int py), .val (.int pd), .val (.int (v0_1 pf)), .val (.int (v0_2 pf)), .val (.int (v0_3 pf)), .val (.int (v0_4 pf)), .val (.int (v0_5 px)), .val (.int (v0_6 py)), .val (.ref b13), .val (.int pd), .val (.int (v0_6 py))] [(.int (v0_6 py)), (.int (v0_14 pd py))])) _
            exact k)
          by_cases hc185_55 : (v0_14 pd py) = (v0_6 py)
          · obtain ⟨cq56, kq56, q56a, q56b, q56c⟩ := isOf hZ e53 (((((((A13.keep Kq14).keep Kq15).keep Kq18).keep Kq44).keep Kq45).keep Kq46))
            obtain ⟨_, _, ⟨T56, L56, k56, n56⟩, -, X56, ⟨Lc56, hQ56, l56, y56, z56⟩, st56⟩ := X53.virtualBack hx (y := (⟨"com/example/glowcursor/glowcursor/parser/ControlSequence", "parameter", "(II)I"⟩ : MethodName)) (z := (⟨"com/example/glowcursor/glowcursor/parser/ControlSequence", "parameter", "(II)I"⟩ : MethodName)) hown (mvT hZ (hw _ (List.mem_of_getElem? (i := 41) rfl))) (mvT hZ (hw _ (List.mem_of_getElem? (i := 42) rfl))) (notFace_of_selects (args := #[]) (mvT hZ (hw _ (List.mem_of_getElem? (i := 44) rfl)))) (mvT hZ (hw _ (List.mem_of_getElem? (i := 44) rfl))) (mvT hZ (hw _ (List.mem_of_getElem? (i := 43) rfl))) (by decide) (backOf (W := 0) (rm6 l Z a0 hw [] b13 (2 : Int32) pd (3 : Int32) pa ka (setI (setI (setI (List.replicate (32 : Int32).toNatClampNeg 0) (0 : Int32) (-1 : Int32)) (1 : Int32) (v0_6 py)) (2 : Int32) (-1 : Int32)) T46.heap n0 Z46 (((((((A13.keep Kq14).keep Kq15).keep Kq18).keep Kq44).keep Kq45).keep Kq46)) (Fq46_2) (Fq46_0) (Vq46_0) (by decide)) hZ (hw _ (List.mem_of_getElem? (i := 45) rfl)) (hw _ (List.mem_of_getElem? (i := 3) rfl)) (by decide) (by decide)) q56a q56c (g := (mkF m 192 #[.val (.int pf), .val (.int px), .val (.int py), .val (.int pd), .val (.int (v0_1 pf)), .val (.int (v0_2 pf)), .val (.int (v0_3 pf)), .val (.int (v0_4 pf)), .val (.int (v0_5 px)), .val (.int (v0_6 py)), .val (.ref b13), .val (.int pd), .val (.int (v0_6 py))] [(.int pd), (.int (2 : Int32)), (.ref b13)])) rfl (by rw [hml]; rfl) (Steps.refl _) (argsL := [(.int (2 : Int32)), (.int pd)]) (rest := []) (lenOf pd_3 rfl) rfl (by show 2 * 0 + _ ≤ _; exact Nat.le_of_eq rfl) (hb hby at_192) (fun _ _ => ⟨rfl, e53, (by decide : 3 + 0 ≤ _), (by decide : 72 + 0 ≤ _)⟩)
            dsimp only [Pt.U, Pt.locs, Pt.cells, Pt.slots] at X56 l56 y56 z56 st56 hQ56
            subst l56 y56 z56
            obtain ⟨rfl, N56q, e56⟩ := hQ56
            have N56 := Fr.app N53 N56q
            have pre57 : ∀ t, Steps p.tables e below (T56.setTop (mkF m 196 #[.val (.int pf), .val (.int px), .val (.int py), .val (.int pd), .val (.int (v0_1 pf)), .val (.int (v0_2 pf)), .val (.int (v0_3 pf)), .val (.int (v0_4 pf)), .val (.int (v0_5 px)), .val (.int (v0_6 py)), .val (.ref b13), .val (.int pd), .val (.int (v0_6 py))] [(.int pd), (.int (v0_15 pd py))])) t → Steps p.tables e below (s₁.setTop (entryFrame m #[(.int pf), (.int px), (.int py), (.int pd)] maxLocals)) t := fun t k => pre54 t (by
              show Steps p.tables e below (T53.setTop (mkF m 185 #[.val (.int pf), .val (.int px), .val (.int py), .val (.int pd), .val (.int (v0_1 pf)), .val (.int (v0_2 pf)), .val (.int (v0_3 pf)), .val (.int (v0_4 pf)), .val (.int (v0_5 px)), .val (.int (v0_6 py)), .val (.ref b13), .val (.int pd), .val (.int (v0_6 py))] [(.int (v0_6 py)), (.int (v0_14 pd py))])) _
              refine XS.icmpNo X53.here hx rfl (hb hby at_185) rfl (teq hc185_55).2 ?_
              show Steps p.tables e below (T53.setTop (mkF m 188 #[.val (.int pf), .val (.int px), .val (.int py), .val (.int pd), .val (.int (v0_1 pf)), .val (.int (v0_2 pf)), .val (.int (v0_3 pf)), .val (.int (v0_4 pf)), .val (.int (v0_5 px)), .val (.int (v0_6 py)), .val (.ref b13), .val (.int pd), .val (.int (v0_6 py))] [])) _
              refine XS.aload X53.here hx rfl (hb hby at_188) rfl rfl ?_
              show Steps p.tables e below (T53.setTop (mkF m 190 #[.val (.int pf), .val (.int px), .val (.int py), .val (.int pd), .val (.int (v0_1 pf)), .val (.int (v0_2 pf)), .val (.int (v0_3 pf)), .val (.int (v0_4 pf)), .val (.int (v0_5 px)), .val (.int (v0_6 py)), .val (.ref b13), .val (.int pd), .val (.int (v0_6 py))] [(.ref b13)])) _
              refine XS.iconst X53.here hx rfl (hb hby at_190) ?_
              show Steps p.tables e below (T53.setTop (mkF m 191 #[.val (.int pf), .val (.int px), .val (.int py), .val (.int pd), .val (.int (v0_1 pf)), .val (.int (v0_2 pf)), .val (.int (v0_3 pf)), .val (.int (v0_4 pf)), .val (.int (v0_5 px)), .val (.int (v0_6 py)), .val (.ref b13), .val (.int pd), .val (.int (v0_6 py))] [(.int (2 : Int32)), (.ref b13)])) _
              refine XS.iloadN X53.here hx rfl (hb hby at_191) rfl ?_
              show Steps p.tables e below (T53.setTop (mkF m 192 #[.val (.int pf), .val (.int px), .val (.int py), .val (.int pd), .val (.int (v0_1 pf)), .val (.int (v0_2 pf)), .val (.int (v0_3 pf)), .val (.int (v0_4 pf)), .val (.int (v0_5 px)), .val (.int (v0_6 py)), .val (.ref b13), .val (.int pd), .val (.int (v0_6 py))] [(.int pd), (.int (2 : Int32)), (.ref b13)])) _
              refine st56.trans ?_
              show Steps p.tables e below (T56.setTop (mkF m 195 #[.val (.int pf), .val (.int px), .val (.int py), .val (.int pd), .val (.int (v0_1 pf)), .val (.int (v0_2 pf)), .val (.int (v0_3 pf)), .val (.int (v0_4 pf)), .val (.int (v0_5 px)), .val (.int (v0_6 py)), .val (.ref b13), .val (.int pd), .val (.int (v0_6 py))] [(.int (v0_15 pd py))])) _
              refine XS.iloadN X56.here hx rfl (hb hby at_195) rfl ?_
              show Steps p.tables e below (T56.setTop (mkF m 196 #[.val (.int pf), .val (.int px), .val (.int py), .val (.int pd), .val (.int (v0_1 pf)), .val (.int (v0_2 pf)), .val (.int (v0_3 pf)), .val (.int (v0_4 pf)), .val (.int (v0_5 px)), .val (.int (v0_6 py)), .val (.ref b13), .val (.int pd), .val (.int (v0_6 py))] [(.int pd), (.int (v0_15 pd py))])) _
              exact k)
            by_cases hc196_58 : (v0_15 pd py) = pd
            · obtain ⟨cq59, kq59, q59a, q59b, q59c⟩ := isOf hZ e56 (((((((A13.keep Kq14).keep Kq15).keep Kq18).keep Kq44).keep Kq45).keep Kq46))
              obtain ⟨_, _, ⟨T59, L59, k59, n59⟩, -, X59, ⟨Lc59, hQ59, l59, y59, z59⟩, st59⟩ := X56.virtualBack hx (y := (⟨"com/example/glowcursor/glowcursor/parser/ControlSequence", "isSubParameter", "(I)Z"⟩ : MethodName)) (z := (⟨"com/example/glowcursor/glowcursor/parser/ControlSequence", "isSubParameter", "(I)Z"⟩ : MethodName)) hown (mvT hZ (hw _ (List.mem_of_getElem? (i := 46) rfl))) (mvT hZ (hw _ (List.mem_of_getElem? (i := 47) rfl))) (notFace_of_selects (args := #[]) (mvT hZ (hw _ (List.mem_of_getElem? (i := 49) rfl)))) (mvT hZ (hw _ (List.mem_of_getElem? (i := 49) rfl))) (mvT hZ (hw _ (List.mem_of_getElem? (i := 48) rfl))) (by decide) (backOf (W := 0) (rm7 l Z a0 hw [] b13 (0 : Int32) (3 : Int32) sa kb (setI (setI (setI (List.replicate (32 : Int32).toNatClampNeg 0) (0 : Int32) (nar .boolean (0 : Int32))) (1 : Int32) (nar .boolean (nar .boolean (v0_2 pf)))) (2 : Int32) (nar .boolean (nar .boolean (v0_4 pf)))) T46.heap n0 Z46 (((((((A13.keep Kq14).keep Kq15).keep Kq18).keep Kq44).keep Kq45).keep Kq46)) (Fq46_2) (Fq46_1) (Vq46_1) (by decide)) hZ (hw _ (List.mem_of_getElem? (i := 50) rfl)) (hw _ (List.mem_of_getElem? (i := 3) rfl)) (by decide) (by decide)) q59a q59c (g := (mkF m 202 #[.val (.int pf), .val (.int px), .val (.int py), .val (.int pd), .val (.int (v0_1 pf)), .val (.int (v0_2 pf)), .val (.int (v0_3 pf)), .val (.int (v0_4 pf)), .val (.int (v0_5 px)), .val (.int (v0_6 py)), .val (.ref b13), .val (.int pd), .val (.int (v0_6 py))] [(.int (0 : Int32)), (.ref b13)])) rfl (by rw [hml]; rfl) (Steps.refl _) (argsL := [(.int (0 : Int32))]) (rest := []) (lenOf pd_4 rfl) rfl (by show 2 * 0 + _ ≤ _; exact Nat.le_of_eq rfl) (hb hby at_202) (fun _ _ => ⟨rfl, e56, (by decide : 3 + 0 ≤ _), (by decide : 72 + 0 ≤ _)⟩)
              dsimp only [Pt.U, Pt.locs, Pt.cells, Pt.slots] at X59 l59 y59 z59 st59 hQ59
              subst l59 y59 z59
              obtain ⟨rfl, N59q, e59⟩ := hQ59
              have N59 := Fr.app N56 N59q
              have pre60 : ∀ t, Steps p.tables e below (T59.setTop (mkF m 205 #[.val (.int pf), .val (.int px), .val (.int py), .val (.int pd), .val (.int (v0_1 pf)), .val (.int (v0_2 pf)), .val (.int (v0_3 pf)), .val (.int (v0_4 pf)), .val (.int (v0_5 px)), .val (.int (v0_6 py)), .val (.ref b13), .val (.int pd), .val (.int (v0_6 py))] [(.int (v0_10 pf))])) t → Steps p.tables e below (s₁.setTop (entryFrame m #[(.int pf), (.int px), (.int py), (.int pd)] maxLocals)) t := fun t k => pre57 t (by
                show Steps p.tables e below (T56.setTop (mkF m 196 #[.val (.int pf), .val (.int px), .val (.int py), .val (.int pd), .val (.int (v0_1 pf)), .val (.int (v0_2 pf)), .val (.int (v0_3 pf)), .val (.int (v0_4 pf)), .val (.int (v0_5 px)), .val (.int (v0_6 py)), .val (.ref b13), .val (.int pd), .val (.int (v0_6 py))] [(.int pd), (.int (v0_15 pd py))])) _
                refine XS.icmpNo X56.here hx rfl (hb hby at_196) rfl (teq hc196_58).2 ?_
                show Steps p.tables e below (T56.setTop (mkF m 199 #[.val (.int pf), .val (.int px), .val (.int py), .val (.int pd), .val (.int (v0_1 pf)), .val (.int (v0_2 pf)), .val (.int (v0_3 pf)), .val (.int (v0_4 pf)), .val (.int (v0_5 px)), .val (.int (v0_6 py)), .val (.ref b13), .val (.int pd), .val (.int (v0_6 py))] [])) _
                refine XS.aload X56.here hx rfl (hb hby at_199) rfl rfl ?_
                show Steps p.tables e below (T56.setTop (mkF m 201 #[.val (.int pf), .val (.int px), .val (.int py), .val (.int pd), .val (.int (v0_1 pf)), .val (.int (v0_2 pf)), .val (.int (v0_3 pf)), .val (.int (v0_4 pf)), .val (.int (v0_5 px)), .val (.int (v0_6 py)), .val (.ref b13), .val (.int pd), .val (.int (v0_6 py))] [(.ref b13)])) _
                refine XS.iconst X56.here hx rfl (hb hby at_201) ?_
                show Steps p.tables e below (T56.setTop (mkF m 202 #[.val (.int pf), .val (.int px), .val (.int py), .val (.int pd), .val (.int (v0_1 pf)), .val (.int (v0_2 pf)), .val (.int (v0_3 pf)), .val (.int (v0_4 pf)), .val (.int (v0_5 px)), .val (.int (v0_6 py)), .val (.ref b13), .val (.int pd), .val (.int (v0_6 py))] [(.int (0 : Int32)), (.ref b13)])) _
                refine st59.trans ?_
                show Steps p.tables e below (T59.setTop (mkF m 205 #[.val (.int pf), .val (.int px), .val (.int py), .val (.int pd), .val (.int (v0_1 pf)), .val (.int (v0_2 pf)), .val (.int (v0_3 pf)), .val (.int (v0_4 pf)), .val (.int (v0_5 px)), .val (.int (v0_6 py)), .val (.ref b13), .val (.int pd), .val (.int (v0_6 py))] [(.int (v0_10 pf))])) _
                exact k)
              by_cases hc205_61 : (v0_10 pf) = (0 : Int32)
              · obtain ⟨cq62, kq62, q62a, q62b, q62c⟩ := isOf hZ e59 (((((((A13.keep Kq14).keep Kq15).keep Kq18).keep Kq44).keep Kq45).keep Kq46))
                obtain ⟨_, _, ⟨T62, L62, k62, n62⟩, -, X62, ⟨Lc62, hQ62, l62, y62, z62⟩, st62⟩ := X59.virtualBack hx (y := (⟨"com/example/glowcursor/glowcursor/parser/ControlSequence", "isSubParameter", "(I)Z"⟩ : MethodName)) (z := (⟨"com/example/glowcursor/glowcursor/parser/ControlSequence", "isSubParameter", "(I)Z"⟩ : MethodName)) hown (mvT hZ (hw _ (List.mem_of_getElem? (i := 46) rfl))) (mvT hZ (hw _ (List.mem_of_getElem? (i := 47) rfl))) (notFace_of_selects (args := #[]) (mvT hZ (hw _ (List.mem_of_getElem? (i := 49) rfl)))) (mvT hZ (hw _ (List.mem_of_getElem? (i := 49) rfl))) (mvT hZ (hw _ (List.mem_of_getElem? (i := 48) rfl))) (by decide) (backOf (W := 0) (rm7 l Z a0 hw [] b13 (1 : Int32) (3 : Int32) sa kb (setI (setI (setI (List.replicate (32 : Int32).toNatClampNeg 0) (0 : Int32) (nar .boolean (0 : Int32))) (1 : Int32) (nar .boolean (nar .boolean (v0_2 pf)))) (2 : Int32) (nar .boolean (nar .boolean (v0_4 pf)))) T46.heap n0 Z46 (((((((A13.keep Kq14).keep Kq15).keep Kq18).keep Kq44).keep Kq45).keep Kq46)) (Fq46_2) (Fq46_1) (Vq46_1) (by decide)) hZ (hw _ (List.mem_of_getElem? (i := 50) rfl)) (hw _ (List.mem_of_getElem? (i := 3) rfl)) (by decide) (by decide)) q62a q62c (g := (mkF m 211 #[.val (.int pf), .val (.int px), .val (.int py), .val (.int pd), .val (.int (v0_1 pf)), .val (.int (v0_2 pf)), .val (.int (v0_3 pf)), .val (.int (v0_4 pf)), .val (.int (v0_5 px)), .val (.int (v0_6 py)), .val (.ref b13), .val (.int pd), .val (.int (v0_6 py))] [(.int (1 : Int32)), (.ref b13)])) rfl (by rw [hml]; rfl) (Steps.refl _) (argsL := [(.int (1 : Int32))]) (rest := []) (lenOf pd_4 rfl) rfl (by show 2 * 0 + _ ≤ _; exact Nat.le_of_eq rfl) (hb hby at_211) (fun _ _ => ⟨rfl, e59, (by decide : 3 + 0 ≤ _), (by decide : 72 + 0 ≤ _)⟩)
                dsimp only [Pt.U, Pt.locs, Pt.cells, Pt.slots] at X62 l62 y62 z62 st62 hQ62
                subst l62 y62 z62
                obtain ⟨rfl, N62q, e62⟩ := hQ62
                have N62 := Fr.app N59 N62q
                have pre63 : ∀ t, Steps p.tables e below (T62.setTop (mkF m 216 #[.val (.int pf), .val (.int px), .val (.int py), .val (.int pd), .val (.int (v0_1 pf)), .val (.int (v0_2 pf)), .val (.int (v0_3 pf)), .val (.int (v0_4 pf)), .val (.int (v0_5 px)), .val (.int (v0_6 py)), .val (.ref b13), .val (.int pd), .val (.int (v0_6 py))] [(.int (v0_2 pf)), (.int (v0_11 pf))])) t → Steps p.tables e below (s₁.setTop (entryFrame m #[(.int pf), (.int px), (.int py), (.int pd)] maxLocals)) t := fun t k => pre60 t (by
                  show Steps p.tables e below (T59.setTop (mkF m 205 #[.val (.int pf), .val (.int px), .val (.int py), .val (.int pd), .val (.int (v0_1 pf)), .val (.int (v0_2 pf)), .val (.int (v0_3 pf)), .val (.int (v0_4 pf)), .val (.int (v0_5 px)), .val (.int (v0_6 py)), .val (.ref b13), .val (.int pd), .val (.int (v0_6 py))] [(.int (v0_10 pf))])) _
                  refine XS.ifNo X59.here hx rfl (hb hby at_205) rfl ((if0 _ _).trans (teq hc205_61).2) ?_
                  show Steps p.tables e below (T59.setTop (mkF m 208 #[.val (.int pf), .val (.int px), .val (.int py), .val (.int pd), .val (.int (v0_1 pf)), .val (.int (v0_2 pf)), .val (.int (v0_3 pf)), .val (.int (v0_4 pf)), .val (.int (v0_5 px)), .val (.int (v0_6 py)), .val (.ref b13), .val (.int pd), .val (.int (v0_6 py))] [])) _
                  refine XS.aload X59.here hx rfl (hb hby at_208) rfl rfl ?_
                  show Steps p.tables e below (T59.setTop (mkF m 210 #[.val (.int pf), .val (.int px), .val (.int py), .val (.int pd), .val (.int (v0_1 pf)), .val (.int (v0_2 pf)), .val (.int (v0_3 pf)), .val (.int (v0_4 pf)), .val (.int (v0_5 px)), .val (.int (v0_6 py)), .val (.ref b13), .val (.int pd), .val (.int (v0_6 py))] [(.ref b13)])) _
                  refine XS.iconst X59.here hx rfl (hb hby at_210) ?_
                  show Steps p.tables e below (T59.setTop (mkF m 211 #[.val (.int pf), .val (.int px), .val (.int py), .val (.int pd), .val (.int (v0_1 pf)), .val (.int (v0_2 pf)), .val (.int (v0_3 pf)), .val (.int (v0_4 pf)), .val (.int (v0_5 px)), .val (.int (v0_6 py)), .val (.ref b13), .val (.int pd), .val (.int (v0_6 py))] [(.int (1 : Int32)), (.ref b13)])) _
                  refine st62.trans ?_
                  show Steps p.tables e below (T62.setTop (mkF m 214 #[.val (.int pf), .val (.int px), .val (.int py), .val (.int pd), .val (.int (v0_1 pf)), .val (.int (v0_2 pf)), .val (.int (v0_3 pf)), .val (.int (v0_4 pf)), .val (.int (v0_5 px)), .val (.int (v0_6 py)), .val (.ref b13), .val (.int pd), .val (.int (v0_6 py))] [(.int (v0_11 pf))])) _
                  refine XS.iload X62.here hx rfl (hb hby at_214) rfl ?_
                  show Steps p.tables e below (T62.setTop (mkF m 216 #[.val (.int pf), .val (.int px), .val (.int py), .val (.int pd), .val (.int (v0_1 pf)), .val (.int (v0_2 pf)), .val (.int (v0_3 pf)), .val (.int (v0_4 pf)), .val (.int (v0_5 px)), .val (.int (v0_6 py)), .val (.ref b13), .val (.int pd), .val (.int (v0_6 py))] [(.int (v0_2 pf)), (.int (v0_11 pf))])) _
                  exact k)
                by_cases hc216_64 : (v0_11 pf) = (v0_2 pf)
                · obtain ⟨cq65, kq65, q65a, q65b, q65c⟩ := isOf hZ e62 (((((((A13.keep Kq14).keep Kq15).keep Kq18).keep Kq44).keep Kq45).keep Kq46))
                  obtain ⟨_, _, ⟨T65, L65, k65, n65⟩, -, X65, ⟨Lc65, hQ65, l65, y65, z65⟩, st65⟩ := X62.virtualBack hx (y := (⟨"com/example/glowcursor/glowcursor/parser/ControlSequence", "isSubParameter", "(I)Z"⟩ : MethodName)) (z := (⟨"com/example/glowcursor/glowcursor/parser/ControlSequence", "isSubParameter", "(I)Z"⟩ : MethodName)) hown (mvT hZ (hw _ (List.mem_of_getElem? (i := 46) rfl))) (mvT hZ (hw _ (List.mem_of_getElem? (i := 47) rfl))) (notFace_of_selects (args := #[]) (mvT hZ (hw _ (List.mem_of_getElem? (i := 49) rfl)))) (mvT hZ (hw _ (List.mem_of_getElem? (i := 49) rfl))) (mvT hZ (hw _ (List.mem_of_getElem? (i := 48) rfl))) (by decide) (backOf (W := 0) (rm7 l Z a0 hw [] b13 (2 : Int32) (3 : Int32) sa kb (setI (setI (setI (List.replicate (32 : Int32).toNatClampNeg 0) (0 : Int32) (nar .boolean (0 : Int32))) (1 : Int32) (nar .boolean (nar .boolean (v0_2 pf)))) (2 : Int32) (nar .boolean (nar .boolean (v0_4 pf)))) T46.heap n0 Z46 (((((((A13.keep Kq14).keep Kq15).keep Kq18).keep Kq44).keep Kq45).keep Kq46)) (Fq46_2) (Fq46_1) (Vq46_1) (by decide)) hZ (hw _ (List.mem_of_getElem? (i := 50) rfl)) (hw _ (List.mem_of_getElem? (i := 3) rfl)) (by decide) (by decide)) q65a q65c (g := (mkF m 222 #[.val (.int pf), .val (.int px), .val (.int py), .val (.int pd), .val (.int (v0_1 pf)), .val (.int (v0_2 pf)), .val (.int (v0_3 pf)), .val (.int (v0_4 pf)), .val (.int (v0_5 px)), .val (.int (v0_6 py)), .val (.ref b13), .val (.int pd), .val (.int (v0_6 py))] [(.int (2 : Int32)), (.ref b13)])) rfl (by rw [hml]; rfl) (Steps.refl _) (argsL := [(.int (2 : Int32))]) (rest := []) (lenOf pd_4 rfl) rfl (by show 2 * 0 + _ ≤ _; exact Nat.le_of_eq rfl) (hb hby at_222) (fun _ _ => ⟨rfl, e62, (by decide : 3 + 0 ≤ _), (by decide : 72 + 0 ≤ _)⟩)
                  dsimp only [Pt.U, Pt.locs, Pt.cells, Pt.slots] at X65 l65 y65 z65 st65 hQ65
                  subst l65 y65 z65
                  obtain ⟨rfl, N65q, e65⟩ := hQ65
                  have N65 := Fr.app N62 N65q
                  have pre66 : ∀ t, Steps p.tables e below (T65.setTop (mkF m 227 #[.val (.int pf), .val (.int px), .val (.int py), .val (.int pd), .val (.int (v0_1 pf)), .val (.int (v0_2 pf)), .val (.int (v0_3 pf)), .val (.int (v0_4 pf)), .val (.int (v0_5 px)), .val (.int (v0_6 py)), .val (.ref b13), .val (.int pd), .val (.int (v0_6 py))] [(.int (v0_4 pf)), (.int (v0_12 pf))])) t → Steps p.tables e below (s₁.setTop (entryFrame m #[(.int pf), (.int px), (.int py), (.int pd)] maxLocals)) t := fun t k => pre63 t (by
                    show Steps p.tables e below (T62.setTop (mkF m 216 #[.val (.int pf), .val (.int px), .val (.int py), .val (.int pd), .val (.int (v0_1 pf)), .val (.int (v0_2 pf)), .val (.int (v0_3 pf)), .val (.int (v0_4 pf)), .val (.int (v0_5 px)), .val (.int (v0_6 py)), .val (.ref b13), .val (.int pd), .val (.int (v0_6 py))] [(.int (v0_2 pf)), (.int (v0_11 pf))])) _
                    refine XS.icmpNo X62.here hx rfl (hb hby at_216) rfl (teq hc216_64).2 ?_
                    show Steps p.tables e below (T62.setTop (mkF m 219 #[.val (.int pf), .val (.int px), .val (.int py), .val (.int pd), .val (.int (v0_1 pf)), .val (.int (v0_2 pf)), .val (.int (v0_3 pf)), .val (.int (v0_4 pf)), .val (.int (v0_5 px)), .val (.int (v0_6 py)), .val (.ref b13), .val (.int pd), .val (.int (v0_6 py))] [])) _
                    refine XS.aload X62.here hx rfl (hb hby at_219) rfl rfl ?_
                    show Steps p.tables e below (T62.setTop (mkF m 221 #[.val (.int pf), .val (.int px), .val (.int py), .val (.int pd), .val (.int (v0_1 pf)), .val (.int (v0_2 pf)), .val (.int (v0_3 pf)), .val (.int (v0_4 pf)), .val (.int (v0_5 px)), .val (.int (v0_6 py)), .val (.ref b13), .val (.int pd), .val (.int (v0_6 py))] [(.ref b13)])) _
                    refine XS.iconst X62.here hx rfl (hb hby at_221) ?_
                    show Steps p.tables e below (T62.setTop (mkF m 222 #[.val (.int pf), .val (.int px), .val (.int py), .val (.int pd), .val (.int (v0_1 pf)), .val (.int (v0_2 pf)), .val (.int (v0_3 pf)), .val (.int (v0_4 pf)), .val (.int (v0_5 px)), .val (.int (v0_6 py)), .val (.ref b13), .val (.int pd), .val (.int (v0_6 py))] [(.int (2 : Int32)), (.ref b13)])) _
                    refine st65.trans ?_
                    show Steps p.tables e below (T65.setTop (mkF m 225 #[.val (.int pf), .val (.int px), .val (.int py), .val (.int pd), .val (.int (v0_1 pf)), .val (.int (v0_2 pf)), .val (.int (v0_3 pf)), .val (.int (v0_4 pf)), .val (.int (v0_5 px)), .val (.int (v0_6 py)), .val (.ref b13), .val (.int pd), .val (.int (v0_6 py))] [(.int (v0_12 pf))])) _
                    refine XS.iload X65.here hx rfl (hb hby at_225) rfl ?_
                    show Steps p.tables e below (T65.setTop (mkF m 227 #[.val (.int pf), .val (.int px), .val (.int py), .val (.int pd), .val (.int (v0_1 pf)), .val (.int (v0_2 pf)), .val (.int (v0_3 pf)), .val (.int (v0_4 pf)), .val (.int (v0_5 px)), .val (.int (v0_6 py)), .val (.ref b13), .val (.int pd), .val (.int (v0_6 py))] [(.int (v0_4 pf)), (.int (v0_12 pf))])) _
                    exact k)
                  by_cases hc227_67 : (v0_12 pf) = (v0_4 pf)
                  · have hv : (f0 pf px py pd) = (1 : Int32) := by simp only [f0, if_pos hc87_17, if_neg hc106_20, if_pos hc161_49, if_pos hc173_52, if_pos hc185_55, if_pos hc196_58, if_pos hc205_61, if_pos hc216_64, if_pos hc227_67]
                    obtain ⟨fs, hr, hrun, hended, hW, hsame⟩ := X65.leave (v := some (.int (1 : Int32))) (fun h => by rw [Bd.returns] at h; cases h)
                    refine ⟨_, _, pre66 _ ?_, hrun, hended, _, _, rfl, ?_, ⟨_, rfl⟩, hW, hsame.mono (by decide) (by decide)⟩
                    · show Steps p.tables e below (T65.setTop (mkF m 227 #[.val (.int pf), .val (.int px), .val (.int py), .val (.int pd), .val (.int (v0_1 pf)), .val (.int (v0_2 pf)), .val (.int (v0_3 pf)), .val (.int (v0_4 pf)), .val (.int (v0_5 px)), .val (.int (v0_6 py)), .val (.ref b13), .val (.int pd), .val (.int (v0_6 py))] [(.int (v0_4 pf)), (.int (v0_12 pf))])) _
                      refine XS.icmpNo X65.here hx rfl (hb hby at_227) rfl (teq hc227_67).2 ?_
                      show Steps p.tables e below (T65.setTop (mkF m 230 #[.val (.int pf), .val (.int px), .val (.int py), .val (.int pd), .val (.int (v0_1 pf)), .val (.int (v0_2 pf)), .val (.int (v0_3 pf)), .val (.int (v0_4 pf)), .val (.int (v0_5 px)), .val (.int (v0_6 py)), .val (.ref b13), .val (.int pd), .val (.int (v0_6 py))] [])) _
                      refine XS.iconst X65.here hx rfl (hb hby at_230) ?_
                      show Steps p.tables e below (T65.setTop (mkF m 231 #[.val (.int pf), .val (.int px), .val (.int py), .val (.int pd), .val (.int (v0_1 pf)), .val (.int (v0_2 pf)), .val (.int (v0_3 pf)), .val (.int (v0_4 pf)), .val (.int (v0_5 px)), .val (.int (v0_6 py)), .val (.ref b13), .val (.int pd), .val (.int (v0_6 py))] [(.int (1 : Int32))])) _
                      refine XS.goto X65.here hx rfl (pc0 := 231) (pc' := 235) rfl (hb hby at_231) (by decide) (by decide) ?_
                      show Steps p.tables e below (T65.setTop (mkF m 235 #[.val (.int pf), .val (.int px), .val (.int py), .val (.int pd), .val (.int (v0_1 pf)), .val (.int (v0_2 pf)), .val (.int (v0_3 pf)), .val (.int (v0_4 pf)), .val (.int (v0_5 px)), .val (.int (v0_6 py)), .val (.ref b13), .val (.int pd), .val (.int (v0_6 py))] [(.int (1 : Int32))])) _
                      exact retN X65 hx (t := .boolean) Bd.returns (by simp) (hb hby at_235) hr
                    · show Q0 Z pf px py pd h0 n0 _ T65.heap _
                      rw [e65]
                      exact ⟨by rw [hv], N65⟩
                  · have hv : (f0 pf px py pd) = (0 : Int32) := by simp only [f0, if_pos hc87_17, if_neg hc106_20, if_pos hc161_49, if_pos hc173_52, if_pos hc185_55, if_pos hc196_58, if_pos hc205_61, if_pos hc216_64, if_neg hc227_67]
                    obtain ⟨fs, hr, hrun, hended, hW, hsame⟩ := X65.leave (v := some (.int (0 : Int32))) (fun h => by rw [Bd.returns] at h; cases h)
                    refine ⟨_, _, pre66 _ ?_, hrun, hended, _, _, rfl, ?_, ⟨_, rfl⟩, hW, hsame.mono (by decide) (by decide)⟩
                    · show Steps p.tables e below (T65.setTop (mkF m 227 #[.val (.int pf), .val (.int px), .val (.int py), .val (.int pd), .val (.int (v0_1 pf)), .val (.int (v0_2 pf)), .val (.int (v0_3 pf)), .val (.int (v0_4 pf)), .val (.int (v0_5 px)), .val (.int (v0_6 py)), .val (.ref b13), .val (.int pd), .val (.int (v0_6 py))] [(.int (v0_4 pf)), (.int (v0_12 pf))])) _
                      refine XS.icmpYes X65.here hx rfl (pc0 := 227) (pc' := 234) rfl (hb hby at_227) rfl (feq hc227_67).2 (by decide) (by decide) ?_
                      show Steps p.tables e below (T65.setTop (mkF m 234 #[.val (.int pf), .val (.int px), .val (.int py), .val (.int pd), .val (.int (v0_1 pf)), .val (.int (v0_2 pf)), .val (.int (v0_3 pf)), .val (.int (v0_4 pf)), .val (.int (v0_5 px)), .val (.int (v0_6 py)), .val (.ref b13), .val (.int pd), .val (.int (v0_6 py))] [])) _
                      refine XS.iconst X65.here hx rfl (hb hby at_234) ?_
                      show Steps p.tables e below (T65.setTop (mkF m 235 #[.val (.int pf), .val (.int px), .val (.int py), .val (.int pd), .val (.int (v0_1 pf)), .val (.int (v0_2 pf)), .val (.int (v0_3 pf)), .val (.int (v0_4 pf)), .val (.int (v0_5 px)), .val (.int (v0_6 py)), .val (.ref b13), .val (.int pd), .val (.int (v0_6 py))] [(.int (0 : Int32))])) _
                      exact retN X65 hx (t := .boolean) Bd.returns (by simp) (hb hby at_235) hr
                    · show Q0 Z pf px py pd h0 n0 _ T65.heap _
                      rw [e65]
                      exact ⟨by rw [hv], N65⟩
                · have hv : (f0 pf px py pd) = (0 : Int32) := by simp only [f0, if_pos hc87_17, if_neg hc106_20, if_pos hc161_49, if_pos hc173_52, if_pos hc185_55, if_pos hc196_58, if_pos hc205_61, if_neg hc216_64]
                  obtain ⟨fs, hr, hrun, hended, hW, hsame⟩ := X62.leave (v := some (.int (0 : Int32))) (fun h => by rw [Bd.returns] at h; cases h)
                  refine ⟨_, _, pre63 _ ?_, hrun, hended, _, _, rfl, ?_, ⟨_, rfl⟩, hW, hsame.mono (by decide) (by decide)⟩
                  · show Steps p.tables e below (T62.setTop (mkF m 216 #[.val (.int pf), .val (.int px), .val (.int py), .val (.int pd), .val (.int (v0_1 pf)), .val (.int (v0_2 pf)), .val (.int (v0_3 pf)), .val (.int (v0_4 pf)), .val (.int (v0_5 px)), .val (.int (v0_6 py)), .val (.ref b13), .val (.int pd), .val (.int (v0_6 py))] [(.int (v0_2 pf)), (.int (v0_11 pf))])) _
                    refine XS.icmpYes X62.here hx rfl (pc0 := 216) (pc' := 234) rfl (hb hby at_216) rfl (feq hc216_64).2 (by decide) (by decide) ?_
                    show Steps p.tables e below (T62.setTop (mkF m 234 #[.val (.int pf), .val (.int px), .val (.int py), .val (.int pd), .val (.int (v0_1 pf)), .val (.int (v0_2 pf)), .val (.int (v0_3 pf)), .val (.int (v0_4 pf)), .val (.int (v0_5 px)), .val (.int (v0_6 py)), .val (.ref b13), .val (.int pd), .val (.int (v0_6 py))] [])) _
                    refine XS.iconst X62.here hx rfl (hb hby at_234) ?_
                    show Steps p.tables e below (T62.setTop (mkF m 235 #[.val (.int pf), .val (.int px), .val (.int py), .val (.int pd), .val (.int (v0_1 pf)), .val (.int (v0_2 pf)), .val (.int (v0_3 pf)), .val (.int (v0_4 pf)), .val (.int (v0_5 px)), .val (.int (v0_6 py)), .val (.ref b13), .val (.int pd), .val (.int (v0_6 py))] [(.int (0 : Int32))])) _
                    exact retN X62 hx (t := .boolean) Bd.returns (by simp) (hb hby at_235) hr
                  · show Q0 Z pf px py pd h0 n0 _ T62.heap _
                    rw [e62]
                    exact ⟨by rw [hv], N62⟩
              · have hv : (f0 pf px py pd) = (0 : Int32) := by simp only [f0, if_pos hc87_17, if_neg hc106_20, if_pos hc161_49, if_pos hc173_52, if_pos hc185_55, if_pos hc196_58, if_neg hc205_61]
                obtain ⟨fs, hr, hrun, hended, hW, hsame⟩ := X59.leave (v := some (.int (0 : Int32))) (fun h => by rw [Bd.returns] at h; cases h)
                refine ⟨_, _, pre60 _ ?_, hrun, hended, _, _, rfl, ?_, ⟨_, rfl⟩, hW, hsame.mono (by decide) (by decide)⟩
                · show Steps p.tables e below (T59.setTop (mkF m 205 #[.val (.int pf), .val (.int px), .val (.int py), .val (.int pd), .val (.int (v0_1 pf)), .val (.int (v0_2 pf)), .val (.int (v0_3 pf)), .val (.int (v0_4 pf)), .val (.int (v0_5 px)), .val (.int (v0_6 py)), .val (.ref b13), .val (.int pd), .val (.int (v0_6 py))] [(.int (v0_10 pf))])) _
                  refine XS.ifYes X59.here hx rfl (pc0 := 205) (pc' := 234) rfl (hb hby at_205) rfl ((if0 _ _).trans (feq hc205_61).2) (by decide) (by decide) ?_
                  show Steps p.tables e below (T59.setTop (mkF m 234 #[.val (.int pf), .val (.int px), .val (.int py), .val (.int pd), .val (.int (v0_1 pf)), .val (.int (v0_2 pf)), .val (.int (v0_3 pf)), .val (.int (v0_4 pf)), .val (.int (v0_5 px)), .val (.int (v0_6 py)), .val (.ref b13), .val (.int pd), .val (.int (v0_6 py))] [])) _
                  refine XS.iconst X59.here hx rfl (hb hby at_234) ?_
                  show Steps p.tables e below (T59.setTop (mkF m 235 #[.val (.int pf), .val (.int px), .val (.int py), .val (.int pd), .val (.int (v0_1 pf)), .val (.int (v0_2 pf)), .val (.int (v0_3 pf)), .val (.int (v0_4 pf)), .val (.int (v0_5 px)), .val (.int (v0_6 py)), .val (.ref b13), .val (.int pd), .val (.int (v0_6 py))] [(.int (0 : Int32))])) _
                  exact retN X59 hx (t := .boolean) Bd.returns (by simp) (hb hby at_235) hr
                · show Q0 Z pf px py pd h0 n0 _ T59.heap _
                  rw [e59]
                  exact ⟨by rw [hv], N59⟩
            · have hv : (f0 pf px py pd) = (0 : Int32) := by simp only [f0, if_pos hc87_17, if_neg hc106_20, if_pos hc161_49, if_pos hc173_52, if_pos hc185_55, if_neg hc196_58]
              obtain ⟨fs, hr, hrun, hended, hW, hsame⟩ := X56.leave (v := some (.int (0 : Int32))) (fun h => by rw [Bd.returns] at h; cases h)
              refine ⟨_, _, pre57 _ ?_, hrun, hended, _, _, rfl, ?_, ⟨_, rfl⟩, hW, hsame.mono (by decide) (by decide)⟩
              · show Steps p.tables e below (T56.setTop (mkF m 196 #[.val (.int pf), .val (.int px), .val (.int py), .val (.int pd), .val (.int (v0_1 pf)), .val (.int (v0_2 pf)), .val (.int (v0_3 pf)), .val (.int (v0_4 pf)), .val (.int (v0_5 px)), .val (.int (v0_6 py)), .val (.ref b13), .val (.int pd), .val (.int (v0_6 py))] [(.int pd), (.int (v0_15 pd py))])) _
                refine XS.icmpYes X56.here hx rfl (pc0 := 196) (pc' := 234) rfl (hb hby at_196) rfl (feq hc196_58).2 (by decide) (by decide) ?_
                show Steps p.tables e below (T56.setTop (mkF m 234 #[.val (.int pf), .val (.int px), .val (.int py), .val (.int pd), .val (.int (v0_1 pf)), .val (.int (v0_2 pf)), .val (.int (v0_3 pf)), .val (.int (v0_4 pf)), .val (.int (v0_5 px)), .val (.int (v0_6 py)), .val (.ref b13), .val (.int pd), .val (.int (v0_6 py))] [])) _
                refine XS.iconst X56.here hx rfl (hb hby at_234) ?_
                show Steps p.tables e below (T56.setTop (mkF m 235 #[.val (.int pf), .val (.int px), .val (.int py), .val (.int pd), .val (.int (v0_1 pf)), .val (.int (v0_2 pf)), .val (.int (v0_3 pf)), .val (.int (v0_4 pf)), .val (.int (v0_5 px)), .val (.int (v0_6 py)), .val (.ref b13), .val (.int pd), .val (.int (v0_6 py))] [(.int (0 : Int32))])) _
                exact retN X56 hx (t := .boolean) Bd.returns (by simp) (hb hby at_235) hr
              · show Q0 Z pf px py pd h0 n0 _ T56.heap _
                rw [e56]
                exact ⟨by rw [hv], N56⟩
          · have hv : (f0 pf px py pd) = (0 : Int32) := by simp only [f0, if_pos hc87_17, if_neg hc106_20, if_pos hc161_49, if_pos hc173_52, if_neg hc185_55]
            obtain ⟨fs, hr, hrun, hended, hW, hsame⟩ := X53.leave (v := some (.int (0 : Int32))) (fun h => by rw [Bd.returns] at h; cases h)
            refine ⟨_, _, pre54 _ ?_, hrun, hended, _, _, rfl, ?_, ⟨_, rfl⟩, hW, hsame.mono (by decide) (by decide)⟩
            · show Steps p.tables e below (T53.setTop (mkF m 185 #[.val (.int pf), .val (.int px), .val (.int py), .val (.int pd), .val (.int (v0_1 pf)), .val (.int (v0_2 pf)), .val (.int (v0_3 pf)), .val (.int (v0_4 pf)), .val (.int (v0_5 px)), .val (.int (v0_6 py)), .val (.ref b13), .val (.int pd), .val (.int (v0_6 py))] [(.int (v0_6 py)), (.int (v0_14 pd py))])) _
              refine XS.icmpYes X53.here hx rfl (pc0 := 185) (pc' := 234) rfl (hb hby at_185) rfl (feq hc185_55).2 (by decide) (by decide) ?_
              show Steps p.tables e below (T53.setTop (mkF m 234 #[.val (.int pf), .val (.int px), .val (.int py), .val (.int pd), .val (.int (v0_1 pf)), .val (.int (v0_2 pf)), .val (.int (v0_3 pf)), .val (.int (v0_4 pf)), .val (.int (v0_5 px)), .val (.int (v0_6 py)), .val (.ref b13), .val (.int pd), .val (.int (v0_6 py))] [])) _
              refine XS.iconst X53.here hx rfl (hb hby at_234) ?_
              show Steps p.tables e below (T53.setTop (mkF m 235 #[.val (.int pf), .val (.int px), .val (.int py), .val (.int pd), .val (.int (v0_1 pf)), .val (.int (v0_2 pf)), .val (.int (v0_3 pf)), .val (.int (v0_4 pf)), .val (.int (v0_5 px)), .val (.int (v0_6 py)), .val (.ref b13), .val (.int pd), .val (.int (v0_6 py))] [(.int (0 : Int32))])) _
              exact retN X53 hx (t := .boolean) Bd.returns (by simp) (hb hby at_235) hr
            · show Q0 Z pf px py pd h0 n0 _ T53.heap _
              rw [e53]
              exact ⟨by rw [hv], N53⟩
        · have hv : (f0 pf px py pd) = (0 : Int32) := by simp only [f0, if_pos hc87_17, if_neg hc106_20, if_pos hc161_49, if_neg hc173_52]
          obtain ⟨fs, hr, hrun, hended, hW, hsame⟩ := X50.leave (v := some (.int (0 : Int32))) (fun h => by rw [Bd.returns] at h; cases h)
          refine ⟨_, _, pre51 _ ?_, hrun, hended, _, _, rfl, ?_, ⟨_, rfl⟩, hW, hsame.mono (by decide) (by decide)⟩
          · show Steps p.tables e below (T50.setTop (mkF m 173 #[.val (.int pf), .val (.int px), .val (.int py), .val (.int pd), .val (.int (v0_1 pf)), .val (.int (v0_2 pf)), .val (.int (v0_3 pf)), .val (.int (v0_4 pf)), .val (.int (v0_5 px)), .val (.int (v0_6 py)), .val (.ref b13), .val (.int pd), .val (.int (v0_6 py))] [(.int pd), (.int (v0_13 pd py))])) _
            refine XS.icmpYes X50.here hx rfl (pc0 := 173) (pc' := 234) rfl (hb hby at_173) rfl (feq hc173_52).2 (by decide) (by decide) ?_
            show Steps p.tables e below (T50.setTop (mkF m 234 #[.val (.int pf), .val (.int px), .val (.int py), .val (.int pd), .val (.int (v0_1 pf)), .val (.int (v0_2 pf)), .val (.int (v0_3 pf)), .val (.int (v0_4 pf)), .val (.int (v0_5 px)), .val (.int (v0_6 py)), .val (.ref b13), .val (.int pd), .val (.int (v0_6 py))] [])) _
            refine XS.iconst X50.here hx rfl (hb hby at_234) ?_
            show Steps p.tables e below (T50.setTop (mkF m 235 #[.val (.int pf), .val (.int px), .val (.int py), .val (.int pd), .val (.int (v0_1 pf)), .val (.int (v0_2 pf)), .val (.int (v0_3 pf)), .val (.int (v0_4 pf)), .val (.int (v0_5 px)), .val (.int (v0_6 py)), .val (.ref b13), .val (.int pd), .val (.int (v0_6 py))] [(.int (0 : Int32))])) _
            exact retN X50 hx (t := .boolean) Bd.returns (by simp) (hb hby at_235) hr
          · show Q0 Z pf px py pd h0 n0 _ T50.heap _
            rw [e50]
            exact ⟨by rw [hv], N50⟩
      · have hv : (f0 pf px py pd) = (0 : Int32) := by simp only [f0, if_pos hc87_17, if_neg hc106_20, if_neg hc161_49]
        obtain ⟨fs, hr, hrun, hended, hW, hsame⟩ := X47.leave (v := some (.int (0 : Int32))) (fun h => by rw [Bd.returns] at h; cases h)
        refine ⟨_, _, pre48 _ ?_, hrun, hended, _, _, rfl, ?_, ⟨_, rfl⟩, hW, hsame.mono (by decide) (by decide)⟩
        · show Steps p.tables e below (T47.setTop (mkF m 161 #[.val (.int pf), .val (.int px), .val (.int py), .val (.int pd), .val (.int (v0_1 pf)), .val (.int (v0_2 pf)), .val (.int (v0_3 pf)), .val (.int (v0_4 pf)), .val (.int (v0_5 px)), .val (.int (v0_6 py)), .val (.ref b13), .val (.int pd), .val (.int (v0_6 py))] [(.int (3 : Int32)), (.int (f5 (3 : Int32)))])) _
          refine XS.icmpYes X47.here hx rfl (pc0 := 161) (pc' := 234) rfl (hb hby at_161) rfl (feq hc161_49).2 (by decide) (by decide) ?_
          show Steps p.tables e below (T47.setTop (mkF m 234 #[.val (.int pf), .val (.int px), .val (.int py), .val (.int pd), .val (.int (v0_1 pf)), .val (.int (v0_2 pf)), .val (.int (v0_3 pf)), .val (.int (v0_4 pf)), .val (.int (v0_5 px)), .val (.int (v0_6 py)), .val (.ref b13), .val (.int pd), .val (.int (v0_6 py))] [])) _
          refine XS.iconst X47.here hx rfl (hb hby at_234) ?_
          show Steps p.tables e below (T47.setTop (mkF m 235 #[.val (.int pf), .val (.int px), .val (.int py), .val (.int pd), .val (.int (v0_1 pf)), .val (.int (v0_2 pf)), .val (.int (v0_3 pf)), .val (.int (v0_4 pf)), .val (.int (v0_5 px)), .val (.int (v0_6 py)), .val (.ref b13), .val (.int pd), .val (.int (v0_6 py))] [(.int (0 : Int32))])) _
          exact retN X47 hx (t := .boolean) Bd.returns (by simp) (hb hby at_235) hr
        · show Q0 Z pf px py pd h0 n0 _ T47.heap _
          rw [e47]
          exact ⟨by rw [hv], N47⟩
  · obtain ⟨cq68, kq68, q68a, q68b, q68c⟩ := isOf hZ rfl (((A13.keep Kq14).keep Kq15))
    obtain ⟨_, _, ⟨T68, L68, k68, n68⟩, -, X68, ⟨Lc68, hQ68, l68, y68, z68⟩, st68⟩ := X15.virtualBack hx (y := (⟨"com/example/glowcursor/glowcursor/parser/ControlSequence", "addDigit", "(I)V"⟩ : MethodName)) (z := (⟨"com/example/glowcursor/glowcursor/parser/ControlSequence", "addDigit", "(I)V"⟩ : MethodName)) hown (mvT hZ (hw _ (List.mem_of_getElem? (i := 51) rfl))) (mvT hZ (hw _ (List.mem_of_getElem? (i := 52) rfl))) (notFace_of_selects (args := #[]) (mvT hZ (hw _ (List.mem_of_getElem? (i := 54) rfl)))) (mvT hZ (hw _ (List.mem_of_getElem? (i := 54) rfl))) (mvT hZ (hw _ (List.mem_of_getElem? (i := 53) rfl))) (by decide) (backOf (W := 0) (rm8 l Z a0 hw [] b13 (v0_5 px) pa sa (0 : Int32) (-1 : Int32) (0 : Int32) (.int (0 : Int32)) (.int (0 : Int32)) ka (List.replicate (32 : Int32).toNatClampNeg 0) kb (List.replicate (32 : Int32).toNatClampNeg 0) T15.heap n0 Z15 (((A13.keep Kq14).keep Kq15)) g_b13 (Fq15_0) (Fq15_1) (Fq15_2) (Fq15_3) (Fq15_4) (Fq15_5) (Fq15_6) (Vq15_0) g_pa (Vq15_1) g_sa (ne1) (ne2) (ne3) rfl) hZ (hw _ (List.mem_of_getElem? (i := 55) rfl)) (hw _ (List.mem_of_getElem? (i := 3) rfl)) (by decide) (by decide)) q68a q68c (g := (mkF m 94 #[.val (.int pf), .val (.int px), .val (.int py), .val (.int pd), .val (.int (v0_1 pf)), .val (.int (v0_2 pf)), .val (.int (v0_3 pf)), .val (.int (v0_4 pf)), .val (.int (v0_5 px)), .val (.int (v0_6 py)), .val (.ref b13), .unset, .unset] [(.int (v0_5 px)), (.ref b13)])) rfl (by rw [hml]; rfl) (Steps.refl _) (argsL := [(.int (v0_5 px))]) (rest := []) (lenOf pd_5 rfl) rfl (by show 2 * 0 + _ ≤ _; exact Nat.le_of_eq rfl) (hb hby at_94) (fun _ _ => ⟨rfl, rfl, (by decide : 3 + 0 ≤ _), (by decide : 72 + 0 ≤ _)⟩)
    dsimp only [Pt.U, Pt.locs, Pt.cells, Pt.slots] at X68 l68 y68 z68 st68 hQ68
    subst l68 y68 z68
    obtain ⟨rfl, N68q, Kq68, Fq68_0, Fq68_1, Fq68_2, Fq68_3, Fq68_4, Fq68_5, Fq68_6, Vq68_0, Vq68_1⟩ := hQ68
    have N68 := Fr.app N15 N68q
    have Z68 : n0 ≤ T68.heap.size := Nat.le_trans Z15 Kq68.1
    have K68 : Keep h0 T68.heap [] := (K15).trans Kq68 (allS (Or.inr sz_b13) (allS (Or.inr sz_pa) (allS (Or.inr sz_sa) all0)))
    obtain ⟨cq69, kq69, q69a, q69b, q69c⟩ := isOf hZ rfl ((((A13.keep Kq14).keep Kq15).keep Kq68))
    obtain ⟨_, _, ⟨T69, L69, k69, n69⟩, -, X69, ⟨Lc69, hQ69, l69, y69, z69⟩, st69⟩ := X68.virtualBack hx (y := (⟨"com/example/glowcursor/glowcursor/parser/ControlSequence", "endParameter", "(Z)V"⟩ : MethodName)) (z := (⟨"com/example/glowcursor/glowcursor/parser/ControlSequence", "endParameter", "(Z)V"⟩ : MethodName)) hown (mvT hZ (hw _ (List.mem_of_getElem? (i := 31) rfl))) (mvT hZ (hw _ (List.mem_of_getElem? (i := 32) rfl))) (notFace_of_selects (args := #[]) (mvT hZ (hw _ (List.mem_of_getElem? (i := 34) rfl)))) (mvT hZ (hw _ (List.mem_of_getElem? (i := 34) rfl))) (mvT hZ (hw _ (List.mem_of_getElem? (i := 33) rfl))) (by decide) (backOf (W := 0) (rm4 l Z a0 hw [] b13 (v0_2 pf) pa sa (0 : Int32) (v0_5 px) (0 : Int32) (.int (0 : Int32)) (.int (0 : Int32)) ka (List.replicate (32 : Int32).toNatClampNeg 0) kb (List.replicate (32 : Int32).toNatClampNeg 0) T68.heap n0 Z68 ((((A13.keep Kq14).keep Kq15).keep Kq68)) g_b13 (Fq68_0) (Fq68_1) (Fq68_2) (Fq68_3) (Fq68_4) (Fq68_5) (Fq68_6) (Vq68_0) g_pa (Vq68_1) g_sa (ne1) (ne2) (ne3) (by decide)) hZ (hw _ (List.mem_of_getElem? (i := 35) rfl)) (hw _ (List.mem_of_getElem? (i := 3) rfl)) (by decide) (by decide)) q69a q69c (g := (mkF m 101 #[.val (.int pf), .val (.int px), .val (.int py), .val (.int pd), .val (.int (v0_1 pf)), .val (.int (v0_2 pf)), .val (.int (v0_3 pf)), .val (.int (v0_4 pf)), .val (.int (v0_5 px)), .val (.int (v0_6 py)), .val (.ref b13), .unset, .unset] [(.int (v0_2 pf)), (.ref b13)])) rfl (by rw [hml]; rfl) (Steps.refl _) (argsL := [(.int (v0_2 pf))]) (rest := []) (lenOf pd_1 rfl) rfl (by show 2 * 0 + _ ≤ _; exact Nat.le_of_eq rfl) (hb hby at_101) (fun _ _ => ⟨rfl, rfl, (by decide : 3 + 0 ≤ _), (by decide : 72 + 0 ≤ _)⟩)
    dsimp only [Pt.U, Pt.locs, Pt.cells, Pt.slots] at X69 l69 y69 z69 st69 hQ69
    subst l69 y69 z69
    obtain ⟨rfl, N69q, Kq69, Fq69_0, Fq69_1, Fq69_2, Fq69_3, Fq69_4, Fq69_5, Fq69_6, Vq69_0, Vq69_1⟩ := hQ69
    have N69 := Fr.app N68 N69q
    have Z69 : n0 ≤ T69.heap.size := Nat.le_trans Z68 Kq69.1
    have K69 : Keep h0 T69.heap [] := (K68).trans Kq69 (allS (Or.inr sz_b13) (allS (Or.inr sz_pa) (allS (Or.inr sz_sa) all0)))
    have Fq69_2 : Fld Z T69.heap b13 "com/example/glowcursor/glowcursor/parser/ControlSequence" "count" "I" (.int (1 : Int32)) := Fq69_2
    have pre70 : ∀ t, Steps p.tables e below (T69.setTop (mkF m 106 #[.val (.int pf), .val (.int px), .val (.int py), .val (.int pd), .val (.int (v0_1 pf)), .val (.int (v0_2 pf)), .val (.int (v0_3 pf)), .val (.int (v0_4 pf)), .val (.int (v0_5 px)), .val (.int (v0_6 py)), .val (.ref b13), .unset, .unset] [(.int (v0_3 pf))])) t → Steps p.tables e below (s₁.setTop (entryFrame m #[(.int pf), (.int px), (.int py), (.int pd)] maxLocals)) t := fun t k => pre16 t (by
      show Steps p.tables e below (T15.setTop (mkF m 87 #[.val (.int pf), .val (.int px), .val (.int py), .val (.int pd), .val (.int (v0_1 pf)), .val (.int (v0_2 pf)), .val (.int (v0_3 pf)), .val (.int (v0_4 pf)), .val (.int (v0_5 px)), .val (.int (v0_6 py)), .val (.ref b13), .unset, .unset] [(.int (v0_1 pf))])) _
      refine XS.ifNo X15.here hx rfl (hb hby at_87) rfl ((if0 _ _).trans (feq hc87_17).1) ?_
      show Steps p.tables e below (T15.setTop (mkF m 90 #[.val (.int pf), .val (.int px), .val (.int py), .val (.int pd), .val (.int (v0_1 pf)), .val (.int (v0_2 pf)), .val (.int (v0_3 pf)), .val (.int (v0_4 pf)), .val (.int (v0_5 px)), .val (.int (v0_6 py)), .val (.ref b13), .unset, .unset] [])) _
      refine XS.aload X15.here hx rfl (hb hby at_90) rfl rfl ?_
      show Steps p.tables e below (T15.setTop (mkF m 92 #[.val (.int pf), .val (.int px), .val (.int py), .val (.int pd), .val (.int (v0_1 pf)), .val (.int (v0_2 pf)), .val (.int (v0_3 pf)), .val (.int (v0_4 pf)), .val (.int (v0_5 px)), .val (.int (v0_6 py)), .val (.ref b13), .unset, .unset] [(.ref b13)])) _
      refine XS.iload X15.here hx rfl (hb hby at_92) rfl ?_
      show Steps p.tables e below (T15.setTop (mkF m 94 #[.val (.int pf), .val (.int px), .val (.int py), .val (.int pd), .val (.int (v0_1 pf)), .val (.int (v0_2 pf)), .val (.int (v0_3 pf)), .val (.int (v0_4 pf)), .val (.int (v0_5 px)), .val (.int (v0_6 py)), .val (.ref b13), .unset, .unset] [(.int (v0_5 px)), (.ref b13)])) _
      refine st68.trans ?_
      show Steps p.tables e below (T68.setTop (mkF m 97 #[.val (.int pf), .val (.int px), .val (.int py), .val (.int pd), .val (.int (v0_1 pf)), .val (.int (v0_2 pf)), .val (.int (v0_3 pf)), .val (.int (v0_4 pf)), .val (.int (v0_5 px)), .val (.int (v0_6 py)), .val (.ref b13), .unset, .unset] [])) _
      refine XS.aload X68.here hx rfl (hb hby at_97) rfl rfl ?_
      show Steps p.tables e below (T68.setTop (mkF m 99 #[.val (.int pf), .val (.int px), .val (.int py), .val (.int pd), .val (.int (v0_1 pf)), .val (.int (v0_2 pf)), .val (.int (v0_3 pf)), .val (.int (v0_4 pf)), .val (.int (v0_5 px)), .val (.int (v0_6 py)), .val (.ref b13), .unset, .unset] [(.ref b13)])) _
      refine XS.iload X68.here hx rfl (hb hby at_99) rfl ?_
      show Steps p.tables e below (T68.setTop (mkF m 101 #[.val (.int pf), .val (.int px), .val (.int py), .val (.int pd), .val (.int (v0_1 pf)), .val (.int (v0_2 pf)), .val (.int (v0_3 pf)), .val (.int (v0_4 pf)), .val (.int (v0_5 px)), .val (.int (v0_6 py)), .val (.ref b13), .unset, .unset] [(.int (v0_2 pf)), (.ref b13)])) _
      refine st69.trans ?_
      show Steps p.tables e below (T69.setTop (mkF m 104 #[.val (.int pf), .val (.int px), .val (.int py), .val (.int pd), .val (.int (v0_1 pf)), .val (.int (v0_2 pf)), .val (.int (v0_3 pf)), .val (.int (v0_4 pf)), .val (.int (v0_5 px)), .val (.int (v0_6 py)), .val (.ref b13), .unset, .unset] [])) _
      refine XS.iload X69.here hx rfl (hb hby at_104) rfl ?_
      show Steps p.tables e below (T69.setTop (mkF m 106 #[.val (.int pf), .val (.int px), .val (.int py), .val (.int pd), .val (.int (v0_1 pf)), .val (.int (v0_2 pf)), .val (.int (v0_3 pf)), .val (.int (v0_4 pf)), .val (.int (v0_5 px)), .val (.int (v0_6 py)), .val (.ref b13), .unset, .unset] [(.int (v0_3 pf))])) _
      exact k)
    by_cases hc106_71 : (v0_3 pf) = (0 : Int32)
    · obtain ⟨cq72, kq72, q72a, q72b, q72c⟩ := isOf hZ rfl (((((A13.keep Kq14).keep Kq15).keep Kq68).keep Kq69))
      obtain ⟨_, _, ⟨T72, L72, k72, n72⟩, -, X72, ⟨Lc72, hQ72, l72, y72, z72⟩, st72⟩ := X69.virtualBack hx (y := (⟨"com/example/glowcursor/glowcursor/parser/ControlSequence", "endParameter", "(Z)V"⟩ : MethodName)) (z := (⟨"com/example/glowcursor/glowcursor/parser/ControlSequence", "endParameter", "(Z)V"⟩ : MethodName)) hown (mvT hZ (hw _ (List.mem_of_getElem? (i := 31) rfl))) (mvT hZ (hw _ (List.mem_of_getElem? (i := 32) rfl))) (notFace_of_selects (args := #[]) (mvT hZ (hw _ (List.mem_of_getElem? (i := 34) rfl)))) (mvT hZ (hw _ (List.mem_of_getElem? (i := 34) rfl))) (mvT hZ (hw _ (List.mem_of_getElem? (i := 33) rfl))) (by decide) (backOf (W := 0) (rm4 l Z a0 hw [] b13 (v0_4 pf) pa sa (1 : Int32) (-1 : Int32) (nar .boolean (v0_2 pf)) (.int (0 : Int32)) (.int (0 : Int32)) ka (setI (List.replicate (32 : Int32).toNatClampNeg 0) (0 : Int32) (v0_5 px)) kb (setI (List.replicate (32 : Int32).toNatClampNeg 0) (0 : Int32) (nar .boolean (0 : Int32))) T69.heap n0 Z69 (((((A13.keep Kq14).keep Kq15).keep Kq68).keep Kq69)) g_b13 (Fq69_0) (Fq69_1) (Fq69_2) (Fq69_3) (Fq69_4) (Fq69_5) (Fq69_6) (Vq69_0) g_pa (Vq69_1) g_sa (ne1) (ne2) (ne3) (by decide)) hZ (hw _ (List.mem_of_getElem? (i := 35) rfl)) (hw _ (List.mem_of_getElem? (i := 3) rfl)) (by decide) (by decide)) q72a q72c (g := (mkF m 120 #[.val (.int pf), .val (.int px), .val (.int py), .val (.int pd), .val (.int (v0_1 pf)), .val (.int (v0_2 pf)), .val (.int (v0_3 pf)), .val (.int (v0_4 pf)), .val (.int (v0_5 px)), .val (.int (v0_6 py)), .val (.ref b13), .unset, .unset] [(.int (v0_4 pf)), (.ref b13)])) rfl (by rw [hml]; rfl) (Steps.refl _) (argsL := [(.int (v0_4 pf))]) (rest := []) (lenOf pd_1 rfl) rfl (by show 2 * 0 + _ ≤ _; exact Nat.le_of_eq rfl) (hb hby at_120) (fun _ _ => ⟨rfl, rfl, (by decide : 3 + 0 ≤ _), (by decide : 72 + 0 ≤ _)⟩)
      dsimp only [Pt.U, Pt.locs, Pt.cells, Pt.slots] at X72 l72 y72 z72 st72 hQ72
      subst l72 y72 z72
      obtain ⟨rfl, N72q, Kq72, Fq72_0, Fq72_1, Fq72_2, Fq72_3, Fq72_4, Fq72_5, Fq72_6, Vq72_0, Vq72_1⟩ := hQ72
      have N72 := Fr.app N69 N72q
      have Z72 : n0 ≤ T72.heap.size := Nat.le_trans Z69 Kq72.1
      have K72 : Keep h0 T72.heap [] := (K69).trans Kq72 (allS (Or.inr sz_b13) (allS (Or.inr sz_pa) (allS (Or.inr sz_sa) all0)))
      have Fq72_2 : Fld Z T72.heap b13 "com/example/glowcursor/glowcursor/parser/ControlSequence" "count" "I" (.int (2 : Int32)) := Fq72_2
      obtain ⟨cq73, kq73, q73a, q73b, q73c⟩ := isOf hZ rfl ((((((A13.keep Kq14).keep Kq15).keep Kq68).keep Kq69).keep Kq72))
      obtain ⟨_, _, ⟨T73, L73, k73, n73⟩, -, X73, ⟨Lc73, hQ73, l73, y73, z73⟩, st73⟩ := X72.virtualBack hx (y := (⟨"com/example/glowcursor/glowcursor/parser/ControlSequence", "endParameter", "(Z)V"⟩ : MethodName)) (z := (⟨"com/example/glowcursor/glowcursor/parser/ControlSequence", "endParameter", "(Z)V"⟩ : MethodName)) hown (mvT hZ (hw _ (List.mem_of_getElem? (i := 31) rfl))) (mvT hZ (hw _ (List.mem_of_getElem? (i := 32) rfl))) (notFace_of_selects (args := #[]) (mvT hZ (hw _ (List.mem_of_getElem? (i := 34) rfl)))) (mvT hZ (hw _ (List.mem_of_getElem? (i := 34) rfl))) (mvT hZ (hw _ (List.mem_of_getElem? (i := 33) rfl))) (by decide) (backOf (W := 0) (rm4 l Z a0 hw [] b13 (0 : Int32) pa sa (2 : Int32) (-1 : Int32) (nar .boolean (v0_4 pf)) (.int (0 : Int32)) (.int (0 : Int32)) ka (setI (setI (List.replicate (32 : Int32).toNatClampNeg 0) (0 : Int32) (v0_5 px)) (1 : Int32) (-1 : Int32)) kb (setI (setI (List.replicate (32 : Int32).toNatClampNeg 0) (0 : Int32) (nar .boolean (0 : Int32))) (1 : Int32) (nar .boolean (nar .boolean (v0_2 pf)))) T72.heap n0 Z72 ((((((A13.keep Kq14).keep Kq15).keep Kq68).keep Kq69).keep Kq72)) g_b13 (Fq72_0) (Fq72_1) (Fq72_2) (Fq72_3) (Fq72_4) (Fq72_5) (Fq72_6) (Vq72_0) g_pa (Vq72_1) g_sa (ne1) (ne2) (ne3) (by decide)) hZ (hw _ (List.mem_of_getElem? (i := 35) rfl)) (hw _ (List.mem_of_getElem? (i := 3) rfl)) (by decide) (by decide)) q73a q73c (g := (mkF m 126 #[.val (.int pf), .val (.int px), .val (.int py), .val (.int pd), .val (.int (v0_1 pf)), .val (.int (v0_2 pf)), .val (.int (v0_3 pf)), .val (.int (v0_4 pf)), .val (.int (v0_5 px)), .val (.int (v0_6 py)), .val (.ref b13), .unset, .unset] [(.int (0 : Int32)), (.ref b13)])) rfl (by rw [hml]; rfl) (Steps.refl _) (argsL := [(.int (0 : Int32))]) (rest := []) (lenOf pd_1 rfl) rfl (by show 2 * 0 + _ ≤ _; exact Nat.le_of_eq rfl) (hb hby at_126) (fun _ _ => ⟨rfl, rfl, (by decide : 3 + 0 ≤ _), (by decide : 72 + 0 ≤ _)⟩)
      dsimp only [Pt.U, Pt.locs, Pt.cells, Pt.slots] at X73 l73 y73 z73 st73 hQ73
      subst l73 y73 z73
      obtain ⟨rfl, N73q, Kq73, Fq73_0, Fq73_1, Fq73_2, Fq73_3, Fq73_4, Fq73_5, Fq73_6, Vq73_0, Vq73_1⟩ := hQ73
      have N73 := Fr.app N72 N73q
      have Z73 : n0 ≤ T73.heap.size := Nat.le_trans Z72 Kq73.1
      have K73 : Keep h0 T73.heap [] := (K72).trans Kq73 (allS (Or.inr sz_b13) (allS (Or.inr sz_pa) (allS (Or.inr sz_sa) all0)))
      have Fq73_2 : Fld Z T73.heap b13 "com/example/glowcursor/glowcursor/parser/ControlSequence" "count" "I" (.int (3 : Int32)) := Fq73_2
      obtain ⟨cq74, kq74, q74a, q74b, q74c⟩ := isOf hZ rfl (((((((A13.keep Kq14).keep Kq15).keep Kq68).keep Kq69).keep Kq72).keep Kq73))
      obtain ⟨_, _, ⟨T74, L74, k74, n74⟩, -, X74, ⟨Lc74, hQ74, l74, y74, z74⟩, st74⟩ := X73.virtualBack hx (y := (⟨"com/example/glowcursor/glowcursor/parser/ControlSequence", "parameterCount", "()I"⟩ : MethodName)) (z := (⟨"com/example/glowcursor/glowcursor/parser/ControlSequence", "parameterCount", "()I"⟩ : MethodName)) hown (mvT hZ (hw _ (List.mem_of_getElem? (i := 36) rfl))) (mvT hZ (hw _ (List.mem_of_getElem? (i := 37) rfl))) (notFace_of_selects (args := #[]) (mvT hZ (hw _ (List.mem_of_getElem? (i := 39) rfl)))) (mvT hZ (hw _ (List.mem_of_getElem? (i := 39) rfl))) (mvT hZ (hw _ (List.mem_of_getElem? (i := 38) rfl))) (by decide) (backOf (W := 0) (rm5 l Z a0 hw [] b13 (3 : Int32) T73.heap n0 Z73 (((((((A13.keep Kq14).keep Kq15).keep Kq68).keep Kq69).keep Kq72).keep Kq73)) (Fq73_2)) hZ (hw _ (List.mem_of_getElem? (i := 40) rfl)) (hw _ (List.mem_of_getElem? (i := 3) rfl)) (by decide) (by decide)) q74a q74c (g := (mkF m 157 #[.val (.int pf), .val (.int px), .val (.int py), .val (.int pd), .val (.int (v0_1 pf)), .val (.int (v0_2 pf)), .val (.int (v0_3 pf)), .val (.int (v0_4 pf)), .val (.int (v0_5 px)), .val (.int (v0_6 py)), .val (.ref b13), .val (.int (v0_5 px)), .val (.int pd)] [(.ref b13)])) rfl (by rw [hml]; rfl) (Steps.refl _) (argsL := []) (rest := []) (lenOf pd_2 rfl) rfl (by show 2 * 0 + _ ≤ _; exact Nat.le_of_eq rfl) (hb hby at_157) (fun _ _ => ⟨rfl, rfl, (by decide : 3 + 0 ≤ _), (by decide : 72 + 0 ≤ _)⟩)
      dsimp only [Pt.U, Pt.locs, Pt.cells, Pt.slots] at X74 l74 y74 z74 st74 hQ74
      subst l74 y74 z74
      obtain ⟨rfl, N74q, e74⟩ := hQ74
      have N74 := Fr.app N73 N74q
      have pre75 : ∀ t, Steps p.tables e below (T74.setTop (mkF m 161 #[.val (.int pf), .val (.int px), .val (.int py), .val (.int pd), .val (.int (v0_1 pf)), .val (.int (v0_2 pf)), .val (.int (v0_3 pf)), .val (.int (v0_4 pf)), .val (.int (v0_5 px)), .val (.int (v0_6 py)), .val (.ref b13), .val (.int (v0_5 px)), .val (.int pd)] [(.int (3 : Int32)), (.int (f5 (3 : Int32)))])) t → Steps p.tables e below (s₁.setTop (entryFrame m #[(.int pf), (.int px), (.int py), (.int pd)] maxLocals)) t := fun t k => pre70 t (by
        show Steps p.tables e below (T69.setTop (mkF m 106 #[.val (.int pf), .val (.int px), .val (.int py), .val (.int pd), .val (.int (v0_1 pf)), .val (.int (v0_2 pf)), .val (.int (v0_3 pf)), .val (.int (v0_4 pf)), .val (.int (v0_5 px)), .val (.int (v0_6 py)), .val (.ref b13), .unset, .unset] [(.int (v0_3 pf))])) _
        refine XS.ifYes X69.here hx rfl (pc0 := 106) (pc' := 116) rfl (hb hby at_106) rfl ((if0 _ _).trans (teq hc106_71).1) (by decide) (by decide) ?_
        show Steps p.tables e below (T69.setTop (mkF m 116 #[.val (.int pf), .val (.int px), .val (.int py), .val (.int pd), .val (.int (v0_1 pf)), .val (.int (v0_2 pf)), .val (.int (v0_3 pf)), .val (.int (v0_4 pf)), .val (.int (v0_5 px)), .val (.int (v0_6 py)), .val (.ref b13), .unset, .unset] [])) _
        refine XS.aload X69.here hx rfl (hb hby at_116) rfl rfl ?_
        show Steps p.tables e below (T69.setTop (mkF m 118 #[.val (.int pf), .val (.int px), .val (.int py), .val (.int pd), .val (.int (v0_1 pf)), .val (.int (v0_2 pf)), .val (.int (v0_3 pf)), .val (.int (v0_4 pf)), .val (.int (v0_5 px)), .val (.int (v0_6 py)), .val (.ref b13), .unset, .unset] [(.ref b13)])) _
        refine XS.iload X69.here hx rfl (hb hby at_118) rfl ?_
        show Steps p.tables e below (T69.setTop (mkF m 120 #[.val (.int pf), .val (.int px), .val (.int py), .val (.int pd), .val (.int (v0_1 pf)), .val (.int (v0_2 pf)), .val (.int (v0_3 pf)), .val (.int (v0_4 pf)), .val (.int (v0_5 px)), .val (.int (v0_6 py)), .val (.ref b13), .unset, .unset] [(.int (v0_4 pf)), (.ref b13)])) _
        refine st72.trans ?_
        show Steps p.tables e below (T72.setTop (mkF m 123 #[.val (.int pf), .val (.int px), .val (.int py), .val (.int pd), .val (.int (v0_1 pf)), .val (.int (v0_2 pf)), .val (.int (v0_3 pf)), .val (.int (v0_4 pf)), .val (.int (v0_5 px)), .val (.int (v0_6 py)), .val (.ref b13), .unset, .unset] [])) _
        refine XS.aload X72.here hx rfl (hb hby at_123) rfl rfl ?_
        show Steps p.tables e below (T72.setTop (mkF m 125 #[.val (.int pf), .val (.int px), .val (.int py), .val (.int pd), .val (.int (v0_1 pf)), .val (.int (v0_2 pf)), .val (.int (v0_3 pf)), .val (.int (v0_4 pf)), .val (.int (v0_5 px)), .val (.int (v0_6 py)), .val (.ref b13), .unset, .unset] [(.ref b13)])) _
        refine XS.iconst X72.here hx rfl (hb hby at_125) ?_
        show Steps p.tables e below (T72.setTop (mkF m 126 #[.val (.int pf), .val (.int px), .val (.int py), .val (.int pd), .val (.int (v0_1 pf)), .val (.int (v0_2 pf)), .val (.int (v0_3 pf)), .val (.int (v0_4 pf)), .val (.int (v0_5 px)), .val (.int (v0_6 py)), .val (.ref b13), .unset, .unset] [(.int (0 : Int32)), (.ref b13)])) _
        refine st73.trans ?_
        show Steps p.tables e below (T73.setTop (mkF m 129 #[.val (.int pf), .val (.int px), .val (.int py), .val (.int pd), .val (.int (v0_1 pf)), .val (.int (v0_2 pf)), .val (.int (v0_3 pf)), .val (.int (v0_4 pf)), .val (.int (v0_5 px)), .val (.int (v0_6 py)), .val (.ref b13), .unset, .unset] [])) _
        refine XS.iload X73.here hx rfl (hb hby at_129) rfl ?_
        show Steps p.tables e below (T73.setTop (mkF m 131 #[.val (.int pf), .val (.int px), .val (.int py), .val (.int pd), .val (.int (v0_1 pf)), .val (.int (v0_2 pf)), .val (.int (v0_3 pf)), .val (.int (v0_4 pf)), .val (.int (v0_5 px)), .val (.int (v0_6 py)), .val (.ref b13), .unset, .unset] [(.int (v0_1 pf))])) _
        refine XS.ifNo X73.here hx rfl (hb hby at_131) rfl ((if0 _ _).trans (feq hc87_17).1) ?_
        show Steps p.tables e below (T73.setTop (mkF m 134 #[.val (.int pf), .val (.int px), .val (.int py), .val (.int pd), .val (.int (v0_1 pf)), .val (.int (v0_2 pf)), .val (.int (v0_3 pf)), .val (.int (v0_4 pf)), .val (.int (v0_5 px)), .val (.int (v0_6 py)), .val (.ref b13), .unset, .unset] [])) _
        refine XS.iload X73.here hx rfl (hb hby at_134) rfl ?_
        show Steps p.tables e below (T73.setTop (mkF m 136 #[.val (.int pf), .val (.int px), .val (.int py), .val (.int pd), .val (.int (v0_1 pf)), .val (.int (v0_2 pf)), .val (.int (v0_3 pf)), .val (.int (v0_4 pf)), .val (.int (v0_5 px)), .val (.int (v0_6 py)), .val (.ref b13), .unset, .unset] [(.int (v0_5 px))])) _
        refine XS.goto X73.here hx rfl (pc0 := 136) (pc' := 140) rfl (hb hby at_136) (by decide) (by decide) ?_
        show Steps p.tables e below (T73.setTop (mkF m 140 #[.val (.int pf), .val (.int px), .val (.int py), .val (.int pd), .val (.int (v0_1 pf)), .val (.int (v0_2 pf)), .val (.int (v0_3 pf)), .val (.int (v0_4 pf)), .val (.int (v0_5 px)), .val (.int (v0_6 py)), .val (.ref b13), .unset, .unset] [(.int (v0_5 px))])) _
        refine XS.istore X73.here hx rfl (hb hby at_140) rfl (l' := #[.val (.int pf), .val (.int px), .val (.int py), .val (.int pd), .val (.int (v0_1 pf)), .val (.int (v0_2 pf)), .val (.int (v0_3 pf)), .val (.int (v0_4 pf)), .val (.int (v0_5 px)), .val (.int (v0_6 py)), .val (.ref b13), .val (.int (v0_5 px)), .unset]) rfl ?_
        show Steps p.tables e below (T73.setTop (mkF m 142 #[.val (.int pf), .val (.int px), .val (.int py), .val (.int pd), .val (.int (v0_1 pf)), .val (.int (v0_2 pf)), .val (.int (v0_3 pf)), .val (.int (v0_4 pf)), .val (.int (v0_5 px)), .val (.int (v0_6 py)), .val (.ref b13), .val (.int (v0_5 px)), .unset] [])) _
        refine XS.iload X73.here hx rfl (hb hby at_142) rfl ?_
        show Steps p.tables e below (T73.setTop (mkF m 144 #[.val (.int pf), .val (.int px), .val (.int py), .val (.int pd), .val (.int (v0_1 pf)), .val (.int (v0_2 pf)), .val (.int (v0_3 pf)), .val (.int (v0_4 pf)), .val (.int (v0_5 px)), .val (.int (v0_6 py)), .val (.ref b13), .val (.int (v0_5 px)), .unset] [(.int (v0_3 pf))])) _
        refine XS.ifYes X73.here hx rfl (pc0 := 144) (pc' := 152) rfl (hb hby at_144) rfl ((if0 _ _).trans (teq hc106_71).1) (by decide) (by decide) ?_
        show Steps p.tables e below (T73.setTop (mkF m 152 #[.val (.int pf), .val (.int px), .val (.int py), .val (.int pd), .val (.int (v0_1 pf)), .val (.int (v0_2 pf)), .val (.int (v0_3 pf)), .val (.int (v0_4 pf)), .val (.int (v0_5 px)), .val (.int (v0_6 py)), .val (.ref b13), .val (.int (v0_5 px)), .unset] [])) _
        refine XS.iloadN X73.here hx rfl (hb hby at_152) rfl ?_
        show Steps p.tables e below (T73.setTop (mkF m 153 #[.val (.int pf), .val (.int px), .val (.int py), .val (.int pd), .val (.int (v0_1 pf)), .val (.int (v0_2 pf)), .val (.int (v0_3 pf)), .val (.int (v0_4 pf)), .val (.int (v0_5 px)), .val (.int (v0_6 py)), .val (.ref b13), .val (.int (v0_5 px)), .unset] [(.int pd)])) _
        refine XS.istore X73.here hx rfl (hb hby at_153) rfl (l' := #[.val (.int pf), .val (.int px), .val (.int py), .val (.int pd), .val (.int (v0_1 pf)), .val (.int (v0_2 pf)), .val (.int (v0_3 pf)), .val (.int (v0_4 pf)), .val (.int (v0_5 px)), .val (.int (v0_6 py)), .val (.ref b13), .val (.int (v0_5 px)), .val (.int pd)]) rfl ?_
        show Steps p.tables e below (T73.setTop (mkF m 155 #[.val (.int pf), .val (.int px), .val (.int py), .val (.int pd), .val (.int (v0_1 pf)), .val (.int (v0_2 pf)), .val (.int (v0_3 pf)), .val (.int (v0_4 pf)), .val (.int (v0_5 px)), .val (.int (v0_6 py)), .val (.ref b13), .val (.int (v0_5 px)), .val (.int pd)] [])) _
        refine XS.aload X73.here hx rfl (hb hby at_155) rfl rfl ?_
        show Steps p.tables e below (T73.setTop (mkF m 157 #[.val (.int pf), .val (.int px), .val (.int py), .val (.int pd), .val (.int (v0_1 pf)), .val (.int (v0_2 pf)), .val (.int (v0_3 pf)), .val (.int (v0_4 pf)), .val (.int (v0_5 px)), .val (.int (v0_6 py)), .val (.ref b13), .val (.int (v0_5 px)), .val (.int pd)] [(.ref b13)])) _
        refine st74.trans ?_
        show Steps p.tables e below (T74.setTop (mkF m 160 #[.val (.int pf), .val (.int px), .val (.int py), .val (.int pd), .val (.int (v0_1 pf)), .val (.int (v0_2 pf)), .val (.int (v0_3 pf)), .val (.int (v0_4 pf)), .val (.int (v0_5 px)), .val (.int (v0_6 py)), .val (.ref b13), .val (.int (v0_5 px)), .val (.int pd)] [(.int (f5 (3 : Int32)))])) _
        refine XS.iconst X74.here hx rfl (hb hby at_160) ?_
        show Steps p.tables e below (T74.setTop (mkF m 161 #[.val (.int pf), .val (.int px), .val (.int py), .val (.int pd), .val (.int (v0_1 pf)), .val (.int (v0_2 pf)), .val (.int (v0_3 pf)), .val (.int (v0_4 pf)), .val (.int (v0_5 px)), .val (.int (v0_6 py)), .val (.ref b13), .val (.int (v0_5 px)), .val (.int pd)] [(.int (3 : Int32)), (.int (f5 (3 : Int32)))])) _
        exact k)
      by_cases hc161_76 : (f5 (3 : Int32)) = (3 : Int32)
      · obtain ⟨cq77, kq77, q77a, q77b, q77c⟩ := isOf hZ e74 (((((((A13.keep Kq14).keep Kq15).keep Kq68).keep Kq69).keep Kq72).keep Kq73))
        obtain ⟨_, _, ⟨T77, L77, k77, n77⟩, -, X77, ⟨Lc77, hQ77, l77, y77, z77⟩, st77⟩ := X74.virtualBack hx (y := (⟨"com/example/glowcursor/glowcursor/parser/ControlSequence", "parameter", "(II)I"⟩ : MethodName)) (z := (⟨"com/example/glowcursor/glowcursor/parser/ControlSequence", "parameter", "(II)I"⟩ : MethodName)) hown (mvT hZ (hw _ (List.mem_of_getElem? (i := 41) rfl))) (mvT hZ (hw _ (List.mem_of_getElem? (i := 42) rfl))) (notFace_of_selects (args := #[]) (mvT hZ (hw _ (List.mem_of_getElem? (i := 44) rfl)))) (mvT hZ (hw _ (List.mem_of_getElem? (i := 44) rfl))) (mvT hZ (hw _ (List.mem_of_getElem? (i := 43) rfl))) (by decide) (backOf (W := 0) (rm6 l Z a0 hw [] b13 (0 : Int32) pd (3 : Int32) pa ka (setI (setI (setI (List.replicate (32 : Int32).toNatClampNeg 0) (0 : Int32) (v0_5 px)) (1 : Int32) (-1 : Int32)) (2 : Int32) (-1 : Int32)) T73.heap n0 Z73 (((((((A13.keep Kq14).keep Kq15).keep Kq68).keep Kq69).keep Kq72).keep Kq73)) (Fq73_2) (Fq73_0) (Vq73_0) (by decide)) hZ (hw _ (List.mem_of_getElem? (i := 45) rfl)) (hw _ (List.mem_of_getElem? (i := 3) rfl)) (by decide) (by decide)) q77a q77c (g := (mkF m 168 #[.val (.int pf), .val (.int px), .val (.int py), .val (.int pd), .val (.int (v0_1 pf)), .val (.int (v0_2 pf)), .val (.int (v0_3 pf)), .val (.int (v0_4 pf)), .val (.int (v0_5 px)), .val (.int (v0_6 py)), .val (.ref b13), .val (.int (v0_5 px)), .val (.int pd)] [(.int pd), (.int (0 : Int32)), (.ref b13)])) rfl (by rw [hml]; rfl) (Steps.refl _) (argsL := [(.int (0 : Int32)), (.int pd)]) (rest := []) (lenOf pd_3 rfl) rfl (by show 2 * 0 + _ ≤ _; exact Nat.le_of_eq rfl) (hb hby at_168) (fun _ _ => ⟨rfl, e74, (by decide : 3 + 0 ≤ _), (by decide : 72 + 0 ≤ _)⟩)
        dsimp only [Pt.U, Pt.locs, Pt.cells, Pt.slots] at X77 l77 y77 z77 st77 hQ77
        subst l77 y77 z77
        obtain ⟨rfl, N77q, e77⟩ := hQ77
        have N77 := Fr.app N74 N77q
        have pre78 : ∀ t, Steps p.tables e below (T77.setTop (mkF m 173 #[.val (.int pf), .val (.int px), .val (.int py), .val (.int pd), .val (.int (v0_1 pf)), .val (.int (v0_2 pf)), .val (.int (v0_3 pf)), .val (.int (v0_4 pf)), .val (.int (v0_5 px)), .val (.int (v0_6 py)), .val (.ref b13), .val (.int (v0_5 px)), .val (.int pd)] [(.int (v0_5 px)), (.int (v0_16 pd px))])) t → Steps p.tables e below (s₁.setTop (entryFrame m #[(.int pf), (.int px), (.int py), (.int pd)] maxLocals)) t := fun t k => pre75 t (by
          show Steps p.tables e below (T74.setTop (mkF m 161 #[.val (.int pf), .val (.int px), .val (.int py), .val (.int pd), .val (.int (v0_1 pf)), .val (.int (v0_2 pf)), .val (.int (v0_3 pf)), .val (.int (v0_4 pf)), .val (.int (v0_5 px)), .val (.int (v0_6 py)), .val (.ref b13), .val (.int (v0_5 px)), .val (.int pd)] [(.int (3 : Int32)), (.int (f5 (3 : Int32)))])) _
          refine XS.icmpNo X74.here hx rfl (hb hby at_161) rfl (teq hc161_76).2 ?_
          show Steps p.tables e below (T74.setTop (mkF m 164 #[.val (.int pf), .val (.int px), .val (.int py), .val (.int pd), .val (.int (v0_1 pf)), .val (.int (v0_2 pf)), .val (.int (v0_3 pf)), .val (.int (v0_4 pf)), .val (.int (v0_5 px)), .val (.int (v0_6 py)), .val (.ref b13), .val (.int (v0_5 px)), .val (.int pd)] [])) _
          refine XS.aload X74.here hx rfl (hb hby at_164) rfl rfl ?_
          show Steps p.tables e below (T74.setTop (mkF m 166 #[.val (.int pf), .val (.int px), .val (.int py), .val (.int pd), .val (.int (v0_1 pf)), .val (.int (v0_2 pf)), .val (.int (v0_3 pf)), .val (.int (v0_4 pf)), .val (.int (v0_5 px)), .val (.int (v0_6 py)), .val (.ref b13), .val (.int (v0_5 px)), .val (.int pd)] [(.ref b13)])) _
          refine XS.iconst X74.here hx rfl (hb hby at_166) ?_
          show Steps p.tables e below (T74.setTop (mkF m 167 #[.val (.int pf), .val (.int px), .val (.int py), .val (.int pd), .val (.int (v0_1 pf)), .val (.int (v0_2 pf)), .val (.int (v0_3 pf)), .val (.int (v0_4 pf)), .val (.int (v0_5 px)), .val (.int (v0_6 py)), .val (.ref b13), .val (.int (v0_5 px)), .val (.int pd)] [(.int (0 : Int32)), (.ref b13)])) _
          refine XS.iloadN X74.here hx rfl (hb hby at_167) rfl ?_
          show Steps p.tables e below (T74.setTop (mkF m 168 #[.val (.int pf), .val (.int px), .val (.int py), .val (.int pd), .val (.int (v0_1 pf)), .val (.int (v0_2 pf)), .val (.int (v0_3 pf)), .val (.int (v0_4 pf)), .val (.int (v0_5 px)), .val (.int (v0_6 py)), .val (.ref b13), .val (.int (v0_5 px)), .val (.int pd)] [(.int pd), (.int (0 : Int32)), (.ref b13)])) _
          refine st77.trans ?_
          show Steps p.tables e below (T77.setTop (mkF m 171 #[.val (.int pf), .val (.int px), .val (.int py), .val (.int pd), .val (.int (v0_1 pf)), .val (.int (v0_2 pf)), .val (.int (v0_3 pf)), .val (.int (v0_4 pf)), .val (.int (v0_5 px)), .val (.int (v0_6 py)), .val (.ref b13), .val (.int (v0_5 px)), .val (.int pd)] [(.int (v0_16 pd px))])) _
          refine XS.iload X77.here hx rfl (hb hby at_171) rfl ?_
          show Steps p.tables e below (T77.setTop (mkF m 173 #[.val (.int pf), .val (.int px), .val (.int py), .val (.int pd), .val (.int (v0_1 pf)), .val (.int (v0_2 pf)), .val (.int (v0_3 pf)), .val (.int (v0_4 pf)), .val (.int (v0_5 px)), .val (.int (v0_6 py)), .val (.ref b13), .val (.int (v0_5 px)), .val (.int pd)] [(.int (v0_5 px)), (.int (v0_16 pd px))])) _
          exact k)
        by_cases hc173_79 : (v0_16 pd px) = (v0_5 px)
        · obtain ⟨cq80, kq80, q80a, q80b, q80c⟩ := isOf hZ e77 (((((((A13.keep Kq14).keep Kq15).keep Kq68).keep Kq69).keep Kq72).keep Kq73))
          obtain ⟨_, _, ⟨T80, L80, k80, n80⟩, -, X80, ⟨Lc80, hQ80, l80, y80, z80⟩, st80⟩ := X77.virtualBack hx (y := (⟨"com/example/glowcursor/glowcursor/parser/ControlSequence", "parameter", "(II)I"⟩ : MethodName)) (z := (⟨"com/example/glowcursor/glowcursor/parser/ControlSequence", "parameter", "(II)I"⟩ : MethodName)) hown (mvT hZ (hw _ (List.mem_of_getElem? (i := 41) rfl))) (mvT hZ (hw _ (List.mem_of_getElem? (i := 42) rfl))) (notFace_of_selects (args := #[]) (mvT hZ (hw _ (List.mem_of_getElem? (i := 44) rfl)))) (mvT hZ (hw _ (List.mem_of_getElem? (i := 44) rfl))) (mvT hZ (hw _ (List.mem_of_getElem? (i := 43) rfl))) (by decide) (backOf (W := 0) (rm6 l Z a0 hw [] b13 (1 : Int32) pd (3 : Int32) pa ka (setI (setI (setI (List.replicate (32 : Int32).toNatClampNeg 0) (0 : Int32) (v0_5 px)) (1 : Int32) (-1 : Int32)) (2 : Int32) (-1 : Int32)) T73.heap n0 Z73 (((((((A13.keep Kq14).keep Kq15).keep Kq68).keep Kq69).keep Kq72).keep Kq73)) (Fq73_2) (Fq73_0) (Vq73_0) (by decide)) hZ (hw _ (List.mem_of_getElem? (i := 45) rfl)) (hw _ (List.mem_of_getElem? (i := 3) rfl)) (by decide) (by decide)) q80a q80c (g := (mkF m 180 #[.val (.int pf), .val (.int px), .val (.int py), .val (.int pd), .val (.int (v0_1 pf)), .val (.int (v0_2 pf)), .val (.int (v0_3 pf)), .val (.int (v0_4 pf)), .val (.int (v0_5 px)), .val (.int (v0_6 py)), .val (.ref b13), .val (.int (v0_5 px)), .val (.int pd)] [(.int pd), (.int (1 : Int32)), (.ref b13)])) rfl (by rw [hml]; rfl) (Steps.refl _) (argsL := [(.int (1 : Int32)), (.int pd)]) (rest := []) (lenOf pd_3 rfl) rfl (by show 2 * 0 + _ ≤ _; exact Nat.le_of_eq rfl) (hb hby at_180) (fun _ _ => ⟨rfl, e77, (by decide : 3 + 0 ≤ _), (by decide : 72 + 0 ≤ _)⟩)
          dsimp only [Pt.U, Pt.locs, Pt.cells, Pt.slots] at X80 l80 y80 z80 st80 hQ80
          subst l80 y80 z80
          obtain ⟨rfl, N80q, e80⟩ := hQ80
          have N80 := Fr.app N77 N80q
          have pre81 : ∀ t, Steps p.tables e below (T80.setTop (mkF m 185 #[.val (.int pf), .val (.int px), .val (.int py), .val (.int pd), .val (.int (v0_1 pf)), .val (.int (v0_2 pf)), .val (.int (v0_3 pf)), .val (.int (v0_4 pf)), .val (.int (v0_5 px)), .val (.int (v0_6 py)), .val (.ref b13), .val (.int (v0_5 px)), .val (.int pd)] [(.int pd), (.int (v0_17 pd px))])) t → Steps p.tables e below (s₁.setTop (entryFrame m #[(.int pf), (.int px), (.int py), (.int pd)] maxLocals)) t := fun t k => pre78 t (by
            show Steps p.tables e below (T77.setTop (mkF m 173 #[.val (.int pf), .val (.int px), .val (.int py), .val (.int pd), .val (.int (v0_1 pf)), .val (.int (v0_2 pf)), .val (.int (v0_3 pf)), .val (.int (v0_4 pf)), .val (.int (v0_5 px)), .val (.int (v0_6 py)), .val (.ref b13), .val (.int (v0_5 px)), .val (.int pd)] [(.int (v0_5 px)), (.int (v0_16 pd px))])) _
            refine XS.icmpNo X77.here hx rfl (hb hby at_173) rfl (teq hc173_79).2 ?_
            show Steps p.tables e below (T77.setTop (mkF m 176 #[.val (.int pf), .val (.int px), .val (.int py), .val (.int pd), .val (.int (v0_1 pf)), .val (.int (v0_2 pf)), .val (.int (v0_3 pf)), .val (.int (v0_4 pf)), .val (.int (v0_5 px)), .val (.int (v0_6 py)), .val (.ref b13), .val (.int (v0_5 px)), .val (.int pd)] [])) _
            refine XS.aload X77.here hx rfl (hb hby at_176) rfl rfl ?_
            show Steps p.tables e below (T77.setTop (mkF m 178 #[.val (.int pf), .val (.int px), .val (.int py), .val (.int pd), .val (.int (v0_1 pf)), .val (.int (v0_2 pf)), .val (.int (v0_3 pf)), .val (.int (v0_4 pf)), .val (.int (v0_5 px)), .val (.int (v0_6 py)), .val (.ref b13), .val (.int (v0_5 px)), .val (.int pd)] [(.ref b13)])) _
            refine XS.iconst X77.here hx rfl (hb hby at_178) ?_
            show Steps p.tables e below (T77.setTop (mkF m 179 #[.val (.int pf), .val (.int px), .val (.int py), .val (.int pd), .val (.int (v0_1 pf)), .val (.int (v0_2 pf)), .val (.int (v0_3 pf)), .val (.int (v0_4 pf)), .val (.int (v0_5 px)), .val (.int (v0_6 py)), .val (.ref b13), .val (.int (v0_5 px)), .val (.int pd)] [(.int (1 : Int32)), (.ref b13)])) _
            refine XS.iloadN X77.here hx rfl (hb hby at_179) rfl ?_
            show Steps p.tables e below (T77.setTop (mkF m 180 #[.val (.int pf), .val (.int px), .val (.int py), .val (.int pd), .val (.int (v0_1 pf)), .val (.int (v0_2 pf)), .val (.int (v0_3 pf)), .val (.int (v0_4 pf)), .val (.int (v0_5 px)), .val (.int (v0_6 py)), .val (.ref b13), .val (.int (v0_5 px)), .val (.int pd)] [(.int pd), (.int (1 : Int32)), (.ref b13)])) _
            refine st80.trans ?_
            show Steps p.tables e below (T80.setTop (mkF m 183 #[.val (.int pf), .val (.int px), .val (.int py), .val (.int pd), .val (.int (v0_1 pf)), .val (.int (v0_2 pf)), .val (.int (v0_3 pf)), .val (.int (v0_4 pf)), .val (.int (v0_5 px)), .val (.int (v0_6 py)), .val (.ref b13), .val (.int (v0_5 px)), .val (.int pd)] [(.int (v0_17 pd px))])) _
            refine XS.iload X80.here hx rfl (hb hby at_183) rfl ?_
            show Steps p.tables e below (T80.setTop (mkF m 185 #[.val (.int pf), .val (.int px), .val (.int py), .val (.int pd), .val (.int (v0_1 pf)), .val (.int (v0_2 pf)), .val (.int (v0_3 pf)), .val (.int (v0_4 pf)), .val (.int (v0_5 px)), .val (.int (v0_6 py)), .val (.ref b13), .val (.int (v0_5 px)), .val (.int pd)] [(.int pd), (.int (v0_17 pd px))])) _
            exact k)
          by_cases hc185_82 : (v0_17 pd px) = pd
          · obtain ⟨cq83, kq83, q83a, q83b, q83c⟩ := isOf hZ e80 (((((((A13.keep Kq14).keep Kq15).keep Kq68).keep Kq69).keep Kq72).keep Kq73))
            obtain ⟨_, _, ⟨T83, L83, k83, n83⟩, -, X83, ⟨Lc83, hQ83, l83, y83, z83⟩, st83⟩ := X80.virtualBack hx (y := (⟨"com/example/glowcursor/glowcursor/parser/ControlSequence", "parameter", "(II)I"⟩ : MethodName)) (z := (⟨"com/example/glowcursor/glowcursor/parser/ControlSequence", "parameter", "(II)I"⟩ : MethodName)) hown (mvT hZ (hw _ (List.mem_of_getElem? (i := 41) rfl))) (mvT hZ (hw _ (List.mem_of_getElem? (i := 42) rfl))) (notFace_of_selects (args := #[]) (mvT hZ (hw _ (List.mem_of_getElem? (i := 44) rfl)))) (mvT hZ (hw _ (List.mem_of_getElem? (i := 44) rfl))) (mvT hZ (hw _ (List.mem_of_getElem? (i := 43) rfl))) (by decide) (backOf (W := 0) (rm6 l Z a0 hw [] b13 (2 : Int32) pd (3 : Int32) pa ka (setI (setI (setI (List.replicate (32 : Int32).toNatClampNeg 0) (0 : Int32) (v0_5 px)) (1 : Int32) (-1 : Int32)) (2 : Int32) (-1 : Int32)) T73.heap n0 Z73 (((((((A13.keep Kq14).keep Kq15).keep Kq68).keep Kq69).keep Kq72).keep Kq73)) (Fq73_2) (Fq73_0) (Vq73_0) (by decide)) hZ (hw _ (List.mem_of_getElem? (i := 45) rfl)) (hw _ (List.mem_of_getElem? (i := 3) rfl)) (by decide) (by decide)) q83a q83c (g := (mkF m 192 #[.val (.int pf), .val (.int px), .val (.int py), .val (.int pd), .val (.int (v0_1 pf)), .val (.int (v0_2 pf)), .val (.int (v0_3 pf)), .val (.int (v0_4 pf)), .val (.int (v0_5 px)), .val (.int (v0_6 py)), .val (.ref b13), .val (.int (v0_5 px)), .val (.int pd)] [(.int pd), (.int (2 : Int32)), (.ref b13)])) rfl (by rw [hml]; rfl) (Steps.refl _) (argsL := [(.int (2 : Int32)), (.int pd)]) (rest := []) (lenOf pd_3 rfl) rfl (by show 2 * 0 + _ ≤ _; exact Nat.le_of_eq rfl) (hb hby at_192) (fun _ _ => ⟨rfl, e80, (by decide : 3 + 0 ≤ _), (by decide : 72 + 0 ≤ _)⟩)
            dsimp only [Pt.U, Pt.locs, Pt.cells, Pt.slots] at X83 l83 y83 z83 st83 hQ83
            subst l83 y83 z83
            obtain ⟨rfl, N83q, e83⟩ := hQ83
            have N83 := Fr.app N80 N83q
            have pre84 : ∀ t, Steps p.tables e below (T83.setTop (mkF m 196 #[.val (.int pf), .val (.int px), .val (.int py), .val (.int pd), .val (.int (v0_1 pf)), .val (.int (v0_2 pf)), .val (.int (v0_3 pf)), .val (.int (v0_4 pf)), .val (.int (v0_5 px)), .val (.int (v0_6 py)), .val (.ref b13), .val (.int (v0_5 px)), .val (.int pd)] [(.int pd), (.int (v0_18 pd px))])) t → Steps p.tables e below (s₁.setTop (entryFrame m #[(.int pf), (.int px), (.int py), (.int pd)] maxLocals)) t := fun t k => pre81 t (by
              show Steps p.tables e below (T80.setTop (mkF m 185 #[.val (.int pf), .val (.int px), .val (.int py), .val (.int pd), .val (.int (v0_1 pf)), .val (.int (v0_2 pf)), .val (.int (v0_3 pf)), .val (.int (v0_4 pf)), .val (.int (v0_5 px)), .val (.int (v0_6 py)), .val (.ref b13), .val (.int (v0_5 px)), .val (.int pd)] [(.int pd), (.int (v0_17 pd px))])) _
              refine XS.icmpNo X80.here hx rfl (hb hby at_185) rfl (teq hc185_82).2 ?_
              show Steps p.tables e below (T80.setTop (mkF m 188 #[.val (.int pf), .val (.int px), .val (.int py), .val (.int pd), .val (.int (v0_1 pf)), .val (.int (v0_2 pf)), .val (.int (v0_3 pf)), .val (.int (v0_4 pf)), .val (.int (v0_5 px)), .val (.int (v0_6 py)), .val (.ref b13), .val (.int (v0_5 px)), .val (.int pd)] [])) _
              refine XS.aload X80.here hx rfl (hb hby at_188) rfl rfl ?_
              show Steps p.tables e below (T80.setTop (mkF m 190 #[.val (.int pf), .val (.int px), .val (.int py), .val (.int pd), .val (.int (v0_1 pf)), .val (.int (v0_2 pf)), .val (.int (v0_3 pf)), .val (.int (v0_4 pf)), .val (.int (v0_5 px)), .val (.int (v0_6 py)), .val (.ref b13), .val (.int (v0_5 px)), .val (.int pd)] [(.ref b13)])) _
              refine XS.iconst X80.here hx rfl (hb hby at_190) ?_
              show Steps p.tables e below (T80.setTop (mkF m 191 #[.val (.int pf), .val (.int px), .val (.int py), .val (.int pd), .val (.int (v0_1 pf)), .val (.int (v0_2 pf)), .val (.int (v0_3 pf)), .val (.int (v0_4 pf)), .val (.int (v0_5 px)), .val (.int (v0_6 py)), .val (.ref b13), .val (.int (v0_5 px)), .val (.int pd)] [(.int (2 : Int32)), (.ref b13)])) _
              refine XS.iloadN X80.here hx rfl (hb hby at_191) rfl ?_
              show Steps p.tables e below (T80.setTop (mkF m 192 #[.val (.int pf), .val (.int px), .val (.int py), .val (.int pd), .val (.int (v0_1 pf)), .val (.int (v0_2 pf)), .val (.int (v0_3 pf)), .val (.int (v0_4 pf)), .val (.int (v0_5 px)), .val (.int (v0_6 py)), .val (.ref b13), .val (.int (v0_5 px)), .val (.int pd)] [(.int pd), (.int (2 : Int32)), (.ref b13)])) _
              refine st83.trans ?_
              show Steps p.tables e below (T83.setTop (mkF m 195 #[.val (.int pf), .val (.int px), .val (.int py), .val (.int pd), .val (.int (v0_1 pf)), .val (.int (v0_2 pf)), .val (.int (v0_3 pf)), .val (.int (v0_4 pf)), .val (.int (v0_5 px)), .val (.int (v0_6 py)), .val (.ref b13), .val (.int (v0_5 px)), .val (.int pd)] [(.int (v0_18 pd px))])) _
              refine XS.iloadN X83.here hx rfl (hb hby at_195) rfl ?_
              show Steps p.tables e below (T83.setTop (mkF m 196 #[.val (.int pf), .val (.int px), .val (.int py), .val (.int pd), .val (.int (v0_1 pf)), .val (.int (v0_2 pf)), .val (.int (v0_3 pf)), .val (.int (v0_4 pf)), .val (.int (v0_5 px)), .val (.int (v0_6 py)), .val (.ref b13), .val (.int (v0_5 px)), .val (.int pd)] [(.int pd), (.int (v0_18 pd px))])) _
              exact k)
            by_cases hc196_85 : (v0_18 pd px) = pd
            · obtain ⟨cq86, kq86, q86a, q86b, q86c⟩ := isOf hZ e83 (((((((A13.keep Kq14).keep Kq15).keep Kq68).keep Kq69).keep Kq72).keep Kq73))
              obtain ⟨_, _, ⟨T86, L86, k86, n86⟩, -, X86, ⟨Lc86, hQ86, l86, y86, z86⟩, st86⟩ := X83.virtualBack hx (y := (⟨"com/example/glowcursor/glowcursor/parser/ControlSequence", "isSubParameter", "(I)Z"⟩ : MethodName)) (z := (⟨"com/example/glowcursor/glowcursor/parser/ControlSequence", "isSubParameter", "(I)Z"⟩ : MethodName)) hown (mvT hZ (hw _ (List.mem_of_getElem? (i := 46) rfl))) (mvT hZ (hw _ (List.mem_of_getElem? (i := 47) rfl))) (notFace_of_selects (args := #[]) (mvT hZ (hw _ (List.mem_of_getElem? (i := 49) rfl)))) (mvT hZ (hw _ (List.mem_of_getElem? (i := 49) rfl))) (mvT hZ (hw _ (List.mem_of_getElem? (i := 48) rfl))) (by decide) (backOf (W := 0) (rm7 l Z a0 hw [] b13 (0 : Int32) (3 : Int32) sa kb (setI (setI (setI (List.replicate (32 : Int32).toNatClampNeg 0) (0 : Int32) (nar .boolean (0 : Int32))) (1 : Int32) (nar .boolean (nar .boolean (v0_2 pf)))) (2 : Int32) (nar .boolean (nar .boolean (v0_4 pf)))) T73.heap n0 Z73 (((((((A13.keep Kq14).keep Kq15).keep Kq68).keep Kq69).keep Kq72).keep Kq73)) (Fq73_2) (Fq73_1) (Vq73_1) (by decide)) hZ (hw _ (List.mem_of_getElem? (i := 50) rfl)) (hw _ (List.mem_of_getElem? (i := 3) rfl)) (by decide) (by decide)) q86a q86c (g := (mkF m 202 #[.val (.int pf), .val (.int px), .val (.int py), .val (.int pd), .val (.int (v0_1 pf)), .val (.int (v0_2 pf)), .val (.int (v0_3 pf)), .val (.int (v0_4 pf)), .val (.int (v0_5 px)), .val (.int (v0_6 py)), .val (.ref b13), .val (.int (v0_5 px)), .val (.int pd)] [(.int (0 : Int32)), (.ref b13)])) rfl (by rw [hml]; rfl) (Steps.refl _) (argsL := [(.int (0 : Int32))]) (rest := []) (lenOf pd_4 rfl) rfl (by show 2 * 0 + _ ≤ _; exact Nat.le_of_eq rfl) (hb hby at_202) (fun _ _ => ⟨rfl, e83, (by decide : 3 + 0 ≤ _), (by decide : 72 + 0 ≤ _)⟩)
              dsimp only [Pt.U, Pt.locs, Pt.cells, Pt.slots] at X86 l86 y86 z86 st86 hQ86
              subst l86 y86 z86
              obtain ⟨rfl, N86q, e86⟩ := hQ86
              have N86 := Fr.app N83 N86q
              have pre87 : ∀ t, Steps p.tables e below (T86.setTop (mkF m 205 #[.val (.int pf), .val (.int px), .val (.int py), .val (.int pd), .val (.int (v0_1 pf)), .val (.int (v0_2 pf)), .val (.int (v0_3 pf)), .val (.int (v0_4 pf)), .val (.int (v0_5 px)), .val (.int (v0_6 py)), .val (.ref b13), .val (.int (v0_5 px)), .val (.int pd)] [(.int (v0_10 pf))])) t → Steps p.tables e below (s₁.setTop (entryFrame m #[(.int pf), (.int px), (.int py), (.int pd)] maxLocals)) t := fun t k => pre84 t (by
                show Steps p.tables e below (T83.setTop (mkF m 196 #[.val (.int pf), .val (.int px), .val (.int py), .val (.int pd), .val (.int (v0_1 pf)), .val (.int (v0_2 pf)), .val (.int (v0_3 pf)), .val (.int (v0_4 pf)), .val (.int (v0_5 px)), .val (.int (v0_6 py)), .val (.ref b13), .val (.int (v0_5 px)), .val (.int pd)] [(.int pd), (.int (v0_18 pd px))])) _
                refine XS.icmpNo X83.here hx rfl (hb hby at_196) rfl (teq hc196_85).2 ?_
                show Steps p.tables e below (T83.setTop (mkF m 199 #[.val (.int pf), .val (.int px), .val (.int py), .val (.int pd), .val (.int (v0_1 pf)), .val (.int (v0_2 pf)), .val (.int (v0_3 pf)), .val (.int (v0_4 pf)), .val (.int (v0_5 px)), .val (.int (v0_6 py)), .val (.ref b13), .val (.int (v0_5 px)), .val (.int pd)] [])) _
                refine XS.aload X83.here hx rfl (hb hby at_199) rfl rfl ?_
                show Steps p.tables e below (T83.setTop (mkF m 201 #[.val (.int pf), .val (.int px), .val (.int py), .val (.int pd), .val (.int (v0_1 pf)), .val (.int (v0_2 pf)), .val (.int (v0_3 pf)), .val (.int (v0_4 pf)), .val (.int (v0_5 px)), .val (.int (v0_6 py)), .val (.ref b13), .val (.int (v0_5 px)), .val (.int pd)] [(.ref b13)])) _
                refine XS.iconst X83.here hx rfl (hb hby at_201) ?_
                show Steps p.tables e below (T83.setTop (mkF m 202 #[.val (.int pf), .val (.int px), .val (.int py), .val (.int pd), .val (.int (v0_1 pf)), .val (.int (v0_2 pf)), .val (.int (v0_3 pf)), .val (.int (v0_4 pf)), .val (.int (v0_5 px)), .val (.int (v0_6 py)), .val (.ref b13), .val (.int (v0_5 px)), .val (.int pd)] [(.int (0 : Int32)), (.ref b13)])) _
                refine st86.trans ?_
                show Steps p.tables e below (T86.setTop (mkF m 205 #[.val (.int pf), .val (.int px), .val (.int py), .val (.int pd), .val (.int (v0_1 pf)), .val (.int (v0_2 pf)), .val (.int (v0_3 pf)), .val (.int (v0_4 pf)), .val (.int (v0_5 px)), .val (.int (v0_6 py)), .val (.ref b13), .val (.int (v0_5 px)), .val (.int pd)] [(.int (v0_10 pf))])) _
                exact k)
              by_cases hc205_88 : (v0_10 pf) = (0 : Int32)
              · obtain ⟨cq89, kq89, q89a, q89b, q89c⟩ := isOf hZ e86 (((((((A13.keep Kq14).keep Kq15).keep Kq68).keep Kq69).keep Kq72).keep Kq73))
                obtain ⟨_, _, ⟨T89, L89, k89, n89⟩, -, X89, ⟨Lc89, hQ89, l89, y89, z89⟩, st89⟩ := X86.virtualBack hx (y := (⟨"com/example/glowcursor/glowcursor/parser/ControlSequence", "isSubParameter", "(I)Z"⟩ : MethodName)) (z := (⟨"com/example/glowcursor/glowcursor/parser/ControlSequence", "isSubParameter", "(I)Z"⟩ : MethodName)) hown (mvT hZ (hw _ (List.mem_of_getElem? (i := 46) rfl))) (mvT hZ (hw _ (List.mem_of_getElem? (i := 47) rfl))) (notFace_of_selects (args := #[]) (mvT hZ (hw _ (List.mem_of_getElem? (i := 49) rfl)))) (mvT hZ (hw _ (List.mem_of_getElem? (i := 49) rfl))) (mvT hZ (hw _ (List.mem_of_getElem? (i := 48) rfl))) (by decide) (backOf (W := 0) (rm7 l Z a0 hw [] b13 (1 : Int32) (3 : Int32) sa kb (setI (setI (setI (List.replicate (32 : Int32).toNatClampNeg 0) (0 : Int32) (nar .boolean (0 : Int32))) (1 : Int32) (nar .boolean (nar .boolean (v0_2 pf)))) (2 : Int32) (nar .boolean (nar .boolean (v0_4 pf)))) T73.heap n0 Z73 (((((((A13.keep Kq14).keep Kq15).keep Kq68).keep Kq69).keep Kq72).keep Kq73)) (Fq73_2) (Fq73_1) (Vq73_1) (by decide)) hZ (hw _ (List.mem_of_getElem? (i := 50) rfl)) (hw _ (List.mem_of_getElem? (i := 3) rfl)) (by decide) (by decide)) q89a q89c (g := (mkF m 211 #[.val (.int pf), .val (.int px), .val (.int py), .val (.int pd), .val (.int (v0_1 pf)), .val (.int (v0_2 pf)), .val (.int (v0_3 pf)), .val (.int (v0_4 pf)), .val (.int (v0_5 px)), .val (.int (v0_6 py)), .val (.ref b13), .val (.int (v0_5 px)), .val (.int pd)] [(.int (1 : Int32)), (.ref b13)])) rfl (by rw [hml]; rfl) (Steps.refl _) (argsL := [(.int (1 : Int32))]) (rest := []) (lenOf pd_4 rfl) rfl (by show 2 * 0 + _ ≤ _; exact Nat.le_of_eq rfl) (hb hby at_211) (fun _ _ => ⟨rfl, e86, (by decide : 3 + 0 ≤ _), (by decide : 72 + 0 ≤ _)⟩)
                dsimp only [Pt.U, Pt.locs, Pt.cells, Pt.slots] at X89 l89 y89 z89 st89 hQ89
                subst l89 y89 z89
                obtain ⟨rfl, N89q, e89⟩ := hQ89
                have N89 := Fr.app N86 N89q
                have pre90 : ∀ t, Steps p.tables e below (T89.setTop (mkF m 216 #[.val (.int pf), .val (.int px), .val (.int py), .val (.int pd), .val (.int (v0_1 pf)), .val (.int (v0_2 pf)), .val (.int (v0_3 pf)), .val (.int (v0_4 pf)), .val (.int (v0_5 px)), .val (.int (v0_6 py)), .val (.ref b13), .val (.int (v0_5 px)), .val (.int pd)] [(.int (v0_2 pf)), (.int (v0_11 pf))])) t → Steps p.tables e below (s₁.setTop (entryFrame m #[(.int pf), (.int px), (.int py), (.int pd)] maxLocals)) t := fun t k => pre87 t (by
                  show Steps p.tables e below (T86.setTop (mkF m 205 #[.val (.int pf), .val (.int px), .val (.int py), .val (.int pd), .val (.int (v0_1 pf)), .val (.int (v0_2 pf)), .val (.int (v0_3 pf)), .val (.int (v0_4 pf)), .val (.int (v0_5 px)), .val (.int (v0_6 py)), .val (.ref b13), .val (.int (v0_5 px)), .val (.int pd)] [(.int (v0_10 pf))])) _
                  refine XS.ifNo X86.here hx rfl (hb hby at_205) rfl ((if0 _ _).trans (teq hc205_88).2) ?_
                  show Steps p.tables e below (T86.setTop (mkF m 208 #[.val (.int pf), .val (.int px), .val (.int py), .val (.int pd), .val (.int (v0_1 pf)), .val (.int (v0_2 pf)), .val (.int (v0_3 pf)), .val (.int (v0_4 pf)), .val (.int (v0_5 px)), .val (.int (v0_6 py)), .val (.ref b13), .val (.int (v0_5 px)), .val (.int pd)] [])) _
                  refine XS.aload X86.here hx rfl (hb hby at_208) rfl rfl ?_
                  show Steps p.tables e below (T86.setTop (mkF m 210 #[.val (.int pf), .val (.int px), .val (.int py), .val (.int pd), .val (.int (v0_1 pf)), .val (.int (v0_2 pf)), .val (.int (v0_3 pf)), .val (.int (v0_4 pf)), .val (.int (v0_5 px)), .val (.int (v0_6 py)), .val (.ref b13), .val (.int (v0_5 px)), .val (.int pd)] [(.ref b13)])) _
                  refine XS.iconst X86.here hx rfl (hb hby at_210) ?_
                  show Steps p.tables e below (T86.setTop (mkF m 211 #[.val (.int pf), .val (.int px), .val (.int py), .val (.int pd), .val (.int (v0_1 pf)), .val (.int (v0_2 pf)), .val (.int (v0_3 pf)), .val (.int (v0_4 pf)), .val (.int (v0_5 px)), .val (.int (v0_6 py)), .val (.ref b13), .val (.int (v0_5 px)), .val (.int pd)] [(.int (1 : Int32)), (.ref b13)])) _
                  refine st89.trans ?_
                  show Steps p.tables e below (T89.setTop (mkF m 214 #[.val (.int pf), .val (.int px), .val (.int py), .val (.int pd), .val (.int (v0_1 pf)), .val (.int (v0_2 pf)), .val (.int (v0_3 pf)), .val (.int (v0_4 pf)), .val (.int (v0_5 px)), .val (.int (v0_6 py)), .val (.ref b13), .val (.int (v0_5 px)), .val (.int pd)] [(.int (v0_11 pf))])) _
                  refine XS.iload X89.here hx rfl (hb hby at_214) rfl ?_
                  show Steps p.tables e below (T89.setTop (mkF m 216 #[.val (.int pf), .val (.int px), .val (.int py), .val (.int pd), .val (.int (v0_1 pf)), .val (.int (v0_2 pf)), .val (.int (v0_3 pf)), .val (.int (v0_4 pf)), .val (.int (v0_5 px)), .val (.int (v0_6 py)), .val (.ref b13), .val (.int (v0_5 px)), .val (.int pd)] [(.int (v0_2 pf)), (.int (v0_11 pf))])) _
                  exact k)
                by_cases hc216_91 : (v0_11 pf) = (v0_2 pf)
                · obtain ⟨cq92, kq92, q92a, q92b, q92c⟩ := isOf hZ e89 (((((((A13.keep Kq14).keep Kq15).keep Kq68).keep Kq69).keep Kq72).keep Kq73))
                  obtain ⟨_, _, ⟨T92, L92, k92, n92⟩, -, X92, ⟨Lc92, hQ92, l92, y92, z92⟩, st92⟩ := X89.virtualBack hx (y := (⟨"com/example/glowcursor/glowcursor/parser/ControlSequence", "isSubParameter", "(I)Z"⟩ : MethodName)) (z := (⟨"com/example/glowcursor/glowcursor/parser/ControlSequence", "isSubParameter", "(I)Z"⟩ : MethodName)) hown (mvT hZ (hw _ (List.mem_of_getElem? (i := 46) rfl))) (mvT hZ (hw _ (List.mem_of_getElem? (i := 47) rfl))) (notFace_of_selects (args := #[]) (mvT hZ (hw _ (List.mem_of_getElem? (i := 49) rfl)))) (mvT hZ (hw _ (List.mem_of_getElem? (i := 49) rfl))) (mvT hZ (hw _ (List.mem_of_getElem? (i := 48) rfl))) (by decide) (backOf (W := 0) (rm7 l Z a0 hw [] b13 (2 : Int32) (3 : Int32) sa kb (setI (setI (setI (List.replicate (32 : Int32).toNatClampNeg 0) (0 : Int32) (nar .boolean (0 : Int32))) (1 : Int32) (nar .boolean (nar .boolean (v0_2 pf)))) (2 : Int32) (nar .boolean (nar .boolean (v0_4 pf)))) T73.heap n0 Z73 (((((((A13.keep Kq14).keep Kq15).keep Kq68).keep Kq69).keep Kq72).keep Kq73)) (Fq73_2) (Fq73_1) (Vq73_1) (by decide)) hZ (hw _ (List.mem_of_getElem? (i := 50) rfl)) (hw _ (List.mem_of_getElem? (i := 3) rfl)) (by decide) (by decide)) q92a q92c (g := (mkF m 222 #[.val (.int pf), .val (.int px), .val (.int py), .val (.int pd), .val (.int (v0_1 pf)), .val (.int (v0_2 pf)), .val (.int (v0_3 pf)), .val (.int (v0_4 pf)), .val (.int (v0_5 px)), .val (.int (v0_6 py)), .val (.ref b13), .val (.int (v0_5 px)), .val (.int pd)] [(.int (2 : Int32)), (.ref b13)])) rfl (by rw [hml]; rfl) (Steps.refl _) (argsL := [(.int (2 : Int32))]) (rest := []) (lenOf pd_4 rfl) rfl (by show 2 * 0 + _ ≤ _; exact Nat.le_of_eq rfl) (hb hby at_222) (fun _ _ => ⟨rfl, e89, (by decide : 3 + 0 ≤ _), (by decide : 72 + 0 ≤ _)⟩)
                  dsimp only [Pt.U, Pt.locs, Pt.cells, Pt.slots] at X92 l92 y92 z92 st92 hQ92
                  subst l92 y92 z92
                  obtain ⟨rfl, N92q, e92⟩ := hQ92
                  have N92 := Fr.app N89 N92q
                  have pre93 : ∀ t, Steps p.tables e below (T92.setTop (mkF m 227 #[.val (.int pf), .val (.int px), .val (.int py), .val (.int pd), .val (.int (v0_1 pf)), .val (.int (v0_2 pf)), .val (.int (v0_3 pf)), .val (.int (v0_4 pf)), .val (.int (v0_5 px)), .val (.int (v0_6 py)), .val (.ref b13), .val (.int (v0_5 px)), .val (.int pd)] [(.int (v0_4 pf)), (.int (v0_12 pf))])) t → Steps p.tables e below (s₁.setTop (entryFrame m #[(.int pf), (.int px), (.int py), (.int pd)] maxLocals)) t := fun t k => pre90 t (by
                    show Steps p.tables e below (T89.setTop (mkF m 216 #[.val (.int pf), .val (.int px), .val (.int py), .val (.int pd), .val (.int (v0_1 pf)), .val (.int (v0_2 pf)), .val (.int (v0_3 pf)), .val (.int (v0_4 pf)), .val (.int (v0_5 px)), .val (.int (v0_6 py)), .val (.ref b13), .val (.int (v0_5 px)), .val (.int pd)] [(.int (v0_2 pf)), (.int (v0_11 pf))])) _
                    refine XS.icmpNo X89.here hx rfl (hb hby at_216) rfl (teq hc216_91).2 ?_
                    show Steps p.tables e below (T89.setTop (mkF m 219 #[.val (.int pf), .val (.int px), .val (.int py), .val (.int pd), .val (.int (v0_1 pf)), .val (.int (v0_2 pf)), .val (.int (v0_3 pf)), .val (.int (v0_4 pf)), .val (.int (v0_5 px)), .val (.int (v0_6 py)), .val (.ref b13), .val (.int (v0_5 px)), .val (.int pd)] [])) _
                    refine XS.aload X89.here hx rfl (hb hby at_219) rfl rfl ?_
                    show Steps p.tables e below (T89.setTop (mkF m 221 #[.val (.int pf), .val (.int px), .val (.int py), .val (.int pd), .val (.int (v0_1 pf)), .val (.int (v0_2 pf)), .val (.int (v0_3 pf)), .val (.int (v0_4 pf)), .val (.int (v0_5 px)), .val (.int (v0_6 py)), .val (.ref b13), .val (.int (v0_5 px)), .val (.int pd)] [(.ref b13)])) _
                    refine XS.iconst X89.here hx rfl (hb hby at_221) ?_
                    show Steps p.tables e below (T89.setTop (mkF m 222 #[.val (.int pf), .val (.int px), .val (.int py), .val (.int pd), .val (.int (v0_1 pf)), .val (.int (v0_2 pf)), .val (.int (v0_3 pf)), .val (.int (v0_4 pf)), .val (.int (v0_5 px)), .val (.int (v0_6 py)), .val (.ref b13), .val (.int (v0_5 px)), .val (.int pd)] [(.int (2 : Int32)), (.ref b13)])) _
                    refine st92.trans ?_
                    show Steps p.tables e below (T92.setTop (mkF m 225 #[.val (.int pf), .val (.int px), .val (.int py), .val (.int pd), .val (.int (v0_1 pf)), .val (.int (v0_2 pf)), .val (.int (v0_3 pf)), .val (.int (v0_4 pf)), .val (.int (v0_5 px)), .val (.int (v0_6 py)), .val (.ref b13), .val (.int (v0_5 px)), .val (.int pd)] [(.int (v0_12 pf))])) _
                    refine XS.iload X92.here hx rfl (hb hby at_225) rfl ?_
                    show Steps p.tables e below (T92.setTop (mkF m 227 #[.val (.int pf), .val (.int px), .val (.int py), .val (.int pd), .val (.int (v0_1 pf)), .val (.int (v0_2 pf)), .val (.int (v0_3 pf)), .val (.int (v0_4 pf)), .val (.int (v0_5 px)), .val (.int (v0_6 py)), .val (.ref b13), .val (.int (v0_5 px)), .val (.int pd)] [(.int (v0_4 pf)), (.int (v0_12 pf))])) _
                    exact k)
                  by_cases hc227_94 : (v0_12 pf) = (v0_4 pf)
                  · have hv : (f0 pf px py pd) = (1 : Int32) := by simp only [f0, if_neg hc87_17, if_pos hc106_71, if_pos hc161_76, if_pos hc173_79, if_pos hc185_82, if_pos hc196_85, if_pos hc205_88, if_pos hc216_91, if_pos hc227_94]
                    obtain ⟨fs, hr, hrun, hended, hW, hsame⟩ := X92.leave (v := some (.int (1 : Int32))) (fun h => by rw [Bd.returns] at h; cases h)
                    refine ⟨_, _, pre93 _ ?_, hrun, hended, _, _, rfl, ?_, ⟨_, rfl⟩, hW, hsame.mono (by decide) (by decide)⟩
                    · show Steps p.tables e below (T92.setTop (mkF m 227 #[.val (.int pf), .val (.int px), .val (.int py), .val (.int pd), .val (.int (v0_1 pf)), .val (.int (v0_2 pf)), .val (.int (v0_3 pf)), .val (.int (v0_4 pf)), .val (.int (v0_5 px)), .val (.int (v0_6 py)), .val (.ref b13), .val (.int (v0_5 px)), .val (.int pd)] [(.int (v0_4 pf)), (.int (v0_12 pf))])) _
                      refine XS.icmpNo X92.here hx rfl (hb hby at_227) rfl (teq hc227_94).2 ?_
                      show Steps p.tables e below (T92.setTop (mkF m 230 #[.val (.int pf), .val (.int px), .val (.int py), .val (.int pd), .val (.int (v0_1 pf)), .val (.int (v0_2 pf)), .val (.int (v0_3 pf)), .val (.int (v0_4 pf)), .val (.int (v0_5 px)), .val (.int (v0_6 py)), .val (.ref b13), .val (.int (v0_5 px)), .val (.int pd)] [])) _
                      refine XS.iconst X92.here hx rfl (hb hby at_230) ?_
                      show Steps p.tables e below (T92.setTop (mkF m 231 #[.val (.int pf), .val (.int px), .val (.int py), .val (.int pd), .val (.int (v0_1 pf)), .val (.int (v0_2 pf)), .val (.int (v0_3 pf)), .val (.int (v0_4 pf)), .val (.int (v0_5 px)), .val (.int (v0_6 py)), .val (.ref b13), .val (.int (v0_5 px)), .val (.int pd)] [(.int (1 : Int32))])) _
                      refine XS.goto X92.here hx rfl (pc0 := 231) (pc' := 235) rfl (hb hby at_231) (by decide) (by decide) ?_
                      show Steps p.tables e below (T92.setTop (mkF m 235 #[.val (.int pf), .val (.int px), .val (.int py), .val (.int pd), .val (.int (v0_1 pf)), .val (.int (v0_2 pf)), .val (.int (v0_3 pf)), .val (.int (v0_4 pf)), .val (.int (v0_5 px)), .val (.int (v0_6 py)), .val (.ref b13), .val (.int (v0_5 px)), .val (.int pd)] [(.int (1 : Int32))])) _
                      exact retN X92 hx (t := .boolean) Bd.returns (by simp) (hb hby at_235) hr
                    · show Q0 Z pf px py pd h0 n0 _ T92.heap _
                      rw [e92]
                      exact ⟨by rw [hv], N92⟩
                  · have hv : (f0 pf px py pd) = (0 : Int32) := by simp only [f0, if_neg hc87_17, if_pos hc106_71, if_pos hc161_76, if_pos hc173_79, if_pos hc185_82, if_pos hc196_85, if_pos hc205_88, if_pos hc216_91, if_neg hc227_94]
                    obtain ⟨fs, hr, hrun, hended, hW, hsame⟩ := X92.leave (v := some (.int (0 : Int32))) (fun h => by rw [Bd.returns] at h; cases h)
                    refine ⟨_, _, pre93 _ ?_, hrun, hended, _, _, rfl, ?_, ⟨_, rfl⟩, hW, hsame.mono (by decide) (by decide)⟩
                    · show Steps p.tables e below (T92.setTop (mkF m 227 #[.val (.int pf), .val (.int px), .val (.int py), .val (.int pd), .val (.int (v0_1 pf)), .val (.int (v0_2 pf)), .val (.int (v0_3 pf)), .val (.int (v0_4 pf)), .val (.int (v0_5 px)), .val (.int (v0_6 py)), .val (.ref b13), .val (.int (v0_5 px)), .val (.int pd)] [(.int (v0_4 pf)), (.int (v0_12 pf))])) _
                      refine XS.icmpYes X92.here hx rfl (pc0 := 227) (pc' := 234) rfl (hb hby at_227) rfl (feq hc227_94).2 (by decide) (by decide) ?_
                      show Steps p.tables e below (T92.setTop (mkF m 234 #[.val (.int pf), .val (.int px), .val (.int py), .val (.int pd), .val (.int (v0_1 pf)), .val (.int (v0_2 pf)), .val (.int (v0_3 pf)), .val (.int (v0_4 pf)), .val (.int (v0_5 px)), .val (.int (v0_6 py)), .val (.ref b13), .val (.int (v0_5 px)), .val (.int pd)] [])) _
                      refine XS.iconst X92.here hx rfl (hb hby at_234) ?_
                      show Steps p.tables e below (T92.setTop (mkF m 235 #[.val (.int pf), .val (.int px), .val (.int py), .val (.int pd), .val (.int (v0_1 pf)), .val (.int (v0_2 pf)), .val (.int (v0_3 pf)), .val (.int (v0_4 pf)), .val (.int (v0_5 px)), .val (.int (v0_6 py)), .val (.ref b13), .val (.int (v0_5 px)), .val (.int pd)] [(.int (0 : Int32))])) _
                      exact retN X92 hx (t := .boolean) Bd.returns (by simp) (hb hby at_235) hr
                    · show Q0 Z pf px py pd h0 n0 _ T92.heap _
                      rw [e92]
                      exact ⟨by rw [hv], N92⟩
                · have hv : (f0 pf px py pd) = (0 : Int32) := by simp only [f0, if_neg hc87_17, if_pos hc106_71, if_pos hc161_76, if_pos hc173_79, if_pos hc185_82, if_pos hc196_85, if_pos hc205_88, if_neg hc216_91]
                  obtain ⟨fs, hr, hrun, hended, hW, hsame⟩ := X89.leave (v := some (.int (0 : Int32))) (fun h => by rw [Bd.returns] at h; cases h)
                  refine ⟨_, _, pre90 _ ?_, hrun, hended, _, _, rfl, ?_, ⟨_, rfl⟩, hW, hsame.mono (by decide) (by decide)⟩
                  · show Steps p.tables e below (T89.setTop (mkF m 216 #[.val (.int pf), .val (.int px), .val (.int py), .val (.int pd), .val (.int (v0_1 pf)), .val (.int (v0_2 pf)), .val (.int (v0_3 pf)), .val (.int (v0_4 pf)), .val (.int (v0_5 px)), .val (.int (v0_6 py)), .val (.ref b13), .val (.int (v0_5 px)), .val (.int pd)] [(.int (v0_2 pf)), (.int (v0_11 pf))])) _
                    refine XS.icmpYes X89.here hx rfl (pc0 := 216) (pc' := 234) rfl (hb hby at_216) rfl (feq hc216_91).2 (by decide) (by decide) ?_
                    show Steps p.tables e below (T89.setTop (mkF m 234 #[.val (.int pf), .val (.int px), .val (.int py), .val (.int pd), .val (.int (v0_1 pf)), .val (.int (v0_2 pf)), .val (.int (v0_3 pf)), .val (.int (v0_4 pf)), .val (.int (v0_5 px)), .val (.int (v0_6 py)), .val (.ref b13), .val (.int (v0_5 px)), .val (.int pd)] [])) _
                    refine XS.iconst X89.here hx rfl (hb hby at_234) ?_
                    show Steps p.tables e below (T89.setTop (mkF m 235 #[.val (.int pf), .val (.int px), .val (.int py), .val (.int pd), .val (.int (v0_1 pf)), .val (.int (v0_2 pf)), .val (.int (v0_3 pf)), .val (.int (v0_4 pf)), .val (.int (v0_5 px)), .val (.int (v0_6 py)), .val (.ref b13), .val (.int (v0_5 px)), .val (.int pd)] [(.int (0 : Int32))])) _
                    exact retN X89 hx (t := .boolean) Bd.returns (by simp) (hb hby at_235) hr
                  · show Q0 Z pf px py pd h0 n0 _ T89.heap _
                    rw [e89]
                    exact ⟨by rw [hv], N89⟩
              · have hv : (f0 pf px py pd) = (0 : Int32) := by simp only [f0, if_neg hc87_17, if_pos hc106_71, if_pos hc161_76, if_pos hc173_79, if_pos hc185_82, if_pos hc196_85, if_neg hc205_88]
                obtain ⟨fs, hr, hrun, hended, hW, hsame⟩ := X86.leave (v := some (.int (0 : Int32))) (fun h => by rw [Bd.returns] at h; cases h)
                refine ⟨_, _, pre87 _ ?_, hrun, hended, _, _, rfl, ?_, ⟨_, rfl⟩, hW, hsame.mono (by decide) (by decide)⟩
                · show Steps p.tables e below (T86.setTop (mkF m 205 #[.val (.int pf), .val (.int px), .val (.int py), .val (.int pd), .val (.int (v0_1 pf)), .val (.int (v0_2 pf)), .val (.int (v0_3 pf)), .val (.int (v0_4 pf)), .val (.int (v0_5 px)), .val (.int (v0_6 py)), .val (.ref b13), .val (.int (v0_5 px)), .val (.int pd)] [(.int (v0_10 pf))])) _
                  refine XS.ifYes X86.here hx rfl (pc0 := 205) (pc' := 234) rfl (hb hby at_205) rfl ((if0 _ _).trans (feq hc205_88).2) (by decide) (by decide) ?_
                  show Steps p.tables e below (T86.setTop (mkF m 234 #[.val (.int pf), .val (.int px), .val (.int py), .val (.int pd), .val (.int (v0_1 pf)), .val (.int (v0_2 pf)), .val (.int (v0_3 pf)), .val (.int (v0_4 pf)), .val (.int (v0_5 px)), .val (.int (v0_6 py)), .val (.ref b13), .val (.int (v0_5 px)), .val (.int pd)] [])) _
                  refine XS.iconst X86.here hx rfl (hb hby at_234) ?_
                  show Steps p.tables e below (T86.setTop (mkF m 235 #[.val (.int pf), .val (.int px), .val (.int py), .val (.int pd), .val (.int (v0_1 pf)), .val (.int (v0_2 pf)), .val (.int (v0_3 pf)), .val (.int (v0_4 pf)), .val (.int (v0_5 px)), .val (.int (v0_6 py)), .val (.ref b13), .val (.int (v0_5 px)), .val (.int pd)] [(.int (0 : Int32))])) _
                  exact retN X86 hx (t := .boolean) Bd.returns (by simp) (hb hby at_235) hr
                · show Q0 Z pf px py pd h0 n0 _ T86.heap _
                  rw [e86]
                  exact ⟨by rw [hv], N86⟩
            · have hv : (f0 pf px py pd) = (0 : Int32) := by simp only [f0, if_neg hc87_17, if_pos hc106_71, if_pos hc161_76, if_pos hc173_79, if_pos hc185_82, if_neg hc196_85]
              obtain ⟨fs, hr, hrun, hended, hW, hsame⟩ := X83.leave (v := some (.int (0 : Int32))) (fun h => by rw [Bd.returns] at h; cases h)
              refine ⟨_, _, pre84 _ ?_, hrun, hended, _, _, rfl, ?_, ⟨_, rfl⟩, hW, hsame.mono (by decide) (by decide)⟩
              · show Steps p.tables e below (T83.setTop (mkF m 196 #[.val (.int pf), .val (.int px), .val (.int py), .val (.int pd), .val (.int (v0_1 pf)), .val (.int (v0_2 pf)), .val (.int (v0_3 pf)), .val (.int (v0_4 pf)), .val (.int (v0_5 px)), .val (.int (v0_6 py)), .val (.ref b13), .val (.int (v0_5 px)), .val (.int pd)] [(.int pd), (.int (v0_18 pd px))])) _
                refine XS.icmpYes X83.here hx rfl (pc0 := 196) (pc' := 234) rfl (hb hby at_196) rfl (feq hc196_85).2 (by decide) (by decide) ?_
                show Steps p.tables e below (T83.setTop (mkF m 234 #[.val (.int pf), .val (.int px), .val (.int py), .val (.int pd), .val (.int (v0_1 pf)), .val (.int (v0_2 pf)), .val (.int (v0_3 pf)), .val (.int (v0_4 pf)), .val (.int (v0_5 px)), .val (.int (v0_6 py)), .val (.ref b13), .val (.int (v0_5 px)), .val (.int pd)] [])) _
                refine XS.iconst X83.here hx rfl (hb hby at_234) ?_
                show Steps p.tables e below (T83.setTop (mkF m 235 #[.val (.int pf), .val (.int px), .val (.int py), .val (.int pd), .val (.int (v0_1 pf)), .val (.int (v0_2 pf)), .val (.int (v0_3 pf)), .val (.int (v0_4 pf)), .val (.int (v0_5 px)), .val (.int (v0_6 py)), .val (.ref b13), .val (.int (v0_5 px)), .val (.int pd)] [(.int (0 : Int32))])) _
                exact retN X83 hx (t := .boolean) Bd.returns (by simp) (hb hby at_235) hr
              · show Q0 Z pf px py pd h0 n0 _ T83.heap _
                rw [e83]
                exact ⟨by rw [hv], N83⟩
          · have hv : (f0 pf px py pd) = (0 : Int32) := by simp only [f0, if_neg hc87_17, if_pos hc106_71, if_pos hc161_76, if_pos hc173_79, if_neg hc185_82]
            obtain ⟨fs, hr, hrun, hended, hW, hsame⟩ := X80.leave (v := some (.int (0 : Int32))) (fun h => by rw [Bd.returns] at h; cases h)
            refine ⟨_, _, pre81 _ ?_, hrun, hended, _, _, rfl, ?_, ⟨_, rfl⟩, hW, hsame.mono (by decide) (by decide)⟩
            · show Steps p.tables e below (T80.setTop (mkF m 185 #[.val (.int pf), .val (.int px), .val (.int py), .val (.int pd), .val (.int (v0_1 pf)), .val (.int (v0_2 pf)), .val (.int (v0_3 pf)), .val (.int (v0_4 pf)), .val (.int (v0_5 px)), .val (.int (v0_6 py)), .val (.ref b13), .val (.int (v0_5 px)), .val (.int pd)] [(.int pd), (.int (v0_17 pd px))])) _
              refine XS.icmpYes X80.here hx rfl (pc0 := 185) (pc' := 234) rfl (hb hby at_185) rfl (feq hc185_82).2 (by decide) (by decide) ?_
              show Steps p.tables e below (T80.setTop (mkF m 234 #[.val (.int pf), .val (.int px), .val (.int py), .val (.int pd), .val (.int (v0_1 pf)), .val (.int (v0_2 pf)), .val (.int (v0_3 pf)), .val (.int (v0_4 pf)), .val (.int (v0_5 px)), .val (.int (v0_6 py)), .val (.ref b13), .val (.int (v0_5 px)), .val (.int pd)] [])) _
              refine XS.iconst X80.here hx rfl (hb hby at_234) ?_
              show Steps p.tables e below (T80.setTop (mkF m 235 #[.val (.int pf), .val (.int px), .val (.int py), .val (.int pd), .val (.int (v0_1 pf)), .val (.int (v0_2 pf)), .val (.int (v0_3 pf)), .val (.int (v0_4 pf)), .val (.int (v0_5 px)), .val (.int (v0_6 py)), .val (.ref b13), .val (.int (v0_5 px)), .val (.int pd)] [(.int (0 : Int32))])) _
              exact retN X80 hx (t := .boolean) Bd.returns (by simp) (hb hby at_235) hr
            · show Q0 Z pf px py pd h0 n0 _ T80.heap _
              rw [e80]
              exact ⟨by rw [hv], N80⟩
        · have hv : (f0 pf px py pd) = (0 : Int32) := by simp only [f0, if_neg hc87_17, if_pos hc106_71, if_pos hc161_76, if_neg hc173_79]
          obtain ⟨fs, hr, hrun, hended, hW, hsame⟩ := X77.leave (v := some (.int (0 : Int32))) (fun h => by rw [Bd.returns] at h; cases h)
          refine ⟨_, _, pre78 _ ?_, hrun, hended, _, _, rfl, ?_, ⟨_, rfl⟩, hW, hsame.mono (by decide) (by decide)⟩
          · show Steps p.tables e below (T77.setTop (mkF m 173 #[.val (.int pf), .val (.int px), .val (.int py), .val (.int pd), .val (.int (v0_1 pf)), .val (.int (v0_2 pf)), .val (.int (v0_3 pf)), .val (.int (v0_4 pf)), .val (.int (v0_5 px)), .val (.int (v0_6 py)), .val (.ref b13), .val (.int (v0_5 px)), .val (.int pd)] [(.int (v0_5 px)), (.int (v0_16 pd px))])) _
            refine XS.icmpYes X77.here hx rfl (pc0 := 173) (pc' := 234) rfl (hb hby at_173) rfl (feq hc173_79).2 (by decide) (by decide) ?_
            show Steps p.tables e below (T77.setTop (mkF m 234 #[.val (.int pf), .val (.int px), .val (.int py), .val (.int pd), .val (.int (v0_1 pf)), .val (.int (v0_2 pf)), .val (.int (v0_3 pf)), .val (.int (v0_4 pf)), .val (.int (v0_5 px)), .val (.int (v0_6 py)), .val (.ref b13), .val (.int (v0_5 px)), .val (.int pd)] [])) _
            refine XS.iconst X77.here hx rfl (hb hby at_234) ?_
            show Steps p.tables e below (T77.setTop (mkF m 235 #[.val (.int pf), .val (.int px), .val (.int py), .val (.int pd), .val (.int (v0_1 pf)), .val (.int (v0_2 pf)), .val (.int (v0_3 pf)), .val (.int (v0_4 pf)), .val (.int (v0_5 px)), .val (.int (v0_6 py)), .val (.ref b13), .val (.int (v0_5 px)), .val (.int pd)] [(.int (0 : Int32))])) _
            exact retN X77 hx (t := .boolean) Bd.returns (by simp) (hb hby at_235) hr
          · show Q0 Z pf px py pd h0 n0 _ T77.heap _
            rw [e77]
            exact ⟨by rw [hv], N77⟩
      · have hv : (f0 pf px py pd) = (0 : Int32) := by simp only [f0, if_neg hc87_17, if_pos hc106_71, if_neg hc161_76]
        obtain ⟨fs, hr, hrun, hended, hW, hsame⟩ := X74.leave (v := some (.int (0 : Int32))) (fun h => by rw [Bd.returns] at h; cases h)
        refine ⟨_, _, pre75 _ ?_, hrun, hended, _, _, rfl, ?_, ⟨_, rfl⟩, hW, hsame.mono (by decide) (by decide)⟩
        · show Steps p.tables e below (T74.setTop (mkF m 161 #[.val (.int pf), .val (.int px), .val (.int py), .val (.int pd), .val (.int (v0_1 pf)), .val (.int (v0_2 pf)), .val (.int (v0_3 pf)), .val (.int (v0_4 pf)), .val (.int (v0_5 px)), .val (.int (v0_6 py)), .val (.ref b13), .val (.int (v0_5 px)), .val (.int pd)] [(.int (3 : Int32)), (.int (f5 (3 : Int32)))])) _
          refine XS.icmpYes X74.here hx rfl (pc0 := 161) (pc' := 234) rfl (hb hby at_161) rfl (feq hc161_76).2 (by decide) (by decide) ?_
          show Steps p.tables e below (T74.setTop (mkF m 234 #[.val (.int pf), .val (.int px), .val (.int py), .val (.int pd), .val (.int (v0_1 pf)), .val (.int (v0_2 pf)), .val (.int (v0_3 pf)), .val (.int (v0_4 pf)), .val (.int (v0_5 px)), .val (.int (v0_6 py)), .val (.ref b13), .val (.int (v0_5 px)), .val (.int pd)] [])) _
          refine XS.iconst X74.here hx rfl (hb hby at_234) ?_
          show Steps p.tables e below (T74.setTop (mkF m 235 #[.val (.int pf), .val (.int px), .val (.int py), .val (.int pd), .val (.int (v0_1 pf)), .val (.int (v0_2 pf)), .val (.int (v0_3 pf)), .val (.int (v0_4 pf)), .val (.int (v0_5 px)), .val (.int (v0_6 py)), .val (.ref b13), .val (.int (v0_5 px)), .val (.int pd)] [(.int (0 : Int32))])) _
          exact retN X74 hx (t := .boolean) Bd.returns (by simp) (hb hby at_235) hr
        · show Q0 Z pf px py pd h0 n0 _ T74.heap _
          rw [e74]
          exact ⟨by rw [hv], N74⟩
    · obtain ⟨cq95, kq95, q95a, q95b, q95c⟩ := isOf hZ rfl (((((A13.keep Kq14).keep Kq15).keep Kq68).keep Kq69))
      obtain ⟨_, _, ⟨T95, L95, k95, n95⟩, -, X95, ⟨Lc95, hQ95, l95, y95, z95⟩, st95⟩ := X69.virtualBack hx (y := (⟨"com/example/glowcursor/glowcursor/parser/ControlSequence", "addDigit", "(I)V"⟩ : MethodName)) (z := (⟨"com/example/glowcursor/glowcursor/parser/ControlSequence", "addDigit", "(I)V"⟩ : MethodName)) hown (mvT hZ (hw _ (List.mem_of_getElem? (i := 51) rfl))) (mvT hZ (hw _ (List.mem_of_getElem? (i := 52) rfl))) (notFace_of_selects (args := #[]) (mvT hZ (hw _ (List.mem_of_getElem? (i := 54) rfl)))) (mvT hZ (hw _ (List.mem_of_getElem? (i := 54) rfl))) (mvT hZ (hw _ (List.mem_of_getElem? (i := 53) rfl))) (by decide) (backOf (W := 0) (rm8 l Z a0 hw [] b13 (v0_6 py) pa sa (1 : Int32) (-1 : Int32) (nar .boolean (v0_2 pf)) (.int (0 : Int32)) (.int (0 : Int32)) ka (setI (List.replicate (32 : Int32).toNatClampNeg 0) (0 : Int32) (v0_5 px)) kb (setI (List.replicate (32 : Int32).toNatClampNeg 0) (0 : Int32) (nar .boolean (0 : Int32))) T69.heap n0 Z69 (((((A13.keep Kq14).keep Kq15).keep Kq68).keep Kq69)) g_b13 (Fq69_0) (Fq69_1) (Fq69_2) (Fq69_3) (Fq69_4) (Fq69_5) (Fq69_6) (Vq69_0) g_pa (Vq69_1) g_sa (ne1) (ne2) (ne3) rfl) hZ (hw _ (List.mem_of_getElem? (i := 55) rfl)) (hw _ (List.mem_of_getElem? (i := 3) rfl)) (by decide) (by decide)) q95a q95c (g := (mkF m 113 #[.val (.int pf), .val (.int px), .val (.int py), .val (.int pd), .val (.int (v0_1 pf)), .val (.int (v0_2 pf)), .val (.int (v0_3 pf)), .val (.int (v0_4 pf)), .val (.int (v0_5 px)), .val (.int (v0_6 py)), .val (.ref b13), .unset, .unset] [(.int (v0_6 py)), (.ref b13)])) rfl (by rw [hml]; rfl) (Steps.refl _) (argsL := [(.int (v0_6 py))]) (rest := []) (lenOf pd_5 rfl) rfl (by show 2 * 0 + _ ≤ _; exact Nat.le_of_eq rfl) (hb hby at_113) (fun _ _ => ⟨rfl, rfl, (by decide : 3 + 0 ≤ _), (by decide : 72 + 0 ≤ _)⟩)
      dsimp only [Pt.U, Pt.locs, Pt.cells, Pt.slots] at X95 l95 y95 z95 st95 hQ95
      subst l95 y95 z95
      obtain ⟨rfl, N95q, Kq95, Fq95_0, Fq95_1, Fq95_2, Fq95_3, Fq95_4, Fq95_5, Fq95_6, Vq95_0, Vq95_1⟩ := hQ95
      have N95 := Fr.app N69 N95q
      have Z95 : n0 ≤ T95.heap.size := Nat.le_trans Z69 Kq95.1
      have K95 : Keep h0 T95.heap [] := (K69).trans Kq95 (allS (Or.inr sz_b13) (allS (Or.inr sz_pa) (allS (Or.inr sz_sa) all0)))
      obtain ⟨cq96, kq96, q96a, q96b, q96c⟩ := isOf hZ rfl ((((((A13.keep Kq14).keep Kq15).keep Kq68).keep Kq69).keep Kq95))
      obtain ⟨_, _, ⟨T96, L96, k96, n96⟩, -, X96, ⟨Lc96, hQ96, l96, y96, z96⟩, st96⟩ := X95.virtualBack hx (y := (⟨"com/example/glowcursor/glowcursor/parser/ControlSequence", "endParameter", "(Z)V"⟩ : MethodName)) (z := (⟨"com/example/glowcursor/glowcursor/parser/ControlSequence", "endParameter", "(Z)V"⟩ : MethodName)) hown (mvT hZ (hw _ (List.mem_of_getElem? (i := 31) rfl))) (mvT hZ (hw _ (List.mem_of_getElem? (i := 32) rfl))) (notFace_of_selects (args := #[]) (mvT hZ (hw _ (List.mem_of_getElem? (i := 34) rfl)))) (mvT hZ (hw _ (List.mem_of_getElem? (i := 34) rfl))) (mvT hZ (hw _ (List.mem_of_getElem? (i := 33) rfl))) (by decide) (backOf (W := 0) (rm4 l Z a0 hw [] b13 (v0_4 pf) pa sa (1 : Int32) (v0_6 py) (nar .boolean (v0_2 pf)) (.int (0 : Int32)) (.int (0 : Int32)) ka (setI (List.replicate (32 : Int32).toNatClampNeg 0) (0 : Int32) (v0_5 px)) kb (setI (List.replicate (32 : Int32).toNatClampNeg 0) (0 : Int32) (nar .boolean (0 : Int32))) T95.heap n0 Z95 ((((((A13.keep Kq14).keep Kq15).keep Kq68).keep Kq69).keep Kq95)) g_b13 (Fq95_0) (Fq95_1) (Fq95_2) (Fq95_3) (Fq95_4) (Fq95_5) (Fq95_6) (Vq95_0) g_pa (Vq95_1) g_sa (ne1) (ne2) (ne3) (by decide)) hZ (hw _ (List.mem_of_getElem? (i := 35) rfl)) (hw _ (List.mem_of_getElem? (i := 3) rfl)) (by decide) (by decide)) q96a q96c (g := (mkF m 120 #[.val (.int pf), .val (.int px), .val (.int py), .val (.int pd), .val (.int (v0_1 pf)), .val (.int (v0_2 pf)), .val (.int (v0_3 pf)), .val (.int (v0_4 pf)), .val (.int (v0_5 px)), .val (.int (v0_6 py)), .val (.ref b13), .unset, .unset] [(.int (v0_4 pf)), (.ref b13)])) rfl (by rw [hml]; rfl) (Steps.refl _) (argsL := [(.int (v0_4 pf))]) (rest := []) (lenOf pd_1 rfl) rfl (by show 2 * 0 + _ ≤ _; exact Nat.le_of_eq rfl) (hb hby at_120) (fun _ _ => ⟨rfl, rfl, (by decide : 3 + 0 ≤ _), (by decide : 72 + 0 ≤ _)⟩)
      dsimp only [Pt.U, Pt.locs, Pt.cells, Pt.slots] at X96 l96 y96 z96 st96 hQ96
      subst l96 y96 z96
      obtain ⟨rfl, N96q, Kq96, Fq96_0, Fq96_1, Fq96_2, Fq96_3, Fq96_4, Fq96_5, Fq96_6, Vq96_0, Vq96_1⟩ := hQ96
      have N96 := Fr.app N95 N96q
      have Z96 : n0 ≤ T96.heap.size := Nat.le_trans Z95 Kq96.1
      have K96 : Keep h0 T96.heap [] := (K95).trans Kq96 (allS (Or.inr sz_b13) (allS (Or.inr sz_pa) (allS (Or.inr sz_sa) all0)))
      have Fq96_2 : Fld Z T96.heap b13 "com/example/glowcursor/glowcursor/parser/ControlSequence" "count" "I" (.int (2 : Int32)) := Fq96_2
      obtain ⟨cq97, kq97, q97a, q97b, q97c⟩ := isOf hZ rfl (((((((A13.keep Kq14).keep Kq15).keep Kq68).keep Kq69).keep Kq95).keep Kq96))
      obtain ⟨_, _, ⟨T97, L97, k97, n97⟩, -, X97, ⟨Lc97, hQ97, l97, y97, z97⟩, st97⟩ := X96.virtualBack hx (y := (⟨"com/example/glowcursor/glowcursor/parser/ControlSequence", "endParameter", "(Z)V"⟩ : MethodName)) (z := (⟨"com/example/glowcursor/glowcursor/parser/ControlSequence", "endParameter", "(Z)V"⟩ : MethodName)) hown (mvT hZ (hw _ (List.mem_of_getElem? (i := 31) rfl))) (mvT hZ (hw _ (List.mem_of_getElem? (i := 32) rfl))) (notFace_of_selects (args := #[]) (mvT hZ (hw _ (List.mem_of_getElem? (i := 34) rfl)))) (mvT hZ (hw _ (List.mem_of_getElem? (i := 34) rfl))) (mvT hZ (hw _ (List.mem_of_getElem? (i := 33) rfl))) (by decide) (backOf (W := 0) (rm4 l Z a0 hw [] b13 (0 : Int32) pa sa (2 : Int32) (-1 : Int32) (nar .boolean (v0_4 pf)) (.int (0 : Int32)) (.int (0 : Int32)) ka (setI (setI (List.replicate (32 : Int32).toNatClampNeg 0) (0 : Int32) (v0_5 px)) (1 : Int32) (v0_6 py)) kb (setI (setI (List.replicate (32 : Int32).toNatClampNeg 0) (0 : Int32) (nar .boolean (0 : Int32))) (1 : Int32) (nar .boolean (nar .boolean (v0_2 pf)))) T96.heap n0 Z96 (((((((A13.keep Kq14).keep Kq15).keep Kq68).keep Kq69).keep Kq95).keep Kq96)) g_b13 (Fq96_0) (Fq96_1) (Fq96_2) (Fq96_3) (Fq96_4) (Fq96_5) (Fq96_6) (Vq96_0) g_pa (Vq96_1) g_sa (ne1) (ne2) (ne3) (by decide)) hZ (hw _ (List.mem_of_getElem? (i := 35) rfl)) (hw _ (List.mem_of_getElem? (i := 3) rfl)) (by decide) (by decide)) q97a q97c (g := (mkF m 126 #[.val (.int pf), .val (.int px), .val (.int py), .val (.int pd), .val (.int (v0_1 pf)), .val (.int (v0_2 pf)), .val (.int (v0_3 pf)), .val (.int (v0_4 pf)), .val (.int (v0_5 px)), .val (.int (v0_6 py)), .val (.ref b13), .unset, .unset] [(.int (0 : Int32)), (.ref b13)])) rfl (by rw [hml]; rfl) (Steps.refl _) (argsL := [(.int (0 : Int32))]) (rest := []) (lenOf pd_1 rfl) rfl (by show 2 * 0 + _ ≤ _; exact Nat.le_of_eq rfl) (hb hby at_126) (fun _ _ => ⟨rfl, rfl, (by decide : 3 + 0 ≤ _), (by decide : 72 + 0 ≤ _)⟩)
      dsimp only [Pt.U, Pt.locs, Pt.cells, Pt.slots] at X97 l97 y97 z97 st97 hQ97
      subst l97 y97 z97
      obtain ⟨rfl, N97q, Kq97, Fq97_0, Fq97_1, Fq97_2, Fq97_3, Fq97_4, Fq97_5, Fq97_6, Vq97_0, Vq97_1⟩ := hQ97
      have N97 := Fr.app N96 N97q
      have Z97 : n0 ≤ T97.heap.size := Nat.le_trans Z96 Kq97.1
      have K97 : Keep h0 T97.heap [] := (K96).trans Kq97 (allS (Or.inr sz_b13) (allS (Or.inr sz_pa) (allS (Or.inr sz_sa) all0)))
      have Fq97_2 : Fld Z T97.heap b13 "com/example/glowcursor/glowcursor/parser/ControlSequence" "count" "I" (.int (3 : Int32)) := Fq97_2
      obtain ⟨cq98, kq98, q98a, q98b, q98c⟩ := isOf hZ rfl ((((((((A13.keep Kq14).keep Kq15).keep Kq68).keep Kq69).keep Kq95).keep Kq96).keep Kq97))
      obtain ⟨_, _, ⟨T98, L98, k98, n98⟩, -, X98, ⟨Lc98, hQ98, l98, y98, z98⟩, st98⟩ := X97.virtualBack hx (y := (⟨"com/example/glowcursor/glowcursor/parser/ControlSequence", "parameterCount", "()I"⟩ : MethodName)) (z := (⟨"com/example/glowcursor/glowcursor/parser/ControlSequence", "parameterCount", "()I"⟩ : MethodName)) hown (mvT hZ (hw _ (List.mem_of_getElem? (i := 36) rfl))) (mvT hZ (hw _ (List.mem_of_getElem? (i := 37) rfl))) (notFace_of_selects (args := #[]) (mvT hZ (hw _ (List.mem_of_getElem? (i := 39) rfl)))) (mvT hZ (hw _ (List.mem_of_getElem? (i := 39) rfl))) (mvT hZ (hw _ (List.mem_of_getElem? (i := 38) rfl))) (by decide) (backOf (W := 0) (rm5 l Z a0 hw [] b13 (3 : Int32) T97.heap n0 Z97 ((((((((A13.keep Kq14).keep Kq15).keep Kq68).keep Kq69).keep Kq95).keep Kq96).keep Kq97)) (Fq97_2)) hZ (hw _ (List.mem_of_getElem? (i := 40) rfl)) (hw _ (List.mem_of_getElem? (i := 3) rfl)) (by decide) (by decide)) q98a q98c (g := (mkF m 157 #[.val (.int pf), .val (.int px), .val (.int py), .val (.int pd), .val (.int (v0_1 pf)), .val (.int (v0_2 pf)), .val (.int (v0_3 pf)), .val (.int (v0_4 pf)), .val (.int (v0_5 px)), .val (.int (v0_6 py)), .val (.ref b13), .val (.int (v0_5 px)), .val (.int (v0_6 py))] [(.ref b13)])) rfl (by rw [hml]; rfl) (Steps.refl _) (argsL := []) (rest := []) (lenOf pd_2 rfl) rfl (by show 2 * 0 + _ ≤ _; exact Nat.le_of_eq rfl) (hb hby at_157) (fun _ _ => ⟨rfl, rfl, (by decide : 3 + 0 ≤ _), (by decide : 72 + 0 ≤ _)⟩)
      dsimp only [Pt.U, Pt.locs, Pt.cells, Pt.slots] at X98 l98 y98 z98 st98 hQ98
      subst l98 y98 z98
      obtain ⟨rfl, N98q, e98⟩ := hQ98
      have N98 := Fr.app N97 N98q
      have pre99 : ∀ t, Steps p.tables e below (T98.setTop (mkF m 161 #[.val (.int pf), .val (.int px), .val (.int py), .val (.int pd), .val (.int (v0_1 pf)), .val (.int (v0_2 pf)), .val (.int (v0_3 pf)), .val (.int (v0_4 pf)), .val (.int (v0_5 px)), .val (.int (v0_6 py)), .val (.ref b13), .val (.int (v0_5 px)), .val (.int (v0_6 py))] [(.int (3 : Int32)), (.int (f5 (3 : Int32)))])) t → Steps p.tables e below (s₁.setTop (entryFrame m #[(.int pf), (.int px), (.int py), (.int pd)] maxLocals)) t := fun t k => pre70 t (by
        show Steps p.tables e below (T69.setTop (mkF m 106 #[.val (.int pf), .val (.int px), .val (.int py), .val (.int pd), .val (.int (v0_1 pf)), .val (.int (v0_2 pf)), .val (.int (v0_3 pf)), .val (.int (v0_4 pf)), .val (.int (v0_5 px)), .val (.int (v0_6 py)), .val (.ref b13), .unset, .unset] [(.int (v0_3 pf))])) _
        refine XS.ifNo X69.here hx rfl (hb hby at_106) rfl ((if0 _ _).trans (feq hc106_71).1) ?_
        show Steps p.tables e below (T69.setTop (mkF m 109 #[.val (.int pf), .val (.int px), .val (.int py), .val (.int pd), .val (.int (v0_1 pf)), .val (.int (v0_2 pf)), .val (.int (v0_3 pf)), .val (.int (v0_4 pf)), .val (.int (v0_5 px)), .val (.int (v0_6 py)), .val (.ref b13), .unset, .unset] [])) _
        refine XS.aload X69.here hx rfl (hb hby at_109) rfl rfl ?_
        show Steps p.tables e below (T69.setTop (mkF m 111 #[.val (.int pf), .val (.int px), .val (.int py), .val (.int pd), .val (.int (v0_1 pf)), .val (.int (v0_2 pf)), .val (.int (v0_3 pf)), .val (.int (v0_4 pf)), .val (.int (v0_5 px)), .val (.int (v0_6 py)), .val (.ref b13), .unset, .unset] [(.ref b13)])) _
        refine XS.iload X69.here hx rfl (hb hby at_111) rfl ?_
        show Steps p.tables e below (T69.setTop (mkF m 113 #[.val (.int pf), .val (.int px), .val (.int py), .val (.int pd), .val (.int (v0_1 pf)), .val (.int (v0_2 pf)), .val (.int (v0_3 pf)), .val (.int (v0_4 pf)), .val (.int (v0_5 px)), .val (.int (v0_6 py)), .val (.ref b13), .unset, .unset] [(.int (v0_6 py)), (.ref b13)])) _
        refine st95.trans ?_
        show Steps p.tables e below (T95.setTop (mkF m 116 #[.val (.int pf), .val (.int px), .val (.int py), .val (.int pd), .val (.int (v0_1 pf)), .val (.int (v0_2 pf)), .val (.int (v0_3 pf)), .val (.int (v0_4 pf)), .val (.int (v0_5 px)), .val (.int (v0_6 py)), .val (.ref b13), .unset, .unset] [])) _
        refine XS.aload X95.here hx rfl (hb hby at_116) rfl rfl ?_
        show Steps p.tables e below (T95.setTop (mkF m 118 #[.val (.int pf), .val (.int px), .val (.int py), .val (.int pd), .val (.int (v0_1 pf)), .val (.int (v0_2 pf)), .val (.int (v0_3 pf)), .val (.int (v0_4 pf)), .val (.int (v0_5 px)), .val (.int (v0_6 py)), .val (.ref b13), .unset, .unset] [(.ref b13)])) _
        refine XS.iload X95.here hx rfl (hb hby at_118) rfl ?_
        show Steps p.tables e below (T95.setTop (mkF m 120 #[.val (.int pf), .val (.int px), .val (.int py), .val (.int pd), .val (.int (v0_1 pf)), .val (.int (v0_2 pf)), .val (.int (v0_3 pf)), .val (.int (v0_4 pf)), .val (.int (v0_5 px)), .val (.int (v0_6 py)), .val (.ref b13), .unset, .unset] [(.int (v0_4 pf)), (.ref b13)])) _
        refine st96.trans ?_
        show Steps p.tables e below (T96.setTop (mkF m 123 #[.val (.int pf), .val (.int px), .val (.int py), .val (.int pd), .val (.int (v0_1 pf)), .val (.int (v0_2 pf)), .val (.int (v0_3 pf)), .val (.int (v0_4 pf)), .val (.int (v0_5 px)), .val (.int (v0_6 py)), .val (.ref b13), .unset, .unset] [])) _
        refine XS.aload X96.here hx rfl (hb hby at_123) rfl rfl ?_
        show Steps p.tables e below (T96.setTop (mkF m 125 #[.val (.int pf), .val (.int px), .val (.int py), .val (.int pd), .val (.int (v0_1 pf)), .val (.int (v0_2 pf)), .val (.int (v0_3 pf)), .val (.int (v0_4 pf)), .val (.int (v0_5 px)), .val (.int (v0_6 py)), .val (.ref b13), .unset, .unset] [(.ref b13)])) _
        refine XS.iconst X96.here hx rfl (hb hby at_125) ?_
        show Steps p.tables e below (T96.setTop (mkF m 126 #[.val (.int pf), .val (.int px), .val (.int py), .val (.int pd), .val (.int (v0_1 pf)), .val (.int (v0_2 pf)), .val (.int (v0_3 pf)), .val (.int (v0_4 pf)), .val (.int (v0_5 px)), .val (.int (v0_6 py)), .val (.ref b13), .unset, .unset] [(.int (0 : Int32)), (.ref b13)])) _
        refine st97.trans ?_
        show Steps p.tables e below (T97.setTop (mkF m 129 #[.val (.int pf), .val (.int px), .val (.int py), .val (.int pd), .val (.int (v0_1 pf)), .val (.int (v0_2 pf)), .val (.int (v0_3 pf)), .val (.int (v0_4 pf)), .val (.int (v0_5 px)), .val (.int (v0_6 py)), .val (.ref b13), .unset, .unset] [])) _
        refine XS.iload X97.here hx rfl (hb hby at_129) rfl ?_
        show Steps p.tables e below (T97.setTop (mkF m 131 #[.val (.int pf), .val (.int px), .val (.int py), .val (.int pd), .val (.int (v0_1 pf)), .val (.int (v0_2 pf)), .val (.int (v0_3 pf)), .val (.int (v0_4 pf)), .val (.int (v0_5 px)), .val (.int (v0_6 py)), .val (.ref b13), .unset, .unset] [(.int (v0_1 pf))])) _
        refine XS.ifNo X97.here hx rfl (hb hby at_131) rfl ((if0 _ _).trans (feq hc87_17).1) ?_
        show Steps p.tables e below (T97.setTop (mkF m 134 #[.val (.int pf), .val (.int px), .val (.int py), .val (.int pd), .val (.int (v0_1 pf)), .val (.int (v0_2 pf)), .val (.int (v0_3 pf)), .val (.int (v0_4 pf)), .val (.int (v0_5 px)), .val (.int (v0_6 py)), .val (.ref b13), .unset, .unset] [])) _
        refine XS.iload X97.here hx rfl (hb hby at_134) rfl ?_
        show Steps p.tables e below (T97.setTop (mkF m 136 #[.val (.int pf), .val (.int px), .val (.int py), .val (.int pd), .val (.int (v0_1 pf)), .val (.int (v0_2 pf)), .val (.int (v0_3 pf)), .val (.int (v0_4 pf)), .val (.int (v0_5 px)), .val (.int (v0_6 py)), .val (.ref b13), .unset, .unset] [(.int (v0_5 px))])) _
        refine XS.goto X97.here hx rfl (pc0 := 136) (pc' := 140) rfl (hb hby at_136) (by decide) (by decide) ?_
        show Steps p.tables e below (T97.setTop (mkF m 140 #[.val (.int pf), .val (.int px), .val (.int py), .val (.int pd), .val (.int (v0_1 pf)), .val (.int (v0_2 pf)), .val (.int (v0_3 pf)), .val (.int (v0_4 pf)), .val (.int (v0_5 px)), .val (.int (v0_6 py)), .val (.ref b13), .unset, .unset] [(.int (v0_5 px))])) _
        refine XS.istore X97.here hx rfl (hb hby at_140) rfl (l' := #[.val (.int pf), .val (.int px), .val (.int py), .val (.int pd), .val (.int (v0_1 pf)), .val (.int (v0_2 pf)), .val (.int (v0_3 pf)), .val (.int (v0_4 pf)), .val (.int (v0_5 px)), .val (.int (v0_6 py)), .val (.ref b13), .val (.int (v0_5 px)), .unset]) rfl ?_
        show Steps p.tables e below (T97.setTop (mkF m 142 #[.val (.int pf), .val (.int px), .val (.int py), .val (.int pd), .val (.int (v0_1 pf)), .val (.int (v0_2 pf)), .val (.int (v0_3 pf)), .val (.int (v0_4 pf)), .val (.int (v0_5 px)), .val (.int (v0_6 py)), .val (.ref b13), .val (.int (v0_5 px)), .unset] [])) _
        refine XS.iload X97.here hx rfl (hb hby at_142) rfl ?_
        show Steps p.tables e below (T97.setTop (mkF m 144 #[.val (.int pf), .val (.int px), .val (.int py), .val (.int pd), .val (.int (v0_1 pf)), .val (.int (v0_2 pf)), .val (.int (v0_3 pf)), .val (.int (v0_4 pf)), .val (.int (v0_5 px)), .val (.int (v0_6 py)), .val (.ref b13), .val (.int (v0_5 px)), .unset] [(.int (v0_3 pf))])) _
        refine XS.ifNo X97.here hx rfl (hb hby at_144) rfl ((if0 _ _).trans (feq hc106_71).1) ?_
        show Steps p.tables e below (T97.setTop (mkF m 147 #[.val (.int pf), .val (.int px), .val (.int py), .val (.int pd), .val (.int (v0_1 pf)), .val (.int (v0_2 pf)), .val (.int (v0_3 pf)), .val (.int (v0_4 pf)), .val (.int (v0_5 px)), .val (.int (v0_6 py)), .val (.ref b13), .val (.int (v0_5 px)), .unset] [])) _
        refine XS.iload X97.here hx rfl (hb hby at_147) rfl ?_
        show Steps p.tables e below (T97.setTop (mkF m 149 #[.val (.int pf), .val (.int px), .val (.int py), .val (.int pd), .val (.int (v0_1 pf)), .val (.int (v0_2 pf)), .val (.int (v0_3 pf)), .val (.int (v0_4 pf)), .val (.int (v0_5 px)), .val (.int (v0_6 py)), .val (.ref b13), .val (.int (v0_5 px)), .unset] [(.int (v0_6 py))])) _
        refine XS.goto X97.here hx rfl (pc0 := 149) (pc' := 153) rfl (hb hby at_149) (by decide) (by decide) ?_
        show Steps p.tables e below (T97.setTop (mkF m 153 #[.val (.int pf), .val (.int px), .val (.int py), .val (.int pd), .val (.int (v0_1 pf)), .val (.int (v0_2 pf)), .val (.int (v0_3 pf)), .val (.int (v0_4 pf)), .val (.int (v0_5 px)), .val (.int (v0_6 py)), .val (.ref b13), .val (.int (v0_5 px)), .unset] [(.int (v0_6 py))])) _
        refine XS.istore X97.here hx rfl (hb hby at_153) rfl (l' := #[.val (.int pf), .val (.int px), .val (.int py), .val (.int pd), .val (.int (v0_1 pf)), .val (.int (v0_2 pf)), .val (.int (v0_3 pf)), .val (.int (v0_4 pf)), .val (.int (v0_5 px)), .val (.int (v0_6 py)), .val (.ref b13), .val (.int (v0_5 px)), .val (.int (v0_6 py))]) rfl ?_
        show Steps p.tables e below (T97.setTop (mkF m 155 #[.val (.int pf), .val (.int px), .val (.int py), .val (.int pd), .val (.int (v0_1 pf)), .val (.int (v0_2 pf)), .val (.int (v0_3 pf)), .val (.int (v0_4 pf)), .val (.int (v0_5 px)), .val (.int (v0_6 py)), .val (.ref b13), .val (.int (v0_5 px)), .val (.int (v0_6 py))] [])) _
        refine XS.aload X97.here hx rfl (hb hby at_155) rfl rfl ?_
        show Steps p.tables e below (T97.setTop (mkF m 157 #[.val (.int pf), .val (.int px), .val (.int py), .val (.int pd), .val (.int (v0_1 pf)), .val (.int (v0_2 pf)), .val (.int (v0_3 pf)), .val (.int (v0_4 pf)), .val (.int (v0_5 px)), .val (.int (v0_6 py)), .val (.ref b13), .val (.int (v0_5 px)), .val (.int (v0_6 py))] [(.ref b13)])) _
        refine st98.trans ?_
        show Steps p.tables e below (T98.setTop (mkF m 160 #[.val (.int pf), .val (.int px), .val (.int py), .val (.int pd), .val (.int (v0_1 pf)), .val (.int (v0_2 pf)), .val (.int (v0_3 pf)), .val (.int (v0_4 pf)), .val (.int (v0_5 px)), .val (.int (v0_6 py)), .val (.ref b13), .val (.int (v0_5 px)), .val (.int (v0_6 py))] [(.int (f5 (3 : Int32)))])) _
        refine XS.iconst X98.here hx rfl (hb hby at_160) ?_
        show Steps p.tables e below (T98.setTop (mkF m 161 #[.val (.int pf), .val (.int px), .val (.int py), .val (.int pd), .val (.int (v0_1 pf)), .val (.int (v0_2 pf)), .val (.int (v0_3 pf)), .val (.int (v0_4 pf)), .val (.int (v0_5 px)), .val (.int (v0_6 py)), .val (.ref b13), .val (.int (v0_5 px)), .val (.int (v0_6 py))] [(.int (3 : Int32)), (.int (f5 (3 : Int32)))])) _
        exact k)
      by_cases hc161_100 : (f5 (3 : Int32)) = (3 : Int32)
      · obtain ⟨cq101, kq101, q101a, q101b, q101c⟩ := isOf hZ e98 ((((((((A13.keep Kq14).keep Kq15).keep Kq68).keep Kq69).keep Kq95).keep Kq96).keep Kq97))
        obtain ⟨_, _, ⟨T101, L101, k101, n101⟩, -, X101, ⟨Lc101, hQ101, l101, y101, z101⟩, st101⟩ := X98.virtualBack hx (y := (⟨"com/example/glowcursor/glowcursor/parser/ControlSequence", "parameter", "(II)I"⟩ : MethodName)) (z := (⟨"com/example/glowcursor/glowcursor/parser/ControlSequence", "parameter", "(II)I"⟩ : MethodName)) hown (mvT hZ (hw _ (List.mem_of_getElem? (i := 41) rfl))) (mvT hZ (hw _ (List.mem_of_getElem? (i := 42) rfl))) (notFace_of_selects (args := #[]) (mvT hZ (hw _ (List.mem_of_getElem? (i := 44) rfl)))) (mvT hZ (hw _ (List.mem_of_getElem? (i := 44) rfl))) (mvT hZ (hw _ (List.mem_of_getElem? (i := 43) rfl))) (by decide) (backOf (W := 0) (rm6 l Z a0 hw [] b13 (0 : Int32) pd (3 : Int32) pa ka (setI (setI (setI (List.replicate (32 : Int32).toNatClampNeg 0) (0 : Int32) (v0_5 px)) (1 : Int32) (v0_6 py)) (2 : Int32) (-1 : Int32)) T97.heap n0 Z97 ((((((((A13.keep Kq14).keep Kq15).keep Kq68).keep Kq69).keep Kq95).keep Kq96).keep Kq97)) (Fq97_2) (Fq97_0) (Vq97_0) (by decide)) hZ (hw _ (List.mem_of_getElem? (i := 45) rfl)) (hw _ (List.mem_of_getElem? (i := 3) rfl)) (by decide) (by decide)) q101a q101c (g := (mkF m 168 #[.val (.int pf), .val (.int px), .val (.int py), .val (.int pd), .val (.int (v0_1 pf)), .val (.int (v0_2 pf)), .val (.int (v0_3 pf)), .val (.int (v0_4 pf)), .val (.int (v0_5 px)), .val (.int (v0_6 py)), .val (.ref b13), .val (.int (v0_5 px)), .val (.int (v0_6 py))] [(.int pd), (.int (0 : Int32)), (.ref b13)])) rfl (by rw [hml]; rfl) (Steps.refl _) (argsL := [(.int (0 : Int32)), (.int pd)]) (rest := []) (lenOf pd_3 rfl) rfl (by show 2 * 0 + _ ≤ _; exact Nat.le_of_eq rfl) (hb hby at_168) (fun _ _ => ⟨rfl, e98, (by decide : 3 + 0 ≤ _), (by decide : 72 + 0 ≤ _)⟩)
        dsimp only [Pt.U, Pt.locs, Pt.cells, Pt.slots] at X101 l101 y101 z101 st101 hQ101
        subst l101 y101 z101
        obtain ⟨rfl, N101q, e101⟩ := hQ101
        have N101 := Fr.app N98 N101q
        have pre102 : ∀ t, Steps p.tables e below (T101.setTop (mkF m 173 #[.val (.int pf), .val (.int px), .val (.int py), .val (.int pd), .val (.int (v0_1 pf)), .val (.int (v0_2 pf)), .val (.int (v0_3 pf)), .val (.int (v0_4 pf)), .val (.int (v0_5 px)), .val (.int (v0_6 py)), .val (.ref b13), .val (.int (v0_5 px)), .val (.int (v0_6 py))] [(.int (v0_5 px)), (.int (v0_19 pd px py))])) t → Steps p.tables e below (s₁.setTop (entryFrame m #[(.int pf), (.int px), (.int py), (.int pd)] maxLocals)) t := fun t k => pre99 t (by
          show Steps p.tables e below (T98.setTop (mkF m 161 #[.val (.int pf), .val (.int px), .val (.int py), .val (.int pd), .val (.int (v0_1 pf)), .val (.int (v0_2 pf)), .val (.int (v0_3 pf)), .val (.int (v0_4 pf)), .val (.int (v0_5 px)), .val (.int (v0_6 py)), .val (.ref b13), .val (.int (v0_5 px)), .val (.int (v0_6 py))] [(.int (3 : Int32)), (.int (f5 (3 : Int32)))])) _
          refine XS.icmpNo X98.here hx rfl (hb hby at_161) rfl (teq hc161_100).2 ?_
          show Steps p.tables e below (T98.setTop (mkF m 164 #[.val (.int pf), .val (.int px), .val (.int py), .val (.int pd), .val (.int (v0_1 pf)), .val (.int (v0_2 pf)), .val (.int (v0_3 pf)), .val (.int (v0_4 pf)), .val (.int (v0_5 px)), .val (.int (v0_6 py)), .val (.ref b13), .val (.int (v0_5 px)), .val (.int (v0_6 py))] [])) _
          refine XS.aload X98.here hx rfl (hb hby at_164) rfl rfl ?_
          show Steps p.tables e below (T98.setTop (mkF m 166 #[.val (.int pf), .val (.int px), .val (.int py), .val (.int pd), .val (.int (v0_1 pf)), .val (.int (v0_2 pf)), .val (.int (v0_3 pf)), .val (.int (v0_4 pf)), .val (.int (v0_5 px)), .val (.int (v0_6 py)), .val (.ref b13), .val (.int (v0_5 px)), .val (.int (v0_6 py))] [(.ref b13)])) _
          refine XS.iconst X98.here hx rfl (hb hby at_166) ?_
          show Steps p.tables e below (T98.setTop (mkF m 167 #[.val (.int pf), .val (.int px), .val (.int py), .val (.int pd), .val (.int (v0_1 pf)), .val (.int (v0_2 pf)), .val (.int (v0_3 pf)), .val (.int (v0_4 pf)), .val (.int (v0_5 px)), .val (.int (v0_6 py)), .val (.ref b13), .val (.int (v0_5 px)), .val (.int (v0_6 py))] [(.int (0 : Int32)), (.ref b13)])) _
          refine XS.iloadN X98.here hx rfl (hb hby at_167) rfl ?_
          show Steps p.tables e below (T98.setTop (mkF m 168 #[.val (.int pf), .val (.int px), .val (.int py), .val (.int pd), .val (.int (v0_1 pf)), .val (.int (v0_2 pf)), .val (.int (v0_3 pf)), .val (.int (v0_4 pf)), .val (.int (v0_5 px)), .val (.int (v0_6 py)), .val (.ref b13), .val (.int (v0_5 px)), .val (.int (v0_6 py))] [(.int pd), (.int (0 : Int32)), (.ref b13)])) _
          refine st101.trans ?_
          show Steps p.tables e below (T101.setTop (mkF m 171 #[.val (.int pf), .val (.int px), .val (.int py), .val (.int pd), .val (.int (v0_1 pf)), .val (.int (v0_2 pf)), .val (.int (v0_3 pf)), .val (.int (v0_4 pf)), .val (.int (v0_5 px)), .val (.int (v0_6 py)), .val (.ref b13), .val (.int (v0_5 px)), .val (.int (v0_6 py))] [(.int (v0_19 pd px py))])) _
          refine XS.iload X101.here hx rfl (hb hby at_171) rfl ?_
          show Steps p.tables e below (T101.setTop (mkF m 173 #[.val (.int pf), .val (.int px), .val (.int py), .val (.int pd), .val (.int (v0_1 pf)), .val (.int (v0_2 pf)), .val (.int (v0_3 pf)), .val (.int (v0_4 pf)), .val (.int (v0_5 px)), .val (.int (v0_6 py)), .val (.ref b13), .val (.int (v0_5 px)), .val (.int (v0_6 py))] [(.int (v0_5 px)), (.int (v0_19 pd px py))])) _
          exact k)
        by_cases hc173_103 : (v0_19 pd px py) = (v0_5 px)
        · obtain ⟨cq104, kq104, q104a, q104b, q104c⟩ := isOf hZ e101 ((((((((A13.keep Kq14).keep Kq15).keep Kq68).keep Kq69).keep Kq95).keep Kq96).keep Kq97))
          obtain ⟨_, _, ⟨T104, L104, k104, n104⟩, -, X104, ⟨Lc104, hQ104, l104, y104, z104⟩, st104⟩ := X101.virtualBack hx (y := (⟨"com/example/glowcursor/glowcursor/parser/ControlSequence", "parameter", "(II)I"⟩ : MethodName)) (z := (⟨"com/example/glowcursor/glowcursor/parser/ControlSequence", "parameter", "(II)I"⟩ : MethodName)) hown (mvT hZ (hw _ (List.mem_of_getElem? (i := 41) rfl))) (mvT hZ (hw _ (List.mem_of_getElem? (i := 42) rfl))) (notFace_of_selects (args := #[]) (mvT hZ (hw _ (List.mem_of_getElem? (i := 44) rfl)))) (mvT hZ (hw _ (List.mem_of_getElem? (i := 44) rfl))) (mvT hZ (hw _ (List.mem_of_getElem? (i := 43) rfl))) (by decide) (backOf (W := 0) (rm6 l Z a0 hw [] b13 (1 : Int32) pd (3 : Int32) pa ka (setI (setI (setI (List.replicate (32 : Int32).toNatClampNeg 0) (0 : Int32) (v0_5 px)) (1 : Int32) (v0_6 py)) (2 : Int32) (-1 : Int32)) T97.heap n0 Z97 ((((((((A13.keep Kq14).keep Kq15).keep Kq68).keep Kq69).keep Kq95).keep Kq96).keep Kq97)) (Fq97_2) (Fq97_0) (Vq97_0) (by decide)) hZ (hw _ (List.mem_of_getElem? (i := 45) rfl)) (hw _ (List.mem_of_getElem? (i := 3) rfl)) (by decide) (by decide)) q104a q104c (g := (mkF m 180 #[.val (.int pf), .val (.int px), .val (.int py), .val (.int pd), .val (.int (v0_1 pf)), .val (.int (v0_2 pf)), .val (.int (v0_3 pf)), .val (.int (v0_4 pf)), .val (.int (v0_5 px)), .val (.int (v0_6 py)), .val (.ref b13), .val (.int (v0_5 px)), .val (.int (v0_6 py))] [(.int pd), (.int (1 : Int32)), (.ref b13)])) rfl (by rw [hml]; rfl) (Steps.refl _) (argsL := [(.int (1 : Int32)), (.int pd)]) (rest := []) (lenOf pd_3 rfl) rfl (by show 2 * 0 + _ ≤ _; exact Nat.le_of_eq rfl) (hb hby at_180) (fun _ _ => ⟨rfl, e101, (by decide : 3 + 0 ≤ _), (by decide : 72 + 0 ≤ _)⟩)
          dsimp only [Pt.U, Pt.locs, Pt.cells, Pt.slots] at X104 l104 y104 z104 st104 hQ104
          subst l104 y104 z104
          obtain ⟨rfl, N104q, e104⟩ := hQ104
          have N104 := Fr.app N101 N104q
          have pre105 : ∀ t, Steps p.tables e below (T104.setTop (mkF m 185 #[.val (.int pf), .val (.int px), .val (.int py), .val (.int pd), .val (.int (v0_1 pf)), .val (.int (v0_2 pf)), .val (.int (v0_3 pf)), .val (.int (v0_4 pf)), .val (.int (v0_5 px)), .val (.int (v0_6 py)), .val (.ref b13), .val (.int (v0_5 px)), .val (.int (v0_6 py))] [(.int (v0_6 py)), (.int (v0_20 pd px py))])) t → Steps p.tables e below (s₁.setTop (entryFrame m #[(.int pf), (.int px), (.int py), (.int pd)] maxLocals)) t := fun t k => pre102 t (by
            show Steps p.tables e below (T101.setTop (mkF m 173 #[.val (.int pf), .val (.int px), .val (.int py), .val (.int pd), .val (.int (v0_1 pf)), .val (.int (v0_2 pf)), .val (.int (v0_3 pf)), .val (.int (v0_4 pf)), .val (.int (v0_5 px)), .val (.int (v0_6 py)), .val (.ref b13), .val (.int (v0_5 px)), .val (.int (v0_6 py))] [(.int (v0_5 px)), (.int (v0_19 pd px py))])) _
            refine XS.icmpNo X101.here hx rfl (hb hby at_173) rfl (teq hc173_103).2 ?_
            show Steps p.tables e below (T101.setTop (mkF m 176 #[.val (.int pf), .val (.int px), .val (.int py), .val (.int pd), .val (.int (v0_1 pf)), .val (.int (v0_2 pf)), .val (.int (v0_3 pf)), .val (.int (v0_4 pf)), .val (.int (v0_5 px)), .val (.int (v0_6 py)), .val (.ref b13), .val (.int (v0_5 px)), .val (.int (v0_6 py))] [])) _
            refine XS.aload X101.here hx rfl (hb hby at_176) rfl rfl ?_
            show Steps p.tables e below (T101.setTop (mkF m 178 #[.val (.int pf), .val (.int px), .val (.int py), .val (.int pd), .val (.int (v0_1 pf)), .val (.int (v0_2 pf)), .val (.int (v0_3 pf)), .val (.int (v0_4 pf)), .val (.int (v0_5 px)), .val (.int (v0_6 py)), .val (.ref b13), .val (.int (v0_5 px)), .val (.int (v0_6 py))] [(.ref b13)])) _
            refine XS.iconst X101.here hx rfl (hb hby at_178) ?_
            show Steps p.tables e below (T101.setTop (mkF m 179 #[.val (.int pf), .val (.int px), .val (.int py), .val (.int pd), .val (.int (v0_1 pf)), .val (.int (v0_2 pf)), .val (.int (v0_3 pf)), .val (.int (v0_4 pf)), .val (.int (v0_5 px)), .val (.int (v0_6 py)), .val (.ref b13), .val (.int (v0_5 px)), .val (.int (v0_6 py))] [(.int (1 : Int32)), (.ref b13)])) _
            refine XS.iloadN X101.here hx rfl (hb hby at_179) rfl ?_
            show Steps p.tables e below (T101.setTop (mkF m 180 #[.val (.int pf), .val (.int px), .val (.int py), .val (.int pd), .val (.int (v0_1 pf)), .val (.int (v0_2 pf)), .val (.int (v0_3 pf)), .val (.int (v0_4 pf)), .val (.int (v0_5 px)), .val (.int (v0_6 py)), .val (.ref b13), .val (.int (v0_5 px)), .val (.int (v0_6 py))] [(.int pd), (.int (1 : Int32)), (.ref b13)])) _
            refine st104.trans ?_
            show Steps p.tables e below (T104.setTop (mkF m 183 #[.val (.int pf), .val (.int px), .val (.int py), .val (.int pd), .val (.int (v0_1 pf)), .val (.int (v0_2 pf)), .val (.int (v0_3 pf)), .val (.int (v0_4 pf)), .val (.int (v0_5 px)), .val (.int (v0_6 py)), .val (.ref b13), .val (.int (v0_5 px)), .val (.int (v0_6 py))] [(.int (v0_20 pd px py))])) _
            refine XS.iload X104.here hx rfl (hb hby at_183) rfl ?_
            show Steps p.tables e below (T104.setTop (mkF m 185 #[.val (.int pf), .val (.int px), .val (.int py), .val (.int pd), .val (.int (v0_1 pf)), .val (.int (v0_2 pf)), .val (.int (v0_3 pf)), .val (.int (v0_4 pf)), .val (.int (v0_5 px)), .val (.int (v0_6 py)), .val (.ref b13), .val (.int (v0_5 px)), .val (.int (v0_6 py))] [(.int (v0_6 py)), (.int (v0_20 pd px py))])) _
            exact k)
          by_cases hc185_106 : (v0_20 pd px py) = (v0_6 py)
          · obtain ⟨cq107, kq107, q107a, q107b, q107c⟩ := isOf hZ e104 ((((((((A13.keep Kq14).keep Kq15).keep Kq68).keep Kq69).keep Kq95).keep Kq96).keep Kq97))
            obtain ⟨_, _, ⟨T107, L107, k107, n107⟩, -, X107, ⟨Lc107, hQ107, l107, y107, z107⟩, st107⟩ := X104.virtualBack hx (y := (⟨"com/example/glowcursor/glowcursor/parser/ControlSequence", "parameter", "(II)I"⟩ : MethodName)) (z := (⟨"com/example/glowcursor/glowcursor/parser/ControlSequence", "parameter", "(II)I"⟩ : MethodName)) hown (mvT hZ (hw _ (List.mem_of_getElem? (i := 41) rfl))) (mvT hZ (hw _ (List.mem_of_getElem? (i := 42) rfl))) (notFace_of_selects (args := #[]) (mvT hZ (hw _ (List.mem_of_getElem? (i := 44) rfl)))) (mvT hZ (hw _ (List.mem_of_getElem? (i := 44) rfl))) (mvT hZ (hw _ (List.mem_of_getElem? (i := 43) rfl))) (by decide) (backOf (W := 0) (rm6 l Z a0 hw [] b13 (2 : Int32) pd (3 : Int32) pa ka (setI (setI (setI (List.replicate (32 : Int32).toNatClampNeg 0) (0 : Int32) (v0_5 px)) (1 : Int32) (v0_6 py)) (2 : Int32) (-1 : Int32)) T97.heap n0 Z97 ((((((((A13.keep Kq14).keep Kq15).keep Kq68).keep Kq69).keep Kq95).keep Kq96).keep Kq97)) (Fq97_2) (Fq97_0) (Vq97_0) (by decide)) hZ (hw _ (List.mem_of_getElem? (i := 45) rfl)) (hw _ (List.mem_of_getElem? (i := 3) rfl)) (by decide) (by decide)) q107a q107c (g := (mkF m 192 #[.val (.int pf), .val (.int px), .val (.int py), .val (.int pd), .val (.int (v0_1 pf)), .val (.int (v0_2 pf)), .val (.int (v0_3 pf)), .val (.int (v0_4 pf)), .val (.int (v0_5 px)), .val (.int (v0_6 py)), .val (.ref b13), .val (.int (v0_5 px)), .val (.int (v0_6 py))] [(.int pd), (.int (2 : Int32)), (.ref b13)])) rfl (by rw [hml]; rfl) (Steps.refl _) (argsL := [(.int (2 : Int32)), (.int pd)]) (rest := []) (lenOf pd_3 rfl) rfl (by show 2 * 0 + _ ≤ _; exact Nat.le_of_eq rfl) (hb hby at_192) (fun _ _ => ⟨rfl, e104, (by decide : 3 + 0 ≤ _), (by decide : 72 + 0 ≤ _)⟩)
            dsimp only [Pt.U, Pt.locs, Pt.cells, Pt.slots] at X107 l107 y107 z107 st107 hQ107
            subst l107 y107 z107
            obtain ⟨rfl, N107q, e107⟩ := hQ107
            have N107 := Fr.app N104 N107q
            have pre108 : ∀ t, Steps p.tables e below (T107.setTop (mkF m 196 #[.val (.int pf), .val (.int px), .val (.int py), .val (.int pd), .val (.int (v0_1 pf)), .val (.int (v0_2 pf)), .val (.int (v0_3 pf)), .val (.int (v0_4 pf)), .val (.int (v0_5 px)), .val (.int (v0_6 py)), .val (.ref b13), .val (.int (v0_5 px)), .val (.int (v0_6 py))] [(.int pd), (.int (v0_21 pd px py))])) t → Steps p.tables e below (s₁.setTop (entryFrame m #[(.int pf), (.int px), (.int py), (.int pd)] maxLocals)) t := fun t k => pre105 t (by
              show Steps p.tables e below (T104.setTop (mkF m 185 #[.val (.int pf), .val (.int px), .val (.int py), .val (.int pd), .val (.int (v0_1 pf)), .val (.int (v0_2 pf)), .val (.int (v0_3 pf)), .val (.int (v0_4 pf)), .val (.int (v0_5 px)), .val (.int (v0_6 py)), .val (.ref b13), .val (.int (v0_5 px)), .val (.int (v0_6 py))] [(.int (v0_6 py)), (.int (v0_20 pd px py))])) _
              refine XS.icmpNo X104.here hx rfl (hb hby at_185) rfl (teq hc185_106).2 ?_
              show Steps p.tables e below (T104.setTop (mkF m 188 #[.val (.int pf), .val (.int px), .val (.int py), .val (.int pd), .val (.int (v0_1 pf)), .val (.int (v0_2 pf)), .val (.int (v0_3 pf)), .val (.int (v0_4 pf)), .val (.int (v0_5 px)), .val (.int (v0_6 py)), .val (.ref b13), .val (.int (v0_5 px)), .val (.int (v0_6 py))] [])) _
              refine XS.aload X104.here hx rfl (hb hby at_188) rfl rfl ?_
              show Steps p.tables e below (T104.setTop (mkF m 190 #[.val (.int pf), .val (.int px), .val (.int py), .val (.int pd), .val (.int (v0_1 pf)), .val (.int (v0_2 pf)), .val (.int (v0_3 pf)), .val (.int (v0_4 pf)), .val (.int (v0_5 px)), .val (.int (v0_6 py)), .val (.ref b13), .val (.int (v0_5 px)), .val (.int (v0_6 py))] [(.ref b13)])) _
              refine XS.iconst X104.here hx rfl (hb hby at_190) ?_
              show Steps p.tables e below (T104.setTop (mkF m 191 #[.val (.int pf), .val (.int px), .val (.int py), .val (.int pd), .val (.int (v0_1 pf)), .val (.int (v0_2 pf)), .val (.int (v0_3 pf)), .val (.int (v0_4 pf)), .val (.int (v0_5 px)), .val (.int (v0_6 py)), .val (.ref b13), .val (.int (v0_5 px)), .val (.int (v0_6 py))] [(.int (2 : Int32)), (.ref b13)])) _
              refine XS.iloadN X104.here hx rfl (hb hby at_191) rfl ?_
              show Steps p.tables e below (T104.setTop (mkF m 192 #[.val (.int pf), .val (.int px), .val (.int py), .val (.int pd), .val (.int (v0_1 pf)), .val (.int (v0_2 pf)), .val (.int (v0_3 pf)), .val (.int (v0_4 pf)), .val (.int (v0_5 px)), .val (.int (v0_6 py)), .val (.ref b13), .val (.int (v0_5 px)), .val (.int (v0_6 py))] [(.int pd), (.int (2 : Int32)), (.ref b13)])) _
              refine st107.trans ?_
              show Steps p.tables e below (T107.setTop (mkF m 195 #[.val (.int pf), .val (.int px), .val (.int py), .val (.int pd), .val (.int (v0_1 pf)), .val (.int (v0_2 pf)), .val (.int (v0_3 pf)), .val (.int (v0_4 pf)), .val (.int (v0_5 px)), .val (.int (v0_6 py)), .val (.ref b13), .val (.int (v0_5 px)), .val (.int (v0_6 py))] [(.int (v0_21 pd px py))])) _
              refine XS.iloadN X107.here hx rfl (hb hby at_195) rfl ?_
              show Steps p.tables e below (T107.setTop (mkF m 196 #[.val (.int pf), .val (.int px), .val (.int py), .val (.int pd), .val (.int (v0_1 pf)), .val (.int (v0_2 pf)), .val (.int (v0_3 pf)), .val (.int (v0_4 pf)), .val (.int (v0_5 px)), .val (.int (v0_6 py)), .val (.ref b13), .val (.int (v0_5 px)), .val (.int (v0_6 py))] [(.int pd), (.int (v0_21 pd px py))])) _
              exact k)
            by_cases hc196_109 : (v0_21 pd px py) = pd
            · obtain ⟨cq110, kq110, q110a, q110b, q110c⟩ := isOf hZ e107 ((((((((A13.keep Kq14).keep Kq15).keep Kq68).keep Kq69).keep Kq95).keep Kq96).keep Kq97))
              obtain ⟨_, _, ⟨T110, L110, k110, n110⟩, -, X110, ⟨Lc110, hQ110, l110, y110, z110⟩, st110⟩ := X107.virtualBack hx (y := (⟨"com/example/glowcursor/glowcursor/parser/ControlSequence", "isSubParameter", "(I)Z"⟩ : MethodName)) (z := (⟨"com/example/glowcursor/glowcursor/parser/ControlSequence", "isSubParameter", "(I)Z"⟩ : MethodName)) hown (mvT hZ (hw _ (List.mem_of_getElem? (i := 46) rfl))) (mvT hZ (hw _ (List.mem_of_getElem? (i := 47) rfl))) (notFace_of_selects (args := #[]) (mvT hZ (hw _ (List.mem_of_getElem? (i := 49) rfl)))) (mvT hZ (hw _ (List.mem_of_getElem? (i := 49) rfl))) (mvT hZ (hw _ (List.mem_of_getElem? (i := 48) rfl))) (by decide) (backOf (W := 0) (rm7 l Z a0 hw [] b13 (0 : Int32) (3 : Int32) sa kb (setI (setI (setI (List.replicate (32 : Int32).toNatClampNeg 0) (0 : Int32) (nar .boolean (0 : Int32))) (1 : Int32) (nar .boolean (nar .boolean (v0_2 pf)))) (2 : Int32) (nar .boolean (nar .boolean (v0_4 pf)))) T97.heap n0 Z97 ((((((((A13.keep Kq14).keep Kq15).keep Kq68).keep Kq69).keep Kq95).keep Kq96).keep Kq97)) (Fq97_2) (Fq97_1) (Vq97_1) (by decide)) hZ (hw _ (List.mem_of_getElem? (i := 50) rfl)) (hw _ (List.mem_of_getElem? (i := 3) rfl)) (by decide) (by decide)) q110a q110c (g := (mkF m 202 #[.val (.int pf), .val (.int px), .val (.int py), .val (.int pd), .val (.int (v0_1 pf)), .val (.int (v0_2 pf)), .val (.int (v0_3 pf)), .val (.int (v0_4 pf)), .val (.int (v0_5 px)), .val (.int (v0_6 py)), .val (.ref b13), .val (.int (v0_5 px)), .val (.int (v0_6 py))] [(.int (0 : Int32)), (.ref b13)])) rfl (by rw [hml]; rfl) (Steps.refl _) (argsL := [(.int (0 : Int32))]) (rest := []) (lenOf pd_4 rfl) rfl (by show 2 * 0 + _ ≤ _; exact Nat.le_of_eq rfl) (hb hby at_202) (fun _ _ => ⟨rfl, e107, (by decide : 3 + 0 ≤ _), (by decide : 72 + 0 ≤ _)⟩)
              dsimp only [Pt.U, Pt.locs, Pt.cells, Pt.slots] at X110 l110 y110 z110 st110 hQ110
              subst l110 y110 z110
              obtain ⟨rfl, N110q, e110⟩ := hQ110
              have N110 := Fr.app N107 N110q
              have pre111 : ∀ t, Steps p.tables e below (T110.setTop (mkF m 205 #[.val (.int pf), .val (.int px), .val (.int py), .val (.int pd), .val (.int (v0_1 pf)), .val (.int (v0_2 pf)), .val (.int (v0_3 pf)), .val (.int (v0_4 pf)), .val (.int (v0_5 px)), .val (.int (v0_6 py)), .val (.ref b13), .val (.int (v0_5 px)), .val (.int (v0_6 py))] [(.int (v0_10 pf))])) t → Steps p.tables e below (s₁.setTop (entryFrame m #[(.int pf), (.int px), (.int py), (.int pd)] maxLocals)) t := fun t k => pre108 t (by
                show Steps p.tables e below (T107.setTop (mkF m 196 #[.val (.int pf), .val (.int px), .val (.int py), .val (.int pd), .val (.int (v0_1 pf)), .val (.int (v0_2 pf)), .val (.int (v0_3 pf)), .val (.int (v0_4 pf)), .val (.int (v0_5 px)), .val (.int (v0_6 py)), .val (.ref b13), .val (.int (v0_5 px)), .val (.int (v0_6 py))] [(.int pd), (.int (v0_21 pd px py))])) _
                refine XS.icmpNo X107.here hx rfl (hb hby at_196) rfl (teq hc196_109).2 ?_
                show Steps p.tables e below (T107.setTop (mkF m 199 #[.val (.int pf), .val (.int px), .val (.int py), .val (.int pd), .val (.int (v0_1 pf)), .val (.int (v0_2 pf)), .val (.int (v0_3 pf)), .val (.int (v0_4 pf)), .val (.int (v0_5 px)), .val (.int (v0_6 py)), .val (.ref b13), .val (.int (v0_5 px)), .val (.int (v0_6 py))] [])) _
                refine XS.aload X107.here hx rfl (hb hby at_199) rfl rfl ?_
                show Steps p.tables e below (T107.setTop (mkF m 201 #[.val (.int pf), .val (.int px), .val (.int py), .val (.int pd), .val (.int (v0_1 pf)), .val (.int (v0_2 pf)), .val (.int (v0_3 pf)), .val (.int (v0_4 pf)), .val (.int (v0_5 px)), .val (.int (v0_6 py)), .val (.ref b13), .val (.int (v0_5 px)), .val (.int (v0_6 py))] [(.ref b13)])) _
                refine XS.iconst X107.here hx rfl (hb hby at_201) ?_
                show Steps p.tables e below (T107.setTop (mkF m 202 #[.val (.int pf), .val (.int px), .val (.int py), .val (.int pd), .val (.int (v0_1 pf)), .val (.int (v0_2 pf)), .val (.int (v0_3 pf)), .val (.int (v0_4 pf)), .val (.int (v0_5 px)), .val (.int (v0_6 py)), .val (.ref b13), .val (.int (v0_5 px)), .val (.int (v0_6 py))] [(.int (0 : Int32)), (.ref b13)])) _
                refine st110.trans ?_
                show Steps p.tables e below (T110.setTop (mkF m 205 #[.val (.int pf), .val (.int px), .val (.int py), .val (.int pd), .val (.int (v0_1 pf)), .val (.int (v0_2 pf)), .val (.int (v0_3 pf)), .val (.int (v0_4 pf)), .val (.int (v0_5 px)), .val (.int (v0_6 py)), .val (.ref b13), .val (.int (v0_5 px)), .val (.int (v0_6 py))] [(.int (v0_10 pf))])) _
                exact k)
              by_cases hc205_112 : (v0_10 pf) = (0 : Int32)
              · obtain ⟨cq113, kq113, q113a, q113b, q113c⟩ := isOf hZ e110 ((((((((A13.keep Kq14).keep Kq15).keep Kq68).keep Kq69).keep Kq95).keep Kq96).keep Kq97))
                obtain ⟨_, _, ⟨T113, L113, k113, n113⟩, -, X113, ⟨Lc113, hQ113, l113, y113, z113⟩, st113⟩ := X110.virtualBack hx (y := (⟨"com/example/glowcursor/glowcursor/parser/ControlSequence", "isSubParameter", "(I)Z"⟩ : MethodName)) (z := (⟨"com/example/glowcursor/glowcursor/parser/ControlSequence", "isSubParameter", "(I)Z"⟩ : MethodName)) hown (mvT hZ (hw _ (List.mem_of_getElem? (i := 46) rfl))) (mvT hZ (hw _ (List.mem_of_getElem? (i := 47) rfl))) (notFace_of_selects (args := #[]) (mvT hZ (hw _ (List.mem_of_getElem? (i := 49) rfl)))) (mvT hZ (hw _ (List.mem_of_getElem? (i := 49) rfl))) (mvT hZ (hw _ (List.mem_of_getElem? (i := 48) rfl))) (by decide) (backOf (W := 0) (rm7 l Z a0 hw [] b13 (1 : Int32) (3 : Int32) sa kb (setI (setI (setI (List.replicate (32 : Int32).toNatClampNeg 0) (0 : Int32) (nar .boolean (0 : Int32))) (1 : Int32) (nar .boolean (nar .boolean (v0_2 pf)))) (2 : Int32) (nar .boolean (nar .boolean (v0_4 pf)))) T97.heap n0 Z97 ((((((((A13.keep Kq14).keep Kq15).keep Kq68).keep Kq69).keep Kq95).keep Kq96).keep Kq97)) (Fq97_2) (Fq97_1) (Vq97_1) (by decide)) hZ (hw _ (List.mem_of_getElem? (i := 50) rfl)) (hw _ (List.mem_of_getElem? (i := 3) rfl)) (by decide) (by decide)) q113a q113c (g := (mkF m 211 #[.val (.int pf), .val (.int px), .val (.int py), .val (.int pd), .val (.int (v0_1 pf)), .val (.int (v0_2 pf)), .val (.int (v0_3 pf)), .val (.int (v0_4 pf)), .val (.int (v0_5 px)), .val (.int (v0_6 py)), .val (.ref b13), .val (.int (v0_5 px)), .val (.int (v0_6 py))] [(.int (1 : Int32)), (.ref b13)])) rfl (by rw [hml]; rfl) (Steps.refl _) (argsL := [(.int (1 : Int32))]) (rest := []) (lenOf pd_4 rfl) rfl (by show 2 * 0 + _ ≤ _; exact Nat.le_of_eq rfl) (hb hby at_211) (fun _ _ => ⟨rfl, e110, (by decide : 3 + 0 ≤ _), (by decide : 72 + 0 ≤ _)⟩)
                dsimp only [Pt.U, Pt.locs, Pt.cells, Pt.slots] at X113 l113 y113 z113 st113 hQ113
                subst l113 y113 z113
                obtain ⟨rfl, N113q, e113⟩ := hQ113
                have N113 := Fr.app N110 N113q
                have pre114 : ∀ t, Steps p.tables e below (T113.setTop (mkF m 216 #[.val (.int pf), .val (.int px), .val (.int py), .val (.int pd), .val (.int (v0_1 pf)), .val (.int (v0_2 pf)), .val (.int (v0_3 pf)), .val (.int (v0_4 pf)), .val (.int (v0_5 px)), .val (.int (v0_6 py)), .val (.ref b13), .val (.int (v0_5 px)), .val (.int (v0_6 py))] [(.int (v0_2 pf)), (.int (v0_11 pf))])) t → Steps p.tables e below (s₁.setTop (entryFrame m #[(.int pf), (.int px), (.int py), (.int pd)] maxLocals)) t := fun t k => pre111 t (by
                  show Steps p.tables e below (T110.setTop (mkF m 205 #[.val (.int pf), .val (.int px), .val (.int py), .val (.int pd), .val (.int (v0_1 pf)), .val (.int (v0_2 pf)), .val (.int (v0_3 pf)), .val (.int (v0_4 pf)), .val (.int (v0_5 px)), .val (.int (v0_6 py)), .val (.ref b13), .val (.int (v0_5 px)), .val (.int (v0_6 py))] [(.int (v0_10 pf))])) _
                  refine XS.ifNo X110.here hx rfl (hb hby at_205) rfl ((if0 _ _).trans (teq hc205_112).2) ?_
                  show Steps p.tables e below (T110.setTop (mkF m 208 #[.val (.int pf), .val (.int px), .val (.int py), .val (.int pd), .val (.int (v0_1 pf)), .val (.int (v0_2 pf)), .val (.int (v0_3 pf)), .val (.int (v0_4 pf)), .val (.int (v0_5 px)), .val (.int (v0_6 py)), .val (.ref b13), .val (.int (v0_5 px)), .val (.int (v0_6 py))] [])) _
                  refine XS.aload X110.here hx rfl (hb hby at_208) rfl rfl ?_
                  show Steps p.tables e below (T110.setTop (mkF m 210 #[.val (.int pf), .val (.int px), .val (.int py), .val (.int pd), .val (.int (v0_1 pf)), .val (.int (v0_2 pf)), .val (.int (v0_3 pf)), .val (.int (v0_4 pf)), .val (.int (v0_5 px)), .val (.int (v0_6 py)), .val (.ref b13), .val (.int (v0_5 px)), .val (.int (v0_6 py))] [(.ref b13)])) _
                  refine XS.iconst X110.here hx rfl (hb hby at_210) ?_
                  show Steps p.tables e below (T110.setTop (mkF m 211 #[.val (.int pf), .val (.int px), .val (.int py), .val (.int pd), .val (.int (v0_1 pf)), .val (.int (v0_2 pf)), .val (.int (v0_3 pf)), .val (.int (v0_4 pf)), .val (.int (v0_5 px)), .val (.int (v0_6 py)), .val (.ref b13), .val (.int (v0_5 px)), .val (.int (v0_6 py))] [(.int (1 : Int32)), (.ref b13)])) _
                  refine st113.trans ?_
                  show Steps p.tables e below (T113.setTop (mkF m 214 #[.val (.int pf), .val (.int px), .val (.int py), .val (.int pd), .val (.int (v0_1 pf)), .val (.int (v0_2 pf)), .val (.int (v0_3 pf)), .val (.int (v0_4 pf)), .val (.int (v0_5 px)), .val (.int (v0_6 py)), .val (.ref b13), .val (.int (v0_5 px)), .val (.int (v0_6 py))] [(.int (v0_11 pf))])) _
                  refine XS.iload X113.here hx rfl (hb hby at_214) rfl ?_
                  show Steps p.tables e below (T113.setTop (mkF m 216 #[.val (.int pf), .val (.int px), .val (.int py), .val (.int pd), .val (.int (v0_1 pf)), .val (.int (v0_2 pf)), .val (.int (v0_3 pf)), .val (.int (v0_4 pf)), .val (.int (v0_5 px)), .val (.int (v0_6 py)), .val (.ref b13), .val (.int (v0_5 px)), .val (.int (v0_6 py))] [(.int (v0_2 pf)), (.int (v0_11 pf))])) _
                  exact k)
                by_cases hc216_115 : (v0_11 pf) = (v0_2 pf)
                · obtain ⟨cq116, kq116, q116a, q116b, q116c⟩ := isOf hZ e113 ((((((((A13.keep Kq14).keep Kq15).keep Kq68).keep Kq69).keep Kq95).keep Kq96).keep Kq97))
                  obtain ⟨_, _, ⟨T116, L116, k116, n116⟩, -, X116, ⟨Lc116, hQ116, l116, y116, z116⟩, st116⟩ := X113.virtualBack hx (y := (⟨"com/example/glowcursor/glowcursor/parser/ControlSequence", "isSubParameter", "(I)Z"⟩ : MethodName)) (z := (⟨"com/example/glowcursor/glowcursor/parser/ControlSequence", "isSubParameter", "(I)Z"⟩ : MethodName)) hown (mvT hZ (hw _ (List.mem_of_getElem? (i := 46) rfl))) (mvT hZ (hw _ (List.mem_of_getElem? (i := 47) rfl))) (notFace_of_selects (args := #[]) (mvT hZ (hw _ (List.mem_of_getElem? (i := 49) rfl)))) (mvT hZ (hw _ (List.mem_of_getElem? (i := 49) rfl))) (mvT hZ (hw _ (List.mem_of_getElem? (i := 48) rfl))) (by decide) (backOf (W := 0) (rm7 l Z a0 hw [] b13 (2 : Int32) (3 : Int32) sa kb (setI (setI (setI (List.replicate (32 : Int32).toNatClampNeg 0) (0 : Int32) (nar .boolean (0 : Int32))) (1 : Int32) (nar .boolean (nar .boolean (v0_2 pf)))) (2 : Int32) (nar .boolean (nar .boolean (v0_4 pf)))) T97.heap n0 Z97 ((((((((A13.keep Kq14).keep Kq15).keep Kq68).keep Kq69).keep Kq95).keep Kq96).keep Kq97)) (Fq97_2) (Fq97_1) (Vq97_1) (by decide)) hZ (hw _ (List.mem_of_getElem? (i := 50) rfl)) (hw _ (List.mem_of_getElem? (i := 3) rfl)) (by decide) (by decide)) q116a q116c (g := (mkF m 222 #[.val (.int pf), .val (.int px), .val (.int py), .val (.int pd), .val (.int (v0_1 pf)), .val (.int (v0_2 pf)), .val (.int (v0_3 pf)), .val (.int (v0_4 pf)), .val (.int (v0_5 px)), .val (.int (v0_6 py)), .val (.ref b13), .val (.int (v0_5 px)), .val (.int (v0_6 py))] [(.int (2 : Int32)), (.ref b13)])) rfl (by rw [hml]; rfl) (Steps.refl _) (argsL := [(.int (2 : Int32))]) (rest := []) (lenOf pd_4 rfl) rfl (by show 2 * 0 + _ ≤ _; exact Nat.le_of_eq rfl) (hb hby at_222) (fun _ _ => ⟨rfl, e113, (by decide : 3 + 0 ≤ _), (by decide : 72 + 0 ≤ _)⟩)
                  dsimp only [Pt.U, Pt.locs, Pt.cells, Pt.slots] at X116 l116 y116 z116 st116 hQ116
                  subst l116 y116 z116
                  obtain ⟨rfl, N116q, e116⟩ := hQ116
                  have N116 := Fr.app N113 N116q
                  have pre117 : ∀ t, Steps p.tables e below (T116.setTop (mkF m 227 #[.val (.int pf), .val (.int px), .val (.int py), .val (.int pd), .val (.int (v0_1 pf)), .val (.int (v0_2 pf)), .val (.int (v0_3 pf)), .val (.int (v0_4 pf)), .val (.int (v0_5 px)), .val (.int (v0_6 py)), .val (.ref b13), .val (.int (v0_5 px)), .val (.int (v0_6 py))] [(.int (v0_4 pf)), (.int (v0_12 pf))])) t → Steps p.tables e below (s₁.setTop (entryFrame m #[(.int pf), (.int px), (.int py), (.int pd)] maxLocals)) t := fun t k => pre114 t (by
                    show Steps p.tables e below (T113.setTop (mkF m 216 #[.val (.int pf), .val (.int px), .val (.int py), .val (.int pd), .val (.int (v0_1 pf)), .val (.int (v0_2 pf)), .val (.int (v0_3 pf)), .val (.int (v0_4 pf)), .val (.int (v0_5 px)), .val (.int (v0_6 py)), .val (.ref b13), .val (.int (v0_5 px)), .val (.int (v0_6 py))] [(.int (v0_2 pf)), (.int (v0_11 pf))])) _
                    refine XS.icmpNo X113.here hx rfl (hb hby at_216) rfl (teq hc216_115).2 ?_
                    show Steps p.tables e below (T113.setTop (mkF m 219 #[.val (.int pf), .val (.int px), .val (.int py), .val (.int pd), .val (.int (v0_1 pf)), .val (.int (v0_2 pf)), .val (.int (v0_3 pf)), .val (.int (v0_4 pf)), .val (.int (v0_5 px)), .val (.int (v0_6 py)), .val (.ref b13), .val (.int (v0_5 px)), .val (.int (v0_6 py))] [])) _
                    refine XS.aload X113.here hx rfl (hb hby at_219) rfl rfl ?_
                    show Steps p.tables e below (T113.setTop (mkF m 221 #[.val (.int pf), .val (.int px), .val (.int py), .val (.int pd), .val (.int (v0_1 pf)), .val (.int (v0_2 pf)), .val (.int (v0_3 pf)), .val (.int (v0_4 pf)), .val (.int (v0_5 px)), .val (.int (v0_6 py)), .val (.ref b13), .val (.int (v0_5 px)), .val (.int (v0_6 py))] [(.ref b13)])) _
                    refine XS.iconst X113.here hx rfl (hb hby at_221) ?_
                    show Steps p.tables e below (T113.setTop (mkF m 222 #[.val (.int pf), .val (.int px), .val (.int py), .val (.int pd), .val (.int (v0_1 pf)), .val (.int (v0_2 pf)), .val (.int (v0_3 pf)), .val (.int (v0_4 pf)), .val (.int (v0_5 px)), .val (.int (v0_6 py)), .val (.ref b13), .val (.int (v0_5 px)), .val (.int (v0_6 py))] [(.int (2 : Int32)), (.ref b13)])) _
                    refine st116.trans ?_
                    show Steps p.tables e below (T116.setTop (mkF m 225 #[.val (.int pf), .val (.int px), .val (.int py), .val (.int pd), .val (.int (v0_1 pf)), .val (.int (v0_2 pf)), .val (.int (v0_3 pf)), .val (.int (v0_4 pf)), .val (.int (v0_5 px)), .val (.int (v0_6 py)), .val (.ref b13), .val (.int (v0_5 px)), .val (.int (v0_6 py))] [(.int (v0_12 pf))])) _
                    refine XS.iload X116.here hx rfl (hb hby at_225) rfl ?_
                    show Steps p.tables e below (T116.setTop (mkF m 227 #[.val (.int pf), .val (.int px), .val (.int py), .val (.int pd), .val (.int (v0_1 pf)), .val (.int (v0_2 pf)), .val (.int (v0_3 pf)), .val (.int (v0_4 pf)), .val (.int (v0_5 px)), .val (.int (v0_6 py)), .val (.ref b13), .val (.int (v0_5 px)), .val (.int (v0_6 py))] [(.int (v0_4 pf)), (.int (v0_12 pf))])) _
                    exact k)
                  by_cases hc227_118 : (v0_12 pf) = (v0_4 pf)
                  · have hv : (f0 pf px py pd) = (1 : Int32) := by simp only [f0, if_neg hc87_17, if_neg hc106_71, if_pos hc161_100, if_pos hc173_103, if_pos hc185_106, if_pos hc196_109, if_pos hc205_112, if_pos hc216_115, if_pos hc227_118]
                    obtain ⟨fs, hr, hrun, hended, hW, hsame⟩ := X116.leave (v := some (.int (1 : Int32))) (fun h => by rw [Bd.returns] at h; cases h)
                    refine ⟨_, _, pre117 _ ?_, hrun, hended, _, _, rfl, ?_, ⟨_, rfl⟩, hW, hsame.mono (by decide) (by decide)⟩
                    · show Steps p.tables e below (T116.setTop (mkF m 227 #[.val (.int pf), .val (.int px), .val (.int py), .val (.int pd), .val (.int (v0_1 pf)), .val (.int (v0_2 pf)), .val (.int (v0_3 pf)), .val (.int (v0_4 pf)), .val (.int (v0_5 px)), .val (.int (v0_6 py)), .val (.ref b13), .val (.int (v0_5 px)), .val (.int (v0_6 py))] [(.int (v0_4 pf)), (.int (v0_12 pf))])) _
                      refine XS.icmpNo X116.here hx rfl (hb hby at_227) rfl (teq hc227_118).2 ?_
                      show Steps p.tables e below (T116.setTop (mkF m 230 #[.val (.int pf), .val (.int px), .val (.int py), .val (.int pd), .val (.int (v0_1 pf)), .val (.int (v0_2 pf)), .val (.int (v0_3 pf)), .val (.int (v0_4 pf)), .val (.int (v0_5 px)), .val (.int (v0_6 py)), .val (.ref b13), .val (.int (v0_5 px)), .val (.int (v0_6 py))] [])) _
                      refine XS.iconst X116.here hx rfl (hb hby at_230) ?_
                      show Steps p.tables e below (T116.setTop (mkF m 231 #[.val (.int pf), .val (.int px), .val (.int py), .val (.int pd), .val (.int (v0_1 pf)), .val (.int (v0_2 pf)), .val (.int (v0_3 pf)), .val (.int (v0_4 pf)), .val (.int (v0_5 px)), .val (.int (v0_6 py)), .val (.ref b13), .val (.int (v0_5 px)), .val (.int (v0_6 py))] [(.int (1 : Int32))])) _
                      refine XS.goto X116.here hx rfl (pc0 := 231) (pc' := 235) rfl (hb hby at_231) (by decide) (by decide) ?_
                      show Steps p.tables e below (T116.setTop (mkF m 235 #[.val (.int pf), .val (.int px), .val (.int py), .val (.int pd), .val (.int (v0_1 pf)), .val (.int (v0_2 pf)), .val (.int (v0_3 pf)), .val (.int (v0_4 pf)), .val (.int (v0_5 px)), .val (.int (v0_6 py)), .val (.ref b13), .val (.int (v0_5 px)), .val (.int (v0_6 py))] [(.int (1 : Int32))])) _
                      exact retN X116 hx (t := .boolean) Bd.returns (by simp) (hb hby at_235) hr
                    · show Q0 Z pf px py pd h0 n0 _ T116.heap _
                      rw [e116]
                      exact ⟨by rw [hv], N116⟩
                  · have hv : (f0 pf px py pd) = (0 : Int32) := by simp only [f0, if_neg hc87_17, if_neg hc106_71, if_pos hc161_100, if_pos hc173_103, if_pos hc185_106, if_pos hc196_109, if_pos hc205_112, if_pos hc216_115, if_neg hc227_118]
                    obtain ⟨fs, hr, hrun, hended, hW, hsame⟩ := X116.leave (v := some (.int (0 : Int32))) (fun h => by rw [Bd.returns] at h; cases h)
                    refine ⟨_, _, pre117 _ ?_, hrun, hended, _, _, rfl, ?_, ⟨_, rfl⟩, hW, hsame.mono (by decide) (by decide)⟩
                    · show Steps p.tables e below (T116.setTop (mkF m 227 #[.val (.int pf), .val (.int px), .val (.int py), .val (.int pd), .val (.int (v0_1 pf)), .val (.int (v0_2 pf)), .val (.int (v0_3 pf)), .val (.int (v0_4 pf)), .val (.int (v0_5 px)), .val (.int (v0_6 py)), .val (.ref b13), .val (.int (v0_5 px)), .val (.int (v0_6 py))] [(.int (v0_4 pf)), (.int (v0_12 pf))])) _
                      refine XS.icmpYes X116.here hx rfl (pc0 := 227) (pc' := 234) rfl (hb hby at_227) rfl (feq hc227_118).2 (by decide) (by decide) ?_
                      show Steps p.tables e below (T116.setTop (mkF m 234 #[.val (.int pf), .val (.int px), .val (.int py), .val (.int pd), .val (.int (v0_1 pf)), .val (.int (v0_2 pf)), .val (.int (v0_3 pf)), .val (.int (v0_4 pf)), .val (.int (v0_5 px)), .val (.int (v0_6 py)), .val (.ref b13), .val (.int (v0_5 px)), .val (.int (v0_6 py))] [])) _
                      refine XS.iconst X116.here hx rfl (hb hby at_234) ?_
                      show Steps p.tables e below (T116.setTop (mkF m 235 #[.val (.int pf), .val (.int px), .val (.int py), .val (.int pd), .val (.int (v0_1 pf)), .val (.int (v0_2 pf)), .val (.int (v0_3 pf)), .val (.int (v0_4 pf)), .val (.int (v0_5 px)), .val (.int (v0_6 py)), .val (.ref b13), .val (.int (v0_5 px)), .val (.int (v0_6 py))] [(.int (0 : Int32))])) _
                      exact retN X116 hx (t := .boolean) Bd.returns (by simp) (hb hby at_235) hr
                    · show Q0 Z pf px py pd h0 n0 _ T116.heap _
                      rw [e116]
                      exact ⟨by rw [hv], N116⟩
                · have hv : (f0 pf px py pd) = (0 : Int32) := by simp only [f0, if_neg hc87_17, if_neg hc106_71, if_pos hc161_100, if_pos hc173_103, if_pos hc185_106, if_pos hc196_109, if_pos hc205_112, if_neg hc216_115]
                  obtain ⟨fs, hr, hrun, hended, hW, hsame⟩ := X113.leave (v := some (.int (0 : Int32))) (fun h => by rw [Bd.returns] at h; cases h)
                  refine ⟨_, _, pre114 _ ?_, hrun, hended, _, _, rfl, ?_, ⟨_, rfl⟩, hW, hsame.mono (by decide) (by decide)⟩
                  · show Steps p.tables e below (T113.setTop (mkF m 216 #[.val (.int pf), .val (.int px), .val (.int py), .val (.int pd), .val (.int (v0_1 pf)), .val (.int (v0_2 pf)), .val (.int (v0_3 pf)), .val (.int (v0_4 pf)), .val (.int (v0_5 px)), .val (.int (v0_6 py)), .val (.ref b13), .val (.int (v0_5 px)), .val (.int (v0_6 py))] [(.int (v0_2 pf)), (.int (v0_11 pf))])) _
                    refine XS.icmpYes X113.here hx rfl (pc0 := 216) (pc' := 234) rfl (hb hby at_216) rfl (feq hc216_115).2 (by decide) (by decide) ?_
                    show Steps p.tables e below (T113.setTop (mkF m 234 #[.val (.int pf), .val (.int px), .val (.int py), .val (.int pd), .val (.int (v0_1 pf)), .val (.int (v0_2 pf)), .val (.int (v0_3 pf)), .val (.int (v0_4 pf)), .val (.int (v0_5 px)), .val (.int (v0_6 py)), .val (.ref b13), .val (.int (v0_5 px)), .val (.int (v0_6 py))] [])) _
                    refine XS.iconst X113.here hx rfl (hb hby at_234) ?_
                    show Steps p.tables e below (T113.setTop (mkF m 235 #[.val (.int pf), .val (.int px), .val (.int py), .val (.int pd), .val (.int (v0_1 pf)), .val (.int (v0_2 pf)), .val (.int (v0_3 pf)), .val (.int (v0_4 pf)), .val (.int (v0_5 px)), .val (.int (v0_6 py)), .val (.ref b13), .val (.int (v0_5 px)), .val (.int (v0_6 py))] [(.int (0 : Int32))])) _
                    exact retN X113 hx (t := .boolean) Bd.returns (by simp) (hb hby at_235) hr
                  · show Q0 Z pf px py pd h0 n0 _ T113.heap _
                    rw [e113]
                    exact ⟨by rw [hv], N113⟩
              · have hv : (f0 pf px py pd) = (0 : Int32) := by simp only [f0, if_neg hc87_17, if_neg hc106_71, if_pos hc161_100, if_pos hc173_103, if_pos hc185_106, if_pos hc196_109, if_neg hc205_112]
                obtain ⟨fs, hr, hrun, hended, hW, hsame⟩ := X110.leave (v := some (.int (0 : Int32))) (fun h => by rw [Bd.returns] at h; cases h)
                refine ⟨_, _, pre111 _ ?_, hrun, hended, _, _, rfl, ?_, ⟨_, rfl⟩, hW, hsame.mono (by decide) (by decide)⟩
                · show Steps p.tables e below (T110.setTop (mkF m 205 #[.val (.int pf), .val (.int px), .val (.int py), .val (.int pd), .val (.int (v0_1 pf)), .val (.int (v0_2 pf)), .val (.int (v0_3 pf)), .val (.int (v0_4 pf)), .val (.int (v0_5 px)), .val (.int (v0_6 py)), .val (.ref b13), .val (.int (v0_5 px)), .val (.int (v0_6 py))] [(.int (v0_10 pf))])) _
                  refine XS.ifYes X110.here hx rfl (pc0 := 205) (pc' := 234) rfl (hb hby at_205) rfl ((if0 _ _).trans (feq hc205_112).2) (by decide) (by decide) ?_
                  show Steps p.tables e below (T110.setTop (mkF m 234 #[.val (.int pf), .val (.int px), .val (.int py), .val (.int pd), .val (.int (v0_1 pf)), .val (.int (v0_2 pf)), .val (.int (v0_3 pf)), .val (.int (v0_4 pf)), .val (.int (v0_5 px)), .val (.int (v0_6 py)), .val (.ref b13), .val (.int (v0_5 px)), .val (.int (v0_6 py))] [])) _
                  refine XS.iconst X110.here hx rfl (hb hby at_234) ?_
                  show Steps p.tables e below (T110.setTop (mkF m 235 #[.val (.int pf), .val (.int px), .val (.int py), .val (.int pd), .val (.int (v0_1 pf)), .val (.int (v0_2 pf)), .val (.int (v0_3 pf)), .val (.int (v0_4 pf)), .val (.int (v0_5 px)), .val (.int (v0_6 py)), .val (.ref b13), .val (.int (v0_5 px)), .val (.int (v0_6 py))] [(.int (0 : Int32))])) _
                  exact retN X110 hx (t := .boolean) Bd.returns (by simp) (hb hby at_235) hr
                · show Q0 Z pf px py pd h0 n0 _ T110.heap _
                  rw [e110]
                  exact ⟨by rw [hv], N110⟩
            · have hv : (f0 pf px py pd) = (0 : Int32) := by simp only [f0, if_neg hc87_17, if_neg hc106_71, if_pos hc161_100, if_pos hc173_103, if_pos hc185_106, if_neg hc196_109]
              obtain ⟨fs, hr, hrun, hended, hW, hsame⟩ := X107.leave (v := some (.int (0 : Int32))) (fun h => by rw [Bd.returns] at h; cases h)
              refine ⟨_, _, pre108 _ ?_, hrun, hended, _, _, rfl, ?_, ⟨_, rfl⟩, hW, hsame.mono (by decide) (by decide)⟩
              · show Steps p.tables e below (T107.setTop (mkF m 196 #[.val (.int pf), .val (.int px), .val (.int py), .val (.int pd), .val (.int (v0_1 pf)), .val (.int (v0_2 pf)), .val (.int (v0_3 pf)), .val (.int (v0_4 pf)), .val (.int (v0_5 px)), .val (.int (v0_6 py)), .val (.ref b13), .val (.int (v0_5 px)), .val (.int (v0_6 py))] [(.int pd), (.int (v0_21 pd px py))])) _
                refine XS.icmpYes X107.here hx rfl (pc0 := 196) (pc' := 234) rfl (hb hby at_196) rfl (feq hc196_109).2 (by decide) (by decide) ?_
                show Steps p.tables e below (T107.setTop (mkF m 234 #[.val (.int pf), .val (.int px), .val (.int py), .val (.int pd), .val (.int (v0_1 pf)), .val (.int (v0_2 pf)), .val (.int (v0_3 pf)), .val (.int (v0_4 pf)), .val (.int (v0_5 px)), .val (.int (v0_6 py)), .val (.ref b13), .val (.int (v0_5 px)), .val (.int (v0_6 py))] [])) _
                refine XS.iconst X107.here hx rfl (hb hby at_234) ?_
                show Steps p.tables e below (T107.setTop (mkF m 235 #[.val (.int pf), .val (.int px), .val (.int py), .val (.int pd), .val (.int (v0_1 pf)), .val (.int (v0_2 pf)), .val (.int (v0_3 pf)), .val (.int (v0_4 pf)), .val (.int (v0_5 px)), .val (.int (v0_6 py)), .val (.ref b13), .val (.int (v0_5 px)), .val (.int (v0_6 py))] [(.int (0 : Int32))])) _
                exact retN X107 hx (t := .boolean) Bd.returns (by simp) (hb hby at_235) hr
              · show Q0 Z pf px py pd h0 n0 _ T107.heap _
                rw [e107]
                exact ⟨by rw [hv], N107⟩
          · have hv : (f0 pf px py pd) = (0 : Int32) := by simp only [f0, if_neg hc87_17, if_neg hc106_71, if_pos hc161_100, if_pos hc173_103, if_neg hc185_106]
            obtain ⟨fs, hr, hrun, hended, hW, hsame⟩ := X104.leave (v := some (.int (0 : Int32))) (fun h => by rw [Bd.returns] at h; cases h)
            refine ⟨_, _, pre105 _ ?_, hrun, hended, _, _, rfl, ?_, ⟨_, rfl⟩, hW, hsame.mono (by decide) (by decide)⟩
            · show Steps p.tables e below (T104.setTop (mkF m 185 #[.val (.int pf), .val (.int px), .val (.int py), .val (.int pd), .val (.int (v0_1 pf)), .val (.int (v0_2 pf)), .val (.int (v0_3 pf)), .val (.int (v0_4 pf)), .val (.int (v0_5 px)), .val (.int (v0_6 py)), .val (.ref b13), .val (.int (v0_5 px)), .val (.int (v0_6 py))] [(.int (v0_6 py)), (.int (v0_20 pd px py))])) _
              refine XS.icmpYes X104.here hx rfl (pc0 := 185) (pc' := 234) rfl (hb hby at_185) rfl (feq hc185_106).2 (by decide) (by decide) ?_
              show Steps p.tables e below (T104.setTop (mkF m 234 #[.val (.int pf), .val (.int px), .val (.int py), .val (.int pd), .val (.int (v0_1 pf)), .val (.int (v0_2 pf)), .val (.int (v0_3 pf)), .val (.int (v0_4 pf)), .val (.int (v0_5 px)), .val (.int (v0_6 py)), .val (.ref b13), .val (.int (v0_5 px)), .val (.int (v0_6 py))] [])) _
              refine XS.iconst X104.here hx rfl (hb hby at_234) ?_
              show Steps p.tables e below (T104.setTop (mkF m 235 #[.val (.int pf), .val (.int px), .val (.int py), .val (.int pd), .val (.int (v0_1 pf)), .val (.int (v0_2 pf)), .val (.int (v0_3 pf)), .val (.int (v0_4 pf)), .val (.int (v0_5 px)), .val (.int (v0_6 py)), .val (.ref b13), .val (.int (v0_5 px)), .val (.int (v0_6 py))] [(.int (0 : Int32))])) _
              exact retN X104 hx (t := .boolean) Bd.returns (by simp) (hb hby at_235) hr
            · show Q0 Z pf px py pd h0 n0 _ T104.heap _
              rw [e104]
              exact ⟨by rw [hv], N104⟩
        · have hv : (f0 pf px py pd) = (0 : Int32) := by simp only [f0, if_neg hc87_17, if_neg hc106_71, if_pos hc161_100, if_neg hc173_103]
          obtain ⟨fs, hr, hrun, hended, hW, hsame⟩ := X101.leave (v := some (.int (0 : Int32))) (fun h => by rw [Bd.returns] at h; cases h)
          refine ⟨_, _, pre102 _ ?_, hrun, hended, _, _, rfl, ?_, ⟨_, rfl⟩, hW, hsame.mono (by decide) (by decide)⟩
          · show Steps p.tables e below (T101.setTop (mkF m 173 #[.val (.int pf), .val (.int px), .val (.int py), .val (.int pd), .val (.int (v0_1 pf)), .val (.int (v0_2 pf)), .val (.int (v0_3 pf)), .val (.int (v0_4 pf)), .val (.int (v0_5 px)), .val (.int (v0_6 py)), .val (.ref b13), .val (.int (v0_5 px)), .val (.int (v0_6 py))] [(.int (v0_5 px)), (.int (v0_19 pd px py))])) _
            refine XS.icmpYes X101.here hx rfl (pc0 := 173) (pc' := 234) rfl (hb hby at_173) rfl (feq hc173_103).2 (by decide) (by decide) ?_
            show Steps p.tables e below (T101.setTop (mkF m 234 #[.val (.int pf), .val (.int px), .val (.int py), .val (.int pd), .val (.int (v0_1 pf)), .val (.int (v0_2 pf)), .val (.int (v0_3 pf)), .val (.int (v0_4 pf)), .val (.int (v0_5 px)), .val (.int (v0_6 py)), .val (.ref b13), .val (.int (v0_5 px)), .val (.int (v0_6 py))] [])) _
            refine XS.iconst X101.here hx rfl (hb hby at_234) ?_
            show Steps p.tables e below (T101.setTop (mkF m 235 #[.val (.int pf), .val (.int px), .val (.int py), .val (.int pd), .val (.int (v0_1 pf)), .val (.int (v0_2 pf)), .val (.int (v0_3 pf)), .val (.int (v0_4 pf)), .val (.int (v0_5 px)), .val (.int (v0_6 py)), .val (.ref b13), .val (.int (v0_5 px)), .val (.int (v0_6 py))] [(.int (0 : Int32))])) _
            exact retN X101 hx (t := .boolean) Bd.returns (by simp) (hb hby at_235) hr
          · show Q0 Z pf px py pd h0 n0 _ T101.heap _
            rw [e101]
            exact ⟨by rw [hv], N101⟩
      · have hv : (f0 pf px py pd) = (0 : Int32) := by simp only [f0, if_neg hc87_17, if_neg hc106_71, if_neg hc161_100]
        obtain ⟨fs, hr, hrun, hended, hW, hsame⟩ := X98.leave (v := some (.int (0 : Int32))) (fun h => by rw [Bd.returns] at h; cases h)
        refine ⟨_, _, pre99 _ ?_, hrun, hended, _, _, rfl, ?_, ⟨_, rfl⟩, hW, hsame.mono (by decide) (by decide)⟩
        · show Steps p.tables e below (T98.setTop (mkF m 161 #[.val (.int pf), .val (.int px), .val (.int py), .val (.int pd), .val (.int (v0_1 pf)), .val (.int (v0_2 pf)), .val (.int (v0_3 pf)), .val (.int (v0_4 pf)), .val (.int (v0_5 px)), .val (.int (v0_6 py)), .val (.ref b13), .val (.int (v0_5 px)), .val (.int (v0_6 py))] [(.int (3 : Int32)), (.int (f5 (3 : Int32)))])) _
          refine XS.icmpYes X98.here hx rfl (pc0 := 161) (pc' := 234) rfl (hb hby at_161) rfl (feq hc161_100).2 (by decide) (by decide) ?_
          show Steps p.tables e below (T98.setTop (mkF m 234 #[.val (.int pf), .val (.int px), .val (.int py), .val (.int pd), .val (.int (v0_1 pf)), .val (.int (v0_2 pf)), .val (.int (v0_3 pf)), .val (.int (v0_4 pf)), .val (.int (v0_5 px)), .val (.int (v0_6 py)), .val (.ref b13), .val (.int (v0_5 px)), .val (.int (v0_6 py))] [])) _
          refine XS.iconst X98.here hx rfl (hb hby at_234) ?_
          show Steps p.tables e below (T98.setTop (mkF m 235 #[.val (.int pf), .val (.int px), .val (.int py), .val (.int pd), .val (.int (v0_1 pf)), .val (.int (v0_2 pf)), .val (.int (v0_3 pf)), .val (.int (v0_4 pf)), .val (.int (v0_5 px)), .val (.int (v0_6 py)), .val (.ref b13), .val (.int (v0_5 px)), .val (.int (v0_6 py))] [(.int (0 : Int32))])) _
          exact retN X98 hx (t := .boolean) Bd.returns (by simp) (hb hby at_235) hr
        · show Q0 Z pf px py pd h0 n0 _ T98.heap _
          rw [e98]
          exact ⟨by rw [hv], N98⟩
def own_R : List Int32 := List.replicate (32 : Int32).toNatClampNeg 0
theorem own_g0 (a b c : Int32) : getI (setI (setI (setI (List.replicate (32 : Int32).toNatClampNeg 0) (0 : Int32) a) (1 : Int32) b) (2 : Int32) c) (0 : Int32) = a := rfl
theorem own_g1 (a b c : Int32) : getI (setI (setI (setI (List.replicate (32 : Int32).toNatClampNeg 0) (0 : Int32) a) (1 : Int32) b) (2 : Int32) c) (1 : Int32) = b := rfl
theorem own_g2 (a b c : Int32) : getI (setI (setI (setI (List.replicate (32 : Int32).toNatClampNeg 0) (0 : Int32) a) (1 : Int32) b) (2 : Int32) c) (2 : Int32) = c := rfl
theorem own_p0 (d a b c : Int32) : f6 (0 : Int32) d (3 : Int32) (setI (setI (setI (List.replicate (32 : Int32).toNatClampNeg 0) (0 : Int32) a) (1 : Int32) b) (2 : Int32) c) = if a = (-1 : Int32) then d else a := by
  unfold f6; rw [if_pos (by decide), own_g0]
theorem own_p1 (d a b c : Int32) : f6 (1 : Int32) d (3 : Int32) (setI (setI (setI (List.replicate (32 : Int32).toNatClampNeg 0) (0 : Int32) a) (1 : Int32) b) (2 : Int32) c) = if b = (-1 : Int32) then d else b := by
  unfold f6; rw [if_pos (by decide), own_g1]
theorem own_p2 (d a b c : Int32) : f6 (2 : Int32) d (3 : Int32) (setI (setI (setI (List.replicate (32 : Int32).toNatClampNeg 0) (0 : Int32) a) (1 : Int32) b) (2 : Int32) c) = if c = (-1 : Int32) then d else c := by
  unfold f6; rw [if_pos (by decide), own_g2]
theorem own_s0 (a b c : Int32) : f7 (0 : Int32) (3 : Int32) (setI (setI (setI (List.replicate (32 : Int32).toNatClampNeg 0) (0 : Int32) a) (1 : Int32) b) (2 : Int32) c) = if a = (0 : Int32) then 0 else 1 := by
  unfold f7; rw [if_pos (by decide), own_g0]
theorem own_s1 (a b c : Int32) : f7 (1 : Int32) (3 : Int32) (setI (setI (setI (List.replicate (32 : Int32).toNatClampNeg 0) (0 : Int32) a) (1 : Int32) b) (2 : Int32) c) = if b = (0 : Int32) then 0 else 1 := by
  unfold f7; rw [if_pos (by decide), own_g1]
theorem own_s2 (a b c : Int32) : f7 (2 : Int32) (3 : Int32) (setI (setI (setI (List.replicate (32 : Int32).toNatClampNeg 0) (0 : Int32) a) (1 : Int32) b) (2 : Int32) c) = if c = (0 : Int32) then 0 else 1 := by
  unfold f7; rw [if_pos (by decide), own_g2]
theorem own_dig (x : Int32) : ¬ ((x &&& (2147483647 : Int32)) % (10 : Int32)) = (-1 : Int32) := fun q => by
  have h : ((x &&& (2147483647 : Int32)) % (10 : Int32)).toInt = -1 := by rw [q]; rfl
  rw [Int32.toInt_mod, c_mask x 2147483647 31 (by decide) (by decide)] at h
  have e : (10 : Int32).toInt = 10 := rfl
  have e2 : ((2 ^ 31 : Nat) : Int) = 2147483648 := rfl
  rw [e, e2, Int.tmod_eq_emod_of_nonneg (by omega)] at h
  omega
theorem own_b (p : Prop) [Decidable p] : (if (nar .boolean (nar .boolean (if p then (0 : Int32) else (1 : Int32)))) = (0 : Int32) then (0 : Int32) else (1 : Int32)) = (if p then (0 : Int32) else (1 : Int32)) := by
  by_cases h : p
  · rw [if_pos h]; decide
  · rw [if_neg h]; decide
theorem own_m1 (d : Int32) : (if (-1 : Int32) = (-1 : Int32) then d else (-1 : Int32)) = d := if_pos rfl
theorem own_v10 (pf : Int32) : v0_10 pf = 0 := (own_s0 _ _ _).trans (by decide)
theorem own_v11 (pf : Int32) : v0_11 pf = v0_2 pf := (own_s1 _ _ _).trans (own_b _)
theorem own_v12 (pf : Int32) : v0_12 pf = v0_4 pf := (own_s2 _ _ _).trans (own_b _)
theorem law_true (pf px py pd : Int32) : f0 pf px py pd = 1 := by
  have a : v0_7 pd = pd := (own_p0 _ _ _ _).trans (own_m1 _)
  have b : v0_8 pd = pd := (own_p1 _ _ _ _).trans (own_m1 _)
  have c : v0_9 pd = pd := (own_p2 _ _ _ _).trans (own_m1 _)
  have d : v0_13 pd py = pd := (own_p0 _ _ _ _).trans (own_m1 _)
  have e : v0_14 pd py = v0_6 py := (own_p1 _ _ _ _).trans (if_neg (own_dig py))
  have f : v0_15 pd py = pd := (own_p2 _ _ _ _).trans (own_m1 _)
  have g : v0_16 pd px = v0_5 px := (own_p0 _ _ _ _).trans (if_neg (own_dig px))
  have h : v0_17 pd px = pd := (own_p1 _ _ _ _).trans (own_m1 _)
  have i : v0_18 pd px = pd := (own_p2 _ _ _ _).trans (own_m1 _)
  have j : v0_19 pd px py = v0_5 px := (own_p0 _ _ _ _).trans (if_neg (own_dig px))
  have k : v0_20 pd px py = v0_6 py := (own_p1 _ _ _ _).trans (if_neg (own_dig py))
  have l : v0_21 pd px py = pd := (own_p2 _ _ _ _).trans (own_m1 _)
  have z : f5 (3 : Int32) = 3 := rfl
  unfold f0
  rw [own_v10, own_v11, own_v12, a, b, c, d, e, f, g, h, i, j, k, l, z]
  simp

set_option maxRecDepth 65536 in
set_option maxHeartbeats 40000000 in
theorem comes_1 {Post : Tables → Env → Array Value → State → Outcome → State → Prop} (hpost : ∀ tb e args s v u, (limb_1_1.after args s (.returned v) u = true ∧ limb_1_2.after args s (.returned v) u = true ∧ True) → FrameEnd s (.returned v) u (Jvm.fieldLocs frame_1_writes args s ++ Jvm.arrayLocs frame_1_arrays args s ++ Jvm.staticLocs frame_1_statics s) 16 256 → Post tb e args s (.returned v) u) :
    ArmFor flags0 classFile x code maxLocals ret World_1 tables_1 room_1 Calls_1 rest_1 Pre_1 Post := by
  intro l hfl _ _ p e ha hc hk s m args below hf hA hF happ hP
  obtain ⟨hcalls, hrest, hpre⟩ := hP
  obtain ⟨-, -, -, hnamed, -, -, -, hat⟩ := (Spec.applies_iff hf).mp happ
  obtain ⟨hg, hn⟩ := and_e (Cond.before_iff.mp (show (Jvm.Cond.and given_1 narrow_1).before args s = true from hpre))
  obtain ⟨g1, g2⟩ := and_e hg
  obtain ⟨g3, g4⟩ := and_e g2
  obtain ⟨g5, g6⟩ := and_e g4
  obtain ⟨g7, g8⟩ := and_e g6
  obtain ⟨w0, w1, w2, w3, rfl⟩ : ∃ w0 w1 w2 w3 : Value, args = #[w0, w1, w2, w3] := by
    have hs : args.size = 4 := by simpa [Cond.value, given_1] using g1
    obtain ⟨L⟩ := args
    match L, hs with
    | [w0, w1, w2, w3], _ => exact ⟨w0, w1, w2, w3, rfl⟩
  have hw := fun d (hd : d ∈ tables_1) => atoms_spec (ws := Jvm.Cond.code x code maxLocals ret :: tables_1) hat d (List.mem_cons_of_mem _ hd)
  obtain ⟨i0, ei0⟩ := is_v g3
  obtain rfl : w0 = (.int i0) := Option.some.inj ei0
  obtain ⟨i1, ei1⟩ := is_v g5
  obtain rfl : w1 = (.int i1) := Option.some.inj ei1
  obtain ⟨i2, ei2⟩ := is_v g7
  obtain rfl : w2 = (.int i2) := Option.some.inj ei2
  obtain ⟨i3, ei3⟩ := is_v g8
  obtain rfl : w3 = (.int i3) := Option.some.inj ei3
  obtain ⟨n, o, h1, h2, h3, _, L, rfl, ⟨rfl, N⟩, hq⟩ := rm0 l s _ hw tables_1 i0 i1 i2 i3 s.heap s.heap.size (Nat.le_refl _) p e ha hc hk s m _ below hf ((Spec.applies_iff_loose hf).mp happ).1 ⟨rfl, State.Warmed39.refl s, rfl⟩ trivial
  refine ⟨n, _, h1, h2, h3, hpost _ _ _ _ _ _ ⟨Cond.after_iff.mpr rfl, Cond.after_iff.mpr (eq_i res_at (Term.int_eval (1)) (congrArg Value.int (law_true i0 i1 i2 i3))), trivial⟩ ⟨hq.1, hq.2.1, (hq.2.2.sift fun y hy => Or.inr (N y hy)).mono (by decide) (by decide)⟩⟩
theorem main_1_1 : Claimed_1_1 := comes_1 fun _ _ _ _ _ _ h hF => ⟨h.1, hF⟩
theorem main_1_2 : Claimed_1_2 := comes_1 fun _ _ _ _ _ _ h hF => ⟨h.2.1, hF⟩
end Jvm.Pilot.@@N@@
namespace Jvm.Pilot.@@N@@
open Jvm Jvm.ClassFile Sem Op Lib Jvm.Free Jvm.Stand Jvm.Pilot.@@N@@.Jvm.D
/-! MADE BY PROGRAM (witnessworld.py) out of the Statement's table words and the real class files: 11 classes; the members and pool entries that the words name. The judged class is class 1, her method 1. -/
namespace start1
open Jvm.ClassFile
def u (s : String) : CpInfo := .utf8 (stringToUtf16 s)
/-- a pool by its gaps: so many unusable entries, then the entry; so many at the end -/
def gap : Nat → List CpInfo → List CpInfo
  | 0, r => r
  | n + 1, r => .unusable :: gap n r
def poolList (es : List (Nat × CpInfo)) (last : Nat) : List CpInfo := es.foldr (fun e r => gap e.1 (e.2 :: r)) (gap last [])
def pool (es : List (Nat × CpInfo)) (last : Nat) : Array CpInfo := ⟨poolList es last⟩
def fileOf (pool : Array CpInfo) (this : Nat) (attrs : Array Attribute := #[]) (ms : Array MethodInfo := #[]) (fl : Nat := 33) (sup : Nat := 0) (ifs : Array Nat := #[]) (fds : Array FieldInfo := #[]) : ClassFile where
  minorVersion := 0
  majorVersion := 65
  constantPool := pool
  accessFlags := fl
  thisClass := this
  superClass := sup
  interfaces := ifs
  fields := fds
  methods := ms
  attributes := attrs
def plain (name : String) (sup : Option ClassId) : Class where
  name := name
  kind := .ordinary
  loader := none
  accessFlags := 33
  super := sup
  interfaces := #[]
  cf := none
  fields := #[]
  methods := #[]
  instanceTypes := #[]
  staticTypes := #[]
  resolved := #[]
  callSites := []
  init := .initialized
  statics := none
  mirror := none

def pool0 : Array CpInfo := pool [(5, u "<init>"), (0, u "()V"), (1, .class_ 10), (1, u "java/lang/Object")] 113

def k0c0 : Code := { maxStack := 0, maxLocals := 1, code := object_method_1_code, exceptionTable := #[], attributes := #[] }
def k0m0 : Method := { name := "<init>", desc := "()V", sig := { parameters := [], returnType := none }, accessFlags := 1, code := some k0c0 }
/-- java/lang/Object -/
def k0 : Class := { plain "java/lang/Object" none with
  accessFlags := 33
  interfaces := #[]
  cf := some (fileOf pool0 8 #[] #[{ accessFlags := 1, nameIndex := 5, descriptorIndex := 6, attributes := #[] }] 33 0 #[] #[])
  fields := #[]
  methods := #[k0m0]
  instanceTypes := #[]
  staticTypes := #[]
  resolved := Array.replicate 124 none
  statics := none }

def pool1 : Array CpInfo := pool [(2, .class_ 4), (0, .nameAndType 5 6), (0, u "java/lang/Object"), (0, u "<init>"), (0, u "()V"), (0, .integer 2147483647), (0, .class_ 9), (0, u "com/example/glowcursor/glowcursor/parser/ControlSequence"), (0, .methodref 8 3), (0, .methodref 8 12), (0, .nameAndType 13 6), (0, u "start"), (0, .methodref 8 15), (0, .nameAndType 16 17), (0, u "addDigit"), (0, u "(I)V"), (0, .methodref 8 19), (0, .nameAndType 20 21), (0, u "endParameter"), (0, u "(Z)V"), (0, .methodref 8 23), (0, .nameAndType 24 25), (0, u "parameterCount"), (0, u "()I"), (0, .methodref 8 27), (0, .nameAndType 28 29), (0, u "parameter"), (0, u "(II)I"), (0, .methodref 8 31), (0, .nameAndType 32 33), (0, u "isSubParameter"), (0, u "(I)Z"), (0, .class_ 35), (0, u "com/example/glowcursor/glowcursor/parser/ControlSequenceEndParameterPinLaw"), (2, u "law"), (0, u "(IIII)Z")] 3

def k1m0 : Method := { name := "<init>", desc := "()V", sig := { parameters := [], returnType := none }, accessFlags := 1, code := none }
def k1c1 : Code := { maxStack := 3, maxLocals := 13, code := code, exceptionTable := #[], attributes := #[] }
def k1m1 : Method := { name := "law", desc := "(IIII)Z", sig := { parameters := [.int, .int, .int, .int], returnType := some .boolean }, accessFlags := 9, code := some k1c1 }
/-- com/example/glowcursor/glowcursor/parser/ControlSequenceEndParameterPinLaw -/
def k1 : Class := { plain "com/example/glowcursor/glowcursor/parser/ControlSequenceEndParameterPinLaw" (some 0) with
  accessFlags := 49
  interfaces := #[]
  cf := some (fileOf pool1 34 #[] #[{ accessFlags := 1, nameIndex := 5, descriptorIndex := 6, attributes := #[] }, { accessFlags := 9, nameIndex := 38, descriptorIndex := 39, attributes := #[] }] 49 2 #[] #[])
  fields := #[]
  methods := #[k1m0, k1m1]
  instanceTypes := #[]
  staticTypes := #[]
  resolved := Array.replicate 43 none
  statics := none }

def pool2 : Array CpInfo := pool [(1, .methodref 2 3), (0, .class_ 4), (0, .nameAndType 5 6), (0, u "java/lang/Object"), (0, u "<init>"), (0, u "()V"), (0, .class_ 8), (0, u "com/example/glowcursor/glowcursor/parser/ControlSequence"), (0, .fieldref 7 10), (0, .nameAndType 11 12), (0, u "parameters"), (0, u "[I"), (0, .fieldref 7 14), (0, .nameAndType 15 16), (0, u "subParameters"), (0, u "[Z"), (0, .fieldref 7 18), (0, .nameAndType 19 20), (0, u "privateMarker"), (0, u "I"), (0, .fieldref 7 22), (0, .nameAndType 23 20), (0, u "intermediate"), (2, u "finalByte"), (0, .fieldref 7 28), (0, .nameAndType 29 20), (0, u "count"), (0, .fieldref 7 31), (0, .nameAndType 32 20), (0, u "current"), (0, .fieldref 7 34), (0, .nameAndType 35 36), (0, u "currentIsSubParameter"), (0, u "Z"), (2, .integer 65535), (5, u "(II)I"), (2, u "endParameter"), (0, u "(Z)V"), (0, u "MAX_PARAMETERS"), (2, u "MAX_VALUE"), (0, u "MISSING"), (3, u "()I"), (0, u "parameterCount"), (0, u "parameter"), (1, u "isSubParameter"), (0, u "(I)Z"), (2, u "start"), (1, u "(I)V"), (1, u "addDigit")] 3

def k2c0 : Code := { maxStack := 2, maxLocals := 1, code := prog_38_method_1_code, exceptionTable := #[], attributes := #[] }
def k2m0 : Method := { name := "<init>", desc := "()V", sig := { parameters := [], returnType := none }, accessFlags := 0, code := some k2c0 }
def k2c1 : Code := { maxStack := 1, maxLocals := 1, code := prog_38_method_5_code, exceptionTable := #[], attributes := #[] }
def k2m1 : Method := { name := "parameterCount", desc := "()I", sig := { parameters := [], returnType := some .int }, accessFlags := 1, code := some k2c1 }
def k2c2 : Code := { maxStack := 2, maxLocals := 3, code := prog_38_method_6_code, exceptionTable := #[], attributes := #[] }
def k2m2 : Method := { name := "parameter", desc := "(II)I", sig := { parameters := [.int, .int], returnType := some .int }, accessFlags := 1, code := some k2c2 }
def k2c3 : Code := { maxStack := 2, maxLocals := 2, code := prog_38_method_7_code, exceptionTable := #[], attributes := #[] }
def k2m3 : Method := { name := "isSubParameter", desc := "(I)Z", sig := { parameters := [.int], returnType := some .boolean }, accessFlags := 1, code := some k2c3 }
def k2c4 : Code := { maxStack := 2, maxLocals := 1, code := prog_38_method_9_code, exceptionTable := #[], attributes := #[] }
def k2m4 : Method := { name := "start", desc := "()V", sig := { parameters := [], returnType := none }, accessFlags := 0, code := some k2c4 }
def k2c5 : Code := { maxStack := 3, maxLocals := 2, code := prog_38_method_12_code, exceptionTable := #[], attributes := #[] }
def k2m5 : Method := { name := "addDigit", desc := "(I)V", sig := { parameters := [.int], returnType := none }, accessFlags := 0, code := some k2c5 }
def k2c6 : Code := { maxStack := 3, maxLocals := 2, code := prog_38_method_13_code, exceptionTable := #[], attributes := #[] }
def k2m6 : Method := { name := "endParameter", desc := "(Z)V", sig := { parameters := [.boolean], returnType := none }, accessFlags := 0, code := some k2c6 }
/-- com/example/glowcursor/glowcursor/parser/ControlSequence -/
def k2 : Class := { plain "com/example/glowcursor/glowcursor/parser/ControlSequence" (some 0) with
  accessFlags := 49
  interfaces := #[]
  cf := some (fileOf pool2 7 #[] #[{ accessFlags := 0, nameIndex := 5, descriptorIndex := 6, attributes := #[] }, { accessFlags := 1, nameIndex := 59, descriptorIndex := 58, attributes := #[] }, { accessFlags := 1, nameIndex := 60, descriptorIndex := 45, attributes := #[] }, { accessFlags := 1, nameIndex := 62, descriptorIndex := 63, attributes := #[] }, { accessFlags := 0, nameIndex := 66, descriptorIndex := 6, attributes := #[] }, { accessFlags := 0, nameIndex := 70, descriptorIndex := 68, attributes := #[] }, { accessFlags := 0, nameIndex := 48, descriptorIndex := 49, attributes := #[] }] 49 2 #[] #[{ accessFlags := 25, nameIndex := 50, descriptorIndex := 20, attributes := #[] }, { accessFlags := 25, nameIndex := 53, descriptorIndex := 20, attributes := #[] }, { accessFlags := 26, nameIndex := 54, descriptorIndex := 20, attributes := #[] }, { accessFlags := 18, nameIndex := 11, descriptorIndex := 12, attributes := #[] }, { accessFlags := 18, nameIndex := 15, descriptorIndex := 16, attributes := #[] }, { accessFlags := 2, nameIndex := 29, descriptorIndex := 20, attributes := #[] }, { accessFlags := 2, nameIndex := 32, descriptorIndex := 20, attributes := #[] }, { accessFlags := 2, nameIndex := 35, descriptorIndex := 36, attributes := #[] }, { accessFlags := 2, nameIndex := 19, descriptorIndex := 20, attributes := #[] }, { accessFlags := 2, nameIndex := 23, descriptorIndex := 20, attributes := #[] }, { accessFlags := 2, nameIndex := 26, descriptorIndex := 20, attributes := #[] }])
  fields := #[{ name := "MAX_PARAMETERS", type := .int, accessFlags := 25, slot := 0, constantValue := 0 }, { name := "MAX_VALUE", type := .int, accessFlags := 25, slot := 1, constantValue := 0 }, { name := "MISSING", type := .int, accessFlags := 26, slot := 2, constantValue := 0 }, { name := "parameters", type := (.array .int), accessFlags := 18, slot := 0, constantValue := 0 }, { name := "subParameters", type := (.array .boolean), accessFlags := 18, slot := 1, constantValue := 0 }, { name := "count", type := .int, accessFlags := 2, slot := 2, constantValue := 0 }, { name := "current", type := .int, accessFlags := 2, slot := 3, constantValue := 0 }, { name := "currentIsSubParameter", type := .boolean, accessFlags := 2, slot := 4, constantValue := 0 }, { name := "privateMarker", type := .int, accessFlags := 2, slot := 5, constantValue := 0 }, { name := "intermediate", type := .int, accessFlags := 2, slot := 6, constantValue := 0 }, { name := "finalByte", type := .int, accessFlags := 2, slot := 7, constantValue := 0 }]
  methods := #[k2m0, k2m1, k2m2, k2m3, k2m4, k2m5, k2m6]
  instanceTypes := #[(.array .int), (.array .boolean), .int, .int, .boolean, .int, .int, .int]
  staticTypes := #[.int, .int, .int]
  resolved := Array.replicate 74 none
  statics := none }

def pool3 : Array CpInfo := pool [(1, u "java/lang/Cloneable"), (0, .class_ 1), (0, u "java/lang/Object"), (0, .class_ 3)] 3

/-- java/lang/Cloneable -/
def k3 : Class := { plain "java/lang/Cloneable" (some 0) with
  accessFlags := 1537
  interfaces := #[]
  cf := some (fileOf pool3 2 #[] #[] 1537 4 #[] #[])
  fields := #[]
  methods := #[]
  instanceTypes := #[]
  staticTypes := #[]
  resolved := Array.replicate 8 none
  statics := none }

def pool4 : Array CpInfo := pool [(1, u "java/io/Serializable"), (0, .class_ 1), (0, u "java/lang/Object"), (0, .class_ 3)] 3

/-- java/io/Serializable -/
def k4 : Class := { plain "java/io/Serializable" (some 0) with
  accessFlags := 1537
  interfaces := #[]
  cf := some (fileOf pool4 2 #[] #[] 1537 4 #[] #[])
  fields := #[]
  methods := #[]
  instanceTypes := #[]
  staticTypes := #[]
  resolved := Array.replicate 8 none
  statics := none }

/-- the primitive boolean -/
def k5 : Class := { plain "boolean" none with kind := .primitive 'Z', accessFlags := 0x411 }
/-- [Z -/
def k6 : Class := { plain "[Z" (some 0) with kind := .array 5 .boolean, interfaces := #[3, 4], accessFlags := 1041 }

/-- the primitive byte -/
def k7 : Class := { plain "byte" none with kind := .primitive 'B', accessFlags := 0x411 }
/-- [B -/
def k8 : Class := { plain "[B" (some 0) with kind := .array 7 .byte, interfaces := #[3, 4], accessFlags := 1041 }

/-- the primitive int -/
def k9 : Class := { plain "int" none with kind := .primitive 'I', accessFlags := 0x411 }
/-- [I -/
def k10 : Class := { plain "[I" (some 0) with kind := .array 9 .int, interfaces := #[3, 4], accessFlags := 1041 }

def heap : Heap := #[]
def classes : Array Class := #[k0, k1, k2, k3, k4, k5, k6, k7, k8, k9, k10]
def interned : List (Array UInt16 × Addr) := []
def slotsUsed : Nat := 0
def theMethod : MethodId := ⟨1, 1⟩
def args0 : Array Value := #[.int 5, .int 7, .int 3, .int 9]
def aboutOver (below : List Frame) : State where
  vm := { classes := classes, interned := interned.toArray }
  heap := heap
  slotsUsed := slotsUsed
  threads := #[{ frames := .invoking theMethod args0 :: below }]
def below0 : List Frame := [.native { method := ⟨0, 0⟩, args := #[] }]
def about1 : State := aboutOver below0
def p0 : Program := .bare "" "" ""
def e0 : Env := launch0.env 0 0 0
theorem w_frames : about1.frames = Frame.invoking theMethod args0 :: below0 := rfl
set_option maxRecDepth 65536 in
theorem w_args : argsFit about1.vm theMethod args0 = true := by decide +kernel
set_option maxRecDepth 65536 in
theorem w_heap : heapFits about1 = true := by decide +kernel
set_option maxRecDepth 65536 in
theorem w_runnable : about1.curStatus? = some .runnable := by decide +kernel
set_option maxRecDepth 65536 in
theorem w_alone : about1.alone = true := by decide +kernel
set_option maxRecDepth 65536 in
theorem w_named : about1.methodNamed? x = some theMethod := by decide +kernel
set_option maxRecDepth 65536 in
theorem w_hears : about1.hears theMethod below0 = true := by decide +kernel
set_option maxRecDepth 65536 in
theorem w_ripe : about1.ripe theMethod args0 below0 = true := by decide +kernel
theorem w_running : about1.status = .running := rfl
set_option maxRecDepth 65536 in
theorem w_room : about1.hasRoom e0.platform room_1 = true :=
  launch0.hasRoom_least _ room_1 (by decide +kernel) (by decide +kernel) (by decide +kernel) (by decide +kernel) (by decide +kernel) (by decide +kernel)
theorem allAtoms_all (ts : List Jvm.Cond) (a : Array Jvm.Value) (st : Jvm.State) : (allAtoms ts).before a st = ts.all (fun c => c.before a st) := by
  induction ts with
  | nil => rfl
  | cons c t ih =>
    show (Jvm.Cond.and c (allAtoms t)).before a st = _
    rw [Jvm.Cond.before_and, ih, List.all_cons]
def words1 : List Jvm.Cond := Jvm.Cond.code x code maxLocals ret :: tables_1
/-- a 'code' word, met by the world's own term for the bytes: nothing is compared byte by byte -/
theorem code_word {y : MethodName} {bytes : ByteArray} {mx : Nat} {rt : Option FieldType} {a : Array Value} {s : State} {m : MethodId} {meth : Method} {c : Code} (h1 : s.methodNamed? y = some m) (h2 : s.vm.method? m = some meth) (h3 : meth.code = some c) (h4 : c.code = bytes)
    (h5 : (c.maxLocals == mx && c.exceptionTable.isEmpty && decide (c.maxStack ≤ mostOperands) && decide (meth.sig.returnType = rt) && !meth.locks && decide (parseMethodDescriptor y.desc = some meth.sig)) = true) : (Jvm.Cond.code y bytes mx rt).before a s = true := by
  simp only [Bool.and_eq_true, beq_iff_eq, Bool.not_eq_true', decide_eq_true_eq] at h5
  obtain ⟨⟨⟨⟨⟨g1, g2⟩, g3⟩, g4⟩, g5⟩, g6⟩ := h5
  simp [Cond.before, Cond.holds, Cond.value, h1, h2, h3, h4, g1, g2, g3, g4, g5, g6]
def isCode : Jvm.Cond → Bool
  | .code _ _ _ _ => true
  | _ => false
theorem all_split {L : List Jvm.Cond} {P : Jvm.Cond → Bool} (h1 : L.all (fun c => isCode c || P c) = true) (h2 : ∀ c ∈ L.filter isCode, P c = true) : L.all P = true := by
  refine List.all_eq_true.mpr fun c hc => ?_
  have h := List.all_eq_true.mp h1 c hc
  rcases Bool.eq_false_or_eq_true (isCode c) with hi | hi
  · exact h2 c (List.mem_filter.mpr ⟨hc, hi⟩)
  · simpa [hi] using h
set_option maxRecDepth 65536 in
theorem w_c0 : (Jvm.Cond.code x code maxLocals ret).before args0 about1 = true := code_word (m := ⟨1, 1⟩) (meth := k1m1) (c := k1c1) (by decide +kernel) rfl rfl rfl (by decide +kernel)
set_option maxRecDepth 65536 in
theorem w_c1 : (Jvm.Cond.code ({ cls := "com/example/glowcursor/glowcursor/parser/ControlSequence", name := "<init>", desc := "()V" } : Jvm.MethodName) prog_38_method_1_code (1 : Nat) (Option.none : Option Jvm.ClassFile.FieldType)).before args0 about1 = true := code_word (m := ⟨2, 0⟩) (meth := k2m0) (c := k2c0) (by decide +kernel) rfl rfl rfl (by decide +kernel)
set_option maxRecDepth 65536 in
theorem w_c2 : (Jvm.Cond.code ({ cls := "java/lang/Object", name := "<init>", desc := "()V" } : Jvm.MethodName) object_method_1_code (1 : Nat) (Option.none : Option Jvm.ClassFile.FieldType)).before args0 about1 = true := code_word (m := ⟨0, 0⟩) (meth := k0m0) (c := k0c0) (by decide +kernel) rfl rfl rfl (by decide +kernel)
set_option maxRecDepth 65536 in
theorem w_c3 : (Jvm.Cond.code ({ cls := "com/example/glowcursor/glowcursor/parser/ControlSequence", name := "start", desc := "()V" } : Jvm.MethodName) prog_38_method_9_code (1 : Nat) (Option.none : Option Jvm.ClassFile.FieldType)).before args0 about1 = true := code_word (m := ⟨2, 4⟩) (meth := k2m4) (c := k2c4) (by decide +kernel) rfl rfl rfl (by decide +kernel)
set_option maxRecDepth 65536 in
theorem w_c4 : (Jvm.Cond.code ({ cls := "com/example/glowcursor/glowcursor/parser/ControlSequence", name := "endParameter", desc := "(Z)V" } : Jvm.MethodName) prog_38_method_13_code (2 : Nat) (Option.none : Option Jvm.ClassFile.FieldType)).before args0 about1 = true := code_word (m := ⟨2, 6⟩) (meth := k2m6) (c := k2c6) (by decide +kernel) rfl rfl rfl (by decide +kernel)
set_option maxRecDepth 65536 in
theorem w_c5 : (Jvm.Cond.code ({ cls := "com/example/glowcursor/glowcursor/parser/ControlSequence", name := "parameterCount", desc := "()I" } : Jvm.MethodName) prog_38_method_5_code (1 : Nat) (Option.some Jvm.ClassFile.FieldType.int)).before args0 about1 = true := code_word (m := ⟨2, 1⟩) (meth := k2m1) (c := k2c1) (by decide +kernel) rfl rfl rfl (by decide +kernel)
set_option maxRecDepth 65536 in
theorem w_c6 : (Jvm.Cond.code ({ cls := "com/example/glowcursor/glowcursor/parser/ControlSequence", name := "parameter", desc := "(II)I" } : Jvm.MethodName) prog_38_method_6_code (3 : Nat) (Option.some Jvm.ClassFile.FieldType.int)).before args0 about1 = true := code_word (m := ⟨2, 2⟩) (meth := k2m2) (c := k2c2) (by decide +kernel) rfl rfl rfl (by decide +kernel)
set_option maxRecDepth 65536 in
theorem w_c7 : (Jvm.Cond.code ({ cls := "com/example/glowcursor/glowcursor/parser/ControlSequence", name := "isSubParameter", desc := "(I)Z" } : Jvm.MethodName) prog_38_method_7_code (2 : Nat) (Option.some Jvm.ClassFile.FieldType.boolean)).before args0 about1 = true := code_word (m := ⟨2, 3⟩) (meth := k2m3) (c := k2c3) (by decide +kernel) rfl rfl rfl (by decide +kernel)
set_option maxRecDepth 65536 in
theorem w_c8 : (Jvm.Cond.code ({ cls := "com/example/glowcursor/glowcursor/parser/ControlSequence", name := "addDigit", desc := "(I)V" } : Jvm.MethodName) prog_38_method_12_code (2 : Nat) (Option.none : Option Jvm.ClassFile.FieldType)).before args0 about1 = true := code_word (m := ⟨2, 5⟩) (meth := k2m5) (c := k2c5) (by decide +kernel) rfl rfl rfl (by decide +kernel)
def codes1 : List Jvm.Cond := [Jvm.Cond.code x code maxLocals ret, Jvm.Cond.code ({ cls := "com/example/glowcursor/glowcursor/parser/ControlSequence", name := "<init>", desc := "()V" } : Jvm.MethodName) prog_38_method_1_code (1 : Nat) (Option.none : Option Jvm.ClassFile.FieldType), Jvm.Cond.code ({ cls := "java/lang/Object", name := "<init>", desc := "()V" } : Jvm.MethodName) object_method_1_code (1 : Nat) (Option.none : Option Jvm.ClassFile.FieldType), Jvm.Cond.code ({ cls := "com/example/glowcursor/glowcursor/parser/ControlSequence", name := "start", desc := "()V" } : Jvm.MethodName) prog_38_method_9_code (1 : Nat) (Option.none : Option Jvm.ClassFile.FieldType), Jvm.Cond.code ({ cls := "com/example/glowcursor/glowcursor/parser/ControlSequence", name := "endParameter", desc := "(Z)V" } : Jvm.MethodName) prog_38_method_13_code (2 : Nat) (Option.none : Option Jvm.ClassFile.FieldType), Jvm.Cond.code ({ cls := "com/example/glowcursor/glowcursor/parser/ControlSequence", name := "parameterCount", desc := "()I" } : Jvm.MethodName) prog_38_method_5_code (1 : Nat) (Option.some Jvm.ClassFile.FieldType.int), Jvm.Cond.code ({ cls := "com/example/glowcursor/glowcursor/parser/ControlSequence", name := "parameter", desc := "(II)I" } : Jvm.MethodName) prog_38_method_6_code (3 : Nat) (Option.some Jvm.ClassFile.FieldType.int), Jvm.Cond.code ({ cls := "com/example/glowcursor/glowcursor/parser/ControlSequence", name := "isSubParameter", desc := "(I)Z" } : Jvm.MethodName) prog_38_method_7_code (2 : Nat) (Option.some Jvm.ClassFile.FieldType.boolean), Jvm.Cond.code ({ cls := "com/example/glowcursor/glowcursor/parser/ControlSequence", name := "addDigit", desc := "(I)V" } : Jvm.MethodName) prog_38_method_12_code (2 : Nat) (Option.none : Option Jvm.ClassFile.FieldType)]
set_option maxRecDepth 65536 in
theorem codes_eq : words1.filter isCode = codes1 := rfl
theorem w_codes : ∀ c ∈ words1.filter isCode, c.before args0 about1 = true := by
  rw [codes_eq]
  intro c hc
  simp only [codes1, List.mem_cons, List.not_mem_nil, or_false] at hc
  rcases hc with rfl | rfl | rfl | rfl | rfl | rfl | rfl | rfl | rfl
  · exact w_c0
  · exact w_c1
  · exact w_c2
  · exact w_c3
  · exact w_c4
  · exact w_c5
  · exact w_c6
  · exact w_c7
  · exact w_c8
set_option maxRecDepth 65536 in
theorem w_t1 : (words1.take 24).all (fun c => isCode c || c.before args0 about1) = true := by decide +kernel
set_option maxRecDepth 65536 in
theorem w_t2 : ((words1.drop 24).take 24).all (fun c => isCode c || c.before args0 about1) = true := by decide +kernel
set_option maxRecDepth 65536 in
theorem w_t3 : ((words1.drop 24).drop 24).all (fun c => isCode c || c.before args0 about1) = true := by decide +kernel
theorem w_tables : (allAtoms (Jvm.Cond.code x code maxLocals ret :: tables_1)).before args0 about1 = true := by
  rw [allAtoms_all]
  show words1.all (fun c => c.before args0 about1) = true
  refine all_split ?_ w_codes
  rw [← List.take_append_drop 24 words1, List.all_append, w_t1, ← List.take_append_drop 24 (words1.drop 24), List.all_append, w_t2, w_t3]
  rfl
set_option maxRecDepth 65536 in
theorem w_case : (Jvm.Cond.and given_1 narrow_1).before args0 about1 = true := by decide +kernel
theorem w_applies : (headSpec (Jvm.Cond.code x code maxLocals ret :: tables_1) room_1).applies x e0.platform about1 = true :=
  (Spec.applies_iff w_frames).mpr ⟨w_running, w_runnable, w_alone, w_named, w_hears, w_ripe, w_room, w_tables⟩
theorem atStart : AtStart classFile x code maxLocals ret World_1 tables_1 room_1 Calls_1 rest_1 Pre_1 launch0 p0 e0 about1 theMethod args0 below0 :=
  ⟨lists_1, trivial, launch0.admits_env _ _ _, launch0.least_env, fairChoices_fair.cas, fairChoices_fair.clock, w_frames, w_args, w_heap, w_applies, trivial, trivial, w_case⟩
end start1
theorem witness_1 : WitnessClaimed_1 := ⟨start1.p0, start1.e0, start1.about1, start1.theMethod, start1.args0, start1.below0, start1.atStart⟩
end Jvm.Pilot.@@N@@
