import JvmDerived
import JvmDerived.Pilot.@@N@@Statement
import JvmDerived.Pilot.@@N@@Code
set_option linter.unusedVariables false
set_option linter.unusedSimpArgs false
namespace Jvm.RoadKit
open Sem ClassFile Op Lib Jvm.Stand Jvm.Free Jvm.LawKit
section New
variable {p : Program} {l : Launch} {e : Env} {R : Room} {s : State} {m : MethodId} {args : Array Value} {below : List Frame} {meth : Method} {c : Code} {T : State} {locs : List Loc} {cells slots : Nat}
theorem retI (X : Stand p l e R s m args below meth c T locs cells slots) (hx : p.tables.exec = Jvm.exec) {pc : Nat} {Ls : Array Slot} {z : Int32} {rest : List Value} (hret : meth.sig.returnType = some .int) (hd : decode c.code pc = .ok (.ireturn, 1)) {fs : List Frame}
    (hl : ∀ (f : JFrame) (acts : List Action), f.method = m → f.locked = none → f.entered = [] → (doReturn e (T.setTop f) acts (some (.int z))).1 = T.setFrames fs) : Steps p.tables e below (T.setTop (mkF m pc Ls (.int z :: rest))) (T.setFrames fs) := by
  have hm' : T.vm.method? m = some meth := X.method'
  have hn : narrow .int (.int z) = .int z := rfl
  show Steps p.tables e below (T.setTop { method := m, pc := pc, locals := Ls, stack := _ :: rest, locked := none }) _
  jvm_step X.here [X.here.top, hx, hd, hm', hret, hn]
  first | (intro acts; rw [hl _ acts rfl rfl rfl]) | rw [hl _ _ rfl rfl rfl]
  exact Steps.refl _
end New
end Jvm.RoadKit
namespace Jvm.Pilot.@@N@@
open Jvm Jvm.ClassFile Sem Op Lib Jvm.Free Jvm.Stand Jvm.LawKit Jvm.RoadKit Bundle Jvm.Pilot.@@N@@.Jvm.D
theorem pd_0 : parseMethodDescriptor "(Z)V" = some ⟨[.boolean], none⟩ := by decide +kernel
theorem pd_1 : parseMethodDescriptor "()V" = some ⟨[], none⟩ := by decide +kernel
theorem pd_2 : parseMethodDescriptor "(I)V" = some ⟨[.int], none⟩ := by decide +kernel
theorem pd_3 : parseMethodDescriptor "()Z" = some ⟨[], some .boolean⟩ := by decide +kernel
def getI (ps : List Int32) (j : Int32) : Int32 := ps.getD j.toNatClampNeg 0
def setI (ps : List Int32) (j x : Int32) : List Int32 := ps.set j.toNatClampNeg x
/-- an array of ints (or booleans) whose elements are all known -/
def Ia (Z : State) (h : Heap) (a : Addr) (k : ClassId) (ty : FieldType) (n : Int32) (ps : List Int32) : Prop := Arv Z h a k ty n (ps.map Value.int) (.int 0) ∧ ps.length = n.toNatClampNeg
section OwnArr
variable {Z : State} {h h' : Heap} {a b : Addr} {k : ClassId} {ty : FieldType} {n j x : Int32} {ps : List Int32} {v : Value} {sl : Nat} {ws : List Addr}
theorem Ia.lt (F : Ia Z h a k ty n ps) : a < h.size := F.1.lt
theorem Ia.ext (F : Ia Z h a k ty n ps) (E : Ext h h') : Ia Z h' a k ty n ps := ⟨F.1.ext E, F.2⟩
theorem Ia.other (F : Ia Z h b k ty n ps) (W : Wr h h' a sl v) (q : b ≠ a) : Ia Z h' b k ty n ps := ⟨F.1.other W q, F.2⟩
theorem Ia.keep (F : Ia Z h a k ty n ps) (K : Keep h h' ws) (q : a ∉ ws) : Ia Z h' a k ty n ps := ⟨F.1.keep K q, F.2⟩
theorem own_lenlt (hj : ¬ j < 0 ∧ j < n) : j.toNatClampNeg < n.toNatClampNeg := by
  obtain ⟨h1, h2⟩ := hj
  have e0 : (0 : Int32).toInt = 0 := rfl
  rw [Int32.lt_iff_toInt_lt] at h1 h2
  simp only [Int32.toNatClampNeg]; omega
theorem Ia.get (F : Ia Z h a k ty n ps) (hj : ¬ j < 0 ∧ j < n) : ∃ cl : Cell, Arr Z h a cl ty ∧ ¬ (j < 0 ∨ cl.slots.size ≤ j.toNatClampNeg) ∧ cl.slots[j.toNatClampNeg]? = some (.int (getI ps j)) := by
  obtain ⟨⟨cl, A, q1, S, q3, H, G⟩, hl⟩ := F
  have hin := inb_of S hj
  refine ⟨cl, A, hin, Has.at H hin ?_⟩
  simp only [getI, List.getD_eq_getElem?_getD, List.getElem?_map]
  cases ps[j.toNatClampNeg]? <;> rfl
theorem Ia.set (F : Ia Z h a k ty n ps) (hj : ¬ j < 0 ∧ j < n) (hv : fits ty (.int x) = true) (W : Wr h h' a j.toNatClampNeg (.int x)) : Ia Z h' a k ty n (setI ps j x) := by
  obtain ⟨⟨cl, A, q1, S, q3, H, G⟩, hl⟩ := F
  have hi : j.toNatClampNeg < (ps.map Value.int).length := by rw [List.length_map, hl]; exact own_lenlt hj
  have r := Arv.set A q1 S q3 H G hv W _ rfl hi
  refine ⟨?_, by rw [setI, List.length_set]; exact hl⟩
  rw [setI, List.map_set]; exact r
theorem Ia.new (A : Arr Z h a (newA k ty n) ty) (q : ¬ n < 0) (hd : defaultValue ty = .int 0) : Ia Z h a k ty n (List.replicate n.toNatClampNeg 0) := by
  refine ⟨?_, List.length_replicate⟩
  have r := Arv.new A q
  rw [hd] at r
  rw [List.map_replicate]
  exact r.pad (pad_rep [] (.int 0) n.toNatClampNeg)
theorem Ia.size (F : Ia Z h a k ty n ps) : ∃ cl : Cell, Arr Z h a cl ty ∧ cl.slots.size.toInt32 = n := by
  obtain ⟨⟨cl, A, q1, S, q3, H, G⟩, hl⟩ := F
  exact ⟨cl, A, len_of S q3⟩
end OwnArr

theorem d1_0 : decode prog_38_method_1_code 0 = .ok (.aload_n 0, 1) := by decide +kernel
theorem d1_1 : decode prog_38_method_1_code 1 = .ok (.invokespecial 1, 3) := by decide +kernel
theorem d1_4 : decode prog_38_method_1_code 4 = .ok (.aload_n 0, 1) := by decide +kernel
theorem d1_5 : decode prog_38_method_1_code 5 = .ok (.bipush 32, 2) := by decide +kernel
theorem d1_7 : decode prog_38_method_1_code 7 = .ok (.newarray .int, 2) := by decide +kernel
theorem d1_9 : decode prog_38_method_1_code 9 = .ok (.putfield 9, 3) := by decide +kernel
theorem d1_12 : decode prog_38_method_1_code 12 = .ok (.aload_n 0, 1) := by decide +kernel
theorem d1_13 : decode prog_38_method_1_code 13 = .ok (.bipush 32, 2) := by decide +kernel
theorem d1_15 : decode prog_38_method_1_code 15 = .ok (.newarray .boolean, 2) := by decide +kernel
theorem d1_17 : decode prog_38_method_1_code 17 = .ok (.putfield 13, 3) := by decide +kernel
theorem d1_20 : decode prog_38_method_1_code 20 = .ok (.return_, 1) := by decide +kernel
theorem pn_1 : plainName "com/example/glowcursor/glowcursor/parser/ControlSequence" = true := by first | (simp [plainName, overriddenIn]; done) | decide +kernel
theorem ef_1 (m : MethodId) (x0 : Addr) : entryFrame m #[(.ref x0)] 1 = mkF m 0 #[.val (.ref x0)] [] := by first | (simp [entryFrame, mkF, argsToLocals, Value.category]; done) | rfl
def Q1 (Z : State) (o0 : Addr) (u_parameters : Value) (u_subParameters : Value) (u_count : Value) (u_current : Value) (u_currentIsSubParameter : Value) (u_privateMarker : Value) (u_intermediate : Value) (u_finalByte : Value) (h0 : Heap) (n0 : Nat) (v : Option Value) (h : Heap) (L : List Loc) : Prop := v = none ∧ Fr n0 L ∧ ∃ (pa sa : Addr) (ka kb : ClassId), n0 ≤ pa ∧ n0 ≤ sa ∧ h0.size ≤ pa ∧ h0.size ≤ sa ∧ o0 ≠ pa ∧ o0 ≠ sa ∧ pa ≠ sa ∧ Keep h0 h [o0] ∧ Fld Z h o0 "com/example/glowcursor/glowcursor/parser/ControlSequence" "parameters" "[I" (.ref pa) ∧ Fld Z h o0 "com/example/glowcursor/glowcursor/parser/ControlSequence" "subParameters" "[Z" (.ref sa) ∧ Fld Z h o0 "com/example/glowcursor/glowcursor/parser/ControlSequence" "count" "I" u_count ∧ Fld Z h o0 "com/example/glowcursor/glowcursor/parser/ControlSequence" "current" "I" u_current ∧ Fld Z h o0 "com/example/glowcursor/glowcursor/parser/ControlSequence" "currentIsSubParameter" "Z" u_currentIsSubParameter ∧ Fld Z h o0 "com/example/glowcursor/glowcursor/parser/ControlSequence" "privateMarker" "I" u_privateMarker ∧ Fld Z h o0 "com/example/glowcursor/glowcursor/parser/ControlSequence" "intermediate" "I" u_intermediate ∧ Fld Z h o0 "com/example/glowcursor/glowcursor/parser/ControlSequence" "finalByte" "I" u_finalByte ∧ Ia Z h pa ka .int 32 (List.replicate (32 : Int32).toNatClampNeg 0) ∧ Ia Z h sa kb .boolean 32 (List.replicate (32 : Int32).toNatClampNeg 0)
set_option maxRecDepth 65536 in
set_option maxHeartbeats 40000000 in
theorem rm1 (l : Launch) (Z : State) (a0 : Array Value) (hw : ∀ d ∈ tables_1, d.before a0 Z = true) (ws : List Jvm.Cond) (o0 : Addr) (u_parameters : Value) (u_subParameters : Value) (u_count : Value) (u_current : Value) (u_currentIsSubParameter : Value) (u_privateMarker : Value) (u_intermediate : Value) (u_finalByte : Value) (h0 : Heap) (n0 : Nat) (Z0 : n0 ≤ h0.size) (E_o0 : Exa Z h0 o0 "com/example/glowcursor/glowcursor/parser/ControlSequence") (g_o0 : n0 ≤ o0) (F_parameters_o0 : Fld Z h0 o0 "com/example/glowcursor/glowcursor/parser/ControlSequence" "parameters" "[I" u_parameters) (F_subParameters_o0 : Fld Z h0 o0 "com/example/glowcursor/glowcursor/parser/ControlSequence" "subParameters" "[Z" u_subParameters) (F_count_o0 : Fld Z h0 o0 "com/example/glowcursor/glowcursor/parser/ControlSequence" "count" "I" u_count) (F_current_o0 : Fld Z h0 o0 "com/example/glowcursor/glowcursor/parser/ControlSequence" "current" "I" u_current) (F_currentIsSubParameter_o0 : Fld Z h0 o0 "com/example/glowcursor/glowcursor/parser/ControlSequence" "currentIsSubParameter" "Z" u_currentIsSubParameter) (F_privateMarker_o0 : Fld Z h0 o0 "com/example/glowcursor/glowcursor/parser/ControlSequence" "privateMarker" "I" u_privateMarker) (F_intermediate_o0 : Fld Z h0 o0 "com/example/glowcursor/glowcursor/parser/ControlSequence" "intermediate" "I" u_intermediate) (F_finalByte_o0 : Fld Z h0 o0 "com/example/glowcursor/glowcursor/parser/ControlSequence" "finalByte" "I" u_finalByte)  :
    MetFree l (⟨"com/example/glowcursor/glowcursor/parser/ControlSequence", "<init>", "()V"⟩ : MethodName) (head1 (Jvm.Cond.code (⟨"com/example/glowcursor/glowcursor/parser/ControlSequence", "<init>", "()V"⟩ : MethodName) prog_38_method_1_code 1 none :: ws) ({ frames := 1, cells := 2, slots := 64, locals := 12 } : Room)) (fun a U => a = #[(.ref o0)] ∧ Z.Warmed39 U.vm ∧ U.heap = h0) (fun _ _ _ _ _ => True) (fun _ U o U' => ∃ v L, o = .returned v ∧ Q1 Z o0 u_parameters u_subParameters u_count u_current u_currentIsSubParameter u_privateMarker u_intermediate u_finalByte h0 n0 v U'.heap L ∧ FrameEnd U o U' L ({ frames := 1, cells := 2, slots := 64, locals := 12 } : Room).cells ({ frames := 1, cells := 2, slots := 64, locals := 12 } : Room).slots) := by
  refine MetFree.of_bodySF (plainFor_of_name pn_1) hisR ?_
  intro p e s m args below meth c s₁ Bd hml0 hP hK
  obtain ⟨rfl, hZ, hh⟩ := hP
  have hx := Bd.exec
  have hby := Bd.bytes
  have hml : c.maxLocals = 1 := hml0
  have hown : s.vm.findClass "com/example/glowcursor/glowcursor/parser/ControlSequence" = some m.cls := findClass_of_methodNamed Bd.named
  have hnm := (name_of_methodNamed Bd.named Bd.method).1
  have X0 : Stand p l e ({ frames := 1, cells := 2, slots := 64, locals := 12 } : Room) s m #[(.ref o0)] below meth c s₁ [] 0 0 := Stand.of_body Bd
  have e0 : s₁.heap = h0 := by rw [← hh, Bd.state]; rfl
  have N0 := Fr.nil n0
  have pre0 : ∀ t, Steps p.tables e below (s₁.setTop (mkF m 0 #[.val (.ref o0)] [])) t → Steps p.tables e below (s₁.setTop (entryFrame m #[(.ref o0)] 1)) t := fun t k => castTop (ef_1 m o0) k
  obtain ⟨T1, X1, e1, st1⟩ := initO X0 hx hZ hown (hw _ (List.mem_of_getElem? (i := 6) rfl)) (hw _ (List.mem_of_getElem? (i := 7) rfl)) (hw _ (List.mem_of_getElem? (i := 8) rfl)) e0 (g := (mkF m 1 #[.val (.ref o0)] [(.ref o0)])) rfl (by rw [hml]; rfl) rfl (hb hby d1_1) (by decide) (W := 0) (by show 2 * 0 + _ ≤ _; exact Nat.le_of_eq rfl) (by decide)
  obtain ⟨T2, h2, k2, X2, e2, E2, A2, st2⟩ := newP X1 hx hZ (hw _ (List.mem_of_getElem? (i := 9) rfl)) e1 (g := (mkF m 7 #[.val (.ref o0)] [(.int (32 : Int32)), (.ref o0)])) rfl (hb hby d1_7) rfl (by decide) (cap := 32) (by decide) (by decide) (by decide) (by decide)
  obtain ⟨b2, g2⟩ : ∃ z, z = h0.size := ⟨_, rfl⟩
  rw [← g2] at A2 st2
  have g_b2 : n0 ≤ b2 := Nat.le_trans Z0 (Nat.le_of_eq g2.symm)
  have sz_b2 : h0.size ≤ b2 := Nat.le_trans ((Keep.refl h0 [o0])).1 (Nat.le_of_eq g2.symm)
  have Z2 : n0 ≤ h2.size := Nat.le_trans Z0 E2.1
  have K2 : Keep h0 h2 [o0] := ((Keep.refl h0 [o0])).ext E2
  have V_b2 := Ia.new A2 (by decide) rfl
  obtain ⟨T3, h3, X3, e3, W3, st3⟩ := putF X2 hx hZ hown (host := "") (Or.inl (hw _ (List.mem_of_getElem? (i := 10) rfl))) Via.refl e2 ((F_parameters_o0.ext E2)) ((E_o0.ext E2)) (Or.inr ⟨(hw _ (List.mem_of_getElem? (i := 11) rfl)), rfl, hnm⟩) (hw _ (List.mem_of_getElem? (i := 1) rfl)) (ty := (.array .int)) (by decide) rfl rfl (g := (mkF m 9 #[.val (.ref o0)] [(.ref b2), (.ref o0)])) rfl rfl (hb hby d1_9)
  have Fw3 := ((F_parameters_o0.ext E2)).same W3
  have N3 := Fr.snoc X3 N0 g_o0
  have Z3 : n0 ≤ h3.size := Nat.le_trans Z2 (Keep.of_wr W3).1
  have K3 : Keep h0 h3 [o0] := (K2).wr W3 (Or.inl (List.mem_of_getElem? (i := 0) rfl))
  obtain ⟨T4, h4, k4, X4, e4, E4, A4, st4⟩ := newP X3 hx hZ (hw _ (List.mem_of_getElem? (i := 12) rfl)) e3 (g := (mkF m 15 #[.val (.ref o0)] [(.int (32 : Int32)), (.ref o0)])) rfl (hb hby d1_15) rfl (by decide) (cap := 32) (by decide) (by decide) (by decide) (by decide)
  obtain ⟨b4, g4⟩ : ∃ z, z = h3.size := ⟨_, rfl⟩
  rw [← g4] at A4 st4
  have g_b4 : n0 ≤ b4 := Nat.le_trans Z3 (Nat.le_of_eq g4.symm)
  have sz_b4 : h0.size ≤ b4 := Nat.le_trans (K3).1 (Nat.le_of_eq g4.symm)
  have Z4 : n0 ≤ h4.size := Nat.le_trans Z3 E4.1
  have K4 : Keep h0 h4 [o0] := (K3).ext E4
  have V_b4 := Ia.new A4 (by decide) rfl
  obtain ⟨T5, h5, X5, e5, W5, st5⟩ := putF X4 hx hZ hown (host := "") (Or.inl (hw _ (List.mem_of_getElem? (i := 13) rfl))) Via.refl e4 ((((F_subParameters_o0.ext E2).other W3 (Or.inr (slot_ne (Or.inr (hw _ (List.mem_of_getElem? (i := 14) rfl))) (Or.inr (hw _ (List.mem_of_getElem? (i := 11) rfl))) (by decide) (t := (.array .boolean)) (t' := (.array .int)) (by decide) (by decide)))).ext E4)) ((((E_o0.ext E2).wr W3).ext E4)) (Or.inr ⟨(hw _ (List.mem_of_getElem? (i := 14) rfl)), rfl, hnm⟩) (hw _ (List.mem_of_getElem? (i := 1) rfl)) (ty := (.array .boolean)) (by decide) rfl rfl (g := (mkF m 17 #[.val (.ref o0)] [(.ref b4), (.ref o0)])) rfl rfl (hb hby d1_17)
  have Fw5 := ((((F_subParameters_o0.ext E2).other W3 (Or.inr (slot_ne (Or.inr (hw _ (List.mem_of_getElem? (i := 14) rfl))) (Or.inr (hw _ (List.mem_of_getElem? (i := 11) rfl))) (by decide) (t := (.array .boolean)) (t' := (.array .int)) (by decide) (by decide)))).ext E4)).same W5
  have N5 := Fr.snoc X5 N3 g_o0
  have Z5 : n0 ≤ h5.size := Nat.le_trans Z4 (Keep.of_wr W5).1
  have K5 : Keep h0 h5 [o0] := (K4).wr W5 (Or.inl (List.mem_of_getElem? (i := 0) rfl))
  obtain ⟨fs, hr, hrun, hended, hW, hsame⟩ := X5.leave (v := none) (fun _ => rfl)
  refine ⟨_, _, pre0 _ ?_, hrun, hended, _, _, rfl, ?_, ⟨_, rfl⟩, hW, hsame.mono (by decide) (by decide)⟩
  · show Steps p.tables e below (s₁.setTop (mkF m 0 #[.val (.ref o0)] [])) _
    refine XS.aloadN X0.here hx rfl (hb hby d1_0) rfl rfl ?_
    show Steps p.tables e below (s₁.setTop (mkF m 1 #[.val (.ref o0)] [(.ref o0)])) _
    refine st1 _ ?_
    show Steps p.tables e below (T1.setTop (mkF m 4 #[.val (.ref o0)] [])) _
    refine XS.aloadN X1.here hx rfl (hb hby d1_4) rfl rfl ?_
    show Steps p.tables e below (T1.setTop (mkF m 5 #[.val (.ref o0)] [(.ref o0)])) _
    refine XS.bipush X1.here hx rfl (hb hby d1_5) ?_
    show Steps p.tables e below (T1.setTop (mkF m 7 #[.val (.ref o0)] [(.int (32 : Int32)), (.ref o0)])) _
    refine st2 _ ?_
    show Steps p.tables e below (T2.setTop (mkF m 9 #[.val (.ref o0)] [(.ref b2), (.ref o0)])) _
    refine st3 _ ?_
    show Steps p.tables e below (T3.setTop (mkF m 12 #[.val (.ref o0)] [])) _
    refine XS.aloadN X3.here hx rfl (hb hby d1_12) rfl rfl ?_
    show Steps p.tables e below (T3.setTop (mkF m 13 #[.val (.ref o0)] [(.ref o0)])) _
    refine XS.bipush X3.here hx rfl (hb hby d1_13) ?_
    show Steps p.tables e below (T3.setTop (mkF m 15 #[.val (.ref o0)] [(.int (32 : Int32)), (.ref o0)])) _
    refine st4 _ ?_
    show Steps p.tables e below (T4.setTop (mkF m 17 #[.val (.ref o0)] [(.ref b4), (.ref o0)])) _
    refine st5 _ ?_
    show Steps p.tables e below (T5.setTop (mkF m 20 #[.val (.ref o0)] [])) _
    exact X5.returnOut hx Bd.returns (hb hby d1_20) hr
  · show Q1 Z o0 u_parameters u_subParameters u_count u_current u_currentIsSubParameter u_privateMarker u_intermediate u_finalByte h0 n0 _ T5.heap _
    rw [e5]
    exact ⟨rfl, N5, b2, b4, k2, k4, g_b2, g_b4, sz_b2, sz_b4, (Nat.ne_of_lt (Nat.lt_of_lt_of_le E_o0.lt (Nat.le_of_eq g2.symm))), (Nat.ne_of_lt (Nat.lt_of_lt_of_le ((E_o0.ext E2).wr W3).lt (Nat.le_of_eq g4.symm))), (Nat.ne_of_lt (Nat.lt_of_lt_of_le (V_b2.other W3 (Ne.symm (Nat.ne_of_lt (Nat.lt_of_lt_of_le E_o0.lt (Nat.le_of_eq g2.symm))))).lt (Nat.le_of_eq g4.symm))), K5, ((Fw3.ext E4).other W5 (Or.inr (slot_ne (Or.inr (hw _ (List.mem_of_getElem? (i := 11) rfl))) (Or.inr (hw _ (List.mem_of_getElem? (i := 14) rfl))) (by decide) (t := (.array .int)) (t' := (.array .boolean)) (by decide) (by decide)))), Fw5, ((((F_count_o0.ext E2).other W3 (Or.inr (slot_ne (Or.inl (hw _ (List.mem_of_getElem? (i := 21) rfl))) (Or.inr (hw _ (List.mem_of_getElem? (i := 11) rfl))) (by decide) (t := .int) (t' := (.array .int)) (by decide) (by decide)))).ext E4).other W5 (Or.inr (slot_ne (Or.inl (hw _ (List.mem_of_getElem? (i := 21) rfl))) (Or.inr (hw _ (List.mem_of_getElem? (i := 14) rfl))) (by decide) (t := .int) (t' := (.array .boolean)) (by decide) (by decide)))), ((((F_current_o0.ext E2).other W3 (Or.inr (slot_ne (Or.inl (hw _ (List.mem_of_getElem? (i := 23) rfl))) (Or.inr (hw _ (List.mem_of_getElem? (i := 11) rfl))) (by decide) (t := .int) (t' := (.array .int)) (by decide) (by decide)))).ext E4).other W5 (Or.inr (slot_ne (Or.inl (hw _ (List.mem_of_getElem? (i := 23) rfl))) (Or.inr (hw _ (List.mem_of_getElem? (i := 14) rfl))) (by decide) (t := .int) (t' := (.array .boolean)) (by decide) (by decide)))), ((((F_currentIsSubParameter_o0.ext E2).other W3 (Or.inr (slot_ne (Or.inl (hw _ (List.mem_of_getElem? (i := 25) rfl))) (Or.inr (hw _ (List.mem_of_getElem? (i := 11) rfl))) (by decide) (t := .boolean) (t' := (.array .int)) (by decide) (by decide)))).ext E4).other W5 (Or.inr (slot_ne (Or.inl (hw _ (List.mem_of_getElem? (i := 25) rfl))) (Or.inr (hw _ (List.mem_of_getElem? (i := 14) rfl))) (by decide) (t := .boolean) (t' := (.array .boolean)) (by decide) (by decide)))), ((((F_privateMarker_o0.ext E2).other W3 (Or.inr (slot_ne (Or.inl (hw _ (List.mem_of_getElem? (i := 27) rfl))) (Or.inr (hw _ (List.mem_of_getElem? (i := 11) rfl))) (by decide) (t := .int) (t' := (.array .int)) (by decide) (by decide)))).ext E4).other W5 (Or.inr (slot_ne (Or.inl (hw _ (List.mem_of_getElem? (i := 27) rfl))) (Or.inr (hw _ (List.mem_of_getElem? (i := 14) rfl))) (by decide) (t := .int) (t' := (.array .boolean)) (by decide) (by decide)))), ((((F_intermediate_o0.ext E2).other W3 (Or.inr (slot_ne (Or.inl (hw _ (List.mem_of_getElem? (i := 29) rfl))) (Or.inr (hw _ (List.mem_of_getElem? (i := 11) rfl))) (by decide) (t := .int) (t' := (.array .int)) (by decide) (by decide)))).ext E4).other W5 (Or.inr (slot_ne (Or.inl (hw _ (List.mem_of_getElem? (i := 29) rfl))) (Or.inr (hw _ (List.mem_of_getElem? (i := 14) rfl))) (by decide) (t := .int) (t' := (.array .boolean)) (by decide) (by decide)))), ((((F_finalByte_o0.ext E2).other W3 (Or.inr (slot_ne (Or.inl (hw _ (List.mem_of_getElem? (i := 42) rfl))) (Or.inr (hw _ (List.mem_of_getElem? (i := 11) rfl))) (by decide) (t := .int) (t' := (.array .int)) (by decide) (by decide)))).ext E4).other W5 (Or.inr (slot_ne (Or.inl (hw _ (List.mem_of_getElem? (i := 42) rfl))) (Or.inr (hw _ (List.mem_of_getElem? (i := 14) rfl))) (by decide) (t := .int) (t' := (.array .boolean)) (by decide) (by decide)))), (((V_b2.other W3 (Ne.symm (Nat.ne_of_lt (Nat.lt_of_lt_of_le E_o0.lt (Nat.le_of_eq g2.symm))))).ext E4).other W5 (Ne.symm (Nat.ne_of_lt (Nat.lt_of_lt_of_le E_o0.lt (Nat.le_of_eq g2.symm))))), (V_b4.other W5 (Ne.symm (Nat.ne_of_lt (Nat.lt_of_lt_of_le ((E_o0.ext E2).wr W3).lt (Nat.le_of_eq g4.symm)))))⟩
theorem d3_0 : decode prog_38_method_9_code 0 = .ok (.aload_n 0, 1) := by decide +kernel
theorem d3_1 : decode prog_38_method_9_code 1 = .ok (.iconst 0, 1) := by decide +kernel
theorem d3_2 : decode prog_38_method_9_code 2 = .ok (.putfield 27, 3) := by decide +kernel
theorem d3_5 : decode prog_38_method_9_code 5 = .ok (.aload_n 0, 1) := by decide +kernel
theorem d3_6 : decode prog_38_method_9_code 6 = .ok (.iconst (-1), 1) := by decide +kernel
theorem d3_7 : decode prog_38_method_9_code 7 = .ok (.putfield 30, 3) := by decide +kernel
theorem d3_10 : decode prog_38_method_9_code 10 = .ok (.aload_n 0, 1) := by decide +kernel
theorem d3_11 : decode prog_38_method_9_code 11 = .ok (.iconst 0, 1) := by decide +kernel
theorem d3_12 : decode prog_38_method_9_code 12 = .ok (.putfield 33, 3) := by decide +kernel
theorem d3_15 : decode prog_38_method_9_code 15 = .ok (.aload_n 0, 1) := by decide +kernel
theorem d3_16 : decode prog_38_method_9_code 16 = .ok (.iconst 0, 1) := by decide +kernel
theorem d3_17 : decode prog_38_method_9_code 17 = .ok (.putfield 17, 3) := by decide +kernel
theorem d3_20 : decode prog_38_method_9_code 20 = .ok (.aload_n 0, 1) := by decide +kernel
theorem d3_21 : decode prog_38_method_9_code 21 = .ok (.iconst 0, 1) := by decide +kernel
theorem d3_22 : decode prog_38_method_9_code 22 = .ok (.putfield 21, 3) := by decide +kernel
theorem d3_25 : decode prog_38_method_9_code 25 = .ok (.return_, 1) := by decide +kernel
theorem pn_3 : plainName "com/example/glowcursor/glowcursor/parser/ControlSequence" = true := by first | (simp [plainName, overriddenIn]; done) | decide +kernel
theorem ef_3 (m : MethodId) (x0 : Addr) : entryFrame m #[(.ref x0)] 1 = mkF m 0 #[.val (.ref x0)] [] := by first | (simp [entryFrame, mkF, argsToLocals, Value.category]; done) | rfl
def Q3 (Z : State) (o0 : Addr) (pa : Addr) (sa : Addr) (cnt : Int32) (cur : Int32) (cis : Int32) (um : Value) (ui : Value) (uf : Value) (ka : ClassId) (ps : List Int32) (kb : ClassId) (ss : List Int32) (h0 : Heap) (n0 : Nat) (v : Option Value) (h : Heap) (L : List Loc) : Prop := v = none ∧ Fr n0 L ∧ Keep h0 h [o0, pa, sa] ∧ Fld Z h o0 "com/example/glowcursor/glowcursor/parser/ControlSequence" "parameters" "[I" (.ref pa) ∧ Fld Z h o0 "com/example/glowcursor/glowcursor/parser/ControlSequence" "subParameters" "[Z" (.ref sa) ∧ Fld Z h o0 "com/example/glowcursor/glowcursor/parser/ControlSequence" "count" "I" (.int (0 : Int32)) ∧ Fld Z h o0 "com/example/glowcursor/glowcursor/parser/ControlSequence" "current" "I" (.int (-1 : Int32)) ∧ Fld Z h o0 "com/example/glowcursor/glowcursor/parser/ControlSequence" "currentIsSubParameter" "Z" (.int (0 : Int32)) ∧ Fld Z h o0 "com/example/glowcursor/glowcursor/parser/ControlSequence" "privateMarker" "I" (.int (0 : Int32)) ∧ Fld Z h o0 "com/example/glowcursor/glowcursor/parser/ControlSequence" "intermediate" "I" (.int (0 : Int32)) ∧ Fld Z h o0 "com/example/glowcursor/glowcursor/parser/ControlSequence" "finalByte" "I" uf ∧ Ia Z h pa ka .int (32 : Int32) ps ∧ Ia Z h sa kb .boolean (32 : Int32) ss
set_option maxRecDepth 65536 in
set_option maxHeartbeats 40000000 in
theorem rm3 (l : Launch) (Z : State) (a0 : Array Value) (hw : ∀ d ∈ tables_1, d.before a0 Z = true) (ws : List Jvm.Cond) (o0 : Addr) (pa : Addr) (sa : Addr) (cnt : Int32) (cur : Int32) (cis : Int32) (um : Value) (ui : Value) (uf : Value) (ka : ClassId) (ps : List Int32) (kb : ClassId) (ss : List Int32) (h0 : Heap) (n0 : Nat) (Z0 : n0 ≤ h0.size) (E_o0 : Exa Z h0 o0 "com/example/glowcursor/glowcursor/parser/ControlSequence") (g_o0 : n0 ≤ o0) (F_parameters_o0 : Fld Z h0 o0 "com/example/glowcursor/glowcursor/parser/ControlSequence" "parameters" "[I" (.ref pa)) (F_subParameters_o0 : Fld Z h0 o0 "com/example/glowcursor/glowcursor/parser/ControlSequence" "subParameters" "[Z" (.ref sa)) (F_count_o0 : Fld Z h0 o0 "com/example/glowcursor/glowcursor/parser/ControlSequence" "count" "I" (.int cnt)) (F_current_o0 : Fld Z h0 o0 "com/example/glowcursor/glowcursor/parser/ControlSequence" "current" "I" (.int cur)) (F_currentIsSubParameter_o0 : Fld Z h0 o0 "com/example/glowcursor/glowcursor/parser/ControlSequence" "currentIsSubParameter" "Z" (.int cis)) (F_privateMarker_o0 : Fld Z h0 o0 "com/example/glowcursor/glowcursor/parser/ControlSequence" "privateMarker" "I" um) (F_intermediate_o0 : Fld Z h0 o0 "com/example/glowcursor/glowcursor/parser/ControlSequence" "intermediate" "I" ui) (F_finalByte_o0 : Fld Z h0 o0 "com/example/glowcursor/glowcursor/parser/ControlSequence" "finalByte" "I" uf) (V_pa : Ia Z h0 pa ka .int (32 : Int32) ps) (g_pa : n0 ≤ pa) (V_sa : Ia Z h0 sa kb .boolean (32 : Int32) ss) (g_sa : n0 ≤ sa) (ne_o0_pa : o0 ≠ pa) (ne_o0_sa : o0 ≠ sa) (ne_pa_sa : pa ≠ sa)  :
    MetFree l (⟨"com/example/glowcursor/glowcursor/parser/ControlSequence", "start", "()V"⟩ : MethodName) (head1 (Jvm.Cond.code (⟨"com/example/glowcursor/glowcursor/parser/ControlSequence", "start", "()V"⟩ : MethodName) prog_38_method_9_code 1 none :: ws) ({ frames := 0, cells := 0, slots := 0, locals := 0 } : Room)) (fun a U => a = #[(.ref o0)] ∧ Z.Warmed39 U.vm ∧ U.heap = h0) (fun _ _ _ _ _ => True) (fun _ U o U' => ∃ v L, o = .returned v ∧ Q3 Z o0 pa sa cnt cur cis um ui uf ka ps kb ss h0 n0 v U'.heap L ∧ FrameEnd U o U' L ({ frames := 0, cells := 0, slots := 0, locals := 0 } : Room).cells ({ frames := 0, cells := 0, slots := 0, locals := 0 } : Room).slots) := by
  refine MetFree.of_bodySF (plainFor_of_name pn_3) hisR ?_
  intro p e s m args below meth c s₁ Bd hml0 hP hK
  obtain ⟨rfl, hZ, hh⟩ := hP
  have hx := Bd.exec
  have hby := Bd.bytes
  have hml : c.maxLocals = 1 := hml0
  have hown : s.vm.findClass "com/example/glowcursor/glowcursor/parser/ControlSequence" = some m.cls := findClass_of_methodNamed Bd.named
  have hnm := (name_of_methodNamed Bd.named Bd.method).1
  have X0 : Stand p l e ({ frames := 0, cells := 0, slots := 0, locals := 0 } : Room) s m #[(.ref o0)] below meth c s₁ [] 0 0 := Stand.of_body Bd
  have e0 : s₁.heap = h0 := by rw [← hh, Bd.state]; rfl
  have N0 := Fr.nil n0
  have pre0 : ∀ t, Steps p.tables e below (s₁.setTop (mkF m 0 #[.val (.ref o0)] [])) t → Steps p.tables e below (s₁.setTop (entryFrame m #[(.ref o0)] 1)) t := fun t k => castTop (ef_3 m o0) k
  obtain ⟨T1, h1, X1, e1, W1, st1⟩ := putF X0 hx hZ hown (host := "") (Or.inl (hw _ (List.mem_of_getElem? (i := 20) rfl))) Via.refl e0 (F_count_o0) (E_o0) (Or.inl (hw _ (List.mem_of_getElem? (i := 21) rfl))) (hw _ (List.mem_of_getElem? (i := 1) rfl)) (ty := .int) (by decide) rfl rfl (g := (mkF m 2 #[.val (.ref o0)] [(.int (0 : Int32)), (.ref o0)])) rfl rfl (hb hby d3_2)
  have Fw1 := (F_count_o0).same W1
  have N1 := Fr.snoc X1 N0 g_o0
  have Z1 : n0 ≤ h1.size := Nat.le_trans Z0 (Keep.of_wr W1).1
  have K1 : Keep h0 h1 [o0, pa, sa] := ((Keep.refl h0 [o0, pa, sa])).wr W1 (Or.inl (List.mem_of_getElem? (i := 0) rfl))
  obtain ⟨T2, h2, X2, e2, W2, st2⟩ := putF X1 hx hZ hown (host := "") (Or.inl (hw _ (List.mem_of_getElem? (i := 22) rfl))) Via.refl e1 ((F_current_o0.other W1 (Or.inr (slot_ne (Or.inl (hw _ (List.mem_of_getElem? (i := 23) rfl))) (Or.inl (hw _ (List.mem_of_getElem? (i := 21) rfl))) (by decide) (t := .int) (t' := .int) (by decide) (by decide))))) ((E_o0.wr W1)) (Or.inl (hw _ (List.mem_of_getElem? (i := 23) rfl))) (hw _ (List.mem_of_getElem? (i := 1) rfl)) (ty := .int) (by decide) rfl rfl (g := (mkF m 7 #[.val (.ref o0)] [(.int (-1 : Int32)), (.ref o0)])) rfl rfl (hb hby d3_7)
  have Fw2 := ((F_current_o0.other W1 (Or.inr (slot_ne (Or.inl (hw _ (List.mem_of_getElem? (i := 23) rfl))) (Or.inl (hw _ (List.mem_of_getElem? (i := 21) rfl))) (by decide) (t := .int) (t' := .int) (by decide) (by decide))))).same W2
  have N2 := Fr.snoc X2 N1 g_o0
  have Z2 : n0 ≤ h2.size := Nat.le_trans Z1 (Keep.of_wr W2).1
  have K2 : Keep h0 h2 [o0, pa, sa] := (K1).wr W2 (Or.inl (List.mem_of_getElem? (i := 0) rfl))
  obtain ⟨T3, h3, X3, e3, W3, st3⟩ := putFN X2 hx hZ hown (hw _ (List.mem_of_getElem? (i := 24) rfl)) Via.refl e2 (((F_currentIsSubParameter_o0.other W1 (Or.inr (slot_ne (Or.inl (hw _ (List.mem_of_getElem? (i := 25) rfl))) (Or.inl (hw _ (List.mem_of_getElem? (i := 21) rfl))) (by decide) (t := .boolean) (t' := .int) (by decide) (by decide)))).other W2 (Or.inr (slot_ne (Or.inl (hw _ (List.mem_of_getElem? (i := 25) rfl))) (Or.inl (hw _ (List.mem_of_getElem? (i := 23) rfl))) (by decide) (t := .boolean) (t' := .int) (by decide) (by decide))))) (((E_o0.wr W1).wr W2)) (Or.inl (hw _ (List.mem_of_getElem? (i := 25) rfl))) (hw _ (List.mem_of_getElem? (i := 1) rfl)) (ty := .boolean) (v' := (.int (0 : Int32))) (by decide) rfl rfl (g := (mkF m 12 #[.val (.ref o0)] [(.int (0 : Int32)), (.ref o0)])) rfl rfl (hb hby d3_12)
  have Fw3 := (((F_currentIsSubParameter_o0.other W1 (Or.inr (slot_ne (Or.inl (hw _ (List.mem_of_getElem? (i := 25) rfl))) (Or.inl (hw _ (List.mem_of_getElem? (i := 21) rfl))) (by decide) (t := .boolean) (t' := .int) (by decide) (by decide)))).other W2 (Or.inr (slot_ne (Or.inl (hw _ (List.mem_of_getElem? (i := 25) rfl))) (Or.inl (hw _ (List.mem_of_getElem? (i := 23) rfl))) (by decide) (t := .boolean) (t' := .int) (by decide) (by decide))))).same W3
  have N3 := Fr.snoc X3 N2 g_o0
  have Z3 : n0 ≤ h3.size := Nat.le_trans Z2 (Keep.of_wr W3).1
  have K3 : Keep h0 h3 [o0, pa, sa] := (K2).wr W3 (Or.inl (List.mem_of_getElem? (i := 0) rfl))
  obtain ⟨T4, h4, X4, e4, W4, st4⟩ := putF X3 hx hZ hown (host := "") (Or.inl (hw _ (List.mem_of_getElem? (i := 26) rfl))) Via.refl e3 ((((F_privateMarker_o0.other W1 (Or.inr (slot_ne (Or.inl (hw _ (List.mem_of_getElem? (i := 27) rfl))) (Or.inl (hw _ (List.mem_of_getElem? (i := 21) rfl))) (by decide) (t := .int) (t' := .int) (by decide) (by decide)))).other W2 (Or.inr (slot_ne (Or.inl (hw _ (List.mem_of_getElem? (i := 27) rfl))) (Or.inl (hw _ (List.mem_of_getElem? (i := 23) rfl))) (by decide) (t := .int) (t' := .int) (by decide) (by decide)))).other W3 (Or.inr (slot_ne (Or.inl (hw _ (List.mem_of_getElem? (i := 27) rfl))) (Or.inl (hw _ (List.mem_of_getElem? (i := 25) rfl))) (by decide) (t := .int) (t' := .boolean) (by decide) (by decide))))) ((((E_o0.wr W1).wr W2).wr W3)) (Or.inl (hw _ (List.mem_of_getElem? (i := 27) rfl))) (hw _ (List.mem_of_getElem? (i := 1) rfl)) (ty := .int) (by decide) rfl rfl (g := (mkF m 17 #[.val (.ref o0)] [(.int (0 : Int32)), (.ref o0)])) rfl rfl (hb hby d3_17)
  have Fw4 := ((((F_privateMarker_o0.other W1 (Or.inr (slot_ne (Or.inl (hw _ (List.mem_of_getElem? (i := 27) rfl))) (Or.inl (hw _ (List.mem_of_getElem? (i := 21) rfl))) (by decide) (t := .int) (t' := .int) (by decide) (by decide)))).other W2 (Or.inr (slot_ne (Or.inl (hw _ (List.mem_of_getElem? (i := 27) rfl))) (Or.inl (hw _ (List.mem_of_getElem? (i := 23) rfl))) (by decide) (t := .int) (t' := .int) (by decide) (by decide)))).other W3 (Or.inr (slot_ne (Or.inl (hw _ (List.mem_of_getElem? (i := 27) rfl))) (Or.inl (hw _ (List.mem_of_getElem? (i := 25) rfl))) (by decide) (t := .int) (t' := .boolean) (by decide) (by decide))))).same W4
  have N4 := Fr.snoc X4 N3 g_o0
  have Z4 : n0 ≤ h4.size := Nat.le_trans Z3 (Keep.of_wr W4).1
  have K4 : Keep h0 h4 [o0, pa, sa] := (K3).wr W4 (Or.inl (List.mem_of_getElem? (i := 0) rfl))
  obtain ⟨T5, h5, X5, e5, W5, st5⟩ := putF X4 hx hZ hown (host := "") (Or.inl (hw _ (List.mem_of_getElem? (i := 28) rfl))) Via.refl e4 (((((F_intermediate_o0.other W1 (Or.inr (slot_ne (Or.inl (hw _ (List.mem_of_getElem? (i := 29) rfl))) (Or.inl (hw _ (List.mem_of_getElem? (i := 21) rfl))) (by decide) (t := .int) (t' := .int) (by decide) (by decide)))).other W2 (Or.inr (slot_ne (Or.inl (hw _ (List.mem_of_getElem? (i := 29) rfl))) (Or.inl (hw _ (List.mem_of_getElem? (i := 23) rfl))) (by decide) (t := .int) (t' := .int) (by decide) (by decide)))).other W3 (Or.inr (slot_ne (Or.inl (hw _ (List.mem_of_getElem? (i := 29) rfl))) (Or.inl (hw _ (List.mem_of_getElem? (i := 25) rfl))) (by decide) (t := .int) (t' := .boolean) (by decide) (by decide)))).other W4 (Or.inr (slot_ne (Or.inl (hw _ (List.mem_of_getElem? (i := 29) rfl))) (Or.inl (hw _ (List.mem_of_getElem? (i := 27) rfl))) (by decide) (t := .int) (t' := .int) (by decide) (by decide))))) (((((E_o0.wr W1).wr W2).wr W3).wr W4)) (Or.inl (hw _ (List.mem_of_getElem? (i := 29) rfl))) (hw _ (List.mem_of_getElem? (i := 1) rfl)) (ty := .int) (by decide) rfl rfl (g := (mkF m 22 #[.val (.ref o0)] [(.int (0 : Int32)), (.ref o0)])) rfl rfl (hb hby d3_22)
  have Fw5 := (((((F_intermediate_o0.other W1 (Or.inr (slot_ne (Or.inl (hw _ (List.mem_of_getElem? (i := 29) rfl))) (Or.inl (hw _ (List.mem_of_getElem? (i := 21) rfl))) (by decide) (t := .int) (t' := .int) (by decide) (by decide)))).other W2 (Or.inr (slot_ne (Or.inl (hw _ (List.mem_of_getElem? (i := 29) rfl))) (Or.inl (hw _ (List.mem_of_getElem? (i := 23) rfl))) (by decide) (t := .int) (t' := .int) (by decide) (by decide)))).other W3 (Or.inr (slot_ne (Or.inl (hw _ (List.mem_of_getElem? (i := 29) rfl))) (Or.inl (hw _ (List.mem_of_getElem? (i := 25) rfl))) (by decide) (t := .int) (t' := .boolean) (by decide) (by decide)))).other W4 (Or.inr (slot_ne (Or.inl (hw _ (List.mem_of_getElem? (i := 29) rfl))) (Or.inl (hw _ (List.mem_of_getElem? (i := 27) rfl))) (by decide) (t := .int) (t' := .int) (by decide) (by decide))))).same W5
  have N5 := Fr.snoc X5 N4 g_o0
  have Z5 : n0 ≤ h5.size := Nat.le_trans Z4 (Keep.of_wr W5).1
  have K5 : Keep h0 h5 [o0, pa, sa] := (K4).wr W5 (Or.inl (List.mem_of_getElem? (i := 0) rfl))
  obtain ⟨fs, hr, hrun, hended, hW, hsame⟩ := X5.leave (v := none) (fun _ => rfl)
  refine ⟨_, _, pre0 _ ?_, hrun, hended, _, _, rfl, ?_, ⟨_, rfl⟩, hW, hsame.mono (by decide) (by decide)⟩
  · show Steps p.tables e below (s₁.setTop (mkF m 0 #[.val (.ref o0)] [])) _
    refine XS.aloadN X0.here hx rfl (hb hby d3_0) rfl rfl ?_
    show Steps p.tables e below (s₁.setTop (mkF m 1 #[.val (.ref o0)] [(.ref o0)])) _
    refine XS.iconst X0.here hx rfl (hb hby d3_1) ?_
    show Steps p.tables e below (s₁.setTop (mkF m 2 #[.val (.ref o0)] [(.int (0 : Int32)), (.ref o0)])) _
    refine st1 _ ?_
    show Steps p.tables e below (T1.setTop (mkF m 5 #[.val (.ref o0)] [])) _
    refine XS.aloadN X1.here hx rfl (hb hby d3_5) rfl rfl ?_
    show Steps p.tables e below (T1.setTop (mkF m 6 #[.val (.ref o0)] [(.ref o0)])) _
    refine XS.iconst X1.here hx rfl (hb hby d3_6) ?_
    show Steps p.tables e below (T1.setTop (mkF m 7 #[.val (.ref o0)] [(.int (-1 : Int32)), (.ref o0)])) _
    refine st2 _ ?_
    show Steps p.tables e below (T2.setTop (mkF m 10 #[.val (.ref o0)] [])) _
    refine XS.aloadN X2.here hx rfl (hb hby d3_10) rfl rfl ?_
    show Steps p.tables e below (T2.setTop (mkF m 11 #[.val (.ref o0)] [(.ref o0)])) _
    refine XS.iconst X2.here hx rfl (hb hby d3_11) ?_
    show Steps p.tables e below (T2.setTop (mkF m 12 #[.val (.ref o0)] [(.int (0 : Int32)), (.ref o0)])) _
    refine st3 _ ?_
    show Steps p.tables e below (T3.setTop (mkF m 15 #[.val (.ref o0)] [])) _
    refine XS.aloadN X3.here hx rfl (hb hby d3_15) rfl rfl ?_
    show Steps p.tables e below (T3.setTop (mkF m 16 #[.val (.ref o0)] [(.ref o0)])) _
    refine XS.iconst X3.here hx rfl (hb hby d3_16) ?_
    show Steps p.tables e below (T3.setTop (mkF m 17 #[.val (.ref o0)] [(.int (0 : Int32)), (.ref o0)])) _
    refine st4 _ ?_
    show Steps p.tables e below (T4.setTop (mkF m 20 #[.val (.ref o0)] [])) _
    refine XS.aloadN X4.here hx rfl (hb hby d3_20) rfl rfl ?_
    show Steps p.tables e below (T4.setTop (mkF m 21 #[.val (.ref o0)] [(.ref o0)])) _
    refine XS.iconst X4.here hx rfl (hb hby d3_21) ?_
    show Steps p.tables e below (T4.setTop (mkF m 22 #[.val (.ref o0)] [(.int (0 : Int32)), (.ref o0)])) _
    refine st5 _ ?_
    show Steps p.tables e below (T5.setTop (mkF m 25 #[.val (.ref o0)] [])) _
    exact X5.returnOut hx Bd.returns (hb hby d3_25) hr
  · show Q3 Z o0 pa sa cnt cur cis um ui uf ka ps kb ss h0 n0 _ T5.heap _
    rw [e5]
    exact ⟨rfl, N5, K5, (((((F_parameters_o0.other W1 (Or.inr (slot_ne (Or.inr (hw _ (List.mem_of_getElem? (i := 11) rfl))) (Or.inl (hw _ (List.mem_of_getElem? (i := 21) rfl))) (by decide) (t := (.array .int)) (t' := .int) (by decide) (by decide)))).other W2 (Or.inr (slot_ne (Or.inr (hw _ (List.mem_of_getElem? (i := 11) rfl))) (Or.inl (hw _ (List.mem_of_getElem? (i := 23) rfl))) (by decide) (t := (.array .int)) (t' := .int) (by decide) (by decide)))).other W3 (Or.inr (slot_ne (Or.inr (hw _ (List.mem_of_getElem? (i := 11) rfl))) (Or.inl (hw _ (List.mem_of_getElem? (i := 25) rfl))) (by decide) (t := (.array .int)) (t' := .boolean) (by decide) (by decide)))).other W4 (Or.inr (slot_ne (Or.inr (hw _ (List.mem_of_getElem? (i := 11) rfl))) (Or.inl (hw _ (List.mem_of_getElem? (i := 27) rfl))) (by decide) (t := (.array .int)) (t' := .int) (by decide) (by decide)))).other W5 (Or.inr (slot_ne (Or.inr (hw _ (List.mem_of_getElem? (i := 11) rfl))) (Or.inl (hw _ (List.mem_of_getElem? (i := 29) rfl))) (by decide) (t := (.array .int)) (t' := .int) (by decide) (by decide)))), (((((F_subParameters_o0.other W1 (Or.inr (slot_ne (Or.inr (hw _ (List.mem_of_getElem? (i := 14) rfl))) (Or.inl (hw _ (List.mem_of_getElem? (i := 21) rfl))) (by decide) (t := (.array .boolean)) (t' := .int) (by decide) (by decide)))).other W2 (Or.inr (slot_ne (Or.inr (hw _ (List.mem_of_getElem? (i := 14) rfl))) (Or.inl (hw _ (List.mem_of_getElem? (i := 23) rfl))) (by decide) (t := (.array .boolean)) (t' := .int) (by decide) (by decide)))).other W3 (Or.inr (slot_ne (Or.inr (hw _ (List.mem_of_getElem? (i := 14) rfl))) (Or.inl (hw _ (List.mem_of_getElem? (i := 25) rfl))) (by decide) (t := (.array .boolean)) (t' := .boolean) (by decide) (by decide)))).other W4 (Or.inr (slot_ne (Or.inr (hw _ (List.mem_of_getElem? (i := 14) rfl))) (Or.inl (hw _ (List.mem_of_getElem? (i := 27) rfl))) (by decide) (t := (.array .boolean)) (t' := .int) (by decide) (by decide)))).other W5 (Or.inr (slot_ne (Or.inr (hw _ (List.mem_of_getElem? (i := 14) rfl))) (Or.inl (hw _ (List.mem_of_getElem? (i := 29) rfl))) (by decide) (t := (.array .boolean)) (t' := .int) (by decide) (by decide)))), ((((Fw1.other W2 (Or.inr (slot_ne (Or.inl (hw _ (List.mem_of_getElem? (i := 21) rfl))) (Or.inl (hw _ (List.mem_of_getElem? (i := 23) rfl))) (by decide) (t := .int) (t' := .int) (by decide) (by decide)))).other W3 (Or.inr (slot_ne (Or.inl (hw _ (List.mem_of_getElem? (i := 21) rfl))) (Or.inl (hw _ (List.mem_of_getElem? (i := 25) rfl))) (by decide) (t := .int) (t' := .boolean) (by decide) (by decide)))).other W4 (Or.inr (slot_ne (Or.inl (hw _ (List.mem_of_getElem? (i := 21) rfl))) (Or.inl (hw _ (List.mem_of_getElem? (i := 27) rfl))) (by decide) (t := .int) (t' := .int) (by decide) (by decide)))).other W5 (Or.inr (slot_ne (Or.inl (hw _ (List.mem_of_getElem? (i := 21) rfl))) (Or.inl (hw _ (List.mem_of_getElem? (i := 29) rfl))) (by decide) (t := .int) (t' := .int) (by decide) (by decide)))), (((Fw2.other W3 (Or.inr (slot_ne (Or.inl (hw _ (List.mem_of_getElem? (i := 23) rfl))) (Or.inl (hw _ (List.mem_of_getElem? (i := 25) rfl))) (by decide) (t := .int) (t' := .boolean) (by decide) (by decide)))).other W4 (Or.inr (slot_ne (Or.inl (hw _ (List.mem_of_getElem? (i := 23) rfl))) (Or.inl (hw _ (List.mem_of_getElem? (i := 27) rfl))) (by decide) (t := .int) (t' := .int) (by decide) (by decide)))).other W5 (Or.inr (slot_ne (Or.inl (hw _ (List.mem_of_getElem? (i := 23) rfl))) (Or.inl (hw _ (List.mem_of_getElem? (i := 29) rfl))) (by decide) (t := .int) (t' := .int) (by decide) (by decide)))), ((Fw3.other W4 (Or.inr (slot_ne (Or.inl (hw _ (List.mem_of_getElem? (i := 25) rfl))) (Or.inl (hw _ (List.mem_of_getElem? (i := 27) rfl))) (by decide) (t := .boolean) (t' := .int) (by decide) (by decide)))).other W5 (Or.inr (slot_ne (Or.inl (hw _ (List.mem_of_getElem? (i := 25) rfl))) (Or.inl (hw _ (List.mem_of_getElem? (i := 29) rfl))) (by decide) (t := .boolean) (t' := .int) (by decide) (by decide)))), (Fw4.other W5 (Or.inr (slot_ne (Or.inl (hw _ (List.mem_of_getElem? (i := 27) rfl))) (Or.inl (hw _ (List.mem_of_getElem? (i := 29) rfl))) (by decide) (t := .int) (t' := .int) (by decide) (by decide)))), Fw5, (((((F_finalByte_o0.other W1 (Or.inr (slot_ne (Or.inl (hw _ (List.mem_of_getElem? (i := 42) rfl))) (Or.inl (hw _ (List.mem_of_getElem? (i := 21) rfl))) (by decide) (t := .int) (t' := .int) (by decide) (by decide)))).other W2 (Or.inr (slot_ne (Or.inl (hw _ (List.mem_of_getElem? (i := 42) rfl))) (Or.inl (hw _ (List.mem_of_getElem? (i := 23) rfl))) (by decide) (t := .int) (t' := .int) (by decide) (by decide)))).other W3 (Or.inr (slot_ne (Or.inl (hw _ (List.mem_of_getElem? (i := 42) rfl))) (Or.inl (hw _ (List.mem_of_getElem? (i := 25) rfl))) (by decide) (t := .int) (t' := .boolean) (by decide) (by decide)))).other W4 (Or.inr (slot_ne (Or.inl (hw _ (List.mem_of_getElem? (i := 42) rfl))) (Or.inl (hw _ (List.mem_of_getElem? (i := 27) rfl))) (by decide) (t := .int) (t' := .int) (by decide) (by decide)))).other W5 (Or.inr (slot_ne (Or.inl (hw _ (List.mem_of_getElem? (i := 42) rfl))) (Or.inl (hw _ (List.mem_of_getElem? (i := 29) rfl))) (by decide) (t := .int) (t' := .int) (by decide) (by decide)))), (((((V_pa.other W1 (Ne.symm ne_o0_pa)).other W2 (Ne.symm ne_o0_pa)).other W3 (Ne.symm ne_o0_pa)).other W4 (Ne.symm ne_o0_pa)).other W5 (Ne.symm ne_o0_pa)), (((((V_sa.other W1 (Ne.symm ne_o0_sa)).other W2 (Ne.symm ne_o0_sa)).other W3 (Ne.symm ne_o0_sa)).other W4 (Ne.symm ne_o0_sa)).other W5 (Ne.symm ne_o0_sa))⟩
theorem d4_0 : decode prog_38_method_13_code 0 = .ok (.aload_n 0, 1) := by decide +kernel
theorem d4_1 : decode prog_38_method_13_code 1 = .ok (.getfield 27, 3) := by decide +kernel
theorem d4_4 : decode prog_38_method_13_code 4 = .ok (.bipush 32, 2) := by decide +kernel
theorem d4_6 : decode prog_38_method_13_code 6 = .ok (.if_icmp .ge 39, 3) := by decide +kernel
theorem d4_9 : decode prog_38_method_13_code 9 = .ok (.aload_n 0, 1) := by decide +kernel
theorem d4_10 : decode prog_38_method_13_code 10 = .ok (.getfield 9, 3) := by decide +kernel
theorem d4_13 : decode prog_38_method_13_code 13 = .ok (.aload_n 0, 1) := by decide +kernel
theorem d4_14 : decode prog_38_method_13_code 14 = .ok (.getfield 27, 3) := by decide +kernel
theorem d4_17 : decode prog_38_method_13_code 17 = .ok (.aload_n 0, 1) := by decide +kernel
theorem d4_18 : decode prog_38_method_13_code 18 = .ok (.getfield 30, 3) := by decide +kernel
theorem d4_21 : decode prog_38_method_13_code 21 = .ok (.iastore, 1) := by decide +kernel
theorem d4_22 : decode prog_38_method_13_code 22 = .ok (.aload_n 0, 1) := by decide +kernel
theorem d4_23 : decode prog_38_method_13_code 23 = .ok (.getfield 13, 3) := by decide +kernel
theorem d4_26 : decode prog_38_method_13_code 26 = .ok (.aload_n 0, 1) := by decide +kernel
theorem d4_27 : decode prog_38_method_13_code 27 = .ok (.getfield 27, 3) := by decide +kernel
theorem d4_30 : decode prog_38_method_13_code 30 = .ok (.aload_n 0, 1) := by decide +kernel
theorem d4_31 : decode prog_38_method_13_code 31 = .ok (.getfield 33, 3) := by decide +kernel
theorem d4_34 : decode prog_38_method_13_code 34 = .ok (.bastore, 1) := by decide +kernel
theorem d4_35 : decode prog_38_method_13_code 35 = .ok (.aload_n 0, 1) := by decide +kernel
theorem d4_36 : decode prog_38_method_13_code 36 = .ok (.dup, 1) := by decide +kernel
theorem d4_37 : decode prog_38_method_13_code 37 = .ok (.getfield 27, 3) := by decide +kernel
theorem d4_40 : decode prog_38_method_13_code 40 = .ok (.iconst 1, 1) := by decide +kernel
theorem d4_41 : decode prog_38_method_13_code 41 = .ok (.iadd, 1) := by decide +kernel
theorem d4_42 : decode prog_38_method_13_code 42 = .ok (.putfield 27, 3) := by decide +kernel
theorem d4_45 : decode prog_38_method_13_code 45 = .ok (.aload_n 0, 1) := by decide +kernel
theorem d4_46 : decode prog_38_method_13_code 46 = .ok (.iconst (-1), 1) := by decide +kernel
theorem d4_47 : decode prog_38_method_13_code 47 = .ok (.putfield 30, 3) := by decide +kernel
theorem d4_50 : decode prog_38_method_13_code 50 = .ok (.aload_n 0, 1) := by decide +kernel
theorem d4_51 : decode prog_38_method_13_code 51 = .ok (.iload_n 1, 1) := by decide +kernel
theorem d4_52 : decode prog_38_method_13_code 52 = .ok (.putfield 33, 3) := by decide +kernel
theorem d4_55 : decode prog_38_method_13_code 55 = .ok (.return_, 1) := by decide +kernel
theorem pn_4 : plainName "com/example/glowcursor/glowcursor/parser/ControlSequence" = true := by first | (simp [plainName, overriddenIn]; done) | decide +kernel
theorem ef_4 (m : MethodId) (x0 : Addr) (x1 : Int32) : entryFrame m #[(.ref x0), (.int x1)] 2 = mkF m 0 #[.val (.ref x0), .val (.int x1)] [] := by first | (simp [entryFrame, mkF, argsToLocals, Value.category]; done) | rfl
def Q4 (Z : State) (o0 : Addr) (p0 : Int32) (pa : Addr) (sa : Addr) (cnt : Int32) (cur : Int32) (cis : Int32) (um : Value) (ui : Value) (uf : Value) (ka : ClassId) (ps : List Int32) (kb : ClassId) (ss : List Int32) (h0 : Heap) (n0 : Nat) (v : Option Value) (h : Heap) (L : List Loc) : Prop := v = none ∧ Fr n0 L ∧ Keep h0 h [o0, pa, sa] ∧ Fld Z h o0 "com/example/glowcursor/glowcursor/parser/ControlSequence" "parameters" "[I" (.ref pa) ∧ Fld Z h o0 "com/example/glowcursor/glowcursor/parser/ControlSequence" "subParameters" "[Z" (.ref sa) ∧ Fld Z h o0 "com/example/glowcursor/glowcursor/parser/ControlSequence" "count" "I" (.int (cnt + (1 : Int32))) ∧ Fld Z h o0 "com/example/glowcursor/glowcursor/parser/ControlSequence" "current" "I" (.int (-1 : Int32)) ∧ Fld Z h o0 "com/example/glowcursor/glowcursor/parser/ControlSequence" "currentIsSubParameter" "Z" (.int (nar .boolean p0)) ∧ Fld Z h o0 "com/example/glowcursor/glowcursor/parser/ControlSequence" "privateMarker" "I" um ∧ Fld Z h o0 "com/example/glowcursor/glowcursor/parser/ControlSequence" "intermediate" "I" ui ∧ Fld Z h o0 "com/example/glowcursor/glowcursor/parser/ControlSequence" "finalByte" "I" uf ∧ Ia Z h pa ka .int (32 : Int32) (setI ps cnt cur) ∧ Ia Z h sa kb .boolean (32 : Int32) (setI ss cnt (nar .boolean cis))
set_option maxRecDepth 65536 in
set_option maxHeartbeats 40000000 in
theorem rm4 (l : Launch) (Z : State) (a0 : Array Value) (hw : ∀ d ∈ tables_1, d.before a0 Z = true) (ws : List Jvm.Cond) (o0 : Addr) (p0 : Int32) (pa : Addr) (sa : Addr) (cnt : Int32) (cur : Int32) (cis : Int32) (um : Value) (ui : Value) (uf : Value) (ka : ClassId) (ps : List Int32) (kb : ClassId) (ss : List Int32) (h0 : Heap) (n0 : Nat) (Z0 : n0 ≤ h0.size) (E_o0 : Exa Z h0 o0 "com/example/glowcursor/glowcursor/parser/ControlSequence") (g_o0 : n0 ≤ o0) (F_parameters_o0 : Fld Z h0 o0 "com/example/glowcursor/glowcursor/parser/ControlSequence" "parameters" "[I" (.ref pa)) (F_subParameters_o0 : Fld Z h0 o0 "com/example/glowcursor/glowcursor/parser/ControlSequence" "subParameters" "[Z" (.ref sa)) (F_count_o0 : Fld Z h0 o0 "com/example/glowcursor/glowcursor/parser/ControlSequence" "count" "I" (.int cnt)) (F_current_o0 : Fld Z h0 o0 "com/example/glowcursor/glowcursor/parser/ControlSequence" "current" "I" (.int cur)) (F_currentIsSubParameter_o0 : Fld Z h0 o0 "com/example/glowcursor/glowcursor/parser/ControlSequence" "currentIsSubParameter" "Z" (.int cis)) (F_privateMarker_o0 : Fld Z h0 o0 "com/example/glowcursor/glowcursor/parser/ControlSequence" "privateMarker" "I" um) (F_intermediate_o0 : Fld Z h0 o0 "com/example/glowcursor/glowcursor/parser/ControlSequence" "intermediate" "I" ui) (F_finalByte_o0 : Fld Z h0 o0 "com/example/glowcursor/glowcursor/parser/ControlSequence" "finalByte" "I" uf) (V_pa : Ia Z h0 pa ka .int (32 : Int32) ps) (g_pa : n0 ≤ pa) (V_sa : Ia Z h0 sa kb .boolean (32 : Int32) ss) (g_sa : n0 ≤ sa) (ne_o0_pa : o0 ≠ pa) (ne_o0_sa : o0 ≠ sa) (ne_pa_sa : pa ≠ sa) (hcn : ¬ cnt < (0 : Int32) ∧ cnt < (32 : Int32)) :
    MetFree l (⟨"com/example/glowcursor/glowcursor/parser/ControlSequence", "endParameter", "(Z)V"⟩ : MethodName) (head1 (Jvm.Cond.code (⟨"com/example/glowcursor/glowcursor/parser/ControlSequence", "endParameter", "(Z)V"⟩ : MethodName) prog_38_method_13_code 2 none :: ws) ({ frames := 0, cells := 0, slots := 0, locals := 0 } : Room)) (fun a U => a = #[(.ref o0), (.int p0)] ∧ Z.Warmed39 U.vm ∧ U.heap = h0) (fun _ _ _ _ _ => True) (fun _ U o U' => ∃ v L, o = .returned v ∧ Q4 Z o0 p0 pa sa cnt cur cis um ui uf ka ps kb ss h0 n0 v U'.heap L ∧ FrameEnd U o U' L ({ frames := 0, cells := 0, slots := 0, locals := 0 } : Room).cells ({ frames := 0, cells := 0, slots := 0, locals := 0 } : Room).slots) := by
  refine MetFree.of_bodySF (plainFor_of_name pn_4) hisR ?_
  intro p e s m args below meth c s₁ Bd hml0 hP hK
  obtain ⟨rfl, hZ, hh⟩ := hP
  have hx := Bd.exec
  have hby := Bd.bytes
  have hml : c.maxLocals = 2 := hml0
  have hown : s.vm.findClass "com/example/glowcursor/glowcursor/parser/ControlSequence" = some m.cls := findClass_of_methodNamed Bd.named
  have hnm := (name_of_methodNamed Bd.named Bd.method).1
  have X0 : Stand p l e ({ frames := 0, cells := 0, slots := 0, locals := 0 } : Room) s m #[(.ref o0), (.int p0)] below meth c s₁ [] 0 0 := Stand.of_body Bd
  have e0 : s₁.heap = h0 := by rw [← hh, Bd.state]; rfl
  have N0 := Fr.nil n0
  have pre0 : ∀ t, Steps p.tables e below (s₁.setTop (mkF m 0 #[.val (.ref o0), .val (.int p0)] [])) t → Steps p.tables e below (s₁.setTop (entryFrame m #[(.ref o0), (.int p0)] 2)) t := fun t k => castTop (ef_4 m o0 p0) k
  obtain ⟨T1, X1, e1, st1⟩ := getF X0 hx hZ hown (host := "") (Or.inl (hw _ (List.mem_of_getElem? (i := 20) rfl))) Via.refl e0 (F_count_o0) (g := (mkF m 1 #[.val (.ref o0), .val (.int p0)] [(.ref o0)])) rfl rfl (hb hby d4_1)
  obtain ⟨T2, X2, e2, st2⟩ := getF X1 hx hZ hown (host := "") (Or.inl (hw _ (List.mem_of_getElem? (i := 10) rfl))) Via.refl e1 (F_parameters_o0) (g := (mkF m 10 #[.val (.ref o0), .val (.int p0)] [(.ref o0)])) rfl rfl (hb hby d4_10)
  obtain ⟨T3, X3, e3, st3⟩ := getF X2 hx hZ hown (host := "") (Or.inl (hw _ (List.mem_of_getElem? (i := 20) rfl))) Via.refl e2 (F_count_o0) (g := (mkF m 14 #[.val (.ref o0), .val (.int p0)] [(.ref o0), (.ref pa)])) rfl rfl (hb hby d4_14)
  obtain ⟨T4, X4, e4, st4⟩ := getF X3 hx hZ hown (host := "") (Or.inl (hw _ (List.mem_of_getElem? (i := 22) rfl))) Via.refl e3 (F_current_o0) (g := (mkF m 18 #[.val (.ref o0), .val (.int p0)] [(.ref o0), (.int cnt), (.ref pa)])) rfl rfl (hb hby d4_18)
  obtain ⟨cl5, Ar5, hin5, hat5⟩ := Ia.get (V_pa) (j := cnt) hcn
  obtain ⟨T6, h6, X6, e6, W6, st6⟩ := stI X4 hx hZ e4 Ar5 (j := cnt) hin5 (g := (mkF m 21 #[.val (.ref o0), .val (.int p0)] [(.int cur), (.int cnt), (.ref pa)])) rfl rfl (hb hby d4_21)
  have Vw6 := Ia.set (V_pa) (j := cnt) (x := cur) hcn rfl W6
  have N6 := Fr.snoc X6 N0 g_pa
  have Z6 : n0 ≤ h6.size := Nat.le_trans Z0 (Keep.of_wr W6).1
  have K6 : Keep h0 h6 [o0, pa, sa] := ((Keep.refl h0 [o0, pa, sa])).wr W6 (Or.inl (List.mem_of_getElem? (i := 1) rfl))
  obtain ⟨T7, X7, e7, st7⟩ := getF X6 hx hZ hown (host := "") (Or.inl (hw _ (List.mem_of_getElem? (i := 13) rfl))) Via.refl e6 ((F_subParameters_o0.other W6 (Or.inl ne_o0_pa))) (g := (mkF m 23 #[.val (.ref o0), .val (.int p0)] [(.ref o0)])) rfl rfl (hb hby d4_23)
  obtain ⟨T8, X8, e8, st8⟩ := getF X7 hx hZ hown (host := "") (Or.inl (hw _ (List.mem_of_getElem? (i := 20) rfl))) Via.refl e7 ((F_count_o0.other W6 (Or.inl ne_o0_pa))) (g := (mkF m 27 #[.val (.ref o0), .val (.int p0)] [(.ref o0), (.ref sa)])) rfl rfl (hb hby d4_27)
  obtain ⟨T9, X9, e9, st9⟩ := getF X8 hx hZ hown (host := "") (Or.inl (hw _ (List.mem_of_getElem? (i := 24) rfl))) Via.refl e8 ((F_currentIsSubParameter_o0.other W6 (Or.inl ne_o0_pa))) (g := (mkF m 31 #[.val (.ref o0), .val (.int p0)] [(.ref o0), (.int cnt), (.ref sa)])) rfl rfl (hb hby d4_31)
  obtain ⟨cl10, Ar10, hin10, hat10⟩ := Ia.get ((V_sa.other W6 (Ne.symm ne_pa_sa))) (j := cnt) hcn
  obtain ⟨T11, h11, X11, e11, W11, st11⟩ := stZ X9 hx hZ e9 Ar10 (j := cnt) hin10 (g := (mkF m 34 #[.val (.ref o0), .val (.int p0)] [(.int cis), (.int cnt), (.ref sa)])) rfl rfl (hb hby d4_34)
  have Vw11 := Ia.set ((V_sa.other W6 (Ne.symm ne_pa_sa))) (j := cnt) (x := (nar .boolean cis)) hcn (fits_nar_bool _) W11
  have N11 := Fr.snoc X11 N6 g_sa
  have Z11 : n0 ≤ h11.size := Nat.le_trans Z6 (Keep.of_wr W11).1
  have K11 : Keep h0 h11 [o0, pa, sa] := (K6).wr W11 (Or.inl (List.mem_of_getElem? (i := 2) rfl))
  obtain ⟨T12, X12, e12, st12⟩ := getF X11 hx hZ hown (host := "") (Or.inl (hw _ (List.mem_of_getElem? (i := 20) rfl))) Via.refl e11 (((F_count_o0.other W6 (Or.inl ne_o0_pa)).other W11 (Or.inl ne_o0_sa))) (g := (mkF m 37 #[.val (.ref o0), .val (.int p0)] [(.ref o0), (.ref o0)])) rfl rfl (hb hby d4_37)
  obtain ⟨T13, h13, X13, e13, W13, st13⟩ := putF X12 hx hZ hown (host := "") (Or.inl (hw _ (List.mem_of_getElem? (i := 20) rfl))) Via.refl e12 (((F_count_o0.other W6 (Or.inl ne_o0_pa)).other W11 (Or.inl ne_o0_sa))) (((E_o0.wr W6).wr W11)) (Or.inl (hw _ (List.mem_of_getElem? (i := 21) rfl))) (hw _ (List.mem_of_getElem? (i := 1) rfl)) (ty := .int) (by decide) rfl rfl (g := (mkF m 42 #[.val (.ref o0), .val (.int p0)] [(.int (cnt + (1 : Int32))), (.ref o0)])) rfl rfl (hb hby d4_42)
  have Fw13 := (((F_count_o0.other W6 (Or.inl ne_o0_pa)).other W11 (Or.inl ne_o0_sa))).same W13
  have N13 := Fr.snoc X13 N11 g_o0
  have Z13 : n0 ≤ h13.size := Nat.le_trans Z11 (Keep.of_wr W13).1
  have K13 : Keep h0 h13 [o0, pa, sa] := (K11).wr W13 (Or.inl (List.mem_of_getElem? (i := 0) rfl))
  obtain ⟨T14, h14, X14, e14, W14, st14⟩ := putF X13 hx hZ hown (host := "") (Or.inl (hw _ (List.mem_of_getElem? (i := 22) rfl))) Via.refl e13 ((((F_current_o0.other W6 (Or.inl ne_o0_pa)).other W11 (Or.inl ne_o0_sa)).other W13 (Or.inr (slot_ne (Or.inl (hw _ (List.mem_of_getElem? (i := 23) rfl))) (Or.inl (hw _ (List.mem_of_getElem? (i := 21) rfl))) (by decide) (t := .int) (t' := .int) (by decide) (by decide))))) ((((E_o0.wr W6).wr W11).wr W13)) (Or.inl (hw _ (List.mem_of_getElem? (i := 23) rfl))) (hw _ (List.mem_of_getElem? (i := 1) rfl)) (ty := .int) (by decide) rfl rfl (g := (mkF m 47 #[.val (.ref o0), .val (.int p0)] [(.int (-1 : Int32)), (.ref o0)])) rfl rfl (hb hby d4_47)
  have Fw14 := ((((F_current_o0.other W6 (Or.inl ne_o0_pa)).other W11 (Or.inl ne_o0_sa)).other W13 (Or.inr (slot_ne (Or.inl (hw _ (List.mem_of_getElem? (i := 23) rfl))) (Or.inl (hw _ (List.mem_of_getElem? (i := 21) rfl))) (by decide) (t := .int) (t' := .int) (by decide) (by decide))))).same W14
  have N14 := Fr.snoc X14 N13 g_o0
  have Z14 : n0 ≤ h14.size := Nat.le_trans Z13 (Keep.of_wr W14).1
  have K14 : Keep h0 h14 [o0, pa, sa] := (K13).wr W14 (Or.inl (List.mem_of_getElem? (i := 0) rfl))
  obtain ⟨T15, h15, X15, e15, W15, st15⟩ := putFN X14 hx hZ hown (hw _ (List.mem_of_getElem? (i := 24) rfl)) Via.refl e14 (((((F_currentIsSubParameter_o0.other W6 (Or.inl ne_o0_pa)).other W11 (Or.inl ne_o0_sa)).other W13 (Or.inr (slot_ne (Or.inl (hw _ (List.mem_of_getElem? (i := 25) rfl))) (Or.inl (hw _ (List.mem_of_getElem? (i := 21) rfl))) (by decide) (t := .boolean) (t' := .int) (by decide) (by decide)))).other W14 (Or.inr (slot_ne (Or.inl (hw _ (List.mem_of_getElem? (i := 25) rfl))) (Or.inl (hw _ (List.mem_of_getElem? (i := 23) rfl))) (by decide) (t := .boolean) (t' := .int) (by decide) (by decide))))) (((((E_o0.wr W6).wr W11).wr W13).wr W14)) (Or.inl (hw _ (List.mem_of_getElem? (i := 25) rfl))) (hw _ (List.mem_of_getElem? (i := 1) rfl)) (ty := .boolean) (v' := (.int (nar .boolean p0))) (by decide) rfl (fits_nar_bool _) (g := (mkF m 52 #[.val (.ref o0), .val (.int p0)] [(.int p0), (.ref o0)])) rfl rfl (hb hby d4_52)
  have Fw15 := (((((F_currentIsSubParameter_o0.other W6 (Or.inl ne_o0_pa)).other W11 (Or.inl ne_o0_sa)).other W13 (Or.inr (slot_ne (Or.inl (hw _ (List.mem_of_getElem? (i := 25) rfl))) (Or.inl (hw _ (List.mem_of_getElem? (i := 21) rfl))) (by decide) (t := .boolean) (t' := .int) (by decide) (by decide)))).other W14 (Or.inr (slot_ne (Or.inl (hw _ (List.mem_of_getElem? (i := 25) rfl))) (Or.inl (hw _ (List.mem_of_getElem? (i := 23) rfl))) (by decide) (t := .boolean) (t' := .int) (by decide) (by decide))))).same W15
  have N15 := Fr.snoc X15 N14 g_o0
  have Z15 : n0 ≤ h15.size := Nat.le_trans Z14 (Keep.of_wr W15).1
  have K15 : Keep h0 h15 [o0, pa, sa] := (K14).wr W15 (Or.inl (List.mem_of_getElem? (i := 0) rfl))
  obtain ⟨fs, hr, hrun, hended, hW, hsame⟩ := X15.leave (v := none) (fun _ => rfl)
  refine ⟨_, _, pre0 _ ?_, hrun, hended, _, _, rfl, ?_, ⟨_, rfl⟩, hW, hsame.mono (by decide) (by decide)⟩
  · show Steps p.tables e below (s₁.setTop (mkF m 0 #[.val (.ref o0), .val (.int p0)] [])) _
    refine XS.aloadN X0.here hx rfl (hb hby d4_0) rfl rfl ?_
    show Steps p.tables e below (s₁.setTop (mkF m 1 #[.val (.ref o0), .val (.int p0)] [(.ref o0)])) _
    refine st1 _ ?_
    show Steps p.tables e below (T1.setTop (mkF m 4 #[.val (.ref o0), .val (.int p0)] [(.int cnt)])) _
    refine XS.bipush X1.here hx rfl (hb hby d4_4) ?_
    show Steps p.tables e below (T1.setTop (mkF m 6 #[.val (.ref o0), .val (.int p0)] [(.int (32 : Int32)), (.int cnt)])) _
    refine XS.icmpNo X1.here hx rfl (hb hby d4_6) rfl (tlt (hcn.2 : cnt < (32 : Int32))).2.1 ?_
    show Steps p.tables e below (T1.setTop (mkF m 9 #[.val (.ref o0), .val (.int p0)] [])) _
    refine XS.aloadN X1.here hx rfl (hb hby d4_9) rfl rfl ?_
    show Steps p.tables e below (T1.setTop (mkF m 10 #[.val (.ref o0), .val (.int p0)] [(.ref o0)])) _
    refine st2 _ ?_
    show Steps p.tables e below (T2.setTop (mkF m 13 #[.val (.ref o0), .val (.int p0)] [(.ref pa)])) _
    refine XS.aloadN X2.here hx rfl (hb hby d4_13) rfl rfl ?_
    show Steps p.tables e below (T2.setTop (mkF m 14 #[.val (.ref o0), .val (.int p0)] [(.ref o0), (.ref pa)])) _
    refine st3 _ ?_
    show Steps p.tables e below (T3.setTop (mkF m 17 #[.val (.ref o0), .val (.int p0)] [(.int cnt), (.ref pa)])) _
    refine XS.aloadN X3.here hx rfl (hb hby d4_17) rfl rfl ?_
    show Steps p.tables e below (T3.setTop (mkF m 18 #[.val (.ref o0), .val (.int p0)] [(.ref o0), (.int cnt), (.ref pa)])) _
    refine st4 _ ?_
    show Steps p.tables e below (T4.setTop (mkF m 21 #[.val (.ref o0), .val (.int p0)] [(.int cur), (.int cnt), (.ref pa)])) _
    refine st6 _ ?_
    show Steps p.tables e below (T6.setTop (mkF m 22 #[.val (.ref o0), .val (.int p0)] [])) _
    refine XS.aloadN X6.here hx rfl (hb hby d4_22) rfl rfl ?_
    show Steps p.tables e below (T6.setTop (mkF m 23 #[.val (.ref o0), .val (.int p0)] [(.ref o0)])) _
    refine st7 _ ?_
    show Steps p.tables e below (T7.setTop (mkF m 26 #[.val (.ref o0), .val (.int p0)] [(.ref sa)])) _
    refine XS.aloadN X7.here hx rfl (hb hby d4_26) rfl rfl ?_
    show Steps p.tables e below (T7.setTop (mkF m 27 #[.val (.ref o0), .val (.int p0)] [(.ref o0), (.ref sa)])) _
    refine st8 _ ?_
    show Steps p.tables e below (T8.setTop (mkF m 30 #[.val (.ref o0), .val (.int p0)] [(.int cnt), (.ref sa)])) _
    refine XS.aloadN X8.here hx rfl (hb hby d4_30) rfl rfl ?_
    show Steps p.tables e below (T8.setTop (mkF m 31 #[.val (.ref o0), .val (.int p0)] [(.ref o0), (.int cnt), (.ref sa)])) _
    refine st9 _ ?_
    show Steps p.tables e below (T9.setTop (mkF m 34 #[.val (.ref o0), .val (.int p0)] [(.int cis), (.int cnt), (.ref sa)])) _
    refine st11 _ ?_
    show Steps p.tables e below (T11.setTop (mkF m 35 #[.val (.ref o0), .val (.int p0)] [])) _
    refine XS.aloadN X11.here hx rfl (hb hby d4_35) rfl rfl ?_
    show Steps p.tables e below (T11.setTop (mkF m 36 #[.val (.ref o0), .val (.int p0)] [(.ref o0)])) _
    refine XS.dup X11.here hx rfl (hb hby d4_36) rfl rfl ?_
    show Steps p.tables e below (T11.setTop (mkF m 37 #[.val (.ref o0), .val (.int p0)] [(.ref o0), (.ref o0)])) _
    refine st12 _ ?_
    show Steps p.tables e below (T12.setTop (mkF m 40 #[.val (.ref o0), .val (.int p0)] [(.int cnt), (.ref o0)])) _
    refine XS.iconst X12.here hx rfl (hb hby d4_40) ?_
    show Steps p.tables e below (T12.setTop (mkF m 41 #[.val (.ref o0), .val (.int p0)] [(.int (1 : Int32)), (.int cnt), (.ref o0)])) _
    refine XS.iadd X12.here hx rfl (hb hby d4_41) rfl ?_
    show Steps p.tables e below (T12.setTop (mkF m 42 #[.val (.ref o0), .val (.int p0)] [(.int (cnt + (1 : Int32))), (.ref o0)])) _
    refine st13 _ ?_
    show Steps p.tables e below (T13.setTop (mkF m 45 #[.val (.ref o0), .val (.int p0)] [])) _
    refine XS.aloadN X13.here hx rfl (hb hby d4_45) rfl rfl ?_
    show Steps p.tables e below (T13.setTop (mkF m 46 #[.val (.ref o0), .val (.int p0)] [(.ref o0)])) _
    refine XS.iconst X13.here hx rfl (hb hby d4_46) ?_
    show Steps p.tables e below (T13.setTop (mkF m 47 #[.val (.ref o0), .val (.int p0)] [(.int (-1 : Int32)), (.ref o0)])) _
    refine st14 _ ?_
    show Steps p.tables e below (T14.setTop (mkF m 50 #[.val (.ref o0), .val (.int p0)] [])) _
    refine XS.aloadN X14.here hx rfl (hb hby d4_50) rfl rfl ?_
    show Steps p.tables e below (T14.setTop (mkF m 51 #[.val (.ref o0), .val (.int p0)] [(.ref o0)])) _
    refine XS.iloadN X14.here hx rfl (hb hby d4_51) rfl ?_
    show Steps p.tables e below (T14.setTop (mkF m 52 #[.val (.ref o0), .val (.int p0)] [(.int p0), (.ref o0)])) _
    refine st15 _ ?_
    show Steps p.tables e below (T15.setTop (mkF m 55 #[.val (.ref o0), .val (.int p0)] [])) _
    exact X15.returnOut hx Bd.returns (hb hby d4_55) hr
  · show Q4 Z o0 p0 pa sa cnt cur cis um ui uf ka ps kb ss h0 n0 _ T15.heap _
    rw [e15]
    exact ⟨rfl, N15, K15, (((((F_parameters_o0.other W6 (Or.inl ne_o0_pa)).other W11 (Or.inl ne_o0_sa)).other W13 (Or.inr (slot_ne (Or.inr (hw _ (List.mem_of_getElem? (i := 11) rfl))) (Or.inl (hw _ (List.mem_of_getElem? (i := 21) rfl))) (by decide) (t := (.array .int)) (t' := .int) (by decide) (by decide)))).other W14 (Or.inr (slot_ne (Or.inr (hw _ (List.mem_of_getElem? (i := 11) rfl))) (Or.inl (hw _ (List.mem_of_getElem? (i := 23) rfl))) (by decide) (t := (.array .int)) (t' := .int) (by decide) (by decide)))).other W15 (Or.inr (slot_ne (Or.inr (hw _ (List.mem_of_getElem? (i := 11) rfl))) (Or.inl (hw _ (List.mem_of_getElem? (i := 25) rfl))) (by decide) (t := (.array .int)) (t' := .boolean) (by decide) (by decide)))), (((((F_subParameters_o0.other W6 (Or.inl ne_o0_pa)).other W11 (Or.inl ne_o0_sa)).other W13 (Or.inr (slot_ne (Or.inr (hw _ (List.mem_of_getElem? (i := 14) rfl))) (Or.inl (hw _ (List.mem_of_getElem? (i := 21) rfl))) (by decide) (t := (.array .boolean)) (t' := .int) (by decide) (by decide)))).other W14 (Or.inr (slot_ne (Or.inr (hw _ (List.mem_of_getElem? (i := 14) rfl))) (Or.inl (hw _ (List.mem_of_getElem? (i := 23) rfl))) (by decide) (t := (.array .boolean)) (t' := .int) (by decide) (by decide)))).other W15 (Or.inr (slot_ne (Or.inr (hw _ (List.mem_of_getElem? (i := 14) rfl))) (Or.inl (hw _ (List.mem_of_getElem? (i := 25) rfl))) (by decide) (t := (.array .boolean)) (t' := .boolean) (by decide) (by decide)))), ((Fw13.other W14 (Or.inr (slot_ne (Or.inl (hw _ (List.mem_of_getElem? (i := 21) rfl))) (Or.inl (hw _ (List.mem_of_getElem? (i := 23) rfl))) (by decide) (t := .int) (t' := .int) (by decide) (by decide)))).other W15 (Or.inr (slot_ne (Or.inl (hw _ (List.mem_of_getElem? (i := 21) rfl))) (Or.inl (hw _ (List.mem_of_getElem? (i := 25) rfl))) (by decide) (t := .int) (t' := .boolean) (by decide) (by decide)))), (Fw14.other W15 (Or.inr (slot_ne (Or.inl (hw _ (List.mem_of_getElem? (i := 23) rfl))) (Or.inl (hw _ (List.mem_of_getElem? (i := 25) rfl))) (by decide) (t := .int) (t' := .boolean) (by decide) (by decide)))), Fw15, (((((F_privateMarker_o0.other W6 (Or.inl ne_o0_pa)).other W11 (Or.inl ne_o0_sa)).other W13 (Or.inr (slot_ne (Or.inl (hw _ (List.mem_of_getElem? (i := 27) rfl))) (Or.inl (hw _ (List.mem_of_getElem? (i := 21) rfl))) (by decide) (t := .int) (t' := .int) (by decide) (by decide)))).other W14 (Or.inr (slot_ne (Or.inl (hw _ (List.mem_of_getElem? (i := 27) rfl))) (Or.inl (hw _ (List.mem_of_getElem? (i := 23) rfl))) (by decide) (t := .int) (t' := .int) (by decide) (by decide)))).other W15 (Or.inr (slot_ne (Or.inl (hw _ (List.mem_of_getElem? (i := 27) rfl))) (Or.inl (hw _ (List.mem_of_getElem? (i := 25) rfl))) (by decide) (t := .int) (t' := .boolean) (by decide) (by decide)))), (((((F_intermediate_o0.other W6 (Or.inl ne_o0_pa)).other W11 (Or.inl ne_o0_sa)).other W13 (Or.inr (slot_ne (Or.inl (hw _ (List.mem_of_getElem? (i := 29) rfl))) (Or.inl (hw _ (List.mem_of_getElem? (i := 21) rfl))) (by decide) (t := .int) (t' := .int) (by decide) (by decide)))).other W14 (Or.inr (slot_ne (Or.inl (hw _ (List.mem_of_getElem? (i := 29) rfl))) (Or.inl (hw _ (List.mem_of_getElem? (i := 23) rfl))) (by decide) (t := .int) (t' := .int) (by decide) (by decide)))).other W15 (Or.inr (slot_ne (Or.inl (hw _ (List.mem_of_getElem? (i := 29) rfl))) (Or.inl (hw _ (List.mem_of_getElem? (i := 25) rfl))) (by decide) (t := .int) (t' := .boolean) (by decide) (by decide)))), (((((F_finalByte_o0.other W6 (Or.inl ne_o0_pa)).other W11 (Or.inl ne_o0_sa)).other W13 (Or.inr (slot_ne (Or.inl (hw _ (List.mem_of_getElem? (i := 42) rfl))) (Or.inl (hw _ (List.mem_of_getElem? (i := 21) rfl))) (by decide) (t := .int) (t' := .int) (by decide) (by decide)))).other W14 (Or.inr (slot_ne (Or.inl (hw _ (List.mem_of_getElem? (i := 42) rfl))) (Or.inl (hw _ (List.mem_of_getElem? (i := 23) rfl))) (by decide) (t := .int) (t' := .int) (by decide) (by decide)))).other W15 (Or.inr (slot_ne (Or.inl (hw _ (List.mem_of_getElem? (i := 42) rfl))) (Or.inl (hw _ (List.mem_of_getElem? (i := 25) rfl))) (by decide) (t := .int) (t' := .boolean) (by decide) (by decide)))), ((((Vw6.other W11 ne_pa_sa).other W13 (Ne.symm ne_o0_pa)).other W14 (Ne.symm ne_o0_pa)).other W15 (Ne.symm ne_o0_pa)), (((Vw11.other W13 (Ne.symm ne_o0_sa)).other W14 (Ne.symm ne_o0_sa)).other W15 (Ne.symm ne_o0_sa))⟩
theorem d5_0 : decode prog_38_method_14_code 0 = .ok (.aload_n 0, 1) := by decide +kernel
theorem d5_1 : decode prog_38_method_14_code 1 = .ok (.iconst 0, 1) := by decide +kernel
theorem d5_2 : decode prog_38_method_14_code 2 = .ok (.invokevirtual 46, 3) := by decide +kernel
theorem d5_5 : decode prog_38_method_14_code 5 = .ok (.aload_n 0, 1) := by decide +kernel
theorem d5_6 : decode prog_38_method_14_code 6 = .ok (.iload_n 1, 1) := by decide +kernel
theorem d5_7 : decode prog_38_method_14_code 7 = .ok (.putfield 24, 3) := by decide +kernel
theorem d5_10 : decode prog_38_method_14_code 10 = .ok (.return_, 1) := by decide +kernel
theorem pn_5 : plainName "com/example/glowcursor/glowcursor/parser/ControlSequence" = true := by first | (simp [plainName, overriddenIn]; done) | decide +kernel
theorem ef_5 (m : MethodId) (x0 : Addr) (x1 : Int32) : entryFrame m #[(.ref x0), (.int x1)] 2 = mkF m 0 #[.val (.ref x0), .val (.int x1)] [] := by first | (simp [entryFrame, mkF, argsToLocals, Value.category]; done) | rfl
def Q5 (Z : State) (o0 : Addr) (p0 : Int32) (pa : Addr) (sa : Addr) (cnt : Int32) (cur : Int32) (cis : Int32) (um : Value) (ui : Value) (uf : Value) (ka : ClassId) (ps : List Int32) (kb : ClassId) (ss : List Int32) (h0 : Heap) (n0 : Nat) (v : Option Value) (h : Heap) (L : List Loc) : Prop := v = none ∧ Fr n0 L ∧ Keep h0 h [o0, pa, sa] ∧ Fld Z h o0 "com/example/glowcursor/glowcursor/parser/ControlSequence" "parameters" "[I" (.ref pa) ∧ Fld Z h o0 "com/example/glowcursor/glowcursor/parser/ControlSequence" "subParameters" "[Z" (.ref sa) ∧ Fld Z h o0 "com/example/glowcursor/glowcursor/parser/ControlSequence" "count" "I" (.int (cnt + (1 : Int32))) ∧ Fld Z h o0 "com/example/glowcursor/glowcursor/parser/ControlSequence" "current" "I" (.int (-1 : Int32)) ∧ Fld Z h o0 "com/example/glowcursor/glowcursor/parser/ControlSequence" "currentIsSubParameter" "Z" (.int (nar .boolean (0 : Int32))) ∧ Fld Z h o0 "com/example/glowcursor/glowcursor/parser/ControlSequence" "privateMarker" "I" um ∧ Fld Z h o0 "com/example/glowcursor/glowcursor/parser/ControlSequence" "intermediate" "I" ui ∧ Fld Z h o0 "com/example/glowcursor/glowcursor/parser/ControlSequence" "finalByte" "I" (.int p0) ∧ Ia Z h pa ka .int (32 : Int32) (setI ps cnt cur) ∧ Ia Z h sa kb .boolean (32 : Int32) (setI ss cnt (nar .boolean cis))
set_option maxRecDepth 65536 in
set_option maxHeartbeats 40000000 in
theorem rm5 (l : Launch) (Z : State) (a0 : Array Value) (hw : ∀ d ∈ tables_1, d.before a0 Z = true) (ws : List Jvm.Cond) (o0 : Addr) (p0 : Int32) (pa : Addr) (sa : Addr) (cnt : Int32) (cur : Int32) (cis : Int32) (um : Value) (ui : Value) (uf : Value) (ka : ClassId) (ps : List Int32) (kb : ClassId) (ss : List Int32) (h0 : Heap) (n0 : Nat) (Z0 : n0 ≤ h0.size) (E_o0 : Exa Z h0 o0 "com/example/glowcursor/glowcursor/parser/ControlSequence") (g_o0 : n0 ≤ o0) (F_parameters_o0 : Fld Z h0 o0 "com/example/glowcursor/glowcursor/parser/ControlSequence" "parameters" "[I" (.ref pa)) (F_subParameters_o0 : Fld Z h0 o0 "com/example/glowcursor/glowcursor/parser/ControlSequence" "subParameters" "[Z" (.ref sa)) (F_count_o0 : Fld Z h0 o0 "com/example/glowcursor/glowcursor/parser/ControlSequence" "count" "I" (.int cnt)) (F_current_o0 : Fld Z h0 o0 "com/example/glowcursor/glowcursor/parser/ControlSequence" "current" "I" (.int cur)) (F_currentIsSubParameter_o0 : Fld Z h0 o0 "com/example/glowcursor/glowcursor/parser/ControlSequence" "currentIsSubParameter" "Z" (.int cis)) (F_privateMarker_o0 : Fld Z h0 o0 "com/example/glowcursor/glowcursor/parser/ControlSequence" "privateMarker" "I" um) (F_intermediate_o0 : Fld Z h0 o0 "com/example/glowcursor/glowcursor/parser/ControlSequence" "intermediate" "I" ui) (F_finalByte_o0 : Fld Z h0 o0 "com/example/glowcursor/glowcursor/parser/ControlSequence" "finalByte" "I" uf) (V_pa : Ia Z h0 pa ka .int (32 : Int32) ps) (g_pa : n0 ≤ pa) (V_sa : Ia Z h0 sa kb .boolean (32 : Int32) ss) (g_sa : n0 ≤ sa) (ne_o0_pa : o0 ≠ pa) (ne_o0_sa : o0 ≠ sa) (ne_pa_sa : pa ≠ sa) (hcn : ¬ cnt < (0 : Int32) ∧ cnt < (32 : Int32)) :
    MetFree l (⟨"com/example/glowcursor/glowcursor/parser/ControlSequence", "end", "(I)V"⟩ : MethodName) (head1 (Jvm.Cond.code (⟨"com/example/glowcursor/glowcursor/parser/ControlSequence", "end", "(I)V"⟩ : MethodName) prog_38_method_14_code 2 none :: ws) ({ frames := 1, cells := 0, slots := 0, locals := 13 } : Room)) (fun a U => a = #[(.ref o0), (.int p0)] ∧ Z.Warmed39 U.vm ∧ U.heap = h0) (fun _ _ _ _ _ => True) (fun _ U o U' => ∃ v L, o = .returned v ∧ Q5 Z o0 p0 pa sa cnt cur cis um ui uf ka ps kb ss h0 n0 v U'.heap L ∧ FrameEnd U o U' L ({ frames := 1, cells := 0, slots := 0, locals := 13 } : Room).cells ({ frames := 1, cells := 0, slots := 0, locals := 13 } : Room).slots) := by
  refine MetFree.of_bodySF (plainFor_of_name pn_5) hisR ?_
  intro p e s m args below meth c s₁ Bd hml0 hP hK
  obtain ⟨rfl, hZ, hh⟩ := hP
  have hx := Bd.exec
  have hby := Bd.bytes
  have hml : c.maxLocals = 2 := hml0
  have hown : s.vm.findClass "com/example/glowcursor/glowcursor/parser/ControlSequence" = some m.cls := findClass_of_methodNamed Bd.named
  have hnm := (name_of_methodNamed Bd.named Bd.method).1
  have X0 : Stand p l e ({ frames := 1, cells := 0, slots := 0, locals := 13 } : Room) s m #[(.ref o0), (.int p0)] below meth c s₁ [] 0 0 := Stand.of_body Bd
  have e0 : s₁.heap = h0 := by rw [← hh, Bd.state]; rfl
  have N0 := Fr.nil n0
  have pre0 : ∀ t, Steps p.tables e below (s₁.setTop (mkF m 0 #[.val (.ref o0), .val (.int p0)] [])) t → Steps p.tables e below (s₁.setTop (entryFrame m #[(.ref o0), (.int p0)] 2)) t := fun t k => castTop (ef_5 m o0 p0) k
  obtain ⟨cq1, kq1, q1a, q1b, q1c⟩ := isOf hZ e0 (E_o0)
  obtain ⟨_, _, ⟨T1, L1, k1, n1⟩, -, X1, ⟨Lc1, hQ1, l1, y1, z1⟩, st1⟩ := X0.virtualBack hx (y := (⟨"com/example/glowcursor/glowcursor/parser/ControlSequence", "endParameter", "(Z)V"⟩ : MethodName)) (z := (⟨"com/example/glowcursor/glowcursor/parser/ControlSequence", "endParameter", "(Z)V"⟩ : MethodName)) hown (mvT hZ (hw _ (List.mem_of_getElem? (i := 40) rfl))) (mvT hZ (hw _ (List.mem_of_getElem? (i := 31) rfl))) (notFace_of_selects (args := #[]) (mvT hZ (hw _ (List.mem_of_getElem? (i := 33) rfl)))) (mvT hZ (hw _ (List.mem_of_getElem? (i := 33) rfl))) (mvT hZ (hw _ (List.mem_of_getElem? (i := 32) rfl))) (by decide) (backOf (W := 0) (rm4 l Z a0 hw [] o0 (0 : Int32) pa sa cnt cur cis um ui uf ka ps kb ss h0 n0 Z0 (E_o0) g_o0 (F_parameters_o0) (F_subParameters_o0) (F_count_o0) (F_current_o0) (F_currentIsSubParameter_o0) (F_privateMarker_o0) (F_intermediate_o0) (F_finalByte_o0) (V_pa) g_pa (V_sa) g_sa (ne_o0_pa) (ne_o0_sa) (ne_pa_sa) hcn) hZ (hw _ (List.mem_of_getElem? (i := 34) rfl)) (hw _ (List.mem_of_getElem? (i := 2) rfl)) (by decide) (by decide)) q1a q1c (g := (mkF m 2 #[.val (.ref o0), .val (.int p0)] [(.int (0 : Int32)), (.ref o0)])) rfl (by rw [hml]; rfl) (Steps.refl _) (argsL := [(.int (0 : Int32))]) (rest := []) (lenOf pd_0 rfl) rfl (by show 2 * 0 + _ ≤ _; exact Nat.le_of_eq rfl) (hb hby d5_2) (fun _ _ => ⟨rfl, e0, (by decide : 0 + 0 ≤ _), (by decide : 0 + 0 ≤ _)⟩)
  dsimp only [Pt.U, Pt.locs, Pt.cells, Pt.slots] at X1 l1 y1 z1 st1 hQ1
  subst l1 y1 z1
  obtain ⟨rfl, N1q, Kq1, Fq1_0, Fq1_1, Fq1_2, Fq1_3, Fq1_4, Fq1_5, Fq1_6, Fq1_7, Vq1_0, Vq1_1⟩ := hQ1
  have N1 := Fr.app N0 N1q
  have Z1 : n0 ≤ T1.heap.size := Nat.le_trans Z0 Kq1.1
  have K1 : Keep h0 T1.heap [o0, pa, sa] := ((Keep.refl h0 [o0, pa, sa])).trans Kq1 (allS (Or.inl (List.mem_of_getElem? (i := 0) rfl)) (allS (Or.inl (List.mem_of_getElem? (i := 1) rfl)) (allS (Or.inl (List.mem_of_getElem? (i := 2) rfl)) all0)))
  obtain ⟨T2, h2, X2, e2, W2, st2⟩ := putF X1 hx hZ hown (host := "") (Or.inl (hw _ (List.mem_of_getElem? (i := 41) rfl))) Via.refl rfl (Fq1_7) ((E_o0.keep Kq1)) (Or.inl (hw _ (List.mem_of_getElem? (i := 42) rfl))) (hw _ (List.mem_of_getElem? (i := 1) rfl)) (ty := .int) (by decide) rfl rfl (g := (mkF m 7 #[.val (.ref o0), .val (.int p0)] [(.int p0), (.ref o0)])) rfl rfl (hb hby d5_7)
  have Fw2 := (Fq1_7).same W2
  have N2 := Fr.snoc X2 N1 g_o0
  have Z2 : n0 ≤ h2.size := Nat.le_trans Z1 (Keep.of_wr W2).1
  have K2 : Keep h0 h2 [o0, pa, sa] := (K1).wr W2 (Or.inl (List.mem_of_getElem? (i := 0) rfl))
  obtain ⟨fs, hr, hrun, hended, hW, hsame⟩ := X2.leave (v := none) (fun _ => rfl)
  refine ⟨_, _, pre0 _ ?_, hrun, hended, _, _, rfl, ?_, ⟨_, rfl⟩, hW, hsame.mono (by decide) (by decide)⟩
  · show Steps p.tables e below (s₁.setTop (mkF m 0 #[.val (.ref o0), .val (.int p0)] [])) _
    refine XS.aloadN X0.here hx rfl (hb hby d5_0) rfl rfl ?_
    show Steps p.tables e below (s₁.setTop (mkF m 1 #[.val (.ref o0), .val (.int p0)] [(.ref o0)])) _
    refine XS.iconst X0.here hx rfl (hb hby d5_1) ?_
    show Steps p.tables e below (s₁.setTop (mkF m 2 #[.val (.ref o0), .val (.int p0)] [(.int (0 : Int32)), (.ref o0)])) _
    refine st1.trans ?_
    show Steps p.tables e below (T1.setTop (mkF m 5 #[.val (.ref o0), .val (.int p0)] [])) _
    refine XS.aloadN X1.here hx rfl (hb hby d5_5) rfl rfl ?_
    show Steps p.tables e below (T1.setTop (mkF m 6 #[.val (.ref o0), .val (.int p0)] [(.ref o0)])) _
    refine XS.iloadN X1.here hx rfl (hb hby d5_6) rfl ?_
    show Steps p.tables e below (T1.setTop (mkF m 7 #[.val (.ref o0), .val (.int p0)] [(.int p0), (.ref o0)])) _
    refine st2 _ ?_
    show Steps p.tables e below (T2.setTop (mkF m 10 #[.val (.ref o0), .val (.int p0)] [])) _
    exact X2.returnOut hx Bd.returns (hb hby d5_10) hr
  · show Q5 Z o0 p0 pa sa cnt cur cis um ui uf ka ps kb ss h0 n0 _ T2.heap _
    rw [e2]
    exact ⟨rfl, N2, K2, (Fq1_0.other W2 (Or.inr (slot_ne (Or.inr (hw _ (List.mem_of_getElem? (i := 11) rfl))) (Or.inl (hw _ (List.mem_of_getElem? (i := 42) rfl))) (by decide) (t := (.array .int)) (t' := .int) (by decide) (by decide)))), (Fq1_1.other W2 (Or.inr (slot_ne (Or.inr (hw _ (List.mem_of_getElem? (i := 14) rfl))) (Or.inl (hw _ (List.mem_of_getElem? (i := 42) rfl))) (by decide) (t := (.array .boolean)) (t' := .int) (by decide) (by decide)))), (Fq1_2.other W2 (Or.inr (slot_ne (Or.inl (hw _ (List.mem_of_getElem? (i := 21) rfl))) (Or.inl (hw _ (List.mem_of_getElem? (i := 42) rfl))) (by decide) (t := .int) (t' := .int) (by decide) (by decide)))), (Fq1_3.other W2 (Or.inr (slot_ne (Or.inl (hw _ (List.mem_of_getElem? (i := 23) rfl))) (Or.inl (hw _ (List.mem_of_getElem? (i := 42) rfl))) (by decide) (t := .int) (t' := .int) (by decide) (by decide)))), (Fq1_4.other W2 (Or.inr (slot_ne (Or.inl (hw _ (List.mem_of_getElem? (i := 25) rfl))) (Or.inl (hw _ (List.mem_of_getElem? (i := 42) rfl))) (by decide) (t := .boolean) (t' := .int) (by decide) (by decide)))), (Fq1_5.other W2 (Or.inr (slot_ne (Or.inl (hw _ (List.mem_of_getElem? (i := 27) rfl))) (Or.inl (hw _ (List.mem_of_getElem? (i := 42) rfl))) (by decide) (t := .int) (t' := .int) (by decide) (by decide)))), (Fq1_6.other W2 (Or.inr (slot_ne (Or.inl (hw _ (List.mem_of_getElem? (i := 29) rfl))) (Or.inl (hw _ (List.mem_of_getElem? (i := 42) rfl))) (by decide) (t := .int) (t' := .int) (by decide) (by decide)))), Fw2, (Vq1_0.other W2 (Ne.symm ne_o0_pa)), (Vq1_1.other W2 (Ne.symm ne_o0_sa))⟩
theorem d6_0 : decode prog_38_method_8_code 0 = .ok (.iconst 0, 1) := by decide +kernel
theorem d6_1 : decode prog_38_method_8_code 1 = .ok (.istore_n 1, 1) := by decide +kernel
theorem d6_2 : decode prog_38_method_8_code 2 = .ok (.iload_n 1, 1) := by decide +kernel
theorem d6_3 : decode prog_38_method_8_code 3 = .ok (.aload_n 0, 1) := by decide +kernel
theorem d6_4 : decode prog_38_method_8_code 4 = .ok (.getfield 27, 3) := by decide +kernel
theorem d6_7 : decode prog_38_method_8_code 7 = .ok (.if_icmp .ge 20, 3) := by decide +kernel
theorem d6_10 : decode prog_38_method_8_code 10 = .ok (.aload_n 0, 1) := by decide +kernel
theorem d6_11 : decode prog_38_method_8_code 11 = .ok (.getfield 13, 3) := by decide +kernel
theorem d6_14 : decode prog_38_method_8_code 14 = .ok (.iload_n 1, 1) := by decide +kernel
theorem d6_15 : decode prog_38_method_8_code 15 = .ok (.baload, 1) := by decide +kernel
theorem d6_16 : decode prog_38_method_8_code 16 = .ok (.ifCond .eq 5, 3) := by decide +kernel
theorem d6_19 : decode prog_38_method_8_code 19 = .ok (.iconst 1, 1) := by decide +kernel
theorem d6_20 : decode prog_38_method_8_code 20 = .ok (.ireturn, 1) := by decide +kernel
theorem d6_21 : decode prog_38_method_8_code 21 = .ok (.iinc 1 1, 3) := by decide +kernel
theorem d6_24 : decode prog_38_method_8_code 24 = .ok (.goto (-22), 3) := by decide +kernel
theorem d6_27 : decode prog_38_method_8_code 27 = .ok (.iconst 0, 1) := by decide +kernel
theorem d6_28 : decode prog_38_method_8_code 28 = .ok (.ireturn, 1) := by decide +kernel
theorem pn_6 : plainName "com/example/glowcursor/glowcursor/parser/ControlSequence" = true := by first | (simp [plainName, overriddenIn]; done) | decide +kernel
theorem ef_6 (m : MethodId) (x0 : Addr) : entryFrame m #[(.ref x0)] 2 = mkF m 0 #[.val (.ref x0), .unset] [] := by first | (simp [entryFrame, mkF, argsToLocals, Value.category]; done) | rfl
def f6c1 (ss : List Int32) : Int32 := (if (getI ss (0 : Int32)) = (0 : Int32) then (0 : Int32) else (1 : Int32))
def Q6c1 (Z : State) (o0 : Addr) (sa : Addr) (kb : ClassId) (ss : List Int32) (h0 : Heap) (n0 : Nat) (v : Option Value) (h : Heap) (L : List Loc) : Prop := v = some (.int (f6c1 ss)) ∧ Fr n0 L ∧ h = h0
set_option maxRecDepth 65536 in
set_option maxHeartbeats 40000000 in
theorem rm6c1 (l : Launch) (Z : State) (a0 : Array Value) (hw : ∀ d ∈ tables_1, d.before a0 Z = true) (ws : List Jvm.Cond) (o0 : Addr) (sa : Addr) (kb : ClassId) (ss : List Int32) (h0 : Heap) (n0 : Nat) (Z0 : n0 ≤ h0.size) (E_o0 : Exa Z h0 o0 "com/example/glowcursor/glowcursor/parser/ControlSequence") (F_count_o0 : Fld Z h0 o0 "com/example/glowcursor/glowcursor/parser/ControlSequence" "count" "I" (.int (1 : Int32))) (F_subParameters_o0 : Fld Z h0 o0 "com/example/glowcursor/glowcursor/parser/ControlSequence" "subParameters" "[Z" (.ref sa)) (V_sa : Ia Z h0 sa kb .boolean (32 : Int32) ss)  :
    MetFree l (⟨"com/example/glowcursor/glowcursor/parser/ControlSequence", "hasSubParameters", "()Z"⟩ : MethodName) (head1 (Jvm.Cond.code (⟨"com/example/glowcursor/glowcursor/parser/ControlSequence", "hasSubParameters", "()Z"⟩ : MethodName) prog_38_method_8_code 2 (some .boolean) :: ws) ({ frames := 0, cells := 0, slots := 0, locals := 0 } : Room)) (fun a U => a = #[(.ref o0)] ∧ Z.Warmed39 U.vm ∧ U.heap = h0) (fun _ _ _ _ _ => True) (fun _ U o U' => ∃ v L, o = .returned v ∧ Q6c1 Z o0 sa kb ss h0 n0 v U'.heap L ∧ FrameEnd U o U' L ({ frames := 0, cells := 0, slots := 0, locals := 0 } : Room).cells ({ frames := 0, cells := 0, slots := 0, locals := 0 } : Room).slots) := by
  refine MetFree.of_bodySF (plainFor_of_name pn_6) hisR ?_
  intro p e s m args below meth c s₁ Bd hml0 hP hK
  obtain ⟨rfl, hZ, hh⟩ := hP
  have hx := Bd.exec
  have hby := Bd.bytes
  have hml : c.maxLocals = 2 := hml0
  have hown : s.vm.findClass "com/example/glowcursor/glowcursor/parser/ControlSequence" = some m.cls := findClass_of_methodNamed Bd.named
  have hnm := (name_of_methodNamed Bd.named Bd.method).1
  have X0 : Stand p l e ({ frames := 0, cells := 0, slots := 0, locals := 0 } : Room) s m #[(.ref o0)] below meth c s₁ [] 0 0 := Stand.of_body Bd
  have e0 : s₁.heap = h0 := by rw [← hh, Bd.state]; rfl
  have N0 := Fr.nil n0
  have pre0 : ∀ t, Steps p.tables e below (s₁.setTop (mkF m 0 #[.val (.ref o0), .unset] [])) t → Steps p.tables e below (s₁.setTop (entryFrame m #[(.ref o0)] 2)) t := fun t k => castTop (ef_6 m o0) k
  obtain ⟨T1, X1, e1, st1⟩ := getF X0 hx hZ hown (host := "") (Or.inl (hw _ (List.mem_of_getElem? (i := 20) rfl))) Via.refl e0 (F_count_o0) (g := (mkF m 4 #[.val (.ref o0), .val (.int (0 : Int32))] [(.ref o0), (.int (0 : Int32))])) rfl rfl (hb hby d6_4)
  obtain ⟨T2, X2, e2, st2⟩ := getF X1 hx hZ hown (host := "") (Or.inl (hw _ (List.mem_of_getElem? (i := 13) rfl))) Via.refl e1 (F_subParameters_o0) (g := (mkF m 11 #[.val (.ref o0), .val (.int (0 : Int32))] [(.ref o0)])) rfl rfl (hb hby d6_11)
  obtain ⟨cl3, Ar3, hin3, hat3⟩ := Ia.get (V_sa) (j := (0 : Int32)) ⟨by decide, by decide⟩
  have pre4 : ∀ t, Steps p.tables e below (T2.setTop (mkF m 16 #[.val (.ref o0), .val (.int (0 : Int32))] [(.int (getI ss (0 : Int32)))])) t → Steps p.tables e below (s₁.setTop (entryFrame m #[(.ref o0)] 2)) t := fun t k => pre0 t (by
    show Steps p.tables e below (s₁.setTop (mkF m 0 #[.val (.ref o0), .unset] [])) _
    refine XS.iconst X0.here hx rfl (hb hby d6_0) ?_
    show Steps p.tables e below (s₁.setTop (mkF m 1 #[.val (.ref o0), .unset] [(.int (0 : Int32))])) _
    refine XS.istoreN X0.here hx rfl (hb hby d6_1) rfl (l' := #[.val (.ref o0), .val (.int (0 : Int32))]) rfl ?_
    show Steps p.tables e below (s₁.setTop (mkF m 2 #[.val (.ref o0), .val (.int (0 : Int32))] [])) _
    refine XS.iloadN X0.here hx rfl (hb hby d6_2) rfl ?_
    show Steps p.tables e below (s₁.setTop (mkF m 3 #[.val (.ref o0), .val (.int (0 : Int32))] [(.int (0 : Int32))])) _
    refine XS.aloadN X0.here hx rfl (hb hby d6_3) rfl rfl ?_
    show Steps p.tables e below (s₁.setTop (mkF m 4 #[.val (.ref o0), .val (.int (0 : Int32))] [(.ref o0), (.int (0 : Int32))])) _
    refine st1 _ ?_
    show Steps p.tables e below (T1.setTop (mkF m 7 #[.val (.ref o0), .val (.int (0 : Int32))] [(.int (1 : Int32)), (.int (0 : Int32))])) _
    refine XS.icmpNo X1.here hx rfl (hb hby d6_7) rfl (tlt (by decide : (0 : Int32) < (1 : Int32))).2.1 ?_
    show Steps p.tables e below (T1.setTop (mkF m 10 #[.val (.ref o0), .val (.int (0 : Int32))] [])) _
    refine XS.aloadN X1.here hx rfl (hb hby d6_10) rfl rfl ?_
    show Steps p.tables e below (T1.setTop (mkF m 11 #[.val (.ref o0), .val (.int (0 : Int32))] [(.ref o0)])) _
    refine st2 _ ?_
    show Steps p.tables e below (T2.setTop (mkF m 14 #[.val (.ref o0), .val (.int (0 : Int32))] [(.ref sa)])) _
    refine XS.iloadN X2.here hx rfl (hb hby d6_14) rfl ?_
    show Steps p.tables e below (T2.setTop (mkF m 15 #[.val (.ref o0), .val (.int (0 : Int32))] [(.int (0 : Int32)), (.ref sa)])) _
    refine X2.baloadBooleans hx (j := (0 : Int32)) (v := (.int (getI ss (0 : Int32)))) (by rw [e2]; exact Ar3.1) (State.isArrayOf_alike hZ.alike Ar3.2.1) Ar3.2.2 hin3 hat3 (g := (mkF m 15 #[.val (.ref o0), .val (.int (0 : Int32))] [(.int (0 : Int32)), (.ref sa)])) rfl rfl (hb hby d6_15) _ ?_
    show Steps p.tables e below (T2.setTop (mkF m 16 #[.val (.ref o0), .val (.int (0 : Int32))] [(.int (getI ss (0 : Int32)))])) _
    exact k)
  by_cases hc16_5 : (getI ss (0 : Int32)) = (0 : Int32)
  · obtain ⟨T6, X6, e6, st6⟩ := getF X2 hx hZ hown (host := "") (Or.inl (hw _ (List.mem_of_getElem? (i := 20) rfl))) Via.refl e2 (F_count_o0) (g := (mkF m 4 #[.val (.ref o0), .val (.int (1 : Int32))] [(.ref o0), (.int (1 : Int32))])) rfl rfl (hb hby d6_4)
    have hv : (f6c1 ss) = (0 : Int32) := by simp only [f6c1, if_pos hc16_5]
    obtain ⟨fs, hr, hrun, hended, hW, hsame⟩ := X6.leave (v := some (.int (0 : Int32))) (fun h => by rw [Bd.returns] at h; cases h)
    refine ⟨_, _, pre4 _ ?_, hrun, hended, _, _, rfl, ?_, ⟨_, rfl⟩, hW, hsame.mono (by decide) (by decide)⟩
    · show Steps p.tables e below (T2.setTop (mkF m 16 #[.val (.ref o0), .val (.int (0 : Int32))] [(.int (getI ss (0 : Int32)))])) _
      refine XS.ifYes X2.here hx rfl (pc0 := 16) (pc' := 21) rfl (hb hby d6_16) rfl ((if0 _ _).trans (teq hc16_5).1) (by decide) (by decide) ?_
      show Steps p.tables e below (T2.setTop (mkF m 21 #[.val (.ref o0), .val (.int (0 : Int32))] [])) _
      refine XS.iinc X2.here hx rfl (hb hby d6_21) rfl (l' := #[.val (.ref o0), .val (.int (1 : Int32))]) rfl ?_
      show Steps p.tables e below (T2.setTop (mkF m 24 #[.val (.ref o0), .val (.int (1 : Int32))] [])) _
      refine XS.goto X2.here hx rfl (pc0 := 24) (pc' := 2) rfl (hb hby d6_24) (by decide) (by decide) ?_
      show Steps p.tables e below (T2.setTop (mkF m 2 #[.val (.ref o0), .val (.int (1 : Int32))] [])) _
      refine XS.iloadN X2.here hx rfl (hb hby d6_2) rfl ?_
      show Steps p.tables e below (T2.setTop (mkF m 3 #[.val (.ref o0), .val (.int (1 : Int32))] [(.int (1 : Int32))])) _
      refine XS.aloadN X2.here hx rfl (hb hby d6_3) rfl rfl ?_
      show Steps p.tables e below (T2.setTop (mkF m 4 #[.val (.ref o0), .val (.int (1 : Int32))] [(.ref o0), (.int (1 : Int32))])) _
      refine st6 _ ?_
      show Steps p.tables e below (T6.setTop (mkF m 7 #[.val (.ref o0), .val (.int (1 : Int32))] [(.int (1 : Int32)), (.int (1 : Int32))])) _
      refine XS.icmpYes X6.here hx rfl (pc0 := 7) (pc' := 27) rfl (hb hby d6_7) rfl (flt (by decide : ¬ ((1 : Int32) < (1 : Int32)))).2.1 (by decide) (by decide) ?_
      show Steps p.tables e below (T6.setTop (mkF m 27 #[.val (.ref o0), .val (.int (1 : Int32))] [])) _
      refine XS.iconst X6.here hx rfl (hb hby d6_27) ?_
      show Steps p.tables e below (T6.setTop (mkF m 28 #[.val (.ref o0), .val (.int (1 : Int32))] [(.int (0 : Int32))])) _
      exact retN X6 hx (t := .boolean) Bd.returns (by simp) (hb hby d6_28) hr
    · show Q6c1 Z o0 sa kb ss h0 n0 _ T6.heap _
      rw [e6]
      exact ⟨by rw [hv], N0, rfl⟩
  · have hv : (f6c1 ss) = (1 : Int32) := by simp only [f6c1, if_neg hc16_5]
    obtain ⟨fs, hr, hrun, hended, hW, hsame⟩ := X2.leave (v := some (.int (1 : Int32))) (fun h => by rw [Bd.returns] at h; cases h)
    refine ⟨_, _, pre4 _ ?_, hrun, hended, _, _, rfl, ?_, ⟨_, rfl⟩, hW, hsame.mono (by decide) (by decide)⟩
    · show Steps p.tables e below (T2.setTop (mkF m 16 #[.val (.ref o0), .val (.int (0 : Int32))] [(.int (getI ss (0 : Int32)))])) _
      refine XS.ifNo X2.here hx rfl (hb hby d6_16) rfl ((if0 _ _).trans (feq hc16_5).1) ?_
      show Steps p.tables e below (T2.setTop (mkF m 19 #[.val (.ref o0), .val (.int (0 : Int32))] [])) _
      refine XS.iconst X2.here hx rfl (hb hby d6_19) ?_
      show Steps p.tables e below (T2.setTop (mkF m 20 #[.val (.ref o0), .val (.int (0 : Int32))] [(.int (1 : Int32))])) _
      exact retN X2 hx (t := .boolean) Bd.returns (by simp) (hb hby d6_20) hr
    · show Q6c1 Z o0 sa kb ss h0 n0 _ T2.heap _
      rw [e2]
      exact ⟨by rw [hv], N0, rfl⟩
def f6c2 (ss : List Int32) : Int32 := (if (getI ss (0 : Int32)) = (0 : Int32) then (if (getI ss (1 : Int32)) = (0 : Int32) then (0 : Int32) else (1 : Int32)) else (1 : Int32))
def Q6c2 (Z : State) (o0 : Addr) (sa : Addr) (kb : ClassId) (ss : List Int32) (h0 : Heap) (n0 : Nat) (v : Option Value) (h : Heap) (L : List Loc) : Prop := v = some (.int (f6c2 ss)) ∧ Fr n0 L ∧ h = h0
set_option maxRecDepth 65536 in
set_option maxHeartbeats 40000000 in
theorem rm6c2 (l : Launch) (Z : State) (a0 : Array Value) (hw : ∀ d ∈ tables_1, d.before a0 Z = true) (ws : List Jvm.Cond) (o0 : Addr) (sa : Addr) (kb : ClassId) (ss : List Int32) (h0 : Heap) (n0 : Nat) (Z0 : n0 ≤ h0.size) (E_o0 : Exa Z h0 o0 "com/example/glowcursor/glowcursor/parser/ControlSequence") (F_count_o0 : Fld Z h0 o0 "com/example/glowcursor/glowcursor/parser/ControlSequence" "count" "I" (.int (2 : Int32))) (F_subParameters_o0 : Fld Z h0 o0 "com/example/glowcursor/glowcursor/parser/ControlSequence" "subParameters" "[Z" (.ref sa)) (V_sa : Ia Z h0 sa kb .boolean (32 : Int32) ss)  :
    MetFree l (⟨"com/example/glowcursor/glowcursor/parser/ControlSequence", "hasSubParameters", "()Z"⟩ : MethodName) (head1 (Jvm.Cond.code (⟨"com/example/glowcursor/glowcursor/parser/ControlSequence", "hasSubParameters", "()Z"⟩ : MethodName) prog_38_method_8_code 2 (some .boolean) :: ws) ({ frames := 0, cells := 0, slots := 0, locals := 0 } : Room)) (fun a U => a = #[(.ref o0)] ∧ Z.Warmed39 U.vm ∧ U.heap = h0) (fun _ _ _ _ _ => True) (fun _ U o U' => ∃ v L, o = .returned v ∧ Q6c2 Z o0 sa kb ss h0 n0 v U'.heap L ∧ FrameEnd U o U' L ({ frames := 0, cells := 0, slots := 0, locals := 0 } : Room).cells ({ frames := 0, cells := 0, slots := 0, locals := 0 } : Room).slots) := by
  refine MetFree.of_bodySF (plainFor_of_name pn_6) hisR ?_
  intro p e s m args below meth c s₁ Bd hml0 hP hK
  obtain ⟨rfl, hZ, hh⟩ := hP
  have hx := Bd.exec
  have hby := Bd.bytes
  have hml : c.maxLocals = 2 := hml0
  have hown : s.vm.findClass "com/example/glowcursor/glowcursor/parser/ControlSequence" = some m.cls := findClass_of_methodNamed Bd.named
  have hnm := (name_of_methodNamed Bd.named Bd.method).1
  have X0 : Stand p l e ({ frames := 0, cells := 0, slots := 0, locals := 0 } : Room) s m #[(.ref o0)] below meth c s₁ [] 0 0 := Stand.of_body Bd
  have e0 : s₁.heap = h0 := by rw [← hh, Bd.state]; rfl
  have N0 := Fr.nil n0
  have pre0 : ∀ t, Steps p.tables e below (s₁.setTop (mkF m 0 #[.val (.ref o0), .unset] [])) t → Steps p.tables e below (s₁.setTop (entryFrame m #[(.ref o0)] 2)) t := fun t k => castTop (ef_6 m o0) k
  obtain ⟨T1, X1, e1, st1⟩ := getF X0 hx hZ hown (host := "") (Or.inl (hw _ (List.mem_of_getElem? (i := 20) rfl))) Via.refl e0 (F_count_o0) (g := (mkF m 4 #[.val (.ref o0), .val (.int (0 : Int32))] [(.ref o0), (.int (0 : Int32))])) rfl rfl (hb hby d6_4)
  obtain ⟨T2, X2, e2, st2⟩ := getF X1 hx hZ hown (host := "") (Or.inl (hw _ (List.mem_of_getElem? (i := 13) rfl))) Via.refl e1 (F_subParameters_o0) (g := (mkF m 11 #[.val (.ref o0), .val (.int (0 : Int32))] [(.ref o0)])) rfl rfl (hb hby d6_11)
  obtain ⟨cl3, Ar3, hin3, hat3⟩ := Ia.get (V_sa) (j := (0 : Int32)) ⟨by decide, by decide⟩
  have pre4 : ∀ t, Steps p.tables e below (T2.setTop (mkF m 16 #[.val (.ref o0), .val (.int (0 : Int32))] [(.int (getI ss (0 : Int32)))])) t → Steps p.tables e below (s₁.setTop (entryFrame m #[(.ref o0)] 2)) t := fun t k => pre0 t (by
    show Steps p.tables e below (s₁.setTop (mkF m 0 #[.val (.ref o0), .unset] [])) _
    refine XS.iconst X0.here hx rfl (hb hby d6_0) ?_
    show Steps p.tables e below (s₁.setTop (mkF m 1 #[.val (.ref o0), .unset] [(.int (0 : Int32))])) _
    refine XS.istoreN X0.here hx rfl (hb hby d6_1) rfl (l' := #[.val (.ref o0), .val (.int (0 : Int32))]) rfl ?_
    show Steps p.tables e below (s₁.setTop (mkF m 2 #[.val (.ref o0), .val (.int (0 : Int32))] [])) _
    refine XS.iloadN X0.here hx rfl (hb hby d6_2) rfl ?_
    show Steps p.tables e below (s₁.setTop (mkF m 3 #[.val (.ref o0), .val (.int (0 : Int32))] [(.int (0 : Int32))])) _
    refine XS.aloadN X0.here hx rfl (hb hby d6_3) rfl rfl ?_
    show Steps p.tables e below (s₁.setTop (mkF m 4 #[.val (.ref o0), .val (.int (0 : Int32))] [(.ref o0), (.int (0 : Int32))])) _
    refine st1 _ ?_
    show Steps p.tables e below (T1.setTop (mkF m 7 #[.val (.ref o0), .val (.int (0 : Int32))] [(.int (2 : Int32)), (.int (0 : Int32))])) _
    refine XS.icmpNo X1.here hx rfl (hb hby d6_7) rfl (tlt (by decide : (0 : Int32) < (2 : Int32))).2.1 ?_
    show Steps p.tables e below (T1.setTop (mkF m 10 #[.val (.ref o0), .val (.int (0 : Int32))] [])) _
    refine XS.aloadN X1.here hx rfl (hb hby d6_10) rfl rfl ?_
    show Steps p.tables e below (T1.setTop (mkF m 11 #[.val (.ref o0), .val (.int (0 : Int32))] [(.ref o0)])) _
    refine st2 _ ?_
    show Steps p.tables e below (T2.setTop (mkF m 14 #[.val (.ref o0), .val (.int (0 : Int32))] [(.ref sa)])) _
    refine XS.iloadN X2.here hx rfl (hb hby d6_14) rfl ?_
    show Steps p.tables e below (T2.setTop (mkF m 15 #[.val (.ref o0), .val (.int (0 : Int32))] [(.int (0 : Int32)), (.ref sa)])) _
    refine X2.baloadBooleans hx (j := (0 : Int32)) (v := (.int (getI ss (0 : Int32)))) (by rw [e2]; exact Ar3.1) (State.isArrayOf_alike hZ.alike Ar3.2.1) Ar3.2.2 hin3 hat3 (g := (mkF m 15 #[.val (.ref o0), .val (.int (0 : Int32))] [(.int (0 : Int32)), (.ref sa)])) rfl rfl (hb hby d6_15) _ ?_
    show Steps p.tables e below (T2.setTop (mkF m 16 #[.val (.ref o0), .val (.int (0 : Int32))] [(.int (getI ss (0 : Int32)))])) _
    exact k)
  by_cases hc16_5 : (getI ss (0 : Int32)) = (0 : Int32)
  · obtain ⟨T6, X6, e6, st6⟩ := getF X2 hx hZ hown (host := "") (Or.inl (hw _ (List.mem_of_getElem? (i := 20) rfl))) Via.refl e2 (F_count_o0) (g := (mkF m 4 #[.val (.ref o0), .val (.int (1 : Int32))] [(.ref o0), (.int (1 : Int32))])) rfl rfl (hb hby d6_4)
    obtain ⟨T7, X7, e7, st7⟩ := getF X6 hx hZ hown (host := "") (Or.inl (hw _ (List.mem_of_getElem? (i := 13) rfl))) Via.refl e6 (F_subParameters_o0) (g := (mkF m 11 #[.val (.ref o0), .val (.int (1 : Int32))] [(.ref o0)])) rfl rfl (hb hby d6_11)
    obtain ⟨cl8, Ar8, hin8, hat8⟩ := Ia.get (V_sa) (j := (1 : Int32)) ⟨by decide, by decide⟩
    have pre9 : ∀ t, Steps p.tables e below (T7.setTop (mkF m 16 #[.val (.ref o0), .val (.int (1 : Int32))] [(.int (getI ss (1 : Int32)))])) t → Steps p.tables e below (s₁.setTop (entryFrame m #[(.ref o0)] 2)) t := fun t k => pre4 t (by
      show Steps p.tables e below (T2.setTop (mkF m 16 #[.val (.ref o0), .val (.int (0 : Int32))] [(.int (getI ss (0 : Int32)))])) _
      refine XS.ifYes X2.here hx rfl (pc0 := 16) (pc' := 21) rfl (hb hby d6_16) rfl ((if0 _ _).trans (teq hc16_5).1) (by decide) (by decide) ?_
      show Steps p.tables e below (T2.setTop (mkF m 21 #[.val (.ref o0), .val (.int (0 : Int32))] [])) _
      refine XS.iinc X2.here hx rfl (hb hby d6_21) rfl (l' := #[.val (.ref o0), .val (.int (1 : Int32))]) rfl ?_
      show Steps p.tables e below (T2.setTop (mkF m 24 #[.val (.ref o0), .val (.int (1 : Int32))] [])) _
      refine XS.goto X2.here hx rfl (pc0 := 24) (pc' := 2) rfl (hb hby d6_24) (by decide) (by decide) ?_
      show Steps p.tables e below (T2.setTop (mkF m 2 #[.val (.ref o0), .val (.int (1 : Int32))] [])) _
      refine XS.iloadN X2.here hx rfl (hb hby d6_2) rfl ?_
      show Steps p.tables e below (T2.setTop (mkF m 3 #[.val (.ref o0), .val (.int (1 : Int32))] [(.int (1 : Int32))])) _
      refine XS.aloadN X2.here hx rfl (hb hby d6_3) rfl rfl ?_
      show Steps p.tables e below (T2.setTop (mkF m 4 #[.val (.ref o0), .val (.int (1 : Int32))] [(.ref o0), (.int (1 : Int32))])) _
      refine st6 _ ?_
      show Steps p.tables e below (T6.setTop (mkF m 7 #[.val (.ref o0), .val (.int (1 : Int32))] [(.int (2 : Int32)), (.int (1 : Int32))])) _
      refine XS.icmpNo X6.here hx rfl (hb hby d6_7) rfl (tlt (by decide : (1 : Int32) < (2 : Int32))).2.1 ?_
      show Steps p.tables e below (T6.setTop (mkF m 10 #[.val (.ref o0), .val (.int (1 : Int32))] [])) _
      refine XS.aloadN X6.here hx rfl (hb hby d6_10) rfl rfl ?_
      show Steps p.tables e below (T6.setTop (mkF m 11 #[.val (.ref o0), .val (.int (1 : Int32))] [(.ref o0)])) _
      refine st7 _ ?_
      show Steps p.tables e below (T7.setTop (mkF m 14 #[.val (.ref o0), .val (.int (1 : Int32))] [(.ref sa)])) _
      refine XS.iloadN X7.here hx rfl (hb hby d6_14) rfl ?_
      show Steps p.tables e below (T7.setTop (mkF m 15 #[.val (.ref o0), .val (.int (1 : Int32))] [(.int (1 : Int32)), (.ref sa)])) _
      refine X7.baloadBooleans hx (j := (1 : Int32)) (v := (.int (getI ss (1 : Int32)))) (by rw [e7]; exact Ar8.1) (State.isArrayOf_alike hZ.alike Ar8.2.1) Ar8.2.2 hin8 hat8 (g := (mkF m 15 #[.val (.ref o0), .val (.int (1 : Int32))] [(.int (1 : Int32)), (.ref sa)])) rfl rfl (hb hby d6_15) _ ?_
      show Steps p.tables e below (T7.setTop (mkF m 16 #[.val (.ref o0), .val (.int (1 : Int32))] [(.int (getI ss (1 : Int32)))])) _
      exact k)
    by_cases hc16_10 : (getI ss (1 : Int32)) = (0 : Int32)
    · obtain ⟨T11, X11, e11, st11⟩ := getF X7 hx hZ hown (host := "") (Or.inl (hw _ (List.mem_of_getElem? (i := 20) rfl))) Via.refl e7 (F_count_o0) (g := (mkF m 4 #[.val (.ref o0), .val (.int (2 : Int32))] [(.ref o0), (.int (2 : Int32))])) rfl rfl (hb hby d6_4)
      have hv : (f6c2 ss) = (0 : Int32) := by simp only [f6c2, if_pos hc16_5, if_pos hc16_10]
      obtain ⟨fs, hr, hrun, hended, hW, hsame⟩ := X11.leave (v := some (.int (0 : Int32))) (fun h => by rw [Bd.returns] at h; cases h)
      refine ⟨_, _, pre9 _ ?_, hrun, hended, _, _, rfl, ?_, ⟨_, rfl⟩, hW, hsame.mono (by decide) (by decide)⟩
      · show Steps p.tables e below (T7.setTop (mkF m 16 #[.val (.ref o0), .val (.int (1 : Int32))] [(.int (getI ss (1 : Int32)))])) _
        refine XS.ifYes X7.here hx rfl (pc0 := 16) (pc' := 21) rfl (hb hby d6_16) rfl ((if0 _ _).trans (teq hc16_10).1) (by decide) (by decide) ?_
        show Steps p.tables e below (T7.setTop (mkF m 21 #[.val (.ref o0), .val (.int (1 : Int32))] [])) _
        refine XS.iinc X7.here hx rfl (hb hby d6_21) rfl (l' := #[.val (.ref o0), .val (.int (2 : Int32))]) rfl ?_
        show Steps p.tables e below (T7.setTop (mkF m 24 #[.val (.ref o0), .val (.int (2 : Int32))] [])) _
        refine XS.goto X7.here hx rfl (pc0 := 24) (pc' := 2) rfl (hb hby d6_24) (by decide) (by decide) ?_
        show Steps p.tables e below (T7.setTop (mkF m 2 #[.val (.ref o0), .val (.int (2 : Int32))] [])) _
        refine XS.iloadN X7.here hx rfl (hb hby d6_2) rfl ?_
        show Steps p.tables e below (T7.setTop (mkF m 3 #[.val (.ref o0), .val (.int (2 : Int32))] [(.int (2 : Int32))])) _
        refine XS.aloadN X7.here hx rfl (hb hby d6_3) rfl rfl ?_
        show Steps p.tables e below (T7.setTop (mkF m 4 #[.val (.ref o0), .val (.int (2 : Int32))] [(.ref o0), (.int (2 : Int32))])) _
        refine st11 _ ?_
        show Steps p.tables e below (T11.setTop (mkF m 7 #[.val (.ref o0), .val (.int (2 : Int32))] [(.int (2 : Int32)), (.int (2 : Int32))])) _
        refine XS.icmpYes X11.here hx rfl (pc0 := 7) (pc' := 27) rfl (hb hby d6_7) rfl (flt (by decide : ¬ ((2 : Int32) < (2 : Int32)))).2.1 (by decide) (by decide) ?_
        show Steps p.tables e below (T11.setTop (mkF m 27 #[.val (.ref o0), .val (.int (2 : Int32))] [])) _
        refine XS.iconst X11.here hx rfl (hb hby d6_27) ?_
        show Steps p.tables e below (T11.setTop (mkF m 28 #[.val (.ref o0), .val (.int (2 : Int32))] [(.int (0 : Int32))])) _
        exact retN X11 hx (t := .boolean) Bd.returns (by simp) (hb hby d6_28) hr
      · show Q6c2 Z o0 sa kb ss h0 n0 _ T11.heap _
        rw [e11]
        exact ⟨by rw [hv], N0, rfl⟩
    · have hv : (f6c2 ss) = (1 : Int32) := by simp only [f6c2, if_pos hc16_5, if_neg hc16_10]
      obtain ⟨fs, hr, hrun, hended, hW, hsame⟩ := X7.leave (v := some (.int (1 : Int32))) (fun h => by rw [Bd.returns] at h; cases h)
      refine ⟨_, _, pre9 _ ?_, hrun, hended, _, _, rfl, ?_, ⟨_, rfl⟩, hW, hsame.mono (by decide) (by decide)⟩
      · show Steps p.tables e below (T7.setTop (mkF m 16 #[.val (.ref o0), .val (.int (1 : Int32))] [(.int (getI ss (1 : Int32)))])) _
        refine XS.ifNo X7.here hx rfl (hb hby d6_16) rfl ((if0 _ _).trans (feq hc16_10).1) ?_
        show Steps p.tables e below (T7.setTop (mkF m 19 #[.val (.ref o0), .val (.int (1 : Int32))] [])) _
        refine XS.iconst X7.here hx rfl (hb hby d6_19) ?_
        show Steps p.tables e below (T7.setTop (mkF m 20 #[.val (.ref o0), .val (.int (1 : Int32))] [(.int (1 : Int32))])) _
        exact retN X7 hx (t := .boolean) Bd.returns (by simp) (hb hby d6_20) hr
      · show Q6c2 Z o0 sa kb ss h0 n0 _ T7.heap _
        rw [e7]
        exact ⟨by rw [hv], N0, rfl⟩
  · have hv : (f6c2 ss) = (1 : Int32) := by simp only [f6c2, if_neg hc16_5]
    obtain ⟨fs, hr, hrun, hended, hW, hsame⟩ := X2.leave (v := some (.int (1 : Int32))) (fun h => by rw [Bd.returns] at h; cases h)
    refine ⟨_, _, pre4 _ ?_, hrun, hended, _, _, rfl, ?_, ⟨_, rfl⟩, hW, hsame.mono (by decide) (by decide)⟩
    · show Steps p.tables e below (T2.setTop (mkF m 16 #[.val (.ref o0), .val (.int (0 : Int32))] [(.int (getI ss (0 : Int32)))])) _
      refine XS.ifNo X2.here hx rfl (hb hby d6_16) rfl ((if0 _ _).trans (feq hc16_5).1) ?_
      show Steps p.tables e below (T2.setTop (mkF m 19 #[.val (.ref o0), .val (.int (0 : Int32))] [])) _
      refine XS.iconst X2.here hx rfl (hb hby d6_19) ?_
      show Steps p.tables e below (T2.setTop (mkF m 20 #[.val (.ref o0), .val (.int (0 : Int32))] [(.int (1 : Int32))])) _
      exact retN X2 hx (t := .boolean) Bd.returns (by simp) (hb hby d6_20) hr
    · show Q6c2 Z o0 sa kb ss h0 n0 _ T2.heap _
      rw [e2]
      exact ⟨by rw [hv], N0, rfl⟩
def f6c3 (ss : List Int32) : Int32 := (if (getI ss (0 : Int32)) = (0 : Int32) then (if (getI ss (1 : Int32)) = (0 : Int32) then (if (getI ss (2 : Int32)) = (0 : Int32) then (0 : Int32) else (1 : Int32)) else (1 : Int32)) else (1 : Int32))
def Q6c3 (Z : State) (o0 : Addr) (sa : Addr) (kb : ClassId) (ss : List Int32) (h0 : Heap) (n0 : Nat) (v : Option Value) (h : Heap) (L : List Loc) : Prop := v = some (.int (f6c3 ss)) ∧ Fr n0 L ∧ h = h0
set_option maxRecDepth 65536 in
set_option maxHeartbeats 40000000 in
theorem rm6c3 (l : Launch) (Z : State) (a0 : Array Value) (hw : ∀ d ∈ tables_1, d.before a0 Z = true) (ws : List Jvm.Cond) (o0 : Addr) (sa : Addr) (kb : ClassId) (ss : List Int32) (h0 : Heap) (n0 : Nat) (Z0 : n0 ≤ h0.size) (E_o0 : Exa Z h0 o0 "com/example/glowcursor/glowcursor/parser/ControlSequence") (F_count_o0 : Fld Z h0 o0 "com/example/glowcursor/glowcursor/parser/ControlSequence" "count" "I" (.int (3 : Int32))) (F_subParameters_o0 : Fld Z h0 o0 "com/example/glowcursor/glowcursor/parser/ControlSequence" "subParameters" "[Z" (.ref sa)) (V_sa : Ia Z h0 sa kb .boolean (32 : Int32) ss)  :
    MetFree l (⟨"com/example/glowcursor/glowcursor/parser/ControlSequence", "hasSubParameters", "()Z"⟩ : MethodName) (head1 (Jvm.Cond.code (⟨"com/example/glowcursor/glowcursor/parser/ControlSequence", "hasSubParameters", "()Z"⟩ : MethodName) prog_38_method_8_code 2 (some .boolean) :: ws) ({ frames := 0, cells := 0, slots := 0, locals := 0 } : Room)) (fun a U => a = #[(.ref o0)] ∧ Z.Warmed39 U.vm ∧ U.heap = h0) (fun _ _ _ _ _ => True) (fun _ U o U' => ∃ v L, o = .returned v ∧ Q6c3 Z o0 sa kb ss h0 n0 v U'.heap L ∧ FrameEnd U o U' L ({ frames := 0, cells := 0, slots := 0, locals := 0 } : Room).cells ({ frames := 0, cells := 0, slots := 0, locals := 0 } : Room).slots) := by
  refine MetFree.of_bodySF (plainFor_of_name pn_6) hisR ?_
  intro p e s m args below meth c s₁ Bd hml0 hP hK
  obtain ⟨rfl, hZ, hh⟩ := hP
  have hx := Bd.exec
  have hby := Bd.bytes
  have hml : c.maxLocals = 2 := hml0
  have hown : s.vm.findClass "com/example/glowcursor/glowcursor/parser/ControlSequence" = some m.cls := findClass_of_methodNamed Bd.named
  have hnm := (name_of_methodNamed Bd.named Bd.method).1
  have X0 : Stand p l e ({ frames := 0, cells := 0, slots := 0, locals := 0 } : Room) s m #[(.ref o0)] below meth c s₁ [] 0 0 := Stand.of_body Bd
  have e0 : s₁.heap = h0 := by rw [← hh, Bd.state]; rfl
  have N0 := Fr.nil n0
  have pre0 : ∀ t, Steps p.tables e below (s₁.setTop (mkF m 0 #[.val (.ref o0), .unset] [])) t → Steps p.tables e below (s₁.setTop (entryFrame m #[(.ref o0)] 2)) t := fun t k => castTop (ef_6 m o0) k
  obtain ⟨T1, X1, e1, st1⟩ := getF X0 hx hZ hown (host := "") (Or.inl (hw _ (List.mem_of_getElem? (i := 20) rfl))) Via.refl e0 (F_count_o0) (g := (mkF m 4 #[.val (.ref o0), .val (.int (0 : Int32))] [(.ref o0), (.int (0 : Int32))])) rfl rfl (hb hby d6_4)
  obtain ⟨T2, X2, e2, st2⟩ := getF X1 hx hZ hown (host := "") (Or.inl (hw _ (List.mem_of_getElem? (i := 13) rfl))) Via.refl e1 (F_subParameters_o0) (g := (mkF m 11 #[.val (.ref o0), .val (.int (0 : Int32))] [(.ref o0)])) rfl rfl (hb hby d6_11)
  obtain ⟨cl3, Ar3, hin3, hat3⟩ := Ia.get (V_sa) (j := (0 : Int32)) ⟨by decide, by decide⟩
  have pre4 : ∀ t, Steps p.tables e below (T2.setTop (mkF m 16 #[.val (.ref o0), .val (.int (0 : Int32))] [(.int (getI ss (0 : Int32)))])) t → Steps p.tables e below (s₁.setTop (entryFrame m #[(.ref o0)] 2)) t := fun t k => pre0 t (by
    show Steps p.tables e below (s₁.setTop (mkF m 0 #[.val (.ref o0), .unset] [])) _
    refine XS.iconst X0.here hx rfl (hb hby d6_0) ?_
    show Steps p.tables e below (s₁.setTop (mkF m 1 #[.val (.ref o0), .unset] [(.int (0 : Int32))])) _
    refine XS.istoreN X0.here hx rfl (hb hby d6_1) rfl (l' := #[.val (.ref o0), .val (.int (0 : Int32))]) rfl ?_
    show Steps p.tables e below (s₁.setTop (mkF m 2 #[.val (.ref o0), .val (.int (0 : Int32))] [])) _
    refine XS.iloadN X0.here hx rfl (hb hby d6_2) rfl ?_
    show Steps p.tables e below (s₁.setTop (mkF m 3 #[.val (.ref o0), .val (.int (0 : Int32))] [(.int (0 : Int32))])) _
    refine XS.aloadN X0.here hx rfl (hb hby d6_3) rfl rfl ?_
    show Steps p.tables e below (s₁.setTop (mkF m 4 #[.val (.ref o0), .val (.int (0 : Int32))] [(.ref o0), (.int (0 : Int32))])) _
    refine st1 _ ?_
    show Steps p.tables e below (T1.setTop (mkF m 7 #[.val (.ref o0), .val (.int (0 : Int32))] [(.int (3 : Int32)), (.int (0 : Int32))])) _
    refine XS.icmpNo X1.here hx rfl (hb hby d6_7) rfl (tlt (by decide : (0 : Int32) < (3 : Int32))).2.1 ?_
    show Steps p.tables e below (T1.setTop (mkF m 10 #[.val (.ref o0), .val (.int (0 : Int32))] [])) _
    refine XS.aloadN X1.here hx rfl (hb hby d6_10) rfl rfl ?_
    show Steps p.tables e below (T1.setTop (mkF m 11 #[.val (.ref o0), .val (.int (0 : Int32))] [(.ref o0)])) _
    refine st2 _ ?_
    show Steps p.tables e below (T2.setTop (mkF m 14 #[.val (.ref o0), .val (.int (0 : Int32))] [(.ref sa)])) _
    refine XS.iloadN X2.here hx rfl (hb hby d6_14) rfl ?_
    show Steps p.tables e below (T2.setTop (mkF m 15 #[.val (.ref o0), .val (.int (0 : Int32))] [(.int (0 : Int32)), (.ref sa)])) _
    refine X2.baloadBooleans hx (j := (0 : Int32)) (v := (.int (getI ss (0 : Int32)))) (by rw [e2]; exact Ar3.1) (State.isArrayOf_alike hZ.alike Ar3.2.1) Ar3.2.2 hin3 hat3 (g := (mkF m 15 #[.val (.ref o0), .val (.int (0 : Int32))] [(.int (0 : Int32)), (.ref sa)])) rfl rfl (hb hby d6_15) _ ?_
    show Steps p.tables e below (T2.setTop (mkF m 16 #[.val (.ref o0), .val (.int (0 : Int32))] [(.int (getI ss (0 : Int32)))])) _
    exact k)
  by_cases hc16_5 : (getI ss (0 : Int32)) = (0 : Int32)
  · obtain ⟨T6, X6, e6, st6⟩ := getF X2 hx hZ hown (host := "") (Or.inl (hw _ (List.mem_of_getElem? (i := 20) rfl))) Via.refl e2 (F_count_o0) (g := (mkF m 4 #[.val (.ref o0), .val (.int (1 : Int32))] [(.ref o0), (.int (1 : Int32))])) rfl rfl (hb hby d6_4)
    obtain ⟨T7, X7, e7, st7⟩ := getF X6 hx hZ hown (host := "") (Or.inl (hw _ (List.mem_of_getElem? (i := 13) rfl))) Via.refl e6 (F_subParameters_o0) (g := (mkF m 11 #[.val (.ref o0), .val (.int (1 : Int32))] [(.ref o0)])) rfl rfl (hb hby d6_11)
    obtain ⟨cl8, Ar8, hin8, hat8⟩ := Ia.get (V_sa) (j := (1 : Int32)) ⟨by decide, by decide⟩
    have pre9 : ∀ t, Steps p.tables e below (T7.setTop (mkF m 16 #[.val (.ref o0), .val (.int (1 : Int32))] [(.int (getI ss (1 : Int32)))])) t → Steps p.tables e below (s₁.setTop (entryFrame m #[(.ref o0)] 2)) t := fun t k => pre4 t (by
      show Steps p.tables e below (T2.setTop (mkF m 16 #[.val (.ref o0), .val (.int (0 : Int32))] [(.int (getI ss (0 : Int32)))])) _
      refine XS.ifYes X2.here hx rfl (pc0 := 16) (pc' := 21) rfl (hb hby d6_16) rfl ((if0 _ _).trans (teq hc16_5).1) (by decide) (by decide) ?_
      show Steps p.tables e below (T2.setTop (mkF m 21 #[.val (.ref o0), .val (.int (0 : Int32))] [])) _
      refine XS.iinc X2.here hx rfl (hb hby d6_21) rfl (l' := #[.val (.ref o0), .val (.int (1 : Int32))]) rfl ?_
      show Steps p.tables e below (T2.setTop (mkF m 24 #[.val (.ref o0), .val (.int (1 : Int32))] [])) _
      refine XS.goto X2.here hx rfl (pc0 := 24) (pc' := 2) rfl (hb hby d6_24) (by decide) (by decide) ?_
      show Steps p.tables e below (T2.setTop (mkF m 2 #[.val (.ref o0), .val (.int (1 : Int32))] [])) _
      refine XS.iloadN X2.here hx rfl (hb hby d6_2) rfl ?_
      show Steps p.tables e below (T2.setTop (mkF m 3 #[.val (.ref o0), .val (.int (1 : Int32))] [(.int (1 : Int32))])) _
      refine XS.aloadN X2.here hx rfl (hb hby d6_3) rfl rfl ?_
      show Steps p.tables e below (T2.setTop (mkF m 4 #[.val (.ref o0), .val (.int (1 : Int32))] [(.ref o0), (.int (1 : Int32))])) _
      refine st6 _ ?_
      show Steps p.tables e below (T6.setTop (mkF m 7 #[.val (.ref o0), .val (.int (1 : Int32))] [(.int (3 : Int32)), (.int (1 : Int32))])) _
      refine XS.icmpNo X6.here hx rfl (hb hby d6_7) rfl (tlt (by decide : (1 : Int32) < (3 : Int32))).2.1 ?_
      show Steps p.tables e below (T6.setTop (mkF m 10 #[.val (.ref o0), .val (.int (1 : Int32))] [])) _
      refine XS.aloadN X6.here hx rfl (hb hby d6_10) rfl rfl ?_
      show Steps p.tables e below (T6.setTop (mkF m 11 #[.val (.ref o0), .val (.int (1 : Int32))] [(.ref o0)])) _
      refine st7 _ ?_
      show Steps p.tables e below (T7.setTop (mkF m 14 #[.val (.ref o0), .val (.int (1 : Int32))] [(.ref sa)])) _
      refine XS.iloadN X7.here hx rfl (hb hby d6_14) rfl ?_
      show Steps p.tables e below (T7.setTop (mkF m 15 #[.val (.ref o0), .val (.int (1 : Int32))] [(.int (1 : Int32)), (.ref sa)])) _
      refine X7.baloadBooleans hx (j := (1 : Int32)) (v := (.int (getI ss (1 : Int32)))) (by rw [e7]; exact Ar8.1) (State.isArrayOf_alike hZ.alike Ar8.2.1) Ar8.2.2 hin8 hat8 (g := (mkF m 15 #[.val (.ref o0), .val (.int (1 : Int32))] [(.int (1 : Int32)), (.ref sa)])) rfl rfl (hb hby d6_15) _ ?_
      show Steps p.tables e below (T7.setTop (mkF m 16 #[.val (.ref o0), .val (.int (1 : Int32))] [(.int (getI ss (1 : Int32)))])) _
      exact k)
    by_cases hc16_10 : (getI ss (1 : Int32)) = (0 : Int32)
    · obtain ⟨T11, X11, e11, st11⟩ := getF X7 hx hZ hown (host := "") (Or.inl (hw _ (List.mem_of_getElem? (i := 20) rfl))) Via.refl e7 (F_count_o0) (g := (mkF m 4 #[.val (.ref o0), .val (.int (2 : Int32))] [(.ref o0), (.int (2 : Int32))])) rfl rfl (hb hby d6_4)
      obtain ⟨T12, X12, e12, st12⟩ := getF X11 hx hZ hown (host := "") (Or.inl (hw _ (List.mem_of_getElem? (i := 13) rfl))) Via.refl e11 (F_subParameters_o0) (g := (mkF m 11 #[.val (.ref o0), .val (.int (2 : Int32))] [(.ref o0)])) rfl rfl (hb hby d6_11)
      obtain ⟨cl13, Ar13, hin13, hat13⟩ := Ia.get (V_sa) (j := (2 : Int32)) ⟨by decide, by decide⟩
      have pre14 : ∀ t, Steps p.tables e below (T12.setTop (mkF m 16 #[.val (.ref o0), .val (.int (2 : Int32))] [(.int (getI ss (2 : Int32)))])) t → Steps p.tables e below (s₁.setTop (entryFrame m #[(.ref o0)] 2)) t := fun t k => pre9 t (by
        show Steps p.tables e below (T7.setTop (mkF m 16 #[.val (.ref o0), .val (.int (1 : Int32))] [(.int (getI ss (1 : Int32)))])) _
        refine XS.ifYes X7.here hx rfl (pc0 := 16) (pc' := 21) rfl (hb hby d6_16) rfl ((if0 _ _).trans (teq hc16_10).1) (by decide) (by decide) ?_
        show Steps p.tables e below (T7.setTop (mkF m 21 #[.val (.ref o0), .val (.int (1 : Int32))] [])) _
        refine XS.iinc X7.here hx rfl (hb hby d6_21) rfl (l' := #[.val (.ref o0), .val (.int (2 : Int32))]) rfl ?_
        show Steps p.tables e below (T7.setTop (mkF m 24 #[.val (.ref o0), .val (.int (2 : Int32))] [])) _
        refine XS.goto X7.here hx rfl (pc0 := 24) (pc' := 2) rfl (hb hby d6_24) (by decide) (by decide) ?_
        show Steps p.tables e below (T7.setTop (mkF m 2 #[.val (.ref o0), .val (.int (2 : Int32))] [])) _
        refine XS.iloadN X7.here hx rfl (hb hby d6_2) rfl ?_
        show Steps p.tables e below (T7.setTop (mkF m 3 #[.val (.ref o0), .val (.int (2 : Int32))] [(.int (2 : Int32))])) _
        refine XS.aloadN X7.here hx rfl (hb hby d6_3) rfl rfl ?_
        show Steps p.tables e below (T7.setTop (mkF m 4 #[.val (.ref o0), .val (.int (2 : Int32))] [(.ref o0), (.int (2 : Int32))])) _
        refine st11 _ ?_
        show Steps p.tables e below (T11.setTop (mkF m 7 #[.val (.ref o0), .val (.int (2 : Int32))] [(.int (3 : Int32)), (.int (2 : Int32))])) _
        refine XS.icmpNo X11.here hx rfl (hb hby d6_7) rfl (tlt (by decide : (2 : Int32) < (3 : Int32))).2.1 ?_
        show Steps p.tables e below (T11.setTop (mkF m 10 #[.val (.ref o0), .val (.int (2 : Int32))] [])) _
        refine XS.aloadN X11.here hx rfl (hb hby d6_10) rfl rfl ?_
        show Steps p.tables e below (T11.setTop (mkF m 11 #[.val (.ref o0), .val (.int (2 : Int32))] [(.ref o0)])) _
        refine st12 _ ?_
        show Steps p.tables e below (T12.setTop (mkF m 14 #[.val (.ref o0), .val (.int (2 : Int32))] [(.ref sa)])) _
        refine XS.iloadN X12.here hx rfl (hb hby d6_14) rfl ?_
        show Steps p.tables e below (T12.setTop (mkF m 15 #[.val (.ref o0), .val (.int (2 : Int32))] [(.int (2 : Int32)), (.ref sa)])) _
        refine X12.baloadBooleans hx (j := (2 : Int32)) (v := (.int (getI ss (2 : Int32)))) (by rw [e12]; exact Ar13.1) (State.isArrayOf_alike hZ.alike Ar13.2.1) Ar13.2.2 hin13 hat13 (g := (mkF m 15 #[.val (.ref o0), .val (.int (2 : Int32))] [(.int (2 : Int32)), (.ref sa)])) rfl rfl (hb hby d6_15) _ ?_
        show Steps p.tables e below (T12.setTop (mkF m 16 #[.val (.ref o0), .val (.int (2 : Int32))] [(.int (getI ss (2 : Int32)))])) _
        exact k)
      by_cases hc16_15 : (getI ss (2 : Int32)) = (0 : Int32)
      · obtain ⟨T16, X16, e16, st16⟩ := getF X12 hx hZ hown (host := "") (Or.inl (hw _ (List.mem_of_getElem? (i := 20) rfl))) Via.refl e12 (F_count_o0) (g := (mkF m 4 #[.val (.ref o0), .val (.int (3 : Int32))] [(.ref o0), (.int (3 : Int32))])) rfl rfl (hb hby d6_4)
        have hv : (f6c3 ss) = (0 : Int32) := by simp only [f6c3, if_pos hc16_5, if_pos hc16_10, if_pos hc16_15]
        obtain ⟨fs, hr, hrun, hended, hW, hsame⟩ := X16.leave (v := some (.int (0 : Int32))) (fun h => by rw [Bd.returns] at h; cases h)
        refine ⟨_, _, pre14 _ ?_, hrun, hended, _, _, rfl, ?_, ⟨_, rfl⟩, hW, hsame.mono (by decide) (by decide)⟩
        · show Steps p.tables e below (T12.setTop (mkF m 16 #[.val (.ref o0), .val (.int (2 : Int32))] [(.int (getI ss (2 : Int32)))])) _
          refine XS.ifYes X12.here hx rfl (pc0 := 16) (pc' := 21) rfl (hb hby d6_16) rfl ((if0 _ _).trans (teq hc16_15).1) (by decide) (by decide) ?_
          show Steps p.tables e below (T12.setTop (mkF m 21 #[.val (.ref o0), .val (.int (2 : Int32))] [])) _
          refine XS.iinc X12.here hx rfl (hb hby d6_21) rfl (l' := #[.val (.ref o0), .val (.int (3 : Int32))]) rfl ?_
          show Steps p.tables e below (T12.setTop (mkF m 24 #[.val (.ref o0), .val (.int (3 : Int32))] [])) _
          refine XS.goto X12.here hx rfl (pc0 := 24) (pc' := 2) rfl (hb hby d6_24) (by decide) (by decide) ?_
          show Steps p.tables e below (T12.setTop (mkF m 2 #[.val (.ref o0), .val (.int (3 : Int32))] [])) _
          refine XS.iloadN X12.here hx rfl (hb hby d6_2) rfl ?_
          show Steps p.tables e below (T12.setTop (mkF m 3 #[.val (.ref o0), .val (.int (3 : Int32))] [(.int (3 : Int32))])) _
          refine XS.aloadN X12.here hx rfl (hb hby d6_3) rfl rfl ?_
          show Steps p.tables e below (T12.setTop (mkF m 4 #[.val (.ref o0), .val (.int (3 : Int32))] [(.ref o0), (.int (3 : Int32))])) _
          refine st16 _ ?_
          show Steps p.tables e below (T16.setTop (mkF m 7 #[.val (.ref o0), .val (.int (3 : Int32))] [(.int (3 : Int32)), (.int (3 : Int32))])) _
          refine XS.icmpYes X16.here hx rfl (pc0 := 7) (pc' := 27) rfl (hb hby d6_7) rfl (flt (by decide : ¬ ((3 : Int32) < (3 : Int32)))).2.1 (by decide) (by decide) ?_
          show Steps p.tables e below (T16.setTop (mkF m 27 #[.val (.ref o0), .val (.int (3 : Int32))] [])) _
          refine XS.iconst X16.here hx rfl (hb hby d6_27) ?_
          show Steps p.tables e below (T16.setTop (mkF m 28 #[.val (.ref o0), .val (.int (3 : Int32))] [(.int (0 : Int32))])) _
          exact retN X16 hx (t := .boolean) Bd.returns (by simp) (hb hby d6_28) hr
        · show Q6c3 Z o0 sa kb ss h0 n0 _ T16.heap _
          rw [e16]
          exact ⟨by rw [hv], N0, rfl⟩
      · have hv : (f6c3 ss) = (1 : Int32) := by simp only [f6c3, if_pos hc16_5, if_pos hc16_10, if_neg hc16_15]
        obtain ⟨fs, hr, hrun, hended, hW, hsame⟩ := X12.leave (v := some (.int (1 : Int32))) (fun h => by rw [Bd.returns] at h; cases h)
        refine ⟨_, _, pre14 _ ?_, hrun, hended, _, _, rfl, ?_, ⟨_, rfl⟩, hW, hsame.mono (by decide) (by decide)⟩
        · show Steps p.tables e below (T12.setTop (mkF m 16 #[.val (.ref o0), .val (.int (2 : Int32))] [(.int (getI ss (2 : Int32)))])) _
          refine XS.ifNo X12.here hx rfl (hb hby d6_16) rfl ((if0 _ _).trans (feq hc16_15).1) ?_
          show Steps p.tables e below (T12.setTop (mkF m 19 #[.val (.ref o0), .val (.int (2 : Int32))] [])) _
          refine XS.iconst X12.here hx rfl (hb hby d6_19) ?_
          show Steps p.tables e below (T12.setTop (mkF m 20 #[.val (.ref o0), .val (.int (2 : Int32))] [(.int (1 : Int32))])) _
          exact retN X12 hx (t := .boolean) Bd.returns (by simp) (hb hby d6_20) hr
        · show Q6c3 Z o0 sa kb ss h0 n0 _ T12.heap _
          rw [e12]
          exact ⟨by rw [hv], N0, rfl⟩
    · have hv : (f6c3 ss) = (1 : Int32) := by simp only [f6c3, if_pos hc16_5, if_neg hc16_10]
      obtain ⟨fs, hr, hrun, hended, hW, hsame⟩ := X7.leave (v := some (.int (1 : Int32))) (fun h => by rw [Bd.returns] at h; cases h)
      refine ⟨_, _, pre9 _ ?_, hrun, hended, _, _, rfl, ?_, ⟨_, rfl⟩, hW, hsame.mono (by decide) (by decide)⟩
      · show Steps p.tables e below (T7.setTop (mkF m 16 #[.val (.ref o0), .val (.int (1 : Int32))] [(.int (getI ss (1 : Int32)))])) _
        refine XS.ifNo X7.here hx rfl (hb hby d6_16) rfl ((if0 _ _).trans (feq hc16_10).1) ?_
        show Steps p.tables e below (T7.setTop (mkF m 19 #[.val (.ref o0), .val (.int (1 : Int32))] [])) _
        refine XS.iconst X7.here hx rfl (hb hby d6_19) ?_
        show Steps p.tables e below (T7.setTop (mkF m 20 #[.val (.ref o0), .val (.int (1 : Int32))] [(.int (1 : Int32))])) _
        exact retN X7 hx (t := .boolean) Bd.returns (by simp) (hb hby d6_20) hr
      · show Q6c3 Z o0 sa kb ss h0 n0 _ T7.heap _
        rw [e7]
        exact ⟨by rw [hv], N0, rfl⟩
  · have hv : (f6c3 ss) = (1 : Int32) := by simp only [f6c3, if_neg hc16_5]
    obtain ⟨fs, hr, hrun, hended, hW, hsame⟩ := X2.leave (v := some (.int (1 : Int32))) (fun h => by rw [Bd.returns] at h; cases h)
    refine ⟨_, _, pre4 _ ?_, hrun, hended, _, _, rfl, ?_, ⟨_, rfl⟩, hW, hsame.mono (by decide) (by decide)⟩
    · show Steps p.tables e below (T2.setTop (mkF m 16 #[.val (.ref o0), .val (.int (0 : Int32))] [(.int (getI ss (0 : Int32)))])) _
      refine XS.ifNo X2.here hx rfl (hb hby d6_16) rfl ((if0 _ _).trans (feq hc16_5).1) ?_
      show Steps p.tables e below (T2.setTop (mkF m 19 #[.val (.ref o0), .val (.int (0 : Int32))] [])) _
      refine XS.iconst X2.here hx rfl (hb hby d6_19) ?_
      show Steps p.tables e below (T2.setTop (mkF m 20 #[.val (.ref o0), .val (.int (0 : Int32))] [(.int (1 : Int32))])) _
      exact retN X2 hx (t := .boolean) Bd.returns (by simp) (hb hby d6_20) hr
    · show Q6c3 Z o0 sa kb ss h0 n0 _ T2.heap _
      rw [e2]
      exact ⟨by rw [hv], N0, rfl⟩
def f6c4 (ss : List Int32) : Int32 := (if (getI ss (0 : Int32)) = (0 : Int32) then (if (getI ss (1 : Int32)) = (0 : Int32) then (if (getI ss (2 : Int32)) = (0 : Int32) then (if (getI ss (3 : Int32)) = (0 : Int32) then (0 : Int32) else (1 : Int32)) else (1 : Int32)) else (1 : Int32)) else (1 : Int32))
def Q6c4 (Z : State) (o0 : Addr) (sa : Addr) (kb : ClassId) (ss : List Int32) (h0 : Heap) (n0 : Nat) (v : Option Value) (h : Heap) (L : List Loc) : Prop := v = some (.int (f6c4 ss)) ∧ Fr n0 L ∧ h = h0
set_option maxRecDepth 65536 in
set_option maxHeartbeats 40000000 in
theorem rm6c4 (l : Launch) (Z : State) (a0 : Array Value) (hw : ∀ d ∈ tables_1, d.before a0 Z = true) (ws : List Jvm.Cond) (o0 : Addr) (sa : Addr) (kb : ClassId) (ss : List Int32) (h0 : Heap) (n0 : Nat) (Z0 : n0 ≤ h0.size) (E_o0 : Exa Z h0 o0 "com/example/glowcursor/glowcursor/parser/ControlSequence") (F_count_o0 : Fld Z h0 o0 "com/example/glowcursor/glowcursor/parser/ControlSequence" "count" "I" (.int (4 : Int32))) (F_subParameters_o0 : Fld Z h0 o0 "com/example/glowcursor/glowcursor/parser/ControlSequence" "subParameters" "[Z" (.ref sa)) (V_sa : Ia Z h0 sa kb .boolean (32 : Int32) ss)  :
    MetFree l (⟨"com/example/glowcursor/glowcursor/parser/ControlSequence", "hasSubParameters", "()Z"⟩ : MethodName) (head1 (Jvm.Cond.code (⟨"com/example/glowcursor/glowcursor/parser/ControlSequence", "hasSubParameters", "()Z"⟩ : MethodName) prog_38_method_8_code 2 (some .boolean) :: ws) ({ frames := 0, cells := 0, slots := 0, locals := 0 } : Room)) (fun a U => a = #[(.ref o0)] ∧ Z.Warmed39 U.vm ∧ U.heap = h0) (fun _ _ _ _ _ => True) (fun _ U o U' => ∃ v L, o = .returned v ∧ Q6c4 Z o0 sa kb ss h0 n0 v U'.heap L ∧ FrameEnd U o U' L ({ frames := 0, cells := 0, slots := 0, locals := 0 } : Room).cells ({ frames := 0, cells := 0, slots := 0, locals := 0 } : Room).slots) := by
  refine MetFree.of_bodySF (plainFor_of_name pn_6) hisR ?_
  intro p e s m args below meth c s₁ Bd hml0 hP hK
  obtain ⟨rfl, hZ, hh⟩ := hP
  have hx := Bd.exec
  have hby := Bd.bytes
  have hml : c.maxLocals = 2 := hml0
  have hown : s.vm.findClass "com/example/glowcursor/glowcursor/parser/ControlSequence" = some m.cls := findClass_of_methodNamed Bd.named
  have hnm := (name_of_methodNamed Bd.named Bd.method).1
  have X0 : Stand p l e ({ frames := 0, cells := 0, slots := 0, locals := 0 } : Room) s m #[(.ref o0)] below meth c s₁ [] 0 0 := Stand.of_body Bd
  have e0 : s₁.heap = h0 := by rw [← hh, Bd.state]; rfl
  have N0 := Fr.nil n0
  have pre0 : ∀ t, Steps p.tables e below (s₁.setTop (mkF m 0 #[.val (.ref o0), .unset] [])) t → Steps p.tables e below (s₁.setTop (entryFrame m #[(.ref o0)] 2)) t := fun t k => castTop (ef_6 m o0) k
  obtain ⟨T1, X1, e1, st1⟩ := getF X0 hx hZ hown (host := "") (Or.inl (hw _ (List.mem_of_getElem? (i := 20) rfl))) Via.refl e0 (F_count_o0) (g := (mkF m 4 #[.val (.ref o0), .val (.int (0 : Int32))] [(.ref o0), (.int (0 : Int32))])) rfl rfl (hb hby d6_4)
  obtain ⟨T2, X2, e2, st2⟩ := getF X1 hx hZ hown (host := "") (Or.inl (hw _ (List.mem_of_getElem? (i := 13) rfl))) Via.refl e1 (F_subParameters_o0) (g := (mkF m 11 #[.val (.ref o0), .val (.int (0 : Int32))] [(.ref o0)])) rfl rfl (hb hby d6_11)
  obtain ⟨cl3, Ar3, hin3, hat3⟩ := Ia.get (V_sa) (j := (0 : Int32)) ⟨by decide, by decide⟩
  have pre4 : ∀ t, Steps p.tables e below (T2.setTop (mkF m 16 #[.val (.ref o0), .val (.int (0 : Int32))] [(.int (getI ss (0 : Int32)))])) t → Steps p.tables e below (s₁.setTop (entryFrame m #[(.ref o0)] 2)) t := fun t k => pre0 t (by
    show Steps p.tables e below (s₁.setTop (mkF m 0 #[.val (.ref o0), .unset] [])) _
    refine XS.iconst X0.here hx rfl (hb hby d6_0) ?_
    show Steps p.tables e below (s₁.setTop (mkF m 1 #[.val (.ref o0), .unset] [(.int (0 : Int32))])) _
    refine XS.istoreN X0.here hx rfl (hb hby d6_1) rfl (l' := #[.val (.ref o0), .val (.int (0 : Int32))]) rfl ?_
    show Steps p.tables e below (s₁.setTop (mkF m 2 #[.val (.ref o0), .val (.int (0 : Int32))] [])) _
    refine XS.iloadN X0.here hx rfl (hb hby d6_2) rfl ?_
    show Steps p.tables e below (s₁.setTop (mkF m 3 #[.val (.ref o0), .val (.int (0 : Int32))] [(.int (0 : Int32))])) _
    refine XS.aloadN X0.here hx rfl (hb hby d6_3) rfl rfl ?_
    show Steps p.tables e below (s₁.setTop (mkF m 4 #[.val (.ref o0), .val (.int (0 : Int32))] [(.ref o0), (.int (0 : Int32))])) _
    refine st1 _ ?_
    show Steps p.tables e below (T1.setTop (mkF m 7 #[.val (.ref o0), .val (.int (0 : Int32))] [(.int (4 : Int32)), (.int (0 : Int32))])) _
    refine XS.icmpNo X1.here hx rfl (hb hby d6_7) rfl (tlt (by decide : (0 : Int32) < (4 : Int32))).2.1 ?_
    show Steps p.tables e below (T1.setTop (mkF m 10 #[.val (.ref o0), .val (.int (0 : Int32))] [])) _
    refine XS.aloadN X1.here hx rfl (hb hby d6_10) rfl rfl ?_
    show Steps p.tables e below (T1.setTop (mkF m 11 #[.val (.ref o0), .val (.int (0 : Int32))] [(.ref o0)])) _
    refine st2 _ ?_
    show Steps p.tables e below (T2.setTop (mkF m 14 #[.val (.ref o0), .val (.int (0 : Int32))] [(.ref sa)])) _
    refine XS.iloadN X2.here hx rfl (hb hby d6_14) rfl ?_
    show Steps p.tables e below (T2.setTop (mkF m 15 #[.val (.ref o0), .val (.int (0 : Int32))] [(.int (0 : Int32)), (.ref sa)])) _
    refine X2.baloadBooleans hx (j := (0 : Int32)) (v := (.int (getI ss (0 : Int32)))) (by rw [e2]; exact Ar3.1) (State.isArrayOf_alike hZ.alike Ar3.2.1) Ar3.2.2 hin3 hat3 (g := (mkF m 15 #[.val (.ref o0), .val (.int (0 : Int32))] [(.int (0 : Int32)), (.ref sa)])) rfl rfl (hb hby d6_15) _ ?_
    show Steps p.tables e below (T2.setTop (mkF m 16 #[.val (.ref o0), .val (.int (0 : Int32))] [(.int (getI ss (0 : Int32)))])) _
    exact k)
  by_cases hc16_5 : (getI ss (0 : Int32)) = (0 : Int32)
  · obtain ⟨T6, X6, e6, st6⟩ := getF X2 hx hZ hown (host := "") (Or.inl (hw _ (List.mem_of_getElem? (i := 20) rfl))) Via.refl e2 (F_count_o0) (g := (mkF m 4 #[.val (.ref o0), .val (.int (1 : Int32))] [(.ref o0), (.int (1 : Int32))])) rfl rfl (hb hby d6_4)
    obtain ⟨T7, X7, e7, st7⟩ := getF X6 hx hZ hown (host := "") (Or.inl (hw _ (List.mem_of_getElem? (i := 13) rfl))) Via.refl e6 (F_subParameters_o0) (g := (mkF m 11 #[.val (.ref o0), .val (.int (1 : Int32))] [(.ref o0)])) rfl rfl (hb hby d6_11)
    obtain ⟨cl8, Ar8, hin8, hat8⟩ := Ia.get (V_sa) (j := (1 : Int32)) ⟨by decide, by decide⟩
    have pre9 : ∀ t, Steps p.tables e below (T7.setTop (mkF m 16 #[.val (.ref o0), .val (.int (1 : Int32))] [(.int (getI ss (1 : Int32)))])) t → Steps p.tables e below (s₁.setTop (entryFrame m #[(.ref o0)] 2)) t := fun t k => pre4 t (by
      show Steps p.tables e below (T2.setTop (mkF m 16 #[.val (.ref o0), .val (.int (0 : Int32))] [(.int (getI ss (0 : Int32)))])) _
      refine XS.ifYes X2.here hx rfl (pc0 := 16) (pc' := 21) rfl (hb hby d6_16) rfl ((if0 _ _).trans (teq hc16_5).1) (by decide) (by decide) ?_
      show Steps p.tables e below (T2.setTop (mkF m 21 #[.val (.ref o0), .val (.int (0 : Int32))] [])) _
      refine XS.iinc X2.here hx rfl (hb hby d6_21) rfl (l' := #[.val (.ref o0), .val (.int (1 : Int32))]) rfl ?_
      show Steps p.tables e below (T2.setTop (mkF m 24 #[.val (.ref o0), .val (.int (1 : Int32))] [])) _
      refine XS.goto X2.here hx rfl (pc0 := 24) (pc' := 2) rfl (hb hby d6_24) (by decide) (by decide) ?_
      show Steps p.tables e below (T2.setTop (mkF m 2 #[.val (.ref o0), .val (.int (1 : Int32))] [])) _
      refine XS.iloadN X2.here hx rfl (hb hby d6_2) rfl ?_
      show Steps p.tables e below (T2.setTop (mkF m 3 #[.val (.ref o0), .val (.int (1 : Int32))] [(.int (1 : Int32))])) _
      refine XS.aloadN X2.here hx rfl (hb hby d6_3) rfl rfl ?_
      show Steps p.tables e below (T2.setTop (mkF m 4 #[.val (.ref o0), .val (.int (1 : Int32))] [(.ref o0), (.int (1 : Int32))])) _
      refine st6 _ ?_
      show Steps p.tables e below (T6.setTop (mkF m 7 #[.val (.ref o0), .val (.int (1 : Int32))] [(.int (4 : Int32)), (.int (1 : Int32))])) _
      refine XS.icmpNo X6.here hx rfl (hb hby d6_7) rfl (tlt (by decide : (1 : Int32) < (4 : Int32))).2.1 ?_
      show Steps p.tables e below (T6.setTop (mkF m 10 #[.val (.ref o0), .val (.int (1 : Int32))] [])) _
      refine XS.aloadN X6.here hx rfl (hb hby d6_10) rfl rfl ?_
      show Steps p.tables e below (T6.setTop (mkF m 11 #[.val (.ref o0), .val (.int (1 : Int32))] [(.ref o0)])) _
      refine st7 _ ?_
      show Steps p.tables e below (T7.setTop (mkF m 14 #[.val (.ref o0), .val (.int (1 : Int32))] [(.ref sa)])) _
      refine XS.iloadN X7.here hx rfl (hb hby d6_14) rfl ?_
      show Steps p.tables e below (T7.setTop (mkF m 15 #[.val (.ref o0), .val (.int (1 : Int32))] [(.int (1 : Int32)), (.ref sa)])) _
      refine X7.baloadBooleans hx (j := (1 : Int32)) (v := (.int (getI ss (1 : Int32)))) (by rw [e7]; exact Ar8.1) (State.isArrayOf_alike hZ.alike Ar8.2.1) Ar8.2.2 hin8 hat8 (g := (mkF m 15 #[.val (.ref o0), .val (.int (1 : Int32))] [(.int (1 : Int32)), (.ref sa)])) rfl rfl (hb hby d6_15) _ ?_
      show Steps p.tables e below (T7.setTop (mkF m 16 #[.val (.ref o0), .val (.int (1 : Int32))] [(.int (getI ss (1 : Int32)))])) _
      exact k)
    by_cases hc16_10 : (getI ss (1 : Int32)) = (0 : Int32)
    · obtain ⟨T11, X11, e11, st11⟩ := getF X7 hx hZ hown (host := "") (Or.inl (hw _ (List.mem_of_getElem? (i := 20) rfl))) Via.refl e7 (F_count_o0) (g := (mkF m 4 #[.val (.ref o0), .val (.int (2 : Int32))] [(.ref o0), (.int (2 : Int32))])) rfl rfl (hb hby d6_4)
      obtain ⟨T12, X12, e12, st12⟩ := getF X11 hx hZ hown (host := "") (Or.inl (hw _ (List.mem_of_getElem? (i := 13) rfl))) Via.refl e11 (F_subParameters_o0) (g := (mkF m 11 #[.val (.ref o0), .val (.int (2 : Int32))] [(.ref o0)])) rfl rfl (hb hby d6_11)
      obtain ⟨cl13, Ar13, hin13, hat13⟩ := Ia.get (V_sa) (j := (2 : Int32)) ⟨by decide, by decide⟩
      have pre14 : ∀ t, Steps p.tables e below (T12.setTop (mkF m 16 #[.val (.ref o0), .val (.int (2 : Int32))] [(.int (getI ss (2 : Int32)))])) t → Steps p.tables e below (s₁.setTop (entryFrame m #[(.ref o0)] 2)) t := fun t k => pre9 t (by
        show Steps p.tables e below (T7.setTop (mkF m 16 #[.val (.ref o0), .val (.int (1 : Int32))] [(.int (getI ss (1 : Int32)))])) _
        refine XS.ifYes X7.here hx rfl (pc0 := 16) (pc' := 21) rfl (hb hby d6_16) rfl ((if0 _ _).trans (teq hc16_10).1) (by decide) (by decide) ?_
        show Steps p.tables e below (T7.setTop (mkF m 21 #[.val (.ref o0), .val (.int (1 : Int32))] [])) _
        refine XS.iinc X7.here hx rfl (hb hby d6_21) rfl (l' := #[.val (.ref o0), .val (.int (2 : Int32))]) rfl ?_
        show Steps p.tables e below (T7.setTop (mkF m 24 #[.val (.ref o0), .val (.int (2 : Int32))] [])) _
        refine XS.goto X7.here hx rfl (pc0 := 24) (pc' := 2) rfl (hb hby d6_24) (by decide) (by decide) ?_
        show Steps p.tables e below (T7.setTop (mkF m 2 #[.val (.ref o0), .val (.int (2 : Int32))] [])) _
        refine XS.iloadN X7.here hx rfl (hb hby d6_2) rfl ?_
        show Steps p.tables e below (T7.setTop (mkF m 3 #[.val (.ref o0), .val (.int (2 : Int32))] [(.int (2 : Int32))])) _
        refine XS.aloadN X7.here hx rfl (hb hby d6_3) rfl rfl ?_
        show Steps p.tables e below (T7.setTop (mkF m 4 #[.val (.ref o0), .val (.int (2 : Int32))] [(.ref o0), (.int (2 : Int32))])) _
        refine st11 _ ?_
        show Steps p.tables e below (T11.setTop (mkF m 7 #[.val (.ref o0), .val (.int (2 : Int32))] [(.int (4 : Int32)), (.int (2 : Int32))])) _
        refine XS.icmpNo X11.here hx rfl (hb hby d6_7) rfl (tlt (by decide : (2 : Int32) < (4 : Int32))).2.1 ?_
        show Steps p.tables e below (T11.setTop (mkF m 10 #[.val (.ref o0), .val (.int (2 : Int32))] [])) _
        refine XS.aloadN X11.here hx rfl (hb hby d6_10) rfl rfl ?_
        show Steps p.tables e below (T11.setTop (mkF m 11 #[.val (.ref o0), .val (.int (2 : Int32))] [(.ref o0)])) _
        refine st12 _ ?_
        show Steps p.tables e below (T12.setTop (mkF m 14 #[.val (.ref o0), .val (.int (2 : Int32))] [(.ref sa)])) _
        refine XS.iloadN X12.here hx rfl (hb hby d6_14) rfl ?_
        show Steps p.tables e below (T12.setTop (mkF m 15 #[.val (.ref o0), .val (.int (2 : Int32))] [(.int (2 : Int32)), (.ref sa)])) _
        refine X12.baloadBooleans hx (j := (2 : Int32)) (v := (.int (getI ss (2 : Int32)))) (by rw [e12]; exact Ar13.1) (State.isArrayOf_alike hZ.alike Ar13.2.1) Ar13.2.2 hin13 hat13 (g := (mkF m 15 #[.val (.ref o0), .val (.int (2 : Int32))] [(.int (2 : Int32)), (.ref sa)])) rfl rfl (hb hby d6_15) _ ?_
        show Steps p.tables e below (T12.setTop (mkF m 16 #[.val (.ref o0), .val (.int (2 : Int32))] [(.int (getI ss (2 : Int32)))])) _
        exact k)
      by_cases hc16_15 : (getI ss (2 : Int32)) = (0 : Int32)
      · obtain ⟨T16, X16, e16, st16⟩ := getF X12 hx hZ hown (host := "") (Or.inl (hw _ (List.mem_of_getElem? (i := 20) rfl))) Via.refl e12 (F_count_o0) (g := (mkF m 4 #[.val (.ref o0), .val (.int (3 : Int32))] [(.ref o0), (.int (3 : Int32))])) rfl rfl (hb hby d6_4)
        obtain ⟨T17, X17, e17, st17⟩ := getF X16 hx hZ hown (host := "") (Or.inl (hw _ (List.mem_of_getElem? (i := 13) rfl))) Via.refl e16 (F_subParameters_o0) (g := (mkF m 11 #[.val (.ref o0), .val (.int (3 : Int32))] [(.ref o0)])) rfl rfl (hb hby d6_11)
        obtain ⟨cl18, Ar18, hin18, hat18⟩ := Ia.get (V_sa) (j := (3 : Int32)) ⟨by decide, by decide⟩
        have pre19 : ∀ t, Steps p.tables e below (T17.setTop (mkF m 16 #[.val (.ref o0), .val (.int (3 : Int32))] [(.int (getI ss (3 : Int32)))])) t → Steps p.tables e below (s₁.setTop (entryFrame m #[(.ref o0)] 2)) t := fun t k => pre14 t (by
          show Steps p.tables e below (T12.setTop (mkF m 16 #[.val (.ref o0), .val (.int (2 : Int32))] [(.int (getI ss (2 : Int32)))])) _
          refine XS.ifYes X12.here hx rfl (pc0 := 16) (pc' := 21) rfl (hb hby d6_16) rfl ((if0 _ _).trans (teq hc16_15).1) (by decide) (by decide) ?_
          show Steps p.tables e below (T12.setTop (mkF m 21 #[.val (.ref o0), .val (.int (2 : Int32))] [])) _
          refine XS.iinc X12.here hx rfl (hb hby d6_21) rfl (l' := #[.val (.ref o0), .val (.int (3 : Int32))]) rfl ?_
          show Steps p.tables e below (T12.setTop (mkF m 24 #[.val (.ref o0), .val (.int (3 : Int32))] [])) _
          refine XS.goto X12.here hx rfl (pc0 := 24) (pc' := 2) rfl (hb hby d6_24) (by decide) (by decide) ?_
          show Steps p.tables e below (T12.setTop (mkF m 2 #[.val (.ref o0), .val (.int (3 : Int32))] [])) _
          refine XS.iloadN X12.here hx rfl (hb hby d6_2) rfl ?_
          show Steps p.tables e below (T12.setTop (mkF m 3 #[.val (.ref o0), .val (.int (3 : Int32))] [(.int (3 : Int32))])) _
          refine XS.aloadN X12.here hx rfl (hb hby d6_3) rfl rfl ?_
          show Steps p.tables e below (T12.setTop (mkF m 4 #[.val (.ref o0), .val (.int (3 : Int32))] [(.ref o0), (.int (3 : Int32))])) _
          refine st16 _ ?_
          show Steps p.tables e below (T16.setTop (mkF m 7 #[.val (.ref o0), .val (.int (3 : Int32))] [(.int (4 : Int32)), (.int (3 : Int32))])) _
          refine XS.icmpNo X16.here hx rfl (hb hby d6_7) rfl (tlt (by decide : (3 : Int32) < (4 : Int32))).2.1 ?_
          show Steps p.tables e below (T16.setTop (mkF m 10 #[.val (.ref o0), .val (.int (3 : Int32))] [])) _
          refine XS.aloadN X16.here hx rfl (hb hby d6_10) rfl rfl ?_
          show Steps p.tables e below (T16.setTop (mkF m 11 #[.val (.ref o0), .val (.int (3 : Int32))] [(.ref o0)])) _
          refine st17 _ ?_
          show Steps p.tables e below (T17.setTop (mkF m 14 #[.val (.ref o0), .val (.int (3 : Int32))] [(.ref sa)])) _
          refine XS.iloadN X17.here hx rfl (hb hby d6_14) rfl ?_
          show Steps p.tables e below (T17.setTop (mkF m 15 #[.val (.ref o0), .val (.int (3 : Int32))] [(.int (3 : Int32)), (.ref sa)])) _
          refine X17.baloadBooleans hx (j := (3 : Int32)) (v := (.int (getI ss (3 : Int32)))) (by rw [e17]; exact Ar18.1) (State.isArrayOf_alike hZ.alike Ar18.2.1) Ar18.2.2 hin18 hat18 (g := (mkF m 15 #[.val (.ref o0), .val (.int (3 : Int32))] [(.int (3 : Int32)), (.ref sa)])) rfl rfl (hb hby d6_15) _ ?_
          show Steps p.tables e below (T17.setTop (mkF m 16 #[.val (.ref o0), .val (.int (3 : Int32))] [(.int (getI ss (3 : Int32)))])) _
          exact k)
        by_cases hc16_20 : (getI ss (3 : Int32)) = (0 : Int32)
        · obtain ⟨T21, X21, e21, st21⟩ := getF X17 hx hZ hown (host := "") (Or.inl (hw _ (List.mem_of_getElem? (i := 20) rfl))) Via.refl e17 (F_count_o0) (g := (mkF m 4 #[.val (.ref o0), .val (.int (4 : Int32))] [(.ref o0), (.int (4 : Int32))])) rfl rfl (hb hby d6_4)
          have hv : (f6c4 ss) = (0 : Int32) := by simp only [f6c4, if_pos hc16_5, if_pos hc16_10, if_pos hc16_15, if_pos hc16_20]
          obtain ⟨fs, hr, hrun, hended, hW, hsame⟩ := X21.leave (v := some (.int (0 : Int32))) (fun h => by rw [Bd.returns] at h; cases h)
          refine ⟨_, _, pre19 _ ?_, hrun, hended, _, _, rfl, ?_, ⟨_, rfl⟩, hW, hsame.mono (by decide) (by decide)⟩
          · show Steps p.tables e below (T17.setTop (mkF m 16 #[.val (.ref o0), .val (.int (3 : Int32))] [(.int (getI ss (3 : Int32)))])) _
            refine XS.ifYes X17.here hx rfl (pc0 := 16) (pc' := 21) rfl (hb hby d6_16) rfl ((if0 _ _).trans (teq hc16_20).1) (by decide) (by decide) ?_
            show Steps p.tables e below (T17.setTop (mkF m 21 #[.val (.ref o0), .val (.int (3 : Int32))] [])) _
            refine XS.iinc X17.here hx rfl (hb hby d6_21) rfl (l' := #[.val (.ref o0), .val (.int (4 : Int32))]) rfl ?_
            show Steps p.tables e below (T17.setTop (mkF m 24 #[.val (.ref o0), .val (.int (4 : Int32))] [])) _
            refine XS.goto X17.here hx rfl (pc0 := 24) (pc' := 2) rfl (hb hby d6_24) (by decide) (by decide) ?_
            show Steps p.tables e below (T17.setTop (mkF m 2 #[.val (.ref o0), .val (.int (4 : Int32))] [])) _
            refine XS.iloadN X17.here hx rfl (hb hby d6_2) rfl ?_
            show Steps p.tables e below (T17.setTop (mkF m 3 #[.val (.ref o0), .val (.int (4 : Int32))] [(.int (4 : Int32))])) _
            refine XS.aloadN X17.here hx rfl (hb hby d6_3) rfl rfl ?_
            show Steps p.tables e below (T17.setTop (mkF m 4 #[.val (.ref o0), .val (.int (4 : Int32))] [(.ref o0), (.int (4 : Int32))])) _
            refine st21 _ ?_
            show Steps p.tables e below (T21.setTop (mkF m 7 #[.val (.ref o0), .val (.int (4 : Int32))] [(.int (4 : Int32)), (.int (4 : Int32))])) _
            refine XS.icmpYes X21.here hx rfl (pc0 := 7) (pc' := 27) rfl (hb hby d6_7) rfl (flt (by decide : ¬ ((4 : Int32) < (4 : Int32)))).2.1 (by decide) (by decide) ?_
            show Steps p.tables e below (T21.setTop (mkF m 27 #[.val (.ref o0), .val (.int (4 : Int32))] [])) _
            refine XS.iconst X21.here hx rfl (hb hby d6_27) ?_
            show Steps p.tables e below (T21.setTop (mkF m 28 #[.val (.ref o0), .val (.int (4 : Int32))] [(.int (0 : Int32))])) _
            exact retN X21 hx (t := .boolean) Bd.returns (by simp) (hb hby d6_28) hr
          · show Q6c4 Z o0 sa kb ss h0 n0 _ T21.heap _
            rw [e21]
            exact ⟨by rw [hv], N0, rfl⟩
        · have hv : (f6c4 ss) = (1 : Int32) := by simp only [f6c4, if_pos hc16_5, if_pos hc16_10, if_pos hc16_15, if_neg hc16_20]
          obtain ⟨fs, hr, hrun, hended, hW, hsame⟩ := X17.leave (v := some (.int (1 : Int32))) (fun h => by rw [Bd.returns] at h; cases h)
          refine ⟨_, _, pre19 _ ?_, hrun, hended, _, _, rfl, ?_, ⟨_, rfl⟩, hW, hsame.mono (by decide) (by decide)⟩
          · show Steps p.tables e below (T17.setTop (mkF m 16 #[.val (.ref o0), .val (.int (3 : Int32))] [(.int (getI ss (3 : Int32)))])) _
            refine XS.ifNo X17.here hx rfl (hb hby d6_16) rfl ((if0 _ _).trans (feq hc16_20).1) ?_
            show Steps p.tables e below (T17.setTop (mkF m 19 #[.val (.ref o0), .val (.int (3 : Int32))] [])) _
            refine XS.iconst X17.here hx rfl (hb hby d6_19) ?_
            show Steps p.tables e below (T17.setTop (mkF m 20 #[.val (.ref o0), .val (.int (3 : Int32))] [(.int (1 : Int32))])) _
            exact retN X17 hx (t := .boolean) Bd.returns (by simp) (hb hby d6_20) hr
          · show Q6c4 Z o0 sa kb ss h0 n0 _ T17.heap _
            rw [e17]
            exact ⟨by rw [hv], N0, rfl⟩
      · have hv : (f6c4 ss) = (1 : Int32) := by simp only [f6c4, if_pos hc16_5, if_pos hc16_10, if_neg hc16_15]
        obtain ⟨fs, hr, hrun, hended, hW, hsame⟩ := X12.leave (v := some (.int (1 : Int32))) (fun h => by rw [Bd.returns] at h; cases h)
        refine ⟨_, _, pre14 _ ?_, hrun, hended, _, _, rfl, ?_, ⟨_, rfl⟩, hW, hsame.mono (by decide) (by decide)⟩
        · show Steps p.tables e below (T12.setTop (mkF m 16 #[.val (.ref o0), .val (.int (2 : Int32))] [(.int (getI ss (2 : Int32)))])) _
          refine XS.ifNo X12.here hx rfl (hb hby d6_16) rfl ((if0 _ _).trans (feq hc16_15).1) ?_
          show Steps p.tables e below (T12.setTop (mkF m 19 #[.val (.ref o0), .val (.int (2 : Int32))] [])) _
          refine XS.iconst X12.here hx rfl (hb hby d6_19) ?_
          show Steps p.tables e below (T12.setTop (mkF m 20 #[.val (.ref o0), .val (.int (2 : Int32))] [(.int (1 : Int32))])) _
          exact retN X12 hx (t := .boolean) Bd.returns (by simp) (hb hby d6_20) hr
        · show Q6c4 Z o0 sa kb ss h0 n0 _ T12.heap _
          rw [e12]
          exact ⟨by rw [hv], N0, rfl⟩
    · have hv : (f6c4 ss) = (1 : Int32) := by simp only [f6c4, if_pos hc16_5, if_neg hc16_10]
      obtain ⟨fs, hr, hrun, hended, hW, hsame⟩ := X7.leave (v := some (.int (1 : Int32))) (fun h => by rw [Bd.returns] at h; cases h)
      refine ⟨_, _, pre9 _ ?_, hrun, hended, _, _, rfl, ?_, ⟨_, rfl⟩, hW, hsame.mono (by decide) (by decide)⟩
      · show Steps p.tables e below (T7.setTop (mkF m 16 #[.val (.ref o0), .val (.int (1 : Int32))] [(.int (getI ss (1 : Int32)))])) _
        refine XS.ifNo X7.here hx rfl (hb hby d6_16) rfl ((if0 _ _).trans (feq hc16_10).1) ?_
        show Steps p.tables e below (T7.setTop (mkF m 19 #[.val (.ref o0), .val (.int (1 : Int32))] [])) _
        refine XS.iconst X7.here hx rfl (hb hby d6_19) ?_
        show Steps p.tables e below (T7.setTop (mkF m 20 #[.val (.ref o0), .val (.int (1 : Int32))] [(.int (1 : Int32))])) _
        exact retN X7 hx (t := .boolean) Bd.returns (by simp) (hb hby d6_20) hr
      · show Q6c4 Z o0 sa kb ss h0 n0 _ T7.heap _
        rw [e7]
        exact ⟨by rw [hv], N0, rfl⟩
  · have hv : (f6c4 ss) = (1 : Int32) := by simp only [f6c4, if_neg hc16_5]
    obtain ⟨fs, hr, hrun, hended, hW, hsame⟩ := X2.leave (v := some (.int (1 : Int32))) (fun h => by rw [Bd.returns] at h; cases h)
    refine ⟨_, _, pre4 _ ?_, hrun, hended, _, _, rfl, ?_, ⟨_, rfl⟩, hW, hsame.mono (by decide) (by decide)⟩
    · show Steps p.tables e below (T2.setTop (mkF m 16 #[.val (.ref o0), .val (.int (0 : Int32))] [(.int (getI ss (0 : Int32)))])) _
      refine XS.ifNo X2.here hx rfl (hb hby d6_16) rfl ((if0 _ _).trans (feq hc16_5).1) ?_
      show Steps p.tables e below (T2.setTop (mkF m 19 #[.val (.ref o0), .val (.int (0 : Int32))] [])) _
      refine XS.iconst X2.here hx rfl (hb hby d6_19) ?_
      show Steps p.tables e below (T2.setTop (mkF m 20 #[.val (.ref o0), .val (.int (0 : Int32))] [(.int (1 : Int32))])) _
      exact retN X2 hx (t := .boolean) Bd.returns (by simp) (hb hby d6_20) hr
    · show Q6c4 Z o0 sa kb ss h0 n0 _ T2.heap _
      rw [e2]
      exact ⟨by rw [hv], N0, rfl⟩
theorem own_up {x a b : Int32} (h : x < a) (q : a < b) : x < b := Int32.lt_trans h q

theorem pn_0 : plainName "com/example/glowcursor/glowcursor/parser/ControlSequenceHasSubParametersPinLaw" = true := by first | (simp [plainName, overriddenIn]; done) | decide +kernel
theorem ef_0 (m : MethodId) (x0 : Int32) (x1 : Int32) : entryFrame m #[(.int x0), (.int x1)] maxLocals = mkF m 0 #[.val (.int x0), .val (.int x1), .unset, .unset, .unset, .unset, .unset, .unset] [] := by first | (simp [entryFrame, mkF, argsToLocals, Value.category, maxLocals]; done) | rfl
def v0_1 (pf : Int32) : Int32 := (if (pf &&& (1 : Int32)) = (0 : Int32) then (0 : Int32) else (1 : Int32))
def v0_2 (pf : Int32) : Int32 := (if (pf &&& (2 : Int32)) = (0 : Int32) then (0 : Int32) else (1 : Int32))
def v0_3 (pf : Int32) : Int32 := (if (pf &&& (4 : Int32)) = (0 : Int32) then (0 : Int32) else (1 : Int32))
def v0_4 : Int32 := (f6c1 (setI (setI (setI (List.replicate (32 : Int32).toNatClampNeg 0) (0 : Int32) (nar .boolean (0 : Int32))) (1 : Int32) (nar .boolean (nar .boolean (1 : Int32)))) (0 : Int32) (nar .boolean (0 : Int32))))
def v0_5 (pf : Int32) (pn : Int32) : Int32 := (if (v0_1 pf) = (0 : Int32) then (if (pn &&& (3 : Int32)) < (3 : Int32) then (0 : Int32) else (if (v0_3 pf) = (0 : Int32) then (0 : Int32) else (1 : Int32))) else (1 : Int32))
def v0_6 (pf : Int32) : Int32 := (f6c2 (setI (setI (setI (setI (List.replicate (32 : Int32).toNatClampNeg 0) (0 : Int32) (nar .boolean (0 : Int32))) (1 : Int32) (nar .boolean (nar .boolean (1 : Int32)))) (0 : Int32) (nar .boolean (0 : Int32))) (1 : Int32) (nar .boolean (nar .boolean (v0_1 pf)))))
def v0_7 (pf : Int32) : Int32 := (if (v0_1 pf) = (0 : Int32) then (if (v0_2 pf) = (0 : Int32) then (0 : Int32) else (1 : Int32)) else (1 : Int32))
def v0_8 (pf : Int32) : Int32 := (f6c3 (setI (setI (setI (setI (setI (List.replicate (32 : Int32).toNatClampNeg 0) (0 : Int32) (nar .boolean (0 : Int32))) (1 : Int32) (nar .boolean (nar .boolean (1 : Int32)))) (0 : Int32) (nar .boolean (0 : Int32))) (1 : Int32) (nar .boolean (nar .boolean (v0_1 pf)))) (2 : Int32) (nar .boolean (nar .boolean (v0_2 pf)))))
def v0_9 (pf : Int32) : Int32 := (if (v0_1 pf) = (0 : Int32) then (if (v0_2 pf) = (0 : Int32) then (if (v0_3 pf) = (0 : Int32) then (0 : Int32) else (1 : Int32)) else (1 : Int32)) else (1 : Int32))
def v0_10 (pf : Int32) : Int32 := (f6c4 (setI (setI (setI (setI (setI (setI (List.replicate (32 : Int32).toNatClampNeg 0) (0 : Int32) (nar .boolean (0 : Int32))) (1 : Int32) (nar .boolean (nar .boolean (1 : Int32)))) (0 : Int32) (nar .boolean (0 : Int32))) (1 : Int32) (nar .boolean (nar .boolean (v0_1 pf)))) (2 : Int32) (nar .boolean (nar .boolean (v0_2 pf)))) (3 : Int32) (nar .boolean (nar .boolean (v0_3 pf)))))
def f0 (pn : Int32) (pf : Int32) : Int32 := (if (pn &&& (3 : Int32)) < (1 : Int32) then (if v0_4 = (0 : Int32) then (1 : Int32) else (0 : Int32)) else (if (pn &&& (3 : Int32)) < (2 : Int32) then (if (v0_6 pf) = (v0_5 pf pn) then (1 : Int32) else (0 : Int32)) else (if (pn &&& (3 : Int32)) < (3 : Int32) then (if (v0_8 pf) = (v0_7 pf) then (1 : Int32) else (0 : Int32)) else (if (v0_10 pf) = (v0_9 pf) then (1 : Int32) else (0 : Int32)))))
def Q0 (Z : State) (pn : Int32) (pf : Int32)  (h0 : Heap) (n0 : Nat) (v : Option Value) (h : Heap) (L : List Loc) : Prop := v = some (.int (f0 pn pf)) ∧ Fr n0 L
set_option maxRecDepth 65536 in
set_option maxHeartbeats 40000000 in
theorem rm0 (l : Launch) (Z : State) (a0 : Array Value) (hw : ∀ d ∈ tables_1, d.before a0 Z = true) (ws : List Jvm.Cond) (pn : Int32) (pf : Int32)  (h0 : Heap) (n0 : Nat) (Z0 : n0 ≤ h0.size)   :
    MetFree l x (head1 (Jvm.Cond.code x code maxLocals ret :: ws) room_1) (fun a U => a = #[(.int pn), (.int pf)] ∧ Z.Warmed39 U.vm ∧ U.heap = h0) (fun _ _ _ _ _ => True) (fun _ U o U' => ∃ v L, o = .returned v ∧ Q0 Z pn pf h0 n0 v U'.heap L ∧ FrameEnd U o U' L room_1.cells room_1.slots) := by
  refine MetFree.of_bodySF (plainFor_of_name pn_0) hisR ?_
  intro p e s m args below meth c s₁ Bd hml0 hP hK
  obtain ⟨rfl, hZ, hh⟩ := hP
  have hx := Bd.exec
  have hby := Bd.bytes
  have hml : c.maxLocals = 8 := hml0
  have hown : s.vm.findClass "com/example/glowcursor/glowcursor/parser/ControlSequenceHasSubParametersPinLaw" = some m.cls := findClass_of_methodNamed Bd.named
  have hnm := (name_of_methodNamed Bd.named Bd.method).1
  have X0 : Stand p l e room_1 s m #[(.int pn), (.int pf)] below meth c s₁ [] 0 0 := Stand.of_body Bd
  have e0 : s₁.heap = h0 := by rw [← hh, Bd.state]; rfl
  have N0 := Fr.nil n0
  have pre0 : ∀ t, Steps p.tables e below (s₁.setTop (mkF m 0 #[.val (.int pn), .val (.int pf), .unset, .unset, .unset, .unset, .unset, .unset] [])) t → Steps p.tables e below (s₁.setTop (entryFrame m #[(.int pn), (.int pf)] maxLocals)) t := fun t k => castTop (ef_0 m pn pf) k
  have pre1 : ∀ t, Steps p.tables e below (s₁.setTop (mkF m 7 #[.val (.int pn), .val (.int pf), .val (.int (pn &&& (3 : Int32))), .unset, .unset, .unset, .unset, .unset] [(.int (pf &&& (1 : Int32)))])) t → Steps p.tables e below (s₁.setTop (entryFrame m #[(.int pn), (.int pf)] maxLocals)) t := fun t k => pre0 t (by
    show Steps p.tables e below (s₁.setTop (mkF m 0 #[.val (.int pn), .val (.int pf), .unset, .unset, .unset, .unset, .unset, .unset] [])) _
    refine XS.iloadN X0.here hx rfl (hb hby at_0) rfl ?_
    show Steps p.tables e below (s₁.setTop (mkF m 1 #[.val (.int pn), .val (.int pf), .unset, .unset, .unset, .unset, .unset, .unset] [(.int pn)])) _
    refine XS.iconst X0.here hx rfl (hb hby at_1) ?_
    show Steps p.tables e below (s₁.setTop (mkF m 2 #[.val (.int pn), .val (.int pf), .unset, .unset, .unset, .unset, .unset, .unset] [(.int (3 : Int32)), (.int pn)])) _
    refine XS.iand X0.here hx rfl (hb hby at_2) rfl ?_
    show Steps p.tables e below (s₁.setTop (mkF m 3 #[.val (.int pn), .val (.int pf), .unset, .unset, .unset, .unset, .unset, .unset] [(.int (pn &&& (3 : Int32)))])) _
    refine XS.istoreN X0.here hx rfl (hb hby at_3) rfl (l' := #[.val (.int pn), .val (.int pf), .val (.int (pn &&& (3 : Int32))), .unset, .unset, .unset, .unset, .unset]) rfl ?_
    show Steps p.tables e below (s₁.setTop (mkF m 4 #[.val (.int pn), .val (.int pf), .val (.int (pn &&& (3 : Int32))), .unset, .unset, .unset, .unset, .unset] [])) _
    refine XS.iloadN X0.here hx rfl (hb hby at_4) rfl ?_
    show Steps p.tables e below (s₁.setTop (mkF m 5 #[.val (.int pn), .val (.int pf), .val (.int (pn &&& (3 : Int32))), .unset, .unset, .unset, .unset, .unset] [(.int pf)])) _
    refine XS.iconst X0.here hx rfl (hb hby at_5) ?_
    show Steps p.tables e below (s₁.setTop (mkF m 6 #[.val (.int pn), .val (.int pf), .val (.int (pn &&& (3 : Int32))), .unset, .unset, .unset, .unset, .unset] [(.int (1 : Int32)), (.int pf)])) _
    refine XS.iand X0.here hx rfl (hb hby at_6) rfl ?_
    show Steps p.tables e below (s₁.setTop (mkF m 7 #[.val (.int pn), .val (.int pf), .val (.int (pn &&& (3 : Int32))), .unset, .unset, .unset, .unset, .unset] [(.int (pf &&& (1 : Int32)))])) _
    exact k)
  have pre3 : ∀ t, Steps p.tables e below (s₁.setTop (mkF m 15 #[.val (.int pn), .val (.int pf), .val (.int (pn &&& (3 : Int32))), .unset, .unset, .unset, .unset, .unset] [(.int (if (pf &&& (1 : Int32)) = (0 : Int32) then (0 : Int32) else (1 : Int32)))])) t → Steps p.tables e below (s₁.setTop (entryFrame m #[(.int pn), (.int pf)] maxLocals)) t := fun t k => pre1 t (by
    show Steps p.tables e below (s₁.setTop (mkF m 7 #[.val (.int pn), .val (.int pf), .val (.int (pn &&& (3 : Int32))), .unset, .unset, .unset, .unset, .unset] [(.int (pf &&& (1 : Int32)))])) _
    by_cases hd7_2 : (pf &&& (1 : Int32)) = (0 : Int32)
    · try simp only [if_pos hd7_2] at k
      show Steps p.tables e below (s₁.setTop (mkF m 7 #[.val (.int pn), .val (.int pf), .val (.int (pn &&& (3 : Int32))), .unset, .unset, .unset, .unset, .unset] [(.int (pf &&& (1 : Int32)))])) _
      refine XS.ifYes X0.here hx rfl (pc0 := 7) (pc' := 14) rfl (hb hby at_7) rfl ((if0 _ _).trans (teq hd7_2).1) (by decide) (by decide) ?_
      show Steps p.tables e below (s₁.setTop (mkF m 14 #[.val (.int pn), .val (.int pf), .val (.int (pn &&& (3 : Int32))), .unset, .unset, .unset, .unset, .unset] [])) _
      refine XS.iconst X0.here hx rfl (hb hby at_14) ?_
      exact k
    · try simp only [if_neg hd7_2] at k
      show Steps p.tables e below (s₁.setTop (mkF m 7 #[.val (.int pn), .val (.int pf), .val (.int (pn &&& (3 : Int32))), .unset, .unset, .unset, .unset, .unset] [(.int (pf &&& (1 : Int32)))])) _
      refine XS.ifNo X0.here hx rfl (hb hby at_7) rfl ((if0 _ _).trans (feq hd7_2).1) ?_
      show Steps p.tables e below (s₁.setTop (mkF m 10 #[.val (.int pn), .val (.int pf), .val (.int (pn &&& (3 : Int32))), .unset, .unset, .unset, .unset, .unset] [])) _
      refine XS.iconst X0.here hx rfl (hb hby at_10) ?_
      show Steps p.tables e below (s₁.setTop (mkF m 11 #[.val (.int pn), .val (.int pf), .val (.int (pn &&& (3 : Int32))), .unset, .unset, .unset, .unset, .unset] [(.int (1 : Int32))])) _
      refine XS.goto X0.here hx rfl (pc0 := 11) (pc' := 15) rfl (hb hby at_11) (by decide) (by decide) ?_
      exact k
    )
  have pre4 : ∀ t, Steps p.tables e below (s₁.setTop (mkF m 19 #[.val (.int pn), .val (.int pf), .val (.int (pn &&& (3 : Int32))), .val (.int (v0_1 pf)), .unset, .unset, .unset, .unset] [(.int (pf &&& (2 : Int32)))])) t → Steps p.tables e below (s₁.setTop (entryFrame m #[(.int pn), (.int pf)] maxLocals)) t := fun t k => pre3 t (by
    show Steps p.tables e below (s₁.setTop (mkF m 15 #[.val (.int pn), .val (.int pf), .val (.int (pn &&& (3 : Int32))), .unset, .unset, .unset, .unset, .unset] [(.int (v0_1 pf))])) _
    refine XS.istoreN X0.here hx rfl (hb hby at_15) rfl (l' := #[.val (.int pn), .val (.int pf), .val (.int (pn &&& (3 : Int32))), .val (.int (v0_1 pf)), .unset, .unset, .unset, .unset]) rfl ?_
    show Steps p.tables e below (s₁.setTop (mkF m 16 #[.val (.int pn), .val (.int pf), .val (.int (pn &&& (3 : Int32))), .val (.int (v0_1 pf)), .unset, .unset, .unset, .unset] [])) _
    refine XS.iloadN X0.here hx rfl (hb hby at_16) rfl ?_
    show Steps p.tables e below (s₁.setTop (mkF m 17 #[.val (.int pn), .val (.int pf), .val (.int (pn &&& (3 : Int32))), .val (.int (v0_1 pf)), .unset, .unset, .unset, .unset] [(.int pf)])) _
    refine XS.iconst X0.here hx rfl (hb hby at_17) ?_
    show Steps p.tables e below (s₁.setTop (mkF m 18 #[.val (.int pn), .val (.int pf), .val (.int (pn &&& (3 : Int32))), .val (.int (v0_1 pf)), .unset, .unset, .unset, .unset] [(.int (2 : Int32)), (.int pf)])) _
    refine XS.iand X0.here hx rfl (hb hby at_18) rfl ?_
    show Steps p.tables e below (s₁.setTop (mkF m 19 #[.val (.int pn), .val (.int pf), .val (.int (pn &&& (3 : Int32))), .val (.int (v0_1 pf)), .unset, .unset, .unset, .unset] [(.int (pf &&& (2 : Int32)))])) _
    exact k)
  have pre6 : ∀ t, Steps p.tables e below (s₁.setTop (mkF m 27 #[.val (.int pn), .val (.int pf), .val (.int (pn &&& (3 : Int32))), .val (.int (v0_1 pf)), .unset, .unset, .unset, .unset] [(.int (if (pf &&& (2 : Int32)) = (0 : Int32) then (0 : Int32) else (1 : Int32)))])) t → Steps p.tables e below (s₁.setTop (entryFrame m #[(.int pn), (.int pf)] maxLocals)) t := fun t k => pre4 t (by
    show Steps p.tables e below (s₁.setTop (mkF m 19 #[.val (.int pn), .val (.int pf), .val (.int (pn &&& (3 : Int32))), .val (.int (v0_1 pf)), .unset, .unset, .unset, .unset] [(.int (pf &&& (2 : Int32)))])) _
    by_cases hd19_5 : (pf &&& (2 : Int32)) = (0 : Int32)
    · try simp only [if_pos hd19_5] at k
      show Steps p.tables e below (s₁.setTop (mkF m 19 #[.val (.int pn), .val (.int pf), .val (.int (pn &&& (3 : Int32))), .val (.int (v0_1 pf)), .unset, .unset, .unset, .unset] [(.int (pf &&& (2 : Int32)))])) _
      refine XS.ifYes X0.here hx rfl (pc0 := 19) (pc' := 26) rfl (hb hby at_19) rfl ((if0 _ _).trans (teq hd19_5).1) (by decide) (by decide) ?_
      show Steps p.tables e below (s₁.setTop (mkF m 26 #[.val (.int pn), .val (.int pf), .val (.int (pn &&& (3 : Int32))), .val (.int (v0_1 pf)), .unset, .unset, .unset, .unset] [])) _
      refine XS.iconst X0.here hx rfl (hb hby at_26) ?_
      exact k
    · try simp only [if_neg hd19_5] at k
      show Steps p.tables e below (s₁.setTop (mkF m 19 #[.val (.int pn), .val (.int pf), .val (.int (pn &&& (3 : Int32))), .val (.int (v0_1 pf)), .unset, .unset, .unset, .unset] [(.int (pf &&& (2 : Int32)))])) _
      refine XS.ifNo X0.here hx rfl (hb hby at_19) rfl ((if0 _ _).trans (feq hd19_5).1) ?_
      show Steps p.tables e below (s₁.setTop (mkF m 22 #[.val (.int pn), .val (.int pf), .val (.int (pn &&& (3 : Int32))), .val (.int (v0_1 pf)), .unset, .unset, .unset, .unset] [])) _
      refine XS.iconst X0.here hx rfl (hb hby at_22) ?_
      show Steps p.tables e below (s₁.setTop (mkF m 23 #[.val (.int pn), .val (.int pf), .val (.int (pn &&& (3 : Int32))), .val (.int (v0_1 pf)), .unset, .unset, .unset, .unset] [(.int (1 : Int32))])) _
      refine XS.goto X0.here hx rfl (pc0 := 23) (pc' := 27) rfl (hb hby at_23) (by decide) (by decide) ?_
      exact k
    )
  have pre7 : ∀ t, Steps p.tables e below (s₁.setTop (mkF m 32 #[.val (.int pn), .val (.int pf), .val (.int (pn &&& (3 : Int32))), .val (.int (v0_1 pf)), .val (.int (v0_2 pf)), .unset, .unset, .unset] [(.int (pf &&& (4 : Int32)))])) t → Steps p.tables e below (s₁.setTop (entryFrame m #[(.int pn), (.int pf)] maxLocals)) t := fun t k => pre6 t (by
    show Steps p.tables e below (s₁.setTop (mkF m 27 #[.val (.int pn), .val (.int pf), .val (.int (pn &&& (3 : Int32))), .val (.int (v0_1 pf)), .unset, .unset, .unset, .unset] [(.int (v0_2 pf))])) _
    refine XS.istore X0.here hx rfl (hb hby at_27) rfl (l' := #[.val (.int pn), .val (.int pf), .val (.int (pn &&& (3 : Int32))), .val (.int (v0_1 pf)), .val (.int (v0_2 pf)), .unset, .unset, .unset]) rfl ?_
    show Steps p.tables e below (s₁.setTop (mkF m 29 #[.val (.int pn), .val (.int pf), .val (.int (pn &&& (3 : Int32))), .val (.int (v0_1 pf)), .val (.int (v0_2 pf)), .unset, .unset, .unset] [])) _
    refine XS.iloadN X0.here hx rfl (hb hby at_29) rfl ?_
    show Steps p.tables e below (s₁.setTop (mkF m 30 #[.val (.int pn), .val (.int pf), .val (.int (pn &&& (3 : Int32))), .val (.int (v0_1 pf)), .val (.int (v0_2 pf)), .unset, .unset, .unset] [(.int pf)])) _
    refine XS.iconst X0.here hx rfl (hb hby at_30) ?_
    show Steps p.tables e below (s₁.setTop (mkF m 31 #[.val (.int pn), .val (.int pf), .val (.int (pn &&& (3 : Int32))), .val (.int (v0_1 pf)), .val (.int (v0_2 pf)), .unset, .unset, .unset] [(.int (4 : Int32)), (.int pf)])) _
    refine XS.iand X0.here hx rfl (hb hby at_31) rfl ?_
    show Steps p.tables e below (s₁.setTop (mkF m 32 #[.val (.int pn), .val (.int pf), .val (.int (pn &&& (3 : Int32))), .val (.int (v0_1 pf)), .val (.int (v0_2 pf)), .unset, .unset, .unset] [(.int (pf &&& (4 : Int32)))])) _
    exact k)
  have pre9 : ∀ t, Steps p.tables e below (s₁.setTop (mkF m 40 #[.val (.int pn), .val (.int pf), .val (.int (pn &&& (3 : Int32))), .val (.int (v0_1 pf)), .val (.int (v0_2 pf)), .unset, .unset, .unset] [(.int (if (pf &&& (4 : Int32)) = (0 : Int32) then (0 : Int32) else (1 : Int32)))])) t → Steps p.tables e below (s₁.setTop (entryFrame m #[(.int pn), (.int pf)] maxLocals)) t := fun t k => pre7 t (by
    show Steps p.tables e below (s₁.setTop (mkF m 32 #[.val (.int pn), .val (.int pf), .val (.int (pn &&& (3 : Int32))), .val (.int (v0_1 pf)), .val (.int (v0_2 pf)), .unset, .unset, .unset] [(.int (pf &&& (4 : Int32)))])) _
    by_cases hd32_8 : (pf &&& (4 : Int32)) = (0 : Int32)
    · try simp only [if_pos hd32_8] at k
      show Steps p.tables e below (s₁.setTop (mkF m 32 #[.val (.int pn), .val (.int pf), .val (.int (pn &&& (3 : Int32))), .val (.int (v0_1 pf)), .val (.int (v0_2 pf)), .unset, .unset, .unset] [(.int (pf &&& (4 : Int32)))])) _
      refine XS.ifYes X0.here hx rfl (pc0 := 32) (pc' := 39) rfl (hb hby at_32) rfl ((if0 _ _).trans (teq hd32_8).1) (by decide) (by decide) ?_
      show Steps p.tables e below (s₁.setTop (mkF m 39 #[.val (.int pn), .val (.int pf), .val (.int (pn &&& (3 : Int32))), .val (.int (v0_1 pf)), .val (.int (v0_2 pf)), .unset, .unset, .unset] [])) _
      refine XS.iconst X0.here hx rfl (hb hby at_39) ?_
      exact k
    · try simp only [if_neg hd32_8] at k
      show Steps p.tables e below (s₁.setTop (mkF m 32 #[.val (.int pn), .val (.int pf), .val (.int (pn &&& (3 : Int32))), .val (.int (v0_1 pf)), .val (.int (v0_2 pf)), .unset, .unset, .unset] [(.int (pf &&& (4 : Int32)))])) _
      refine XS.ifNo X0.here hx rfl (hb hby at_32) rfl ((if0 _ _).trans (feq hd32_8).1) ?_
      show Steps p.tables e below (s₁.setTop (mkF m 35 #[.val (.int pn), .val (.int pf), .val (.int (pn &&& (3 : Int32))), .val (.int (v0_1 pf)), .val (.int (v0_2 pf)), .unset, .unset, .unset] [])) _
      refine XS.iconst X0.here hx rfl (hb hby at_35) ?_
      show Steps p.tables e below (s₁.setTop (mkF m 36 #[.val (.int pn), .val (.int pf), .val (.int (pn &&& (3 : Int32))), .val (.int (v0_1 pf)), .val (.int (v0_2 pf)), .unset, .unset, .unset] [(.int (1 : Int32))])) _
      refine XS.goto X0.here hx rfl (pc0 := 36) (pc' := 40) rfl (hb hby at_36) (by decide) (by decide) ?_
      exact k
    )
  obtain ⟨T10, h10, X10, e10, E10, A10, D10, -, st10⟩ := newO X0 hx hZ hown (hw _ (List.mem_of_getElem? (i := 0) rfl)) (hw _ (List.mem_of_getElem? (i := 1) rfl)) (hw _ (List.mem_of_getElem? (i := 2) rfl)) e0 (g := (mkF m 42 #[.val (.int pn), .val (.int pf), .val (.int (pn &&& (3 : Int32))), .val (.int (v0_1 pf)), .val (.int (v0_2 pf)), .val (.int (v0_3 pf)), .unset, .unset] [])) rfl (hb hby at_42) (by decide) (by decide)
  obtain ⟨b10, g10⟩ : ∃ z, z = h0.size := ⟨_, rfl⟩
  rw [← g10] at A10 D10 st10
  have g_b10 : n0 ≤ b10 := Nat.le_trans Z0 (Nat.le_of_eq g10.symm)
  have sz_b10 : h0.size ≤ b10 := Nat.le_trans ((Keep.refl h0 [])).1 (Nat.le_of_eq g10.symm)
  have Z10 : n0 ≤ h10.size := Nat.le_trans Z0 E10.1
  have K10 : Keep h0 h10 [] := ((Keep.refl h0 [])).ext E10
  have F_parameters_b10 : Fld Z h10 b10 "com/example/glowcursor/glowcursor/parser/ControlSequence" "parameters" "[I" .null := D10 (Or.inr (hw _ (List.mem_of_getElem? (i := 11) rfl))) (ty := (.array .int)) (by decide)
  have F_subParameters_b10 : Fld Z h10 b10 "com/example/glowcursor/glowcursor/parser/ControlSequence" "subParameters" "[Z" .null := D10 (Or.inr (hw _ (List.mem_of_getElem? (i := 14) rfl))) (ty := (.array .boolean)) (by decide)
  have F_count_b10 : Fld Z h10 b10 "com/example/glowcursor/glowcursor/parser/ControlSequence" "count" "I" (.int (0 : Int32)) := D10 (Or.inl (hw _ (List.mem_of_getElem? (i := 21) rfl))) (ty := .int) (by decide)
  have F_current_b10 : Fld Z h10 b10 "com/example/glowcursor/glowcursor/parser/ControlSequence" "current" "I" (.int (0 : Int32)) := D10 (Or.inl (hw _ (List.mem_of_getElem? (i := 23) rfl))) (ty := .int) (by decide)
  have F_currentIsSubParameter_b10 : Fld Z h10 b10 "com/example/glowcursor/glowcursor/parser/ControlSequence" "currentIsSubParameter" "Z" (.int (0 : Int32)) := D10 (Or.inl (hw _ (List.mem_of_getElem? (i := 25) rfl))) (ty := .boolean) (by decide)
  have F_privateMarker_b10 : Fld Z h10 b10 "com/example/glowcursor/glowcursor/parser/ControlSequence" "privateMarker" "I" (.int (0 : Int32)) := D10 (Or.inl (hw _ (List.mem_of_getElem? (i := 27) rfl))) (ty := .int) (by decide)
  have F_intermediate_b10 : Fld Z h10 b10 "com/example/glowcursor/glowcursor/parser/ControlSequence" "intermediate" "I" (.int (0 : Int32)) := D10 (Or.inl (hw _ (List.mem_of_getElem? (i := 29) rfl))) (ty := .int) (by decide)
  have F_finalByte_b10 : Fld Z h10 b10 "com/example/glowcursor/glowcursor/parser/ControlSequence" "finalByte" "I" (.int (0 : Int32)) := D10 (Or.inl (hw _ (List.mem_of_getElem? (i := 42) rfl))) (ty := .int) (by decide)
  obtain ⟨_, _, ⟨T11, L11, k11, n11⟩, -, X11, ⟨Lc11, hQ11, l11, y11, z11⟩, st11⟩ := X10.specialBack hx (y := (⟨"com/example/glowcursor/glowcursor/parser/ControlSequence", "<init>", "()V"⟩ : MethodName)) rfl hown (mvT hZ (hw _ (List.mem_of_getElem? (i := 3) rfl))) (mvT hZ (hw _ (List.mem_of_getElem? (i := 4) rfl))) (mvT hZ (hw _ (List.mem_of_getElem? (i := 5) rfl))) (by decide) (backOf (W := 1) (rm1 l Z a0 hw [] b10 .null .null (.int (0 : Int32)) (.int (0 : Int32)) (.int (0 : Int32)) (.int (0 : Int32)) (.int (0 : Int32)) (.int (0 : Int32)) h10 n0 Z10 (A10) g_b10 (F_parameters_b10) (F_subParameters_b10) (F_count_b10) (F_current_b10) (F_currentIsSubParameter_b10) (F_privateMarker_b10) (F_intermediate_b10) (F_finalByte_b10)) hZ (hw _ (List.mem_of_getElem? (i := 5) rfl)) (hw _ (List.mem_of_getElem? (i := 2) rfl)) (by decide) (by decide)) (g := (mkF m 46 #[.val (.int pn), .val (.int pf), .val (.int (pn &&& (3 : Int32))), .val (.int (v0_1 pf)), .val (.int (v0_2 pf)), .val (.int (v0_3 pf)), .unset, .unset] [(.ref b10), (.ref b10)])) rfl (by rw [hml]; rfl) (Steps.refl _) (a := b10) (argsL := []) (rest := [(.ref b10)]) (lenOf pd_1 rfl) rfl (by show 2 * 0 + _ ≤ _; exact Nat.le_of_eq rfl) (hb hby at_46) (fun _ _ => ⟨rfl, e10, (by decide : 1 + 2 ≤ _), (by decide : 8 + 64 ≤ _)⟩)
  dsimp only [Pt.U, Pt.locs, Pt.cells, Pt.slots] at X11 l11 y11 z11 st11 hQ11
  subst l11 y11 z11
  obtain ⟨rfl, N11q, pa, sa, ka, kb, g_pa, g_sa, z_pa, z_sa, ne1, ne2, ne3, Kq11, Fq11_0, Fq11_1, Fq11_2, Fq11_3, Fq11_4, Fq11_5, Fq11_6, Fq11_7, Vq11_0, Vq11_1⟩ := hQ11
  have N11 := Fr.app N0 N11q
  have sz_pa : h0.size ≤ pa := Nat.le_trans (K10).1 z_pa
  have sz_sa : h0.size ≤ sa := Nat.le_trans (K10).1 z_sa
  have Z11 : n0 ≤ T11.heap.size := Nat.le_trans Z10 Kq11.1
  have K11 : Keep h0 T11.heap [] := (K10).trans Kq11 (allS (Or.inr sz_b10) all0)
  obtain ⟨cq12, kq12, q12a, q12b, q12c⟩ := isOf hZ rfl ((A10.keep Kq11))
  obtain ⟨_, _, ⟨T12, L12, k12, n12⟩, -, X12, ⟨Lc12, hQ12, l12, y12, z12⟩, st12⟩ := X11.virtualBack hx (y := (⟨"com/example/glowcursor/glowcursor/parser/ControlSequence", "start", "()V"⟩ : MethodName)) (z := (⟨"com/example/glowcursor/glowcursor/parser/ControlSequence", "start", "()V"⟩ : MethodName)) hown (mvT hZ (hw _ (List.mem_of_getElem? (i := 15) rfl))) (mvT hZ (hw _ (List.mem_of_getElem? (i := 16) rfl))) (notFace_of_selects (args := #[]) (mvT hZ (hw _ (List.mem_of_getElem? (i := 18) rfl)))) (mvT hZ (hw _ (List.mem_of_getElem? (i := 18) rfl))) (mvT hZ (hw _ (List.mem_of_getElem? (i := 17) rfl))) (by decide) (backOf (W := 0) (rm3 l Z a0 hw [] b10 pa sa (0 : Int32) (0 : Int32) (0 : Int32) (.int (0 : Int32)) (.int (0 : Int32)) (.int (0 : Int32)) ka (List.replicate (32 : Int32).toNatClampNeg 0) kb (List.replicate (32 : Int32).toNatClampNeg 0) T11.heap n0 Z11 ((A10.keep Kq11)) g_b10 (Fq11_0) (Fq11_1) (Fq11_2) (Fq11_3) (Fq11_4) (Fq11_5) (Fq11_6) (Fq11_7) (Vq11_0) g_pa (Vq11_1) g_sa (ne1) (ne2) (ne3)) hZ (hw _ (List.mem_of_getElem? (i := 19) rfl)) (hw _ (List.mem_of_getElem? (i := 2) rfl)) (by decide) (by decide)) q12a q12c (g := (mkF m 53 #[.val (.int pn), .val (.int pf), .val (.int (pn &&& (3 : Int32))), .val (.int (v0_1 pf)), .val (.int (v0_2 pf)), .val (.int (v0_3 pf)), .val (.ref b10), .unset] [(.ref b10)])) rfl (by rw [hml]; rfl) (Steps.refl _) (argsL := []) (rest := []) (lenOf pd_1 rfl) rfl (by show 2 * 0 + _ ≤ _; exact Nat.le_of_eq rfl) (hb hby at_53) (fun _ _ => ⟨rfl, rfl, (by decide : 3 + 0 ≤ _), (by decide : 72 + 0 ≤ _)⟩)
  dsimp only [Pt.U, Pt.locs, Pt.cells, Pt.slots] at X12 l12 y12 z12 st12 hQ12
  subst l12 y12 z12
  obtain ⟨rfl, N12q, Kq12, Fq12_0, Fq12_1, Fq12_2, Fq12_3, Fq12_4, Fq12_5, Fq12_6, Fq12_7, Vq12_0, Vq12_1⟩ := hQ12
  have N12 := Fr.app N11 N12q
  have Z12 : n0 ≤ T12.heap.size := Nat.le_trans Z11 Kq12.1
  have K12 : Keep h0 T12.heap [] := (K11).trans Kq12 (allS (Or.inr sz_b10) (allS (Or.inr sz_pa) (allS (Or.inr sz_sa) all0)))
  obtain ⟨cq13, kq13, q13a, q13b, q13c⟩ := isOf hZ rfl (((A10.keep Kq11).keep Kq12))
  obtain ⟨_, _, ⟨T13, L13, k13, n13⟩, -, X13, ⟨Lc13, hQ13, l13, y13, z13⟩, st13⟩ := X12.virtualBack hx (y := (⟨"com/example/glowcursor/glowcursor/parser/ControlSequence", "endParameter", "(Z)V"⟩ : MethodName)) (z := (⟨"com/example/glowcursor/glowcursor/parser/ControlSequence", "endParameter", "(Z)V"⟩ : MethodName)) hown (mvT hZ (hw _ (List.mem_of_getElem? (i := 30) rfl))) (mvT hZ (hw _ (List.mem_of_getElem? (i := 31) rfl))) (notFace_of_selects (args := #[]) (mvT hZ (hw _ (List.mem_of_getElem? (i := 33) rfl)))) (mvT hZ (hw _ (List.mem_of_getElem? (i := 33) rfl))) (mvT hZ (hw _ (List.mem_of_getElem? (i := 32) rfl))) (by decide) (backOf (W := 0) (rm4 l Z a0 hw [] b10 (1 : Int32) pa sa (0 : Int32) (-1 : Int32) (0 : Int32) (.int (0 : Int32)) (.int (0 : Int32)) (.int (0 : Int32)) ka (List.replicate (32 : Int32).toNatClampNeg 0) kb (List.replicate (32 : Int32).toNatClampNeg 0) T12.heap n0 Z12 (((A10.keep Kq11).keep Kq12)) g_b10 (Fq12_0) (Fq12_1) (Fq12_2) (Fq12_3) (Fq12_4) (Fq12_5) (Fq12_6) (Fq12_7) (Vq12_0) g_pa (Vq12_1) g_sa (ne1) (ne2) (ne3) (by decide)) hZ (hw _ (List.mem_of_getElem? (i := 34) rfl)) (hw _ (List.mem_of_getElem? (i := 2) rfl)) (by decide) (by decide)) q13a q13c (g := (mkF m 59 #[.val (.int pn), .val (.int pf), .val (.int (pn &&& (3 : Int32))), .val (.int (v0_1 pf)), .val (.int (v0_2 pf)), .val (.int (v0_3 pf)), .val (.ref b10), .unset] [(.int (1 : Int32)), (.ref b10)])) rfl (by rw [hml]; rfl) (Steps.refl _) (argsL := [(.int (1 : Int32))]) (rest := []) (lenOf pd_0 rfl) rfl (by show 2 * 0 + _ ≤ _; exact Nat.le_of_eq rfl) (hb hby at_59) (fun _ _ => ⟨rfl, rfl, (by decide : 3 + 0 ≤ _), (by decide : 72 + 0 ≤ _)⟩)
  dsimp only [Pt.U, Pt.locs, Pt.cells, Pt.slots] at X13 l13 y13 z13 st13 hQ13
  subst l13 y13 z13
  obtain ⟨rfl, N13q, Kq13, Fq13_0, Fq13_1, Fq13_2, Fq13_3, Fq13_4, Fq13_5, Fq13_6, Fq13_7, Vq13_0, Vq13_1⟩ := hQ13
  have N13 := Fr.app N12 N13q
  have Z13 : n0 ≤ T13.heap.size := Nat.le_trans Z12 Kq13.1
  have K13 : Keep h0 T13.heap [] := (K12).trans Kq13 (allS (Or.inr sz_b10) (allS (Or.inr sz_pa) (allS (Or.inr sz_sa) all0)))
  have Fq13_2 : Fld Z T13.heap b10 "com/example/glowcursor/glowcursor/parser/ControlSequence" "count" "I" (.int (1 : Int32)) := Fq13_2
  obtain ⟨cq14, kq14, q14a, q14b, q14c⟩ := isOf hZ rfl ((((A10.keep Kq11).keep Kq12).keep Kq13))
  obtain ⟨_, _, ⟨T14, L14, k14, n14⟩, -, X14, ⟨Lc14, hQ14, l14, y14, z14⟩, st14⟩ := X13.virtualBack hx (y := (⟨"com/example/glowcursor/glowcursor/parser/ControlSequence", "end", "(I)V"⟩ : MethodName)) (z := (⟨"com/example/glowcursor/glowcursor/parser/ControlSequence", "end", "(I)V"⟩ : MethodName)) hown (mvT hZ (hw _ (List.mem_of_getElem? (i := 35) rfl))) (mvT hZ (hw _ (List.mem_of_getElem? (i := 36) rfl))) (notFace_of_selects (args := #[]) (mvT hZ (hw _ (List.mem_of_getElem? (i := 38) rfl)))) (mvT hZ (hw _ (List.mem_of_getElem? (i := 38) rfl))) (mvT hZ (hw _ (List.mem_of_getElem? (i := 37) rfl))) (by decide) (backOf (W := 0) (rm5 l Z a0 hw [] b10 (109 : Int32) pa sa (1 : Int32) (-1 : Int32) (nar .boolean (1 : Int32)) (.int (0 : Int32)) (.int (0 : Int32)) (.int (0 : Int32)) ka (setI (List.replicate (32 : Int32).toNatClampNeg 0) (0 : Int32) (-1 : Int32)) kb (setI (List.replicate (32 : Int32).toNatClampNeg 0) (0 : Int32) (nar .boolean (0 : Int32))) T13.heap n0 Z13 ((((A10.keep Kq11).keep Kq12).keep Kq13)) g_b10 (Fq13_0) (Fq13_1) (Fq13_2) (Fq13_3) (Fq13_4) (Fq13_5) (Fq13_6) (Fq13_7) (Vq13_0) g_pa (Vq13_1) g_sa (ne1) (ne2) (ne3) (by decide)) hZ (hw _ (List.mem_of_getElem? (i := 39) rfl)) (hw _ (List.mem_of_getElem? (i := 2) rfl)) (by decide) (by decide)) q14a q14c (g := (mkF m 66 #[.val (.int pn), .val (.int pf), .val (.int (pn &&& (3 : Int32))), .val (.int (v0_1 pf)), .val (.int (v0_2 pf)), .val (.int (v0_3 pf)), .val (.ref b10), .unset] [(.int (109 : Int32)), (.ref b10)])) rfl (by rw [hml]; rfl) (Steps.refl _) (argsL := [(.int (109 : Int32))]) (rest := []) (lenOf pd_2 rfl) rfl (by show 2 * 0 + _ ≤ _; exact Nat.le_of_eq rfl) (hb hby at_66) (fun _ _ => ⟨rfl, rfl, (by decide : 3 + 0 ≤ _), (by decide : 72 + 0 ≤ _)⟩)
  dsimp only [Pt.U, Pt.locs, Pt.cells, Pt.slots] at X14 l14 y14 z14 st14 hQ14
  subst l14 y14 z14
  obtain ⟨rfl, N14q, Kq14, Fq14_0, Fq14_1, Fq14_2, Fq14_3, Fq14_4, Fq14_5, Fq14_6, Fq14_7, Vq14_0, Vq14_1⟩ := hQ14
  have N14 := Fr.app N13 N14q
  have Z14 : n0 ≤ T14.heap.size := Nat.le_trans Z13 Kq14.1
  have K14 : Keep h0 T14.heap [] := (K13).trans Kq14 (allS (Or.inr sz_b10) (allS (Or.inr sz_pa) (allS (Or.inr sz_sa) all0)))
  have Fq14_2 : Fld Z T14.heap b10 "com/example/glowcursor/glowcursor/parser/ControlSequence" "count" "I" (.int (2 : Int32)) := Fq14_2
  obtain ⟨cq15, kq15, q15a, q15b, q15c⟩ := isOf hZ rfl (((((A10.keep Kq11).keep Kq12).keep Kq13).keep Kq14))
  obtain ⟨_, _, ⟨T15, L15, k15, n15⟩, -, X15, ⟨Lc15, hQ15, l15, y15, z15⟩, st15⟩ := X14.virtualBack hx (y := (⟨"com/example/glowcursor/glowcursor/parser/ControlSequence", "start", "()V"⟩ : MethodName)) (z := (⟨"com/example/glowcursor/glowcursor/parser/ControlSequence", "start", "()V"⟩ : MethodName)) hown (mvT hZ (hw _ (List.mem_of_getElem? (i := 15) rfl))) (mvT hZ (hw _ (List.mem_of_getElem? (i := 16) rfl))) (notFace_of_selects (args := #[]) (mvT hZ (hw _ (List.mem_of_getElem? (i := 18) rfl)))) (mvT hZ (hw _ (List.mem_of_getElem? (i := 18) rfl))) (mvT hZ (hw _ (List.mem_of_getElem? (i := 17) rfl))) (by decide) (backOf (W := 0) (rm3 l Z a0 hw [] b10 pa sa (2 : Int32) (-1 : Int32) (nar .boolean (0 : Int32)) (.int (0 : Int32)) (.int (0 : Int32)) (.int (109 : Int32)) ka (setI (setI (List.replicate (32 : Int32).toNatClampNeg 0) (0 : Int32) (-1 : Int32)) (1 : Int32) (-1 : Int32)) kb (setI (setI (List.replicate (32 : Int32).toNatClampNeg 0) (0 : Int32) (nar .boolean (0 : Int32))) (1 : Int32) (nar .boolean (nar .boolean (1 : Int32)))) T14.heap n0 Z14 (((((A10.keep Kq11).keep Kq12).keep Kq13).keep Kq14)) g_b10 (Fq14_0) (Fq14_1) (Fq14_2) (Fq14_3) (Fq14_4) (Fq14_5) (Fq14_6) (Fq14_7) (Vq14_0) g_pa (Vq14_1) g_sa (ne1) (ne2) (ne3)) hZ (hw _ (List.mem_of_getElem? (i := 19) rfl)) (hw _ (List.mem_of_getElem? (i := 2) rfl)) (by decide) (by decide)) q15a q15c (g := (mkF m 71 #[.val (.int pn), .val (.int pf), .val (.int (pn &&& (3 : Int32))), .val (.int (v0_1 pf)), .val (.int (v0_2 pf)), .val (.int (v0_3 pf)), .val (.ref b10), .unset] [(.ref b10)])) rfl (by rw [hml]; rfl) (Steps.refl _) (argsL := []) (rest := []) (lenOf pd_1 rfl) rfl (by show 2 * 0 + _ ≤ _; exact Nat.le_of_eq rfl) (hb hby at_71) (fun _ _ => ⟨rfl, rfl, (by decide : 3 + 0 ≤ _), (by decide : 72 + 0 ≤ _)⟩)
  dsimp only [Pt.U, Pt.locs, Pt.cells, Pt.slots] at X15 l15 y15 z15 st15 hQ15
  subst l15 y15 z15
  obtain ⟨rfl, N15q, Kq15, Fq15_0, Fq15_1, Fq15_2, Fq15_3, Fq15_4, Fq15_5, Fq15_6, Fq15_7, Vq15_0, Vq15_1⟩ := hQ15
  have N15 := Fr.app N14 N15q
  have Z15 : n0 ≤ T15.heap.size := Nat.le_trans Z14 Kq15.1
  have K15 : Keep h0 T15.heap [] := (K14).trans Kq15 (allS (Or.inr sz_b10) (allS (Or.inr sz_pa) (allS (Or.inr sz_sa) all0)))
  have pre16 : ∀ t, Steps p.tables e below (T15.setTop (mkF m 76 #[.val (.int pn), .val (.int pf), .val (.int (pn &&& (3 : Int32))), .val (.int (v0_1 pf)), .val (.int (v0_2 pf)), .val (.int (v0_3 pf)), .val (.ref b10), .unset] [(.int (1 : Int32)), (.int (pn &&& (3 : Int32)))])) t → Steps p.tables e below (s₁.setTop (entryFrame m #[(.int pn), (.int pf)] maxLocals)) t := fun t k => pre9 t (by
    show Steps p.tables e below (s₁.setTop (mkF m 40 #[.val (.int pn), .val (.int pf), .val (.int (pn &&& (3 : Int32))), .val (.int (v0_1 pf)), .val (.int (v0_2 pf)), .unset, .unset, .unset] [(.int (v0_3 pf))])) _
    refine XS.istore X0.here hx rfl (hb hby at_40) rfl (l' := #[.val (.int pn), .val (.int pf), .val (.int (pn &&& (3 : Int32))), .val (.int (v0_1 pf)), .val (.int (v0_2 pf)), .val (.int (v0_3 pf)), .unset, .unset]) rfl ?_
    show Steps p.tables e below (s₁.setTop (mkF m 42 #[.val (.int pn), .val (.int pf), .val (.int (pn &&& (3 : Int32))), .val (.int (v0_1 pf)), .val (.int (v0_2 pf)), .val (.int (v0_3 pf)), .unset, .unset] [])) _
    refine st10 _ ?_
    show Steps p.tables e below (T10.setTop (mkF m 45 #[.val (.int pn), .val (.int pf), .val (.int (pn &&& (3 : Int32))), .val (.int (v0_1 pf)), .val (.int (v0_2 pf)), .val (.int (v0_3 pf)), .unset, .unset] [(.ref b10)])) _
    refine XS.dup X10.here hx rfl (hb hby at_45) rfl rfl ?_
    show Steps p.tables e below (T10.setTop (mkF m 46 #[.val (.int pn), .val (.int pf), .val (.int (pn &&& (3 : Int32))), .val (.int (v0_1 pf)), .val (.int (v0_2 pf)), .val (.int (v0_3 pf)), .unset, .unset] [(.ref b10), (.ref b10)])) _
    refine st11.trans ?_
    show Steps p.tables e below (T11.setTop (mkF m 49 #[.val (.int pn), .val (.int pf), .val (.int (pn &&& (3 : Int32))), .val (.int (v0_1 pf)), .val (.int (v0_2 pf)), .val (.int (v0_3 pf)), .unset, .unset] [(.ref b10)])) _
    refine XS.astore X11.here hx rfl (hb hby at_49) rfl rfl (l' := #[.val (.int pn), .val (.int pf), .val (.int (pn &&& (3 : Int32))), .val (.int (v0_1 pf)), .val (.int (v0_2 pf)), .val (.int (v0_3 pf)), .val (.ref b10), .unset]) rfl ?_
    show Steps p.tables e below (T11.setTop (mkF m 51 #[.val (.int pn), .val (.int pf), .val (.int (pn &&& (3 : Int32))), .val (.int (v0_1 pf)), .val (.int (v0_2 pf)), .val (.int (v0_3 pf)), .val (.ref b10), .unset] [])) _
    refine XS.aload X11.here hx rfl (hb hby at_51) rfl rfl ?_
    show Steps p.tables e below (T11.setTop (mkF m 53 #[.val (.int pn), .val (.int pf), .val (.int (pn &&& (3 : Int32))), .val (.int (v0_1 pf)), .val (.int (v0_2 pf)), .val (.int (v0_3 pf)), .val (.ref b10), .unset] [(.ref b10)])) _
    refine st12.trans ?_
    show Steps p.tables e below (T12.setTop (mkF m 56 #[.val (.int pn), .val (.int pf), .val (.int (pn &&& (3 : Int32))), .val (.int (v0_1 pf)), .val (.int (v0_2 pf)), .val (.int (v0_3 pf)), .val (.ref b10), .unset] [])) _
    refine XS.aload X12.here hx rfl (hb hby at_56) rfl rfl ?_
    show Steps p.tables e below (T12.setTop (mkF m 58 #[.val (.int pn), .val (.int pf), .val (.int (pn &&& (3 : Int32))), .val (.int (v0_1 pf)), .val (.int (v0_2 pf)), .val (.int (v0_3 pf)), .val (.ref b10), .unset] [(.ref b10)])) _
    refine XS.iconst X12.here hx rfl (hb hby at_58) ?_
    show Steps p.tables e below (T12.setTop (mkF m 59 #[.val (.int pn), .val (.int pf), .val (.int (pn &&& (3 : Int32))), .val (.int (v0_1 pf)), .val (.int (v0_2 pf)), .val (.int (v0_3 pf)), .val (.ref b10), .unset] [(.int (1 : Int32)), (.ref b10)])) _
    refine st13.trans ?_
    show Steps p.tables e below (T13.setTop (mkF m 62 #[.val (.int pn), .val (.int pf), .val (.int (pn &&& (3 : Int32))), .val (.int (v0_1 pf)), .val (.int (v0_2 pf)), .val (.int (v0_3 pf)), .val (.ref b10), .unset] [])) _
    refine XS.aload X13.here hx rfl (hb hby at_62) rfl rfl ?_
    show Steps p.tables e below (T13.setTop (mkF m 64 #[.val (.int pn), .val (.int pf), .val (.int (pn &&& (3 : Int32))), .val (.int (v0_1 pf)), .val (.int (v0_2 pf)), .val (.int (v0_3 pf)), .val (.ref b10), .unset] [(.ref b10)])) _
    refine XS.bipush X13.here hx rfl (hb hby at_64) ?_
    show Steps p.tables e below (T13.setTop (mkF m 66 #[.val (.int pn), .val (.int pf), .val (.int (pn &&& (3 : Int32))), .val (.int (v0_1 pf)), .val (.int (v0_2 pf)), .val (.int (v0_3 pf)), .val (.ref b10), .unset] [(.int (109 : Int32)), (.ref b10)])) _
    refine st14.trans ?_
    show Steps p.tables e below (T14.setTop (mkF m 69 #[.val (.int pn), .val (.int pf), .val (.int (pn &&& (3 : Int32))), .val (.int (v0_1 pf)), .val (.int (v0_2 pf)), .val (.int (v0_3 pf)), .val (.ref b10), .unset] [])) _
    refine XS.aload X14.here hx rfl (hb hby at_69) rfl rfl ?_
    show Steps p.tables e below (T14.setTop (mkF m 71 #[.val (.int pn), .val (.int pf), .val (.int (pn &&& (3 : Int32))), .val (.int (v0_1 pf)), .val (.int (v0_2 pf)), .val (.int (v0_3 pf)), .val (.ref b10), .unset] [(.ref b10)])) _
    refine st15.trans ?_
    show Steps p.tables e below (T15.setTop (mkF m 74 #[.val (.int pn), .val (.int pf), .val (.int (pn &&& (3 : Int32))), .val (.int (v0_1 pf)), .val (.int (v0_2 pf)), .val (.int (v0_3 pf)), .val (.ref b10), .unset] [])) _
    refine XS.iloadN X15.here hx rfl (hb hby at_74) rfl ?_
    show Steps p.tables e below (T15.setTop (mkF m 75 #[.val (.int pn), .val (.int pf), .val (.int (pn &&& (3 : Int32))), .val (.int (v0_1 pf)), .val (.int (v0_2 pf)), .val (.int (v0_3 pf)), .val (.ref b10), .unset] [(.int (pn &&& (3 : Int32)))])) _
    refine XS.iconst X15.here hx rfl (hb hby at_75) ?_
    show Steps p.tables e below (T15.setTop (mkF m 76 #[.val (.int pn), .val (.int pf), .val (.int (pn &&& (3 : Int32))), .val (.int (v0_1 pf)), .val (.int (v0_2 pf)), .val (.int (v0_3 pf)), .val (.ref b10), .unset] [(.int (1 : Int32)), (.int (pn &&& (3 : Int32)))])) _
    exact k)
  by_cases hc76_17 : (pn &&& (3 : Int32)) < (1 : Int32)
  · obtain ⟨cq18, kq18, q18a, q18b, q18c⟩ := isOf hZ rfl ((((((A10.keep Kq11).keep Kq12).keep Kq13).keep Kq14).keep Kq15))
    obtain ⟨_, _, ⟨T18, L18, k18, n18⟩, -, X18, ⟨Lc18, hQ18, l18, y18, z18⟩, st18⟩ := X15.virtualBack hx (y := (⟨"com/example/glowcursor/glowcursor/parser/ControlSequence", "end", "(I)V"⟩ : MethodName)) (z := (⟨"com/example/glowcursor/glowcursor/parser/ControlSequence", "end", "(I)V"⟩ : MethodName)) hown (mvT hZ (hw _ (List.mem_of_getElem? (i := 35) rfl))) (mvT hZ (hw _ (List.mem_of_getElem? (i := 36) rfl))) (notFace_of_selects (args := #[]) (mvT hZ (hw _ (List.mem_of_getElem? (i := 38) rfl)))) (mvT hZ (hw _ (List.mem_of_getElem? (i := 38) rfl))) (mvT hZ (hw _ (List.mem_of_getElem? (i := 37) rfl))) (by decide) (backOf (W := 0) (rm5 l Z a0 hw [] b10 (109 : Int32) pa sa (0 : Int32) (-1 : Int32) (0 : Int32) (.int (0 : Int32)) (.int (0 : Int32)) (.int (109 : Int32)) ka (setI (setI (List.replicate (32 : Int32).toNatClampNeg 0) (0 : Int32) (-1 : Int32)) (1 : Int32) (-1 : Int32)) kb (setI (setI (List.replicate (32 : Int32).toNatClampNeg 0) (0 : Int32) (nar .boolean (0 : Int32))) (1 : Int32) (nar .boolean (nar .boolean (1 : Int32)))) T15.heap n0 Z15 ((((((A10.keep Kq11).keep Kq12).keep Kq13).keep Kq14).keep Kq15)) g_b10 (Fq15_0) (Fq15_1) (Fq15_2) (Fq15_3) (Fq15_4) (Fq15_5) (Fq15_6) (Fq15_7) (Vq15_0) g_pa (Vq15_1) g_sa (ne1) (ne2) (ne3) (by decide)) hZ (hw _ (List.mem_of_getElem? (i := 39) rfl)) (hw _ (List.mem_of_getElem? (i := 2) rfl)) (by decide) (by decide)) q18a q18c (g := (mkF m 113 #[.val (.int pn), .val (.int pf), .val (.int (pn &&& (3 : Int32))), .val (.int (v0_1 pf)), .val (.int (v0_2 pf)), .val (.int (v0_3 pf)), .val (.ref b10), .unset] [(.int (109 : Int32)), (.ref b10)])) rfl (by rw [hml]; rfl) (Steps.refl _) (argsL := [(.int (109 : Int32))]) (rest := []) (lenOf pd_2 rfl) rfl (by show 2 * 0 + _ ≤ _; exact Nat.le_of_eq rfl) (hb hby at_113) (fun _ _ => ⟨rfl, rfl, (by decide : 3 + 0 ≤ _), (by decide : 72 + 0 ≤ _)⟩)
    dsimp only [Pt.U, Pt.locs, Pt.cells, Pt.slots] at X18 l18 y18 z18 st18 hQ18
    subst l18 y18 z18
    obtain ⟨rfl, N18q, Kq18, Fq18_0, Fq18_1, Fq18_2, Fq18_3, Fq18_4, Fq18_5, Fq18_6, Fq18_7, Vq18_0, Vq18_1⟩ := hQ18
    have N18 := Fr.app N15 N18q
    have Z18 : n0 ≤ T18.heap.size := Nat.le_trans Z15 Kq18.1
    have K18 : Keep h0 T18.heap [] := (K15).trans Kq18 (allS (Or.inr sz_b10) (allS (Or.inr sz_pa) (allS (Or.inr sz_sa) all0)))
    have Fq18_2 : Fld Z T18.heap b10 "com/example/glowcursor/glowcursor/parser/ControlSequence" "count" "I" (.int (1 : Int32)) := Fq18_2
    obtain ⟨cq19, kq19, q19a, q19b, q19c⟩ := isOf hZ rfl (((((((A10.keep Kq11).keep Kq12).keep Kq13).keep Kq14).keep Kq15).keep Kq18))
    obtain ⟨_, _, ⟨T19, L19, k19, n19⟩, -, X19, ⟨Lc19, hQ19, l19, y19, z19⟩, st19⟩ := X18.virtualBack hx (y := (⟨"com/example/glowcursor/glowcursor/parser/ControlSequence", "hasSubParameters", "()Z"⟩ : MethodName)) (z := (⟨"com/example/glowcursor/glowcursor/parser/ControlSequence", "hasSubParameters", "()Z"⟩ : MethodName)) hown (mvT hZ (hw _ (List.mem_of_getElem? (i := 43) rfl))) (mvT hZ (hw _ (List.mem_of_getElem? (i := 44) rfl))) (notFace_of_selects (args := #[]) (mvT hZ (hw _ (List.mem_of_getElem? (i := 46) rfl)))) (mvT hZ (hw _ (List.mem_of_getElem? (i := 46) rfl))) (mvT hZ (hw _ (List.mem_of_getElem? (i := 45) rfl))) (by decide) (backOf (W := 0) (rm6c1 l Z a0 hw [] b10 sa kb (setI (setI (setI (List.replicate (32 : Int32).toNatClampNeg 0) (0 : Int32) (nar .boolean (0 : Int32))) (1 : Int32) (nar .boolean (nar .boolean (1 : Int32)))) (0 : Int32) (nar .boolean (0 : Int32))) T18.heap n0 Z18 (((((((A10.keep Kq11).keep Kq12).keep Kq13).keep Kq14).keep Kq15).keep Kq18)) (Fq18_2) (Fq18_1) (Vq18_1)) hZ (hw _ (List.mem_of_getElem? (i := 47) rfl)) (hw _ (List.mem_of_getElem? (i := 2) rfl)) (by decide) (by decide)) q19a q19c (g := (mkF m 154 #[.val (.int pn), .val (.int pf), .val (.int (pn &&& (3 : Int32))), .val (.int (v0_1 pf)), .val (.int (v0_2 pf)), .val (.int (v0_3 pf)), .val (.ref b10), .val (.int (0 : Int32))] [(.ref b10)])) rfl (by rw [hml]; rfl) (Steps.refl _) (argsL := []) (rest := []) (lenOf pd_3 rfl) rfl (by show 2 * 0 + _ ≤ _; exact Nat.le_of_eq rfl) (hb hby at_154) (fun _ _ => ⟨rfl, rfl, (by decide : 3 + 0 ≤ _), (by decide : 72 + 0 ≤ _)⟩)
    dsimp only [Pt.U, Pt.locs, Pt.cells, Pt.slots] at X19 l19 y19 z19 st19 hQ19
    subst l19 y19 z19
    obtain ⟨rfl, N19q, e19⟩ := hQ19
    have N19 := Fr.app N18 N19q
    have pre20 : ∀ t, Steps p.tables e below (T19.setTop (mkF m 159 #[.val (.int pn), .val (.int pf), .val (.int (pn &&& (3 : Int32))), .val (.int (v0_1 pf)), .val (.int (v0_2 pf)), .val (.int (v0_3 pf)), .val (.ref b10), .val (.int (0 : Int32))] [(.int (0 : Int32)), (.int v0_4)])) t → Steps p.tables e below (s₁.setTop (entryFrame m #[(.int pn), (.int pf)] maxLocals)) t := fun t k => pre16 t (by
      show Steps p.tables e below (T15.setTop (mkF m 76 #[.val (.int pn), .val (.int pf), .val (.int (pn &&& (3 : Int32))), .val (.int (v0_1 pf)), .val (.int (v0_2 pf)), .val (.int (v0_3 pf)), .val (.ref b10), .unset] [(.int (1 : Int32)), (.int (pn &&& (3 : Int32)))])) _
      refine XS.icmpYes X15.here hx rfl (pc0 := 76) (pc' := 85) rfl (hb hby at_76) rfl (tlt hc76_17).1 (by decide) (by decide) ?_
      show Steps p.tables e below (T15.setTop (mkF m 85 #[.val (.int pn), .val (.int pf), .val (.int (pn &&& (3 : Int32))), .val (.int (v0_1 pf)), .val (.int (v0_2 pf)), .val (.int (v0_3 pf)), .val (.ref b10), .unset] [])) _
      refine XS.iloadN X15.here hx rfl (hb hby at_85) rfl ?_
      show Steps p.tables e below (T15.setTop (mkF m 86 #[.val (.int pn), .val (.int pf), .val (.int (pn &&& (3 : Int32))), .val (.int (v0_1 pf)), .val (.int (v0_2 pf)), .val (.int (v0_3 pf)), .val (.ref b10), .unset] [(.int (pn &&& (3 : Int32)))])) _
      refine XS.iconst X15.here hx rfl (hb hby at_86) ?_
      show Steps p.tables e below (T15.setTop (mkF m 87 #[.val (.int pn), .val (.int pf), .val (.int (pn &&& (3 : Int32))), .val (.int (v0_1 pf)), .val (.int (v0_2 pf)), .val (.int (v0_3 pf)), .val (.ref b10), .unset] [(.int (2 : Int32)), (.int (pn &&& (3 : Int32)))])) _
      refine XS.icmpYes X15.here hx rfl (pc0 := 87) (pc' := 97) rfl (hb hby at_87) rfl (tlt (own_up hc76_17 (by decide) : (pn &&& (3 : Int32)) < (2 : Int32))).1 (by decide) (by decide) ?_
      show Steps p.tables e below (T15.setTop (mkF m 97 #[.val (.int pn), .val (.int pf), .val (.int (pn &&& (3 : Int32))), .val (.int (v0_1 pf)), .val (.int (v0_2 pf)), .val (.int (v0_3 pf)), .val (.ref b10), .unset] [])) _
      refine XS.iloadN X15.here hx rfl (hb hby at_97) rfl ?_
      show Steps p.tables e below (T15.setTop (mkF m 98 #[.val (.int pn), .val (.int pf), .val (.int (pn &&& (3 : Int32))), .val (.int (v0_1 pf)), .val (.int (v0_2 pf)), .val (.int (v0_3 pf)), .val (.ref b10), .unset] [(.int (pn &&& (3 : Int32)))])) _
      refine XS.iconst X15.here hx rfl (hb hby at_98) ?_
      show Steps p.tables e below (T15.setTop (mkF m 99 #[.val (.int pn), .val (.int pf), .val (.int (pn &&& (3 : Int32))), .val (.int (v0_1 pf)), .val (.int (v0_2 pf)), .val (.int (v0_3 pf)), .val (.ref b10), .unset] [(.int (3 : Int32)), (.int (pn &&& (3 : Int32)))])) _
      refine XS.icmpYes X15.here hx rfl (pc0 := 99) (pc' := 109) rfl (hb hby at_99) rfl (tlt (own_up hc76_17 (by decide) : (pn &&& (3 : Int32)) < (3 : Int32))).1 (by decide) (by decide) ?_
      show Steps p.tables e below (T15.setTop (mkF m 109 #[.val (.int pn), .val (.int pf), .val (.int (pn &&& (3 : Int32))), .val (.int (v0_1 pf)), .val (.int (v0_2 pf)), .val (.int (v0_3 pf)), .val (.ref b10), .unset] [])) _
      refine XS.aload X15.here hx rfl (hb hby at_109) rfl rfl ?_
      show Steps p.tables e below (T15.setTop (mkF m 111 #[.val (.int pn), .val (.int pf), .val (.int (pn &&& (3 : Int32))), .val (.int (v0_1 pf)), .val (.int (v0_2 pf)), .val (.int (v0_3 pf)), .val (.ref b10), .unset] [(.ref b10)])) _
      refine XS.bipush X15.here hx rfl (hb hby at_111) ?_
      show Steps p.tables e below (T15.setTop (mkF m 113 #[.val (.int pn), .val (.int pf), .val (.int (pn &&& (3 : Int32))), .val (.int (v0_1 pf)), .val (.int (v0_2 pf)), .val (.int (v0_3 pf)), .val (.ref b10), .unset] [(.int (109 : Int32)), (.ref b10)])) _
      refine st18.trans ?_
      show Steps p.tables e below (T18.setTop (mkF m 116 #[.val (.int pn), .val (.int pf), .val (.int (pn &&& (3 : Int32))), .val (.int (v0_1 pf)), .val (.int (v0_2 pf)), .val (.int (v0_3 pf)), .val (.ref b10), .unset] [])) _
      refine XS.iloadN X18.here hx rfl (hb hby at_116) rfl ?_
      show Steps p.tables e below (T18.setTop (mkF m 117 #[.val (.int pn), .val (.int pf), .val (.int (pn &&& (3 : Int32))), .val (.int (v0_1 pf)), .val (.int (v0_2 pf)), .val (.int (v0_3 pf)), .val (.ref b10), .unset] [(.int (pn &&& (3 : Int32)))])) _
      refine XS.iconst X18.here hx rfl (hb hby at_117) ?_
      show Steps p.tables e below (T18.setTop (mkF m 118 #[.val (.int pn), .val (.int pf), .val (.int (pn &&& (3 : Int32))), .val (.int (v0_1 pf)), .val (.int (v0_2 pf)), .val (.int (v0_3 pf)), .val (.ref b10), .unset] [(.int (1 : Int32)), (.int (pn &&& (3 : Int32)))])) _
      refine XS.icmpYes X18.here hx rfl (pc0 := 118) (pc' := 125) rfl (hb hby at_118) rfl (tlt hc76_17).1 (by decide) (by decide) ?_
      show Steps p.tables e below (T18.setTop (mkF m 125 #[.val (.int pn), .val (.int pf), .val (.int (pn &&& (3 : Int32))), .val (.int (v0_1 pf)), .val (.int (v0_2 pf)), .val (.int (v0_3 pf)), .val (.ref b10), .unset] [])) _
      refine XS.iloadN X18.here hx rfl (hb hby at_125) rfl ?_
      show Steps p.tables e below (T18.setTop (mkF m 126 #[.val (.int pn), .val (.int pf), .val (.int (pn &&& (3 : Int32))), .val (.int (v0_1 pf)), .val (.int (v0_2 pf)), .val (.int (v0_3 pf)), .val (.ref b10), .unset] [(.int (pn &&& (3 : Int32)))])) _
      refine XS.iconst X18.here hx rfl (hb hby at_126) ?_
      show Steps p.tables e below (T18.setTop (mkF m 127 #[.val (.int pn), .val (.int pf), .val (.int (pn &&& (3 : Int32))), .val (.int (v0_1 pf)), .val (.int (v0_2 pf)), .val (.int (v0_3 pf)), .val (.ref b10), .unset] [(.int (2 : Int32)), (.int (pn &&& (3 : Int32)))])) _
      refine XS.icmpYes X18.here hx rfl (pc0 := 127) (pc' := 135) rfl (hb hby at_127) rfl (tlt (own_up hc76_17 (by decide) : (pn &&& (3 : Int32)) < (2 : Int32))).1 (by decide) (by decide) ?_
      show Steps p.tables e below (T18.setTop (mkF m 135 #[.val (.int pn), .val (.int pf), .val (.int (pn &&& (3 : Int32))), .val (.int (v0_1 pf)), .val (.int (v0_2 pf)), .val (.int (v0_3 pf)), .val (.ref b10), .unset] [])) _
      refine XS.iloadN X18.here hx rfl (hb hby at_135) rfl ?_
      show Steps p.tables e below (T18.setTop (mkF m 136 #[.val (.int pn), .val (.int pf), .val (.int (pn &&& (3 : Int32))), .val (.int (v0_1 pf)), .val (.int (v0_2 pf)), .val (.int (v0_3 pf)), .val (.ref b10), .unset] [(.int (pn &&& (3 : Int32)))])) _
      refine XS.iconst X18.here hx rfl (hb hby at_136) ?_
      show Steps p.tables e below (T18.setTop (mkF m 137 #[.val (.int pn), .val (.int pf), .val (.int (pn &&& (3 : Int32))), .val (.int (v0_1 pf)), .val (.int (v0_2 pf)), .val (.int (v0_3 pf)), .val (.ref b10), .unset] [(.int (3 : Int32)), (.int (pn &&& (3 : Int32)))])) _
      refine XS.icmpYes X18.here hx rfl (pc0 := 137) (pc' := 149) rfl (hb hby at_137) rfl (tlt (own_up hc76_17 (by decide) : (pn &&& (3 : Int32)) < (3 : Int32))).1 (by decide) (by decide) ?_
      show Steps p.tables e below (T18.setTop (mkF m 149 #[.val (.int pn), .val (.int pf), .val (.int (pn &&& (3 : Int32))), .val (.int (v0_1 pf)), .val (.int (v0_2 pf)), .val (.int (v0_3 pf)), .val (.ref b10), .unset] [])) _
      refine XS.iconst X18.here hx rfl (hb hby at_149) ?_
      show Steps p.tables e below (T18.setTop (mkF m 150 #[.val (.int pn), .val (.int pf), .val (.int (pn &&& (3 : Int32))), .val (.int (v0_1 pf)), .val (.int (v0_2 pf)), .val (.int (v0_3 pf)), .val (.ref b10), .unset] [(.int (0 : Int32))])) _
      refine XS.istore X18.here hx rfl (hb hby at_150) rfl (l' := #[.val (.int pn), .val (.int pf), .val (.int (pn &&& (3 : Int32))), .val (.int (v0_1 pf)), .val (.int (v0_2 pf)), .val (.int (v0_3 pf)), .val (.ref b10), .val (.int (0 : Int32))]) rfl ?_
      show Steps p.tables e below (T18.setTop (mkF m 152 #[.val (.int pn), .val (.int pf), .val (.int (pn &&& (3 : Int32))), .val (.int (v0_1 pf)), .val (.int (v0_2 pf)), .val (.int (v0_3 pf)), .val (.ref b10), .val (.int (0 : Int32))] [])) _
      refine XS.aload X18.here hx rfl (hb hby at_152) rfl rfl ?_
      show Steps p.tables e below (T18.setTop (mkF m 154 #[.val (.int pn), .val (.int pf), .val (.int (pn &&& (3 : Int32))), .val (.int (v0_1 pf)), .val (.int (v0_2 pf)), .val (.int (v0_3 pf)), .val (.ref b10), .val (.int (0 : Int32))] [(.ref b10)])) _
      refine st19.trans ?_
      show Steps p.tables e below (T19.setTop (mkF m 157 #[.val (.int pn), .val (.int pf), .val (.int (pn &&& (3 : Int32))), .val (.int (v0_1 pf)), .val (.int (v0_2 pf)), .val (.int (v0_3 pf)), .val (.ref b10), .val (.int (0 : Int32))] [(.int v0_4)])) _
      refine XS.iload X19.here hx rfl (hb hby at_157) rfl ?_
      show Steps p.tables e below (T19.setTop (mkF m 159 #[.val (.int pn), .val (.int pf), .val (.int (pn &&& (3 : Int32))), .val (.int (v0_1 pf)), .val (.int (v0_2 pf)), .val (.int (v0_3 pf)), .val (.ref b10), .val (.int (0 : Int32))] [(.int (0 : Int32)), (.int v0_4)])) _
      exact k)
    by_cases hc159_21 : v0_4 = (0 : Int32)
    · have hv : (f0 pn pf) = (1 : Int32) := by simp only [f0, if_pos hc76_17, if_pos hc159_21]
      obtain ⟨fs, hr, hrun, hended, hW, hsame⟩ := X19.leave (v := some (.int (1 : Int32))) (fun h => by rw [Bd.returns] at h; cases h)
      refine ⟨_, _, pre20 _ ?_, hrun, hended, _, _, rfl, ?_, ⟨_, rfl⟩, hW, hsame.mono (by decide) (by decide)⟩
      · show Steps p.tables e below (T19.setTop (mkF m 159 #[.val (.int pn), .val (.int pf), .val (.int (pn &&& (3 : Int32))), .val (.int (v0_1 pf)), .val (.int (v0_2 pf)), .val (.int (v0_3 pf)), .val (.ref b10), .val (.int (0 : Int32))] [(.int (0 : Int32)), (.int v0_4)])) _
        refine XS.icmpNo X19.here hx rfl (hb hby at_159) rfl (teq hc159_21).2 ?_
        show Steps p.tables e below (T19.setTop (mkF m 162 #[.val (.int pn), .val (.int pf), .val (.int (pn &&& (3 : Int32))), .val (.int (v0_1 pf)), .val (.int (v0_2 pf)), .val (.int (v0_3 pf)), .val (.ref b10), .val (.int (0 : Int32))] [])) _
        refine XS.iconst X19.here hx rfl (hb hby at_162) ?_
        show Steps p.tables e below (T19.setTop (mkF m 163 #[.val (.int pn), .val (.int pf), .val (.int (pn &&& (3 : Int32))), .val (.int (v0_1 pf)), .val (.int (v0_2 pf)), .val (.int (v0_3 pf)), .val (.ref b10), .val (.int (0 : Int32))] [(.int (1 : Int32))])) _
        refine XS.goto X19.here hx rfl (pc0 := 163) (pc' := 167) rfl (hb hby at_163) (by decide) (by decide) ?_
        show Steps p.tables e below (T19.setTop (mkF m 167 #[.val (.int pn), .val (.int pf), .val (.int (pn &&& (3 : Int32))), .val (.int (v0_1 pf)), .val (.int (v0_2 pf)), .val (.int (v0_3 pf)), .val (.ref b10), .val (.int (0 : Int32))] [(.int (1 : Int32))])) _
        exact retN X19 hx (t := .boolean) Bd.returns (by simp) (hb hby at_167) hr
      · show Q0 Z pn pf h0 n0 _ T19.heap _
        rw [e19]
        exact ⟨by rw [hv], N19⟩
    · have hv : (f0 pn pf) = (0 : Int32) := by simp only [f0, if_pos hc76_17, if_neg hc159_21]
      obtain ⟨fs, hr, hrun, hended, hW, hsame⟩ := X19.leave (v := some (.int (0 : Int32))) (fun h => by rw [Bd.returns] at h; cases h)
      refine ⟨_, _, pre20 _ ?_, hrun, hended, _, _, rfl, ?_, ⟨_, rfl⟩, hW, hsame.mono (by decide) (by decide)⟩
      · show Steps p.tables e below (T19.setTop (mkF m 159 #[.val (.int pn), .val (.int pf), .val (.int (pn &&& (3 : Int32))), .val (.int (v0_1 pf)), .val (.int (v0_2 pf)), .val (.int (v0_3 pf)), .val (.ref b10), .val (.int (0 : Int32))] [(.int (0 : Int32)), (.int v0_4)])) _
        refine XS.icmpYes X19.here hx rfl (pc0 := 159) (pc' := 166) rfl (hb hby at_159) rfl (feq hc159_21).2 (by decide) (by decide) ?_
        show Steps p.tables e below (T19.setTop (mkF m 166 #[.val (.int pn), .val (.int pf), .val (.int (pn &&& (3 : Int32))), .val (.int (v0_1 pf)), .val (.int (v0_2 pf)), .val (.int (v0_3 pf)), .val (.ref b10), .val (.int (0 : Int32))] [])) _
        refine XS.iconst X19.here hx rfl (hb hby at_166) ?_
        show Steps p.tables e below (T19.setTop (mkF m 167 #[.val (.int pn), .val (.int pf), .val (.int (pn &&& (3 : Int32))), .val (.int (v0_1 pf)), .val (.int (v0_2 pf)), .val (.int (v0_3 pf)), .val (.ref b10), .val (.int (0 : Int32))] [(.int (0 : Int32))])) _
        exact retN X19 hx (t := .boolean) Bd.returns (by simp) (hb hby at_167) hr
      · show Q0 Z pn pf h0 n0 _ T19.heap _
        rw [e19]
        exact ⟨by rw [hv], N19⟩
  · obtain ⟨cq22, kq22, q22a, q22b, q22c⟩ := isOf hZ rfl ((((((A10.keep Kq11).keep Kq12).keep Kq13).keep Kq14).keep Kq15))
    obtain ⟨_, _, ⟨T22, L22, k22, n22⟩, -, X22, ⟨Lc22, hQ22, l22, y22, z22⟩, st22⟩ := X15.virtualBack hx (y := (⟨"com/example/glowcursor/glowcursor/parser/ControlSequence", "endParameter", "(Z)V"⟩ : MethodName)) (z := (⟨"com/example/glowcursor/glowcursor/parser/ControlSequence", "endParameter", "(Z)V"⟩ : MethodName)) hown (mvT hZ (hw _ (List.mem_of_getElem? (i := 30) rfl))) (mvT hZ (hw _ (List.mem_of_getElem? (i := 31) rfl))) (notFace_of_selects (args := #[]) (mvT hZ (hw _ (List.mem_of_getElem? (i := 33) rfl)))) (mvT hZ (hw _ (List.mem_of_getElem? (i := 33) rfl))) (mvT hZ (hw _ (List.mem_of_getElem? (i := 32) rfl))) (by decide) (backOf (W := 0) (rm4 l Z a0 hw [] b10 (v0_1 pf) pa sa (0 : Int32) (-1 : Int32) (0 : Int32) (.int (0 : Int32)) (.int (0 : Int32)) (.int (109 : Int32)) ka (setI (setI (List.replicate (32 : Int32).toNatClampNeg 0) (0 : Int32) (-1 : Int32)) (1 : Int32) (-1 : Int32)) kb (setI (setI (List.replicate (32 : Int32).toNatClampNeg 0) (0 : Int32) (nar .boolean (0 : Int32))) (1 : Int32) (nar .boolean (nar .boolean (1 : Int32)))) T15.heap n0 Z15 ((((((A10.keep Kq11).keep Kq12).keep Kq13).keep Kq14).keep Kq15)) g_b10 (Fq15_0) (Fq15_1) (Fq15_2) (Fq15_3) (Fq15_4) (Fq15_5) (Fq15_6) (Fq15_7) (Vq15_0) g_pa (Vq15_1) g_sa (ne1) (ne2) (ne3) (by decide)) hZ (hw _ (List.mem_of_getElem? (i := 34) rfl)) (hw _ (List.mem_of_getElem? (i := 2) rfl)) (by decide) (by decide)) q22a q22c (g := (mkF m 82 #[.val (.int pn), .val (.int pf), .val (.int (pn &&& (3 : Int32))), .val (.int (v0_1 pf)), .val (.int (v0_2 pf)), .val (.int (v0_3 pf)), .val (.ref b10), .unset] [(.int (v0_1 pf)), (.ref b10)])) rfl (by rw [hml]; rfl) (Steps.refl _) (argsL := [(.int (v0_1 pf))]) (rest := []) (lenOf pd_0 rfl) rfl (by show 2 * 0 + _ ≤ _; exact Nat.le_of_eq rfl) (hb hby at_82) (fun _ _ => ⟨rfl, rfl, (by decide : 3 + 0 ≤ _), (by decide : 72 + 0 ≤ _)⟩)
    dsimp only [Pt.U, Pt.locs, Pt.cells, Pt.slots] at X22 l22 y22 z22 st22 hQ22
    subst l22 y22 z22
    obtain ⟨rfl, N22q, Kq22, Fq22_0, Fq22_1, Fq22_2, Fq22_3, Fq22_4, Fq22_5, Fq22_6, Fq22_7, Vq22_0, Vq22_1⟩ := hQ22
    have N22 := Fr.app N15 N22q
    have Z22 : n0 ≤ T22.heap.size := Nat.le_trans Z15 Kq22.1
    have K22 : Keep h0 T22.heap [] := (K15).trans Kq22 (allS (Or.inr sz_b10) (allS (Or.inr sz_pa) (allS (Or.inr sz_sa) all0)))
    have Fq22_2 : Fld Z T22.heap b10 "com/example/glowcursor/glowcursor/parser/ControlSequence" "count" "I" (.int (1 : Int32)) := Fq22_2
    have pre23 : ∀ t, Steps p.tables e below (T22.setTop (mkF m 87 #[.val (.int pn), .val (.int pf), .val (.int (pn &&& (3 : Int32))), .val (.int (v0_1 pf)), .val (.int (v0_2 pf)), .val (.int (v0_3 pf)), .val (.ref b10), .unset] [(.int (2 : Int32)), (.int (pn &&& (3 : Int32)))])) t → Steps p.tables e below (s₁.setTop (entryFrame m #[(.int pn), (.int pf)] maxLocals)) t := fun t k => pre16 t (by
      show Steps p.tables e below (T15.setTop (mkF m 76 #[.val (.int pn), .val (.int pf), .val (.int (pn &&& (3 : Int32))), .val (.int (v0_1 pf)), .val (.int (v0_2 pf)), .val (.int (v0_3 pf)), .val (.ref b10), .unset] [(.int (1 : Int32)), (.int (pn &&& (3 : Int32)))])) _
      refine XS.icmpNo X15.here hx rfl (hb hby at_76) rfl (flt hc76_17).1 ?_
      show Steps p.tables e below (T15.setTop (mkF m 79 #[.val (.int pn), .val (.int pf), .val (.int (pn &&& (3 : Int32))), .val (.int (v0_1 pf)), .val (.int (v0_2 pf)), .val (.int (v0_3 pf)), .val (.ref b10), .unset] [])) _
      refine XS.aload X15.here hx rfl (hb hby at_79) rfl rfl ?_
      show Steps p.tables e below (T15.setTop (mkF m 81 #[.val (.int pn), .val (.int pf), .val (.int (pn &&& (3 : Int32))), .val (.int (v0_1 pf)), .val (.int (v0_2 pf)), .val (.int (v0_3 pf)), .val (.ref b10), .unset] [(.ref b10)])) _
      refine XS.iloadN X15.here hx rfl (hb hby at_81) rfl ?_
      show Steps p.tables e below (T15.setTop (mkF m 82 #[.val (.int pn), .val (.int pf), .val (.int (pn &&& (3 : Int32))), .val (.int (v0_1 pf)), .val (.int (v0_2 pf)), .val (.int (v0_3 pf)), .val (.ref b10), .unset] [(.int (v0_1 pf)), (.ref b10)])) _
      refine st22.trans ?_
      show Steps p.tables e below (T22.setTop (mkF m 85 #[.val (.int pn), .val (.int pf), .val (.int (pn &&& (3 : Int32))), .val (.int (v0_1 pf)), .val (.int (v0_2 pf)), .val (.int (v0_3 pf)), .val (.ref b10), .unset] [])) _
      refine XS.iloadN X22.here hx rfl (hb hby at_85) rfl ?_
      show Steps p.tables e below (T22.setTop (mkF m 86 #[.val (.int pn), .val (.int pf), .val (.int (pn &&& (3 : Int32))), .val (.int (v0_1 pf)), .val (.int (v0_2 pf)), .val (.int (v0_3 pf)), .val (.ref b10), .unset] [(.int (pn &&& (3 : Int32)))])) _
      refine XS.iconst X22.here hx rfl (hb hby at_86) ?_
      show Steps p.tables e below (T22.setTop (mkF m 87 #[.val (.int pn), .val (.int pf), .val (.int (pn &&& (3 : Int32))), .val (.int (v0_1 pf)), .val (.int (v0_2 pf)), .val (.int (v0_3 pf)), .val (.ref b10), .unset] [(.int (2 : Int32)), (.int (pn &&& (3 : Int32)))])) _
      exact k)
    by_cases hc87_24 : (pn &&& (3 : Int32)) < (2 : Int32)
    · obtain ⟨cq25, kq25, q25a, q25b, q25c⟩ := isOf hZ rfl (((((((A10.keep Kq11).keep Kq12).keep Kq13).keep Kq14).keep Kq15).keep Kq22))
      obtain ⟨_, _, ⟨T25, L25, k25, n25⟩, -, X25, ⟨Lc25, hQ25, l25, y25, z25⟩, st25⟩ := X22.virtualBack hx (y := (⟨"com/example/glowcursor/glowcursor/parser/ControlSequence", "end", "(I)V"⟩ : MethodName)) (z := (⟨"com/example/glowcursor/glowcursor/parser/ControlSequence", "end", "(I)V"⟩ : MethodName)) hown (mvT hZ (hw _ (List.mem_of_getElem? (i := 35) rfl))) (mvT hZ (hw _ (List.mem_of_getElem? (i := 36) rfl))) (notFace_of_selects (args := #[]) (mvT hZ (hw _ (List.mem_of_getElem? (i := 38) rfl)))) (mvT hZ (hw _ (List.mem_of_getElem? (i := 38) rfl))) (mvT hZ (hw _ (List.mem_of_getElem? (i := 37) rfl))) (by decide) (backOf (W := 0) (rm5 l Z a0 hw [] b10 (109 : Int32) pa sa (1 : Int32) (-1 : Int32) (nar .boolean (v0_1 pf)) (.int (0 : Int32)) (.int (0 : Int32)) (.int (109 : Int32)) ka (setI (setI (setI (List.replicate (32 : Int32).toNatClampNeg 0) (0 : Int32) (-1 : Int32)) (1 : Int32) (-1 : Int32)) (0 : Int32) (-1 : Int32)) kb (setI (setI (setI (List.replicate (32 : Int32).toNatClampNeg 0) (0 : Int32) (nar .boolean (0 : Int32))) (1 : Int32) (nar .boolean (nar .boolean (1 : Int32)))) (0 : Int32) (nar .boolean (0 : Int32))) T22.heap n0 Z22 (((((((A10.keep Kq11).keep Kq12).keep Kq13).keep Kq14).keep Kq15).keep Kq22)) g_b10 (Fq22_0) (Fq22_1) (Fq22_2) (Fq22_3) (Fq22_4) (Fq22_5) (Fq22_6) (Fq22_7) (Vq22_0) g_pa (Vq22_1) g_sa (ne1) (ne2) (ne3) (by decide)) hZ (hw _ (List.mem_of_getElem? (i := 39) rfl)) (hw _ (List.mem_of_getElem? (i := 2) rfl)) (by decide) (by decide)) q25a q25c (g := (mkF m 113 #[.val (.int pn), .val (.int pf), .val (.int (pn &&& (3 : Int32))), .val (.int (v0_1 pf)), .val (.int (v0_2 pf)), .val (.int (v0_3 pf)), .val (.ref b10), .unset] [(.int (109 : Int32)), (.ref b10)])) rfl (by rw [hml]; rfl) (Steps.refl _) (argsL := [(.int (109 : Int32))]) (rest := []) (lenOf pd_2 rfl) rfl (by show 2 * 0 + _ ≤ _; exact Nat.le_of_eq rfl) (hb hby at_113) (fun _ _ => ⟨rfl, rfl, (by decide : 3 + 0 ≤ _), (by decide : 72 + 0 ≤ _)⟩)
      dsimp only [Pt.U, Pt.locs, Pt.cells, Pt.slots] at X25 l25 y25 z25 st25 hQ25
      subst l25 y25 z25
      obtain ⟨rfl, N25q, Kq25, Fq25_0, Fq25_1, Fq25_2, Fq25_3, Fq25_4, Fq25_5, Fq25_6, Fq25_7, Vq25_0, Vq25_1⟩ := hQ25
      have N25 := Fr.app N22 N25q
      have Z25 : n0 ≤ T25.heap.size := Nat.le_trans Z22 Kq25.1
      have K25 : Keep h0 T25.heap [] := (K22).trans Kq25 (allS (Or.inr sz_b10) (allS (Or.inr sz_pa) (allS (Or.inr sz_sa) all0)))
      have Fq25_2 : Fld Z T25.heap b10 "com/example/glowcursor/glowcursor/parser/ControlSequence" "count" "I" (.int (2 : Int32)) := Fq25_2
      have pre26 : ∀ t, Steps p.tables e below (T25.setTop (mkF m 122 #[.val (.int pn), .val (.int pf), .val (.int (pn &&& (3 : Int32))), .val (.int (v0_1 pf)), .val (.int (v0_2 pf)), .val (.int (v0_3 pf)), .val (.ref b10), .unset] [(.int (v0_1 pf))])) t → Steps p.tables e below (s₁.setTop (entryFrame m #[(.int pn), (.int pf)] maxLocals)) t := fun t k => pre23 t (by
        show Steps p.tables e below (T22.setTop (mkF m 87 #[.val (.int pn), .val (.int pf), .val (.int (pn &&& (3 : Int32))), .val (.int (v0_1 pf)), .val (.int (v0_2 pf)), .val (.int (v0_3 pf)), .val (.ref b10), .unset] [(.int (2 : Int32)), (.int (pn &&& (3 : Int32)))])) _
        refine XS.icmpYes X22.here hx rfl (pc0 := 87) (pc' := 97) rfl (hb hby at_87) rfl (tlt hc87_24).1 (by decide) (by decide) ?_
        show Steps p.tables e below (T22.setTop (mkF m 97 #[.val (.int pn), .val (.int pf), .val (.int (pn &&& (3 : Int32))), .val (.int (v0_1 pf)), .val (.int (v0_2 pf)), .val (.int (v0_3 pf)), .val (.ref b10), .unset] [])) _
        refine XS.iloadN X22.here hx rfl (hb hby at_97) rfl ?_
        show Steps p.tables e below (T22.setTop (mkF m 98 #[.val (.int pn), .val (.int pf), .val (.int (pn &&& (3 : Int32))), .val (.int (v0_1 pf)), .val (.int (v0_2 pf)), .val (.int (v0_3 pf)), .val (.ref b10), .unset] [(.int (pn &&& (3 : Int32)))])) _
        refine XS.iconst X22.here hx rfl (hb hby at_98) ?_
        show Steps p.tables e below (T22.setTop (mkF m 99 #[.val (.int pn), .val (.int pf), .val (.int (pn &&& (3 : Int32))), .val (.int (v0_1 pf)), .val (.int (v0_2 pf)), .val (.int (v0_3 pf)), .val (.ref b10), .unset] [(.int (3 : Int32)), (.int (pn &&& (3 : Int32)))])) _
        refine XS.icmpYes X22.here hx rfl (pc0 := 99) (pc' := 109) rfl (hb hby at_99) rfl (tlt (own_up hc87_24 (by decide) : (pn &&& (3 : Int32)) < (3 : Int32))).1 (by decide) (by decide) ?_
        show Steps p.tables e below (T22.setTop (mkF m 109 #[.val (.int pn), .val (.int pf), .val (.int (pn &&& (3 : Int32))), .val (.int (v0_1 pf)), .val (.int (v0_2 pf)), .val (.int (v0_3 pf)), .val (.ref b10), .unset] [])) _
        refine XS.aload X22.here hx rfl (hb hby at_109) rfl rfl ?_
        show Steps p.tables e below (T22.setTop (mkF m 111 #[.val (.int pn), .val (.int pf), .val (.int (pn &&& (3 : Int32))), .val (.int (v0_1 pf)), .val (.int (v0_2 pf)), .val (.int (v0_3 pf)), .val (.ref b10), .unset] [(.ref b10)])) _
        refine XS.bipush X22.here hx rfl (hb hby at_111) ?_
        show Steps p.tables e below (T22.setTop (mkF m 113 #[.val (.int pn), .val (.int pf), .val (.int (pn &&& (3 : Int32))), .val (.int (v0_1 pf)), .val (.int (v0_2 pf)), .val (.int (v0_3 pf)), .val (.ref b10), .unset] [(.int (109 : Int32)), (.ref b10)])) _
        refine st25.trans ?_
        show Steps p.tables e below (T25.setTop (mkF m 116 #[.val (.int pn), .val (.int pf), .val (.int (pn &&& (3 : Int32))), .val (.int (v0_1 pf)), .val (.int (v0_2 pf)), .val (.int (v0_3 pf)), .val (.ref b10), .unset] [])) _
        refine XS.iloadN X25.here hx rfl (hb hby at_116) rfl ?_
        show Steps p.tables e below (T25.setTop (mkF m 117 #[.val (.int pn), .val (.int pf), .val (.int (pn &&& (3 : Int32))), .val (.int (v0_1 pf)), .val (.int (v0_2 pf)), .val (.int (v0_3 pf)), .val (.ref b10), .unset] [(.int (pn &&& (3 : Int32)))])) _
        refine XS.iconst X25.here hx rfl (hb hby at_117) ?_
        show Steps p.tables e below (T25.setTop (mkF m 118 #[.val (.int pn), .val (.int pf), .val (.int (pn &&& (3 : Int32))), .val (.int (v0_1 pf)), .val (.int (v0_2 pf)), .val (.int (v0_3 pf)), .val (.ref b10), .unset] [(.int (1 : Int32)), (.int (pn &&& (3 : Int32)))])) _
        refine XS.icmpNo X25.here hx rfl (hb hby at_118) rfl (flt hc76_17).1 ?_
        show Steps p.tables e below (T25.setTop (mkF m 121 #[.val (.int pn), .val (.int pf), .val (.int (pn &&& (3 : Int32))), .val (.int (v0_1 pf)), .val (.int (v0_2 pf)), .val (.int (v0_3 pf)), .val (.ref b10), .unset] [])) _
        refine XS.iloadN X25.here hx rfl (hb hby at_121) rfl ?_
        show Steps p.tables e below (T25.setTop (mkF m 122 #[.val (.int pn), .val (.int pf), .val (.int (pn &&& (3 : Int32))), .val (.int (v0_1 pf)), .val (.int (v0_2 pf)), .val (.int (v0_3 pf)), .val (.ref b10), .unset] [(.int (v0_1 pf))])) _
        exact k)
      have pre30 : ∀ t, Steps p.tables e below (T25.setTop (mkF m 150 #[.val (.int pn), .val (.int pf), .val (.int (pn &&& (3 : Int32))), .val (.int (v0_1 pf)), .val (.int (v0_2 pf)), .val (.int (v0_3 pf)), .val (.ref b10), .unset] [(.int (if (v0_1 pf) = (0 : Int32) then (if (pn &&& (3 : Int32)) < (3 : Int32) then (0 : Int32) else (if (v0_3 pf) = (0 : Int32) then (0 : Int32) else (1 : Int32))) else (1 : Int32)))])) t → Steps p.tables e below (s₁.setTop (entryFrame m #[(.int pn), (.int pf)] maxLocals)) t := fun t k => pre26 t (by
        show Steps p.tables e below (T25.setTop (mkF m 122 #[.val (.int pn), .val (.int pf), .val (.int (pn &&& (3 : Int32))), .val (.int (v0_1 pf)), .val (.int (v0_2 pf)), .val (.int (v0_3 pf)), .val (.ref b10), .unset] [(.int (v0_1 pf))])) _
        by_cases hd122_27 : (v0_1 pf) = (0 : Int32)
        · try simp only [if_pos hd122_27] at k
          show Steps p.tables e below (T25.setTop (mkF m 122 #[.val (.int pn), .val (.int pf), .val (.int (pn &&& (3 : Int32))), .val (.int (v0_1 pf)), .val (.int (v0_2 pf)), .val (.int (v0_3 pf)), .val (.ref b10), .unset] [(.int (v0_1 pf))])) _
          refine XS.ifNo X25.here hx rfl (hb hby at_122) rfl ((if0 _ _).trans (teq hd122_27).2) ?_
          show Steps p.tables e below (T25.setTop (mkF m 125 #[.val (.int pn), .val (.int pf), .val (.int (pn &&& (3 : Int32))), .val (.int (v0_1 pf)), .val (.int (v0_2 pf)), .val (.int (v0_3 pf)), .val (.ref b10), .unset] [])) _
          refine XS.iloadN X25.here hx rfl (hb hby at_125) rfl ?_
          show Steps p.tables e below (T25.setTop (mkF m 126 #[.val (.int pn), .val (.int pf), .val (.int (pn &&& (3 : Int32))), .val (.int (v0_1 pf)), .val (.int (v0_2 pf)), .val (.int (v0_3 pf)), .val (.ref b10), .unset] [(.int (pn &&& (3 : Int32)))])) _
          refine XS.iconst X25.here hx rfl (hb hby at_126) ?_
          show Steps p.tables e below (T25.setTop (mkF m 127 #[.val (.int pn), .val (.int pf), .val (.int (pn &&& (3 : Int32))), .val (.int (v0_1 pf)), .val (.int (v0_2 pf)), .val (.int (v0_3 pf)), .val (.ref b10), .unset] [(.int (2 : Int32)), (.int (pn &&& (3 : Int32)))])) _
          refine XS.icmpYes X25.here hx rfl (pc0 := 127) (pc' := 135) rfl (hb hby at_127) rfl (tlt hc87_24).1 (by decide) (by decide) ?_
          show Steps p.tables e below (T25.setTop (mkF m 135 #[.val (.int pn), .val (.int pf), .val (.int (pn &&& (3 : Int32))), .val (.int (v0_1 pf)), .val (.int (v0_2 pf)), .val (.int (v0_3 pf)), .val (.ref b10), .unset] [])) _
          refine XS.iloadN X25.here hx rfl (hb hby at_135) rfl ?_
          show Steps p.tables e below (T25.setTop (mkF m 136 #[.val (.int pn), .val (.int pf), .val (.int (pn &&& (3 : Int32))), .val (.int (v0_1 pf)), .val (.int (v0_2 pf)), .val (.int (v0_3 pf)), .val (.ref b10), .unset] [(.int (pn &&& (3 : Int32)))])) _
          refine XS.iconst X25.here hx rfl (hb hby at_136) ?_
          show Steps p.tables e below (T25.setTop (mkF m 137 #[.val (.int pn), .val (.int pf), .val (.int (pn &&& (3 : Int32))), .val (.int (v0_1 pf)), .val (.int (v0_2 pf)), .val (.int (v0_3 pf)), .val (.ref b10), .unset] [(.int (3 : Int32)), (.int (pn &&& (3 : Int32)))])) _
          by_cases hd137_28 : (pn &&& (3 : Int32)) < (3 : Int32)
          · try simp only [if_pos hd137_28] at k
            show Steps p.tables e below (T25.setTop (mkF m 137 #[.val (.int pn), .val (.int pf), .val (.int (pn &&& (3 : Int32))), .val (.int (v0_1 pf)), .val (.int (v0_2 pf)), .val (.int (v0_3 pf)), .val (.ref b10), .unset] [(.int (3 : Int32)), (.int (pn &&& (3 : Int32)))])) _
            refine XS.icmpYes X25.here hx rfl (pc0 := 137) (pc' := 149) rfl (hb hby at_137) rfl (tlt hd137_28).1 (by decide) (by decide) ?_
            show Steps p.tables e below (T25.setTop (mkF m 149 #[.val (.int pn), .val (.int pf), .val (.int (pn &&& (3 : Int32))), .val (.int (v0_1 pf)), .val (.int (v0_2 pf)), .val (.int (v0_3 pf)), .val (.ref b10), .unset] [])) _
            refine XS.iconst X25.here hx rfl (hb hby at_149) ?_
            exact k
          · try simp only [if_neg hd137_28] at k
            show Steps p.tables e below (T25.setTop (mkF m 137 #[.val (.int pn), .val (.int pf), .val (.int (pn &&& (3 : Int32))), .val (.int (v0_1 pf)), .val (.int (v0_2 pf)), .val (.int (v0_3 pf)), .val (.ref b10), .unset] [(.int (3 : Int32)), (.int (pn &&& (3 : Int32)))])) _
            refine XS.icmpNo X25.here hx rfl (hb hby at_137) rfl (flt hd137_28).1 ?_
            show Steps p.tables e below (T25.setTop (mkF m 140 #[.val (.int pn), .val (.int pf), .val (.int (pn &&& (3 : Int32))), .val (.int (v0_1 pf)), .val (.int (v0_2 pf)), .val (.int (v0_3 pf)), .val (.ref b10), .unset] [])) _
            refine XS.iload X25.here hx rfl (hb hby at_140) rfl ?_
            show Steps p.tables e below (T25.setTop (mkF m 142 #[.val (.int pn), .val (.int pf), .val (.int (pn &&& (3 : Int32))), .val (.int (v0_1 pf)), .val (.int (v0_2 pf)), .val (.int (v0_3 pf)), .val (.ref b10), .unset] [(.int (v0_3 pf))])) _
            by_cases hd142_29 : (v0_3 pf) = (0 : Int32)
            · try simp only [if_pos hd142_29] at k
              show Steps p.tables e below (T25.setTop (mkF m 142 #[.val (.int pn), .val (.int pf), .val (.int (pn &&& (3 : Int32))), .val (.int (v0_1 pf)), .val (.int (v0_2 pf)), .val (.int (v0_3 pf)), .val (.ref b10), .unset] [(.int (v0_3 pf))])) _
              refine XS.ifYes X25.here hx rfl (pc0 := 142) (pc' := 149) rfl (hb hby at_142) rfl ((if0 _ _).trans (teq hd142_29).1) (by decide) (by decide) ?_
              show Steps p.tables e below (T25.setTop (mkF m 149 #[.val (.int pn), .val (.int pf), .val (.int (pn &&& (3 : Int32))), .val (.int (v0_1 pf)), .val (.int (v0_2 pf)), .val (.int (v0_3 pf)), .val (.ref b10), .unset] [])) _
              refine XS.iconst X25.here hx rfl (hb hby at_149) ?_
              exact k
            · try simp only [if_neg hd142_29] at k
              show Steps p.tables e below (T25.setTop (mkF m 142 #[.val (.int pn), .val (.int pf), .val (.int (pn &&& (3 : Int32))), .val (.int (v0_1 pf)), .val (.int (v0_2 pf)), .val (.int (v0_3 pf)), .val (.ref b10), .unset] [(.int (v0_3 pf))])) _
              refine XS.ifNo X25.here hx rfl (hb hby at_142) rfl ((if0 _ _).trans (feq hd142_29).1) ?_
              show Steps p.tables e below (T25.setTop (mkF m 145 #[.val (.int pn), .val (.int pf), .val (.int (pn &&& (3 : Int32))), .val (.int (v0_1 pf)), .val (.int (v0_2 pf)), .val (.int (v0_3 pf)), .val (.ref b10), .unset] [])) _
              refine XS.iconst X25.here hx rfl (hb hby at_145) ?_
              show Steps p.tables e below (T25.setTop (mkF m 146 #[.val (.int pn), .val (.int pf), .val (.int (pn &&& (3 : Int32))), .val (.int (v0_1 pf)), .val (.int (v0_2 pf)), .val (.int (v0_3 pf)), .val (.ref b10), .unset] [(.int (1 : Int32))])) _
              refine XS.goto X25.here hx rfl (pc0 := 146) (pc' := 150) rfl (hb hby at_146) (by decide) (by decide) ?_
              exact k
        · try simp only [if_neg hd122_27] at k
          show Steps p.tables e below (T25.setTop (mkF m 122 #[.val (.int pn), .val (.int pf), .val (.int (pn &&& (3 : Int32))), .val (.int (v0_1 pf)), .val (.int (v0_2 pf)), .val (.int (v0_3 pf)), .val (.ref b10), .unset] [(.int (v0_1 pf))])) _
          refine XS.ifYes X25.here hx rfl (pc0 := 122) (pc' := 145) rfl (hb hby at_122) rfl ((if0 _ _).trans (feq hd122_27).2) (by decide) (by decide) ?_
          show Steps p.tables e below (T25.setTop (mkF m 145 #[.val (.int pn), .val (.int pf), .val (.int (pn &&& (3 : Int32))), .val (.int (v0_1 pf)), .val (.int (v0_2 pf)), .val (.int (v0_3 pf)), .val (.ref b10), .unset] [])) _
          refine XS.iconst X25.here hx rfl (hb hby at_145) ?_
          show Steps p.tables e below (T25.setTop (mkF m 146 #[.val (.int pn), .val (.int pf), .val (.int (pn &&& (3 : Int32))), .val (.int (v0_1 pf)), .val (.int (v0_2 pf)), .val (.int (v0_3 pf)), .val (.ref b10), .unset] [(.int (1 : Int32))])) _
          refine XS.goto X25.here hx rfl (pc0 := 146) (pc' := 150) rfl (hb hby at_146) (by decide) (by decide) ?_
          exact k
        )
      obtain ⟨cq31, kq31, q31a, q31b, q31c⟩ := isOf hZ rfl ((((((((A10.keep Kq11).keep Kq12).keep Kq13).keep Kq14).keep Kq15).keep Kq22).keep Kq25))
      obtain ⟨_, _, ⟨T31, L31, k31, n31⟩, -, X31, ⟨Lc31, hQ31, l31, y31, z31⟩, st31⟩ := X25.virtualBack hx (y := (⟨"com/example/glowcursor/glowcursor/parser/ControlSequence", "hasSubParameters", "()Z"⟩ : MethodName)) (z := (⟨"com/example/glowcursor/glowcursor/parser/ControlSequence", "hasSubParameters", "()Z"⟩ : MethodName)) hown (mvT hZ (hw _ (List.mem_of_getElem? (i := 43) rfl))) (mvT hZ (hw _ (List.mem_of_getElem? (i := 44) rfl))) (notFace_of_selects (args := #[]) (mvT hZ (hw _ (List.mem_of_getElem? (i := 46) rfl)))) (mvT hZ (hw _ (List.mem_of_getElem? (i := 46) rfl))) (mvT hZ (hw _ (List.mem_of_getElem? (i := 45) rfl))) (by decide) (backOf (W := 0) (rm6c2 l Z a0 hw [] b10 sa kb (setI (setI (setI (setI (List.replicate (32 : Int32).toNatClampNeg 0) (0 : Int32) (nar .boolean (0 : Int32))) (1 : Int32) (nar .boolean (nar .boolean (1 : Int32)))) (0 : Int32) (nar .boolean (0 : Int32))) (1 : Int32) (nar .boolean (nar .boolean (v0_1 pf)))) T25.heap n0 Z25 ((((((((A10.keep Kq11).keep Kq12).keep Kq13).keep Kq14).keep Kq15).keep Kq22).keep Kq25)) (Fq25_2) (Fq25_1) (Vq25_1)) hZ (hw _ (List.mem_of_getElem? (i := 47) rfl)) (hw _ (List.mem_of_getElem? (i := 2) rfl)) (by decide) (by decide)) q31a q31c (g := (mkF m 154 #[.val (.int pn), .val (.int pf), .val (.int (pn &&& (3 : Int32))), .val (.int (v0_1 pf)), .val (.int (v0_2 pf)), .val (.int (v0_3 pf)), .val (.ref b10), .val (.int (v0_5 pf pn))] [(.ref b10)])) rfl (by rw [hml]; rfl) (Steps.refl _) (argsL := []) (rest := []) (lenOf pd_3 rfl) rfl (by show 2 * 0 + _ ≤ _; exact Nat.le_of_eq rfl) (hb hby at_154) (fun _ _ => ⟨rfl, rfl, (by decide : 3 + 0 ≤ _), (by decide : 72 + 0 ≤ _)⟩)
      dsimp only [Pt.U, Pt.locs, Pt.cells, Pt.slots] at X31 l31 y31 z31 st31 hQ31
      subst l31 y31 z31
      obtain ⟨rfl, N31q, e31⟩ := hQ31
      have N31 := Fr.app N25 N31q
      have pre32 : ∀ t, Steps p.tables e below (T31.setTop (mkF m 159 #[.val (.int pn), .val (.int pf), .val (.int (pn &&& (3 : Int32))), .val (.int (v0_1 pf)), .val (.int (v0_2 pf)), .val (.int (v0_3 pf)), .val (.ref b10), .val (.int (v0_5 pf pn))] [(.int (v0_5 pf pn)), (.int (v0_6 pf))])) t → Steps p.tables e below (s₁.setTop (entryFrame m #[(.int pn), (.int pf)] maxLocals)) t := fun t k => pre30 t (by
        show Steps p.tables e below (T25.setTop (mkF m 150 #[.val (.int pn), .val (.int pf), .val (.int (pn &&& (3 : Int32))), .val (.int (v0_1 pf)), .val (.int (v0_2 pf)), .val (.int (v0_3 pf)), .val (.ref b10), .unset] [(.int (v0_5 pf pn))])) _
        refine XS.istore X25.here hx rfl (hb hby at_150) rfl (l' := #[.val (.int pn), .val (.int pf), .val (.int (pn &&& (3 : Int32))), .val (.int (v0_1 pf)), .val (.int (v0_2 pf)), .val (.int (v0_3 pf)), .val (.ref b10), .val (.int (v0_5 pf pn))]) rfl ?_
        show Steps p.tables e below (T25.setTop (mkF m 152 #[.val (.int pn), .val (.int pf), .val (.int (pn &&& (3 : Int32))), .val (.int (v0_1 pf)), .val (.int (v0_2 pf)), .val (.int (v0_3 pf)), .val (.ref b10), .val (.int (v0_5 pf pn))] [])) _
        refine XS.aload X25.here hx rfl (hb hby at_152) rfl rfl ?_
        show Steps p.tables e below (T25.setTop (mkF m 154 #[.val (.int pn), .val (.int pf), .val (.int (pn &&& (3 : Int32))), .val (.int (v0_1 pf)), .val (.int (v0_2 pf)), .val (.int (v0_3 pf)), .val (.ref b10), .val (.int (v0_5 pf pn))] [(.ref b10)])) _
        refine st31.trans ?_
        show Steps p.tables e below (T31.setTop (mkF m 157 #[.val (.int pn), .val (.int pf), .val (.int (pn &&& (3 : Int32))), .val (.int (v0_1 pf)), .val (.int (v0_2 pf)), .val (.int (v0_3 pf)), .val (.ref b10), .val (.int (v0_5 pf pn))] [(.int (v0_6 pf))])) _
        refine XS.iload X31.here hx rfl (hb hby at_157) rfl ?_
        show Steps p.tables e below (T31.setTop (mkF m 159 #[.val (.int pn), .val (.int pf), .val (.int (pn &&& (3 : Int32))), .val (.int (v0_1 pf)), .val (.int (v0_2 pf)), .val (.int (v0_3 pf)), .val (.ref b10), .val (.int (v0_5 pf pn))] [(.int (v0_5 pf pn)), (.int (v0_6 pf))])) _
        exact k)
      by_cases hc159_33 : (v0_6 pf) = (v0_5 pf pn)
      · have hv : (f0 pn pf) = (1 : Int32) := by simp only [f0, if_neg hc76_17, if_pos hc87_24, if_pos hc159_33]
        obtain ⟨fs, hr, hrun, hended, hW, hsame⟩ := X31.leave (v := some (.int (1 : Int32))) (fun h => by rw [Bd.returns] at h; cases h)
        refine ⟨_, _, pre32 _ ?_, hrun, hended, _, _, rfl, ?_, ⟨_, rfl⟩, hW, hsame.mono (by decide) (by decide)⟩
        · show Steps p.tables e below (T31.setTop (mkF m 159 #[.val (.int pn), .val (.int pf), .val (.int (pn &&& (3 : Int32))), .val (.int (v0_1 pf)), .val (.int (v0_2 pf)), .val (.int (v0_3 pf)), .val (.ref b10), .val (.int (v0_5 pf pn))] [(.int (v0_5 pf pn)), (.int (v0_6 pf))])) _
          refine XS.icmpNo X31.here hx rfl (hb hby at_159) rfl (teq hc159_33).2 ?_
          show Steps p.tables e below (T31.setTop (mkF m 162 #[.val (.int pn), .val (.int pf), .val (.int (pn &&& (3 : Int32))), .val (.int (v0_1 pf)), .val (.int (v0_2 pf)), .val (.int (v0_3 pf)), .val (.ref b10), .val (.int (v0_5 pf pn))] [])) _
          refine XS.iconst X31.here hx rfl (hb hby at_162) ?_
          show Steps p.tables e below (T31.setTop (mkF m 163 #[.val (.int pn), .val (.int pf), .val (.int (pn &&& (3 : Int32))), .val (.int (v0_1 pf)), .val (.int (v0_2 pf)), .val (.int (v0_3 pf)), .val (.ref b10), .val (.int (v0_5 pf pn))] [(.int (1 : Int32))])) _
          refine XS.goto X31.here hx rfl (pc0 := 163) (pc' := 167) rfl (hb hby at_163) (by decide) (by decide) ?_
          show Steps p.tables e below (T31.setTop (mkF m 167 #[.val (.int pn), .val (.int pf), .val (.int (pn &&& (3 : Int32))), .val (.int (v0_1 pf)), .val (.int (v0_2 pf)), .val (.int (v0_3 pf)), .val (.ref b10), .val (.int (v0_5 pf pn))] [(.int (1 : Int32))])) _
          exact retN X31 hx (t := .boolean) Bd.returns (by simp) (hb hby at_167) hr
        · show Q0 Z pn pf h0 n0 _ T31.heap _
          rw [e31]
          exact ⟨by rw [hv], N31⟩
      · have hv : (f0 pn pf) = (0 : Int32) := by simp only [f0, if_neg hc76_17, if_pos hc87_24, if_neg hc159_33]
        obtain ⟨fs, hr, hrun, hended, hW, hsame⟩ := X31.leave (v := some (.int (0 : Int32))) (fun h => by rw [Bd.returns] at h; cases h)
        refine ⟨_, _, pre32 _ ?_, hrun, hended, _, _, rfl, ?_, ⟨_, rfl⟩, hW, hsame.mono (by decide) (by decide)⟩
        · show Steps p.tables e below (T31.setTop (mkF m 159 #[.val (.int pn), .val (.int pf), .val (.int (pn &&& (3 : Int32))), .val (.int (v0_1 pf)), .val (.int (v0_2 pf)), .val (.int (v0_3 pf)), .val (.ref b10), .val (.int (v0_5 pf pn))] [(.int (v0_5 pf pn)), (.int (v0_6 pf))])) _
          refine XS.icmpYes X31.here hx rfl (pc0 := 159) (pc' := 166) rfl (hb hby at_159) rfl (feq hc159_33).2 (by decide) (by decide) ?_
          show Steps p.tables e below (T31.setTop (mkF m 166 #[.val (.int pn), .val (.int pf), .val (.int (pn &&& (3 : Int32))), .val (.int (v0_1 pf)), .val (.int (v0_2 pf)), .val (.int (v0_3 pf)), .val (.ref b10), .val (.int (v0_5 pf pn))] [])) _
          refine XS.iconst X31.here hx rfl (hb hby at_166) ?_
          show Steps p.tables e below (T31.setTop (mkF m 167 #[.val (.int pn), .val (.int pf), .val (.int (pn &&& (3 : Int32))), .val (.int (v0_1 pf)), .val (.int (v0_2 pf)), .val (.int (v0_3 pf)), .val (.ref b10), .val (.int (v0_5 pf pn))] [(.int (0 : Int32))])) _
          exact retN X31 hx (t := .boolean) Bd.returns (by simp) (hb hby at_167) hr
        · show Q0 Z pn pf h0 n0 _ T31.heap _
          rw [e31]
          exact ⟨by rw [hv], N31⟩
    · obtain ⟨cq34, kq34, q34a, q34b, q34c⟩ := isOf hZ rfl (((((((A10.keep Kq11).keep Kq12).keep Kq13).keep Kq14).keep Kq15).keep Kq22))
      obtain ⟨_, _, ⟨T34, L34, k34, n34⟩, -, X34, ⟨Lc34, hQ34, l34, y34, z34⟩, st34⟩ := X22.virtualBack hx (y := (⟨"com/example/glowcursor/glowcursor/parser/ControlSequence", "endParameter", "(Z)V"⟩ : MethodName)) (z := (⟨"com/example/glowcursor/glowcursor/parser/ControlSequence", "endParameter", "(Z)V"⟩ : MethodName)) hown (mvT hZ (hw _ (List.mem_of_getElem? (i := 30) rfl))) (mvT hZ (hw _ (List.mem_of_getElem? (i := 31) rfl))) (notFace_of_selects (args := #[]) (mvT hZ (hw _ (List.mem_of_getElem? (i := 33) rfl)))) (mvT hZ (hw _ (List.mem_of_getElem? (i := 33) rfl))) (mvT hZ (hw _ (List.mem_of_getElem? (i := 32) rfl))) (by decide) (backOf (W := 0) (rm4 l Z a0 hw [] b10 (v0_2 pf) pa sa (1 : Int32) (-1 : Int32) (nar .boolean (v0_1 pf)) (.int (0 : Int32)) (.int (0 : Int32)) (.int (109 : Int32)) ka (setI (setI (setI (List.replicate (32 : Int32).toNatClampNeg 0) (0 : Int32) (-1 : Int32)) (1 : Int32) (-1 : Int32)) (0 : Int32) (-1 : Int32)) kb (setI (setI (setI (List.replicate (32 : Int32).toNatClampNeg 0) (0 : Int32) (nar .boolean (0 : Int32))) (1 : Int32) (nar .boolean (nar .boolean (1 : Int32)))) (0 : Int32) (nar .boolean (0 : Int32))) T22.heap n0 Z22 (((((((A10.keep Kq11).keep Kq12).keep Kq13).keep Kq14).keep Kq15).keep Kq22)) g_b10 (Fq22_0) (Fq22_1) (Fq22_2) (Fq22_3) (Fq22_4) (Fq22_5) (Fq22_6) (Fq22_7) (Vq22_0) g_pa (Vq22_1) g_sa (ne1) (ne2) (ne3) (by decide)) hZ (hw _ (List.mem_of_getElem? (i := 34) rfl)) (hw _ (List.mem_of_getElem? (i := 2) rfl)) (by decide) (by decide)) q34a q34c (g := (mkF m 94 #[.val (.int pn), .val (.int pf), .val (.int (pn &&& (3 : Int32))), .val (.int (v0_1 pf)), .val (.int (v0_2 pf)), .val (.int (v0_3 pf)), .val (.ref b10), .unset] [(.int (v0_2 pf)), (.ref b10)])) rfl (by rw [hml]; rfl) (Steps.refl _) (argsL := [(.int (v0_2 pf))]) (rest := []) (lenOf pd_0 rfl) rfl (by show 2 * 0 + _ ≤ _; exact Nat.le_of_eq rfl) (hb hby at_94) (fun _ _ => ⟨rfl, rfl, (by decide : 3 + 0 ≤ _), (by decide : 72 + 0 ≤ _)⟩)
      dsimp only [Pt.U, Pt.locs, Pt.cells, Pt.slots] at X34 l34 y34 z34 st34 hQ34
      subst l34 y34 z34
      obtain ⟨rfl, N34q, Kq34, Fq34_0, Fq34_1, Fq34_2, Fq34_3, Fq34_4, Fq34_5, Fq34_6, Fq34_7, Vq34_0, Vq34_1⟩ := hQ34
      have N34 := Fr.app N22 N34q
      have Z34 : n0 ≤ T34.heap.size := Nat.le_trans Z22 Kq34.1
      have K34 : Keep h0 T34.heap [] := (K22).trans Kq34 (allS (Or.inr sz_b10) (allS (Or.inr sz_pa) (allS (Or.inr sz_sa) all0)))
      have Fq34_2 : Fld Z T34.heap b10 "com/example/glowcursor/glowcursor/parser/ControlSequence" "count" "I" (.int (2 : Int32)) := Fq34_2
      have pre35 : ∀ t, Steps p.tables e below (T34.setTop (mkF m 99 #[.val (.int pn), .val (.int pf), .val (.int (pn &&& (3 : Int32))), .val (.int (v0_1 pf)), .val (.int (v0_2 pf)), .val (.int (v0_3 pf)), .val (.ref b10), .unset] [(.int (3 : Int32)), (.int (pn &&& (3 : Int32)))])) t → Steps p.tables e below (s₁.setTop (entryFrame m #[(.int pn), (.int pf)] maxLocals)) t := fun t k => pre23 t (by
        show Steps p.tables e below (T22.setTop (mkF m 87 #[.val (.int pn), .val (.int pf), .val (.int (pn &&& (3 : Int32))), .val (.int (v0_1 pf)), .val (.int (v0_2 pf)), .val (.int (v0_3 pf)), .val (.ref b10), .unset] [(.int (2 : Int32)), (.int (pn &&& (3 : Int32)))])) _
        refine XS.icmpNo X22.here hx rfl (hb hby at_87) rfl (flt hc87_24).1 ?_
        show Steps p.tables e below (T22.setTop (mkF m 90 #[.val (.int pn), .val (.int pf), .val (.int (pn &&& (3 : Int32))), .val (.int (v0_1 pf)), .val (.int (v0_2 pf)), .val (.int (v0_3 pf)), .val (.ref b10), .unset] [])) _
        refine XS.aload X22.here hx rfl (hb hby at_90) rfl rfl ?_
        show Steps p.tables e below (T22.setTop (mkF m 92 #[.val (.int pn), .val (.int pf), .val (.int (pn &&& (3 : Int32))), .val (.int (v0_1 pf)), .val (.int (v0_2 pf)), .val (.int (v0_3 pf)), .val (.ref b10), .unset] [(.ref b10)])) _
        refine XS.iload X22.here hx rfl (hb hby at_92) rfl ?_
        show Steps p.tables e below (T22.setTop (mkF m 94 #[.val (.int pn), .val (.int pf), .val (.int (pn &&& (3 : Int32))), .val (.int (v0_1 pf)), .val (.int (v0_2 pf)), .val (.int (v0_3 pf)), .val (.ref b10), .unset] [(.int (v0_2 pf)), (.ref b10)])) _
        refine st34.trans ?_
        show Steps p.tables e below (T34.setTop (mkF m 97 #[.val (.int pn), .val (.int pf), .val (.int (pn &&& (3 : Int32))), .val (.int (v0_1 pf)), .val (.int (v0_2 pf)), .val (.int (v0_3 pf)), .val (.ref b10), .unset] [])) _
        refine XS.iloadN X34.here hx rfl (hb hby at_97) rfl ?_
        show Steps p.tables e below (T34.setTop (mkF m 98 #[.val (.int pn), .val (.int pf), .val (.int (pn &&& (3 : Int32))), .val (.int (v0_1 pf)), .val (.int (v0_2 pf)), .val (.int (v0_3 pf)), .val (.ref b10), .unset] [(.int (pn &&& (3 : Int32)))])) _
        refine XS.iconst X34.here hx rfl (hb hby at_98) ?_
        show Steps p.tables e below (T34.setTop (mkF m 99 #[.val (.int pn), .val (.int pf), .val (.int (pn &&& (3 : Int32))), .val (.int (v0_1 pf)), .val (.int (v0_2 pf)), .val (.int (v0_3 pf)), .val (.ref b10), .unset] [(.int (3 : Int32)), (.int (pn &&& (3 : Int32)))])) _
        exact k)
      by_cases hc99_36 : (pn &&& (3 : Int32)) < (3 : Int32)
      · obtain ⟨cq37, kq37, q37a, q37b, q37c⟩ := isOf hZ rfl ((((((((A10.keep Kq11).keep Kq12).keep Kq13).keep Kq14).keep Kq15).keep Kq22).keep Kq34))
        obtain ⟨_, _, ⟨T37, L37, k37, n37⟩, -, X37, ⟨Lc37, hQ37, l37, y37, z37⟩, st37⟩ := X34.virtualBack hx (y := (⟨"com/example/glowcursor/glowcursor/parser/ControlSequence", "end", "(I)V"⟩ : MethodName)) (z := (⟨"com/example/glowcursor/glowcursor/parser/ControlSequence", "end", "(I)V"⟩ : MethodName)) hown (mvT hZ (hw _ (List.mem_of_getElem? (i := 35) rfl))) (mvT hZ (hw _ (List.mem_of_getElem? (i := 36) rfl))) (notFace_of_selects (args := #[]) (mvT hZ (hw _ (List.mem_of_getElem? (i := 38) rfl)))) (mvT hZ (hw _ (List.mem_of_getElem? (i := 38) rfl))) (mvT hZ (hw _ (List.mem_of_getElem? (i := 37) rfl))) (by decide) (backOf (W := 0) (rm5 l Z a0 hw [] b10 (109 : Int32) pa sa (2 : Int32) (-1 : Int32) (nar .boolean (v0_2 pf)) (.int (0 : Int32)) (.int (0 : Int32)) (.int (109 : Int32)) ka (setI (setI (setI (setI (List.replicate (32 : Int32).toNatClampNeg 0) (0 : Int32) (-1 : Int32)) (1 : Int32) (-1 : Int32)) (0 : Int32) (-1 : Int32)) (1 : Int32) (-1 : Int32)) kb (setI (setI (setI (setI (List.replicate (32 : Int32).toNatClampNeg 0) (0 : Int32) (nar .boolean (0 : Int32))) (1 : Int32) (nar .boolean (nar .boolean (1 : Int32)))) (0 : Int32) (nar .boolean (0 : Int32))) (1 : Int32) (nar .boolean (nar .boolean (v0_1 pf)))) T34.heap n0 Z34 ((((((((A10.keep Kq11).keep Kq12).keep Kq13).keep Kq14).keep Kq15).keep Kq22).keep Kq34)) g_b10 (Fq34_0) (Fq34_1) (Fq34_2) (Fq34_3) (Fq34_4) (Fq34_5) (Fq34_6) (Fq34_7) (Vq34_0) g_pa (Vq34_1) g_sa (ne1) (ne2) (ne3) (by decide)) hZ (hw _ (List.mem_of_getElem? (i := 39) rfl)) (hw _ (List.mem_of_getElem? (i := 2) rfl)) (by decide) (by decide)) q37a q37c (g := (mkF m 113 #[.val (.int pn), .val (.int pf), .val (.int (pn &&& (3 : Int32))), .val (.int (v0_1 pf)), .val (.int (v0_2 pf)), .val (.int (v0_3 pf)), .val (.ref b10), .unset] [(.int (109 : Int32)), (.ref b10)])) rfl (by rw [hml]; rfl) (Steps.refl _) (argsL := [(.int (109 : Int32))]) (rest := []) (lenOf pd_2 rfl) rfl (by show 2 * 0 + _ ≤ _; exact Nat.le_of_eq rfl) (hb hby at_113) (fun _ _ => ⟨rfl, rfl, (by decide : 3 + 0 ≤ _), (by decide : 72 + 0 ≤ _)⟩)
        dsimp only [Pt.U, Pt.locs, Pt.cells, Pt.slots] at X37 l37 y37 z37 st37 hQ37
        subst l37 y37 z37
        obtain ⟨rfl, N37q, Kq37, Fq37_0, Fq37_1, Fq37_2, Fq37_3, Fq37_4, Fq37_5, Fq37_6, Fq37_7, Vq37_0, Vq37_1⟩ := hQ37
        have N37 := Fr.app N34 N37q
        have Z37 : n0 ≤ T37.heap.size := Nat.le_trans Z34 Kq37.1
        have K37 : Keep h0 T37.heap [] := (K34).trans Kq37 (allS (Or.inr sz_b10) (allS (Or.inr sz_pa) (allS (Or.inr sz_sa) all0)))
        have Fq37_2 : Fld Z T37.heap b10 "com/example/glowcursor/glowcursor/parser/ControlSequence" "count" "I" (.int (3 : Int32)) := Fq37_2
        have pre38 : ∀ t, Steps p.tables e below (T37.setTop (mkF m 122 #[.val (.int pn), .val (.int pf), .val (.int (pn &&& (3 : Int32))), .val (.int (v0_1 pf)), .val (.int (v0_2 pf)), .val (.int (v0_3 pf)), .val (.ref b10), .unset] [(.int (v0_1 pf))])) t → Steps p.tables e below (s₁.setTop (entryFrame m #[(.int pn), (.int pf)] maxLocals)) t := fun t k => pre35 t (by
          show Steps p.tables e below (T34.setTop (mkF m 99 #[.val (.int pn), .val (.int pf), .val (.int (pn &&& (3 : Int32))), .val (.int (v0_1 pf)), .val (.int (v0_2 pf)), .val (.int (v0_3 pf)), .val (.ref b10), .unset] [(.int (3 : Int32)), (.int (pn &&& (3 : Int32)))])) _
          refine XS.icmpYes X34.here hx rfl (pc0 := 99) (pc' := 109) rfl (hb hby at_99) rfl (tlt hc99_36).1 (by decide) (by decide) ?_
          show Steps p.tables e below (T34.setTop (mkF m 109 #[.val (.int pn), .val (.int pf), .val (.int (pn &&& (3 : Int32))), .val (.int (v0_1 pf)), .val (.int (v0_2 pf)), .val (.int (v0_3 pf)), .val (.ref b10), .unset] [])) _
          refine XS.aload X34.here hx rfl (hb hby at_109) rfl rfl ?_
          show Steps p.tables e below (T34.setTop (mkF m 111 #[.val (.int pn), .val (.int pf), .val (.int (pn &&& (3 : Int32))), .val (.int (v0_1 pf)), .val (.int (v0_2 pf)), .val (.int (v0_3 pf)), .val (.ref b10), .unset] [(.ref b10)])) _
          refine XS.bipush X34.here hx rfl (hb hby at_111) ?_
          show Steps p.tables e below (T34.setTop (mkF m 113 #[.val (.int pn), .val (.int pf), .val (.int (pn &&& (3 : Int32))), .val (.int (v0_1 pf)), .val (.int (v0_2 pf)), .val (.int (v0_3 pf)), .val (.ref b10), .unset] [(.int (109 : Int32)), (.ref b10)])) _
          refine st37.trans ?_
          show Steps p.tables e below (T37.setTop (mkF m 116 #[.val (.int pn), .val (.int pf), .val (.int (pn &&& (3 : Int32))), .val (.int (v0_1 pf)), .val (.int (v0_2 pf)), .val (.int (v0_3 pf)), .val (.ref b10), .unset] [])) _
          refine XS.iloadN X37.here hx rfl (hb hby at_116) rfl ?_
          show Steps p.tables e below (T37.setTop (mkF m 117 #[.val (.int pn), .val (.int pf), .val (.int (pn &&& (3 : Int32))), .val (.int (v0_1 pf)), .val (.int (v0_2 pf)), .val (.int (v0_3 pf)), .val (.ref b10), .unset] [(.int (pn &&& (3 : Int32)))])) _
          refine XS.iconst X37.here hx rfl (hb hby at_117) ?_
          show Steps p.tables e below (T37.setTop (mkF m 118 #[.val (.int pn), .val (.int pf), .val (.int (pn &&& (3 : Int32))), .val (.int (v0_1 pf)), .val (.int (v0_2 pf)), .val (.int (v0_3 pf)), .val (.ref b10), .unset] [(.int (1 : Int32)), (.int (pn &&& (3 : Int32)))])) _
          refine XS.icmpNo X37.here hx rfl (hb hby at_118) rfl (flt hc76_17).1 ?_
          show Steps p.tables e below (T37.setTop (mkF m 121 #[.val (.int pn), .val (.int pf), .val (.int (pn &&& (3 : Int32))), .val (.int (v0_1 pf)), .val (.int (v0_2 pf)), .val (.int (v0_3 pf)), .val (.ref b10), .unset] [])) _
          refine XS.iloadN X37.here hx rfl (hb hby at_121) rfl ?_
          show Steps p.tables e below (T37.setTop (mkF m 122 #[.val (.int pn), .val (.int pf), .val (.int (pn &&& (3 : Int32))), .val (.int (v0_1 pf)), .val (.int (v0_2 pf)), .val (.int (v0_3 pf)), .val (.ref b10), .unset] [(.int (v0_1 pf))])) _
          exact k)
        have pre41 : ∀ t, Steps p.tables e below (T37.setTop (mkF m 150 #[.val (.int pn), .val (.int pf), .val (.int (pn &&& (3 : Int32))), .val (.int (v0_1 pf)), .val (.int (v0_2 pf)), .val (.int (v0_3 pf)), .val (.ref b10), .unset] [(.int (if (v0_1 pf) = (0 : Int32) then (if (v0_2 pf) = (0 : Int32) then (0 : Int32) else (1 : Int32)) else (1 : Int32)))])) t → Steps p.tables e below (s₁.setTop (entryFrame m #[(.int pn), (.int pf)] maxLocals)) t := fun t k => pre38 t (by
          show Steps p.tables e below (T37.setTop (mkF m 122 #[.val (.int pn), .val (.int pf), .val (.int (pn &&& (3 : Int32))), .val (.int (v0_1 pf)), .val (.int (v0_2 pf)), .val (.int (v0_3 pf)), .val (.ref b10), .unset] [(.int (v0_1 pf))])) _
          by_cases hd122_39 : (v0_1 pf) = (0 : Int32)
          · try simp only [if_pos hd122_39] at k
            show Steps p.tables e below (T37.setTop (mkF m 122 #[.val (.int pn), .val (.int pf), .val (.int (pn &&& (3 : Int32))), .val (.int (v0_1 pf)), .val (.int (v0_2 pf)), .val (.int (v0_3 pf)), .val (.ref b10), .unset] [(.int (v0_1 pf))])) _
            refine XS.ifNo X37.here hx rfl (hb hby at_122) rfl ((if0 _ _).trans (teq hd122_39).2) ?_
            show Steps p.tables e below (T37.setTop (mkF m 125 #[.val (.int pn), .val (.int pf), .val (.int (pn &&& (3 : Int32))), .val (.int (v0_1 pf)), .val (.int (v0_2 pf)), .val (.int (v0_3 pf)), .val (.ref b10), .unset] [])) _
            refine XS.iloadN X37.here hx rfl (hb hby at_125) rfl ?_
            show Steps p.tables e below (T37.setTop (mkF m 126 #[.val (.int pn), .val (.int pf), .val (.int (pn &&& (3 : Int32))), .val (.int (v0_1 pf)), .val (.int (v0_2 pf)), .val (.int (v0_3 pf)), .val (.ref b10), .unset] [(.int (pn &&& (3 : Int32)))])) _
            refine XS.iconst X37.here hx rfl (hb hby at_126) ?_
            show Steps p.tables e below (T37.setTop (mkF m 127 #[.val (.int pn), .val (.int pf), .val (.int (pn &&& (3 : Int32))), .val (.int (v0_1 pf)), .val (.int (v0_2 pf)), .val (.int (v0_3 pf)), .val (.ref b10), .unset] [(.int (2 : Int32)), (.int (pn &&& (3 : Int32)))])) _
            refine XS.icmpNo X37.here hx rfl (hb hby at_127) rfl (flt hc87_24).1 ?_
            show Steps p.tables e below (T37.setTop (mkF m 130 #[.val (.int pn), .val (.int pf), .val (.int (pn &&& (3 : Int32))), .val (.int (v0_1 pf)), .val (.int (v0_2 pf)), .val (.int (v0_3 pf)), .val (.ref b10), .unset] [])) _
            refine XS.iload X37.here hx rfl (hb hby at_130) rfl ?_
            show Steps p.tables e below (T37.setTop (mkF m 132 #[.val (.int pn), .val (.int pf), .val (.int (pn &&& (3 : Int32))), .val (.int (v0_1 pf)), .val (.int (v0_2 pf)), .val (.int (v0_3 pf)), .val (.ref b10), .unset] [(.int (v0_2 pf))])) _
            by_cases hd132_40 : (v0_2 pf) = (0 : Int32)
            · try simp only [if_pos hd132_40] at k
              show Steps p.tables e below (T37.setTop (mkF m 132 #[.val (.int pn), .val (.int pf), .val (.int (pn &&& (3 : Int32))), .val (.int (v0_1 pf)), .val (.int (v0_2 pf)), .val (.int (v0_3 pf)), .val (.ref b10), .unset] [(.int (v0_2 pf))])) _
              refine XS.ifNo X37.here hx rfl (hb hby at_132) rfl ((if0 _ _).trans (teq hd132_40).2) ?_
              show Steps p.tables e below (T37.setTop (mkF m 135 #[.val (.int pn), .val (.int pf), .val (.int (pn &&& (3 : Int32))), .val (.int (v0_1 pf)), .val (.int (v0_2 pf)), .val (.int (v0_3 pf)), .val (.ref b10), .unset] [])) _
              refine XS.iloadN X37.here hx rfl (hb hby at_135) rfl ?_
              show Steps p.tables e below (T37.setTop (mkF m 136 #[.val (.int pn), .val (.int pf), .val (.int (pn &&& (3 : Int32))), .val (.int (v0_1 pf)), .val (.int (v0_2 pf)), .val (.int (v0_3 pf)), .val (.ref b10), .unset] [(.int (pn &&& (3 : Int32)))])) _
              refine XS.iconst X37.here hx rfl (hb hby at_136) ?_
              show Steps p.tables e below (T37.setTop (mkF m 137 #[.val (.int pn), .val (.int pf), .val (.int (pn &&& (3 : Int32))), .val (.int (v0_1 pf)), .val (.int (v0_2 pf)), .val (.int (v0_3 pf)), .val (.ref b10), .unset] [(.int (3 : Int32)), (.int (pn &&& (3 : Int32)))])) _
              refine XS.icmpYes X37.here hx rfl (pc0 := 137) (pc' := 149) rfl (hb hby at_137) rfl (tlt hc99_36).1 (by decide) (by decide) ?_
              show Steps p.tables e below (T37.setTop (mkF m 149 #[.val (.int pn), .val (.int pf), .val (.int (pn &&& (3 : Int32))), .val (.int (v0_1 pf)), .val (.int (v0_2 pf)), .val (.int (v0_3 pf)), .val (.ref b10), .unset] [])) _
              refine XS.iconst X37.here hx rfl (hb hby at_149) ?_
              exact k
            · try simp only [if_neg hd132_40] at k
              show Steps p.tables e below (T37.setTop (mkF m 132 #[.val (.int pn), .val (.int pf), .val (.int (pn &&& (3 : Int32))), .val (.int (v0_1 pf)), .val (.int (v0_2 pf)), .val (.int (v0_3 pf)), .val (.ref b10), .unset] [(.int (v0_2 pf))])) _
              refine XS.ifYes X37.here hx rfl (pc0 := 132) (pc' := 145) rfl (hb hby at_132) rfl ((if0 _ _).trans (feq hd132_40).2) (by decide) (by decide) ?_
              show Steps p.tables e below (T37.setTop (mkF m 145 #[.val (.int pn), .val (.int pf), .val (.int (pn &&& (3 : Int32))), .val (.int (v0_1 pf)), .val (.int (v0_2 pf)), .val (.int (v0_3 pf)), .val (.ref b10), .unset] [])) _
              refine XS.iconst X37.here hx rfl (hb hby at_145) ?_
              show Steps p.tables e below (T37.setTop (mkF m 146 #[.val (.int pn), .val (.int pf), .val (.int (pn &&& (3 : Int32))), .val (.int (v0_1 pf)), .val (.int (v0_2 pf)), .val (.int (v0_3 pf)), .val (.ref b10), .unset] [(.int (1 : Int32))])) _
              refine XS.goto X37.here hx rfl (pc0 := 146) (pc' := 150) rfl (hb hby at_146) (by decide) (by decide) ?_
              exact k
          · try simp only [if_neg hd122_39] at k
            show Steps p.tables e below (T37.setTop (mkF m 122 #[.val (.int pn), .val (.int pf), .val (.int (pn &&& (3 : Int32))), .val (.int (v0_1 pf)), .val (.int (v0_2 pf)), .val (.int (v0_3 pf)), .val (.ref b10), .unset] [(.int (v0_1 pf))])) _
            refine XS.ifYes X37.here hx rfl (pc0 := 122) (pc' := 145) rfl (hb hby at_122) rfl ((if0 _ _).trans (feq hd122_39).2) (by decide) (by decide) ?_
            show Steps p.tables e below (T37.setTop (mkF m 145 #[.val (.int pn), .val (.int pf), .val (.int (pn &&& (3 : Int32))), .val (.int (v0_1 pf)), .val (.int (v0_2 pf)), .val (.int (v0_3 pf)), .val (.ref b10), .unset] [])) _
            refine XS.iconst X37.here hx rfl (hb hby at_145) ?_
            show Steps p.tables e below (T37.setTop (mkF m 146 #[.val (.int pn), .val (.int pf), .val (.int (pn &&& (3 : Int32))), .val (.int (v0_1 pf)), .val (.int (v0_2 pf)), .val (.int (v0_3 pf)), .val (.ref b10), .unset] [(.int (1 : Int32))])) _
            refine XS.goto X37.here hx rfl (pc0 := 146) (pc' := 150) rfl (hb hby at_146) (by decide) (by decide) ?_
            exact k
          )
        obtain ⟨cq42, kq42, q42a, q42b, q42c⟩ := isOf hZ rfl (((((((((A10.keep Kq11).keep Kq12).keep Kq13).keep Kq14).keep Kq15).keep Kq22).keep Kq34).keep Kq37))
        obtain ⟨_, _, ⟨T42, L42, k42, n42⟩, -, X42, ⟨Lc42, hQ42, l42, y42, z42⟩, st42⟩ := X37.virtualBack hx (y := (⟨"com/example/glowcursor/glowcursor/parser/ControlSequence", "hasSubParameters", "()Z"⟩ : MethodName)) (z := (⟨"com/example/glowcursor/glowcursor/parser/ControlSequence", "hasSubParameters", "()Z"⟩ : MethodName)) hown (mvT hZ (hw _ (List.mem_of_getElem? (i := 43) rfl))) (mvT hZ (hw _ (List.mem_of_getElem? (i := 44) rfl))) (notFace_of_selects (args := #[]) (mvT hZ (hw _ (List.mem_of_getElem? (i := 46) rfl)))) (mvT hZ (hw _ (List.mem_of_getElem? (i := 46) rfl))) (mvT hZ (hw _ (List.mem_of_getElem? (i := 45) rfl))) (by decide) (backOf (W := 0) (rm6c3 l Z a0 hw [] b10 sa kb (setI (setI (setI (setI (setI (List.replicate (32 : Int32).toNatClampNeg 0) (0 : Int32) (nar .boolean (0 : Int32))) (1 : Int32) (nar .boolean (nar .boolean (1 : Int32)))) (0 : Int32) (nar .boolean (0 : Int32))) (1 : Int32) (nar .boolean (nar .boolean (v0_1 pf)))) (2 : Int32) (nar .boolean (nar .boolean (v0_2 pf)))) T37.heap n0 Z37 (((((((((A10.keep Kq11).keep Kq12).keep Kq13).keep Kq14).keep Kq15).keep Kq22).keep Kq34).keep Kq37)) (Fq37_2) (Fq37_1) (Vq37_1)) hZ (hw _ (List.mem_of_getElem? (i := 47) rfl)) (hw _ (List.mem_of_getElem? (i := 2) rfl)) (by decide) (by decide)) q42a q42c (g := (mkF m 154 #[.val (.int pn), .val (.int pf), .val (.int (pn &&& (3 : Int32))), .val (.int (v0_1 pf)), .val (.int (v0_2 pf)), .val (.int (v0_3 pf)), .val (.ref b10), .val (.int (v0_7 pf))] [(.ref b10)])) rfl (by rw [hml]; rfl) (Steps.refl _) (argsL := []) (rest := []) (lenOf pd_3 rfl) rfl (by show 2 * 0 + _ ≤ _; exact Nat.le_of_eq rfl) (hb hby at_154) (fun _ _ => ⟨rfl, rfl, (by decide : 3 + 0 ≤ _), (by decide : 72 + 0 ≤ _)⟩)
        dsimp only [Pt.U, Pt.locs, Pt.cells, Pt.slots] at X42 l42 y42 z42 st42 hQ42
        subst l42 y42 z42
        obtain ⟨rfl, N42q, e42⟩ := hQ42
        have N42 := Fr.app N37 N42q
        have pre43 : ∀ t, Steps p.tables e below (T42.setTop (mkF m 159 #[.val (.int pn), .val (.int pf), .val (.int (pn &&& (3 : Int32))), .val (.int (v0_1 pf)), .val (.int (v0_2 pf)), .val (.int (v0_3 pf)), .val (.ref b10), .val (.int (v0_7 pf))] [(.int (v0_7 pf)), (.int (v0_8 pf))])) t → Steps p.tables e below (s₁.setTop (entryFrame m #[(.int pn), (.int pf)] maxLocals)) t := fun t k => pre41 t (by
          show Steps p.tables e below (T37.setTop (mkF m 150 #[.val (.int pn), .val (.int pf), .val (.int (pn &&& (3 : Int32))), .val (.int (v0_1 pf)), .val (.int (v0_2 pf)), .val (.int (v0_3 pf)), .val (.ref b10), .unset] [(.int (v0_7 pf))])) _
          refine XS.istore X37.here hx rfl (hb hby at_150) rfl (l' := #[.val (.int pn), .val (.int pf), .val (.int (pn &&& (3 : Int32))), .val (.int (v0_1 pf)), .val (.int (v0_2 pf)), .val (.int (v0_3 pf)), .val (.ref b10), .val (.int (v0_7 pf))]) rfl ?_
          show Steps p.tables e below (T37.setTop (mkF m 152 #[.val (.int pn), .val (.int pf), .val (.int (pn &&& (3 : Int32))), .val (.int (v0_1 pf)), .val (.int (v0_2 pf)), .val (.int (v0_3 pf)), .val (.ref b10), .val (.int (v0_7 pf))] [])) _
          refine XS.aload X37.here hx rfl (hb hby at_152) rfl rfl ?_
          show Steps p.tables e below (T37.setTop (mkF m 154 #[.val (.int pn), .val (.int pf), .val (.int (pn &&& (3 : Int32))), .val (.int (v0_1 pf)), .val (.int (v0_2 pf)), .val (.int (v0_3 pf)), .val (.ref b10), .val (.int (v0_7 pf))] [(.ref b10)])) _
          refine st42.trans ?_
          show Steps p.tables e below (T42.setTop (mkF m 157 #[.val (.int pn), .val (.int pf), .val (.int (pn &&& (3 : Int32))), .val (.int (v0_1 pf)), .val (.int (v0_2 pf)), .val (.int (v0_3 pf)), .val (.ref b10), .val (.int (v0_7 pf))] [(.int (v0_8 pf))])) _
          refine XS.iload X42.here hx rfl (hb hby at_157) rfl ?_
          show Steps p.tables e below (T42.setTop (mkF m 159 #[.val (.int pn), .val (.int pf), .val (.int (pn &&& (3 : Int32))), .val (.int (v0_1 pf)), .val (.int (v0_2 pf)), .val (.int (v0_3 pf)), .val (.ref b10), .val (.int (v0_7 pf))] [(.int (v0_7 pf)), (.int (v0_8 pf))])) _
          exact k)
        by_cases hc159_44 : (v0_8 pf) = (v0_7 pf)
        · have hv : (f0 pn pf) = (1 : Int32) := by simp only [f0, if_neg hc76_17, if_neg hc87_24, if_pos hc99_36, if_pos hc159_44]
          obtain ⟨fs, hr, hrun, hended, hW, hsame⟩ := X42.leave (v := some (.int (1 : Int32))) (fun h => by rw [Bd.returns] at h; cases h)
          refine ⟨_, _, pre43 _ ?_, hrun, hended, _, _, rfl, ?_, ⟨_, rfl⟩, hW, hsame.mono (by decide) (by decide)⟩
          · show Steps p.tables e below (T42.setTop (mkF m 159 #[.val (.int pn), .val (.int pf), .val (.int (pn &&& (3 : Int32))), .val (.int (v0_1 pf)), .val (.int (v0_2 pf)), .val (.int (v0_3 pf)), .val (.ref b10), .val (.int (v0_7 pf))] [(.int (v0_7 pf)), (.int (v0_8 pf))])) _
            refine XS.icmpNo X42.here hx rfl (hb hby at_159) rfl (teq hc159_44).2 ?_
            show Steps p.tables e below (T42.setTop (mkF m 162 #[.val (.int pn), .val (.int pf), .val (.int (pn &&& (3 : Int32))), .val (.int (v0_1 pf)), .val (.int (v0_2 pf)), .val (.int (v0_3 pf)), .val (.ref b10), .val (.int (v0_7 pf))] [])) _
            refine XS.iconst X42.here hx rfl (hb hby at_162) ?_
            show Steps p.tables e below (T42.setTop (mkF m 163 #[.val (.int pn), .val (.int pf), .val (.int (pn &&& (3 : Int32))), .val (.int (v0_1 pf)), .val (.int (v0_2 pf)), .val (.int (v0_3 pf)), .val (.ref b10), .val (.int (v0_7 pf))] [(.int (1 : Int32))])) _
            refine XS.goto X42.here hx rfl (pc0 := 163) (pc' := 167) rfl (hb hby at_163) (by decide) (by decide) ?_
            show Steps p.tables e below (T42.setTop (mkF m 167 #[.val (.int pn), .val (.int pf), .val (.int (pn &&& (3 : Int32))), .val (.int (v0_1 pf)), .val (.int (v0_2 pf)), .val (.int (v0_3 pf)), .val (.ref b10), .val (.int (v0_7 pf))] [(.int (1 : Int32))])) _
            exact retN X42 hx (t := .boolean) Bd.returns (by simp) (hb hby at_167) hr
          · show Q0 Z pn pf h0 n0 _ T42.heap _
            rw [e42]
            exact ⟨by rw [hv], N42⟩
        · have hv : (f0 pn pf) = (0 : Int32) := by simp only [f0, if_neg hc76_17, if_neg hc87_24, if_pos hc99_36, if_neg hc159_44]
          obtain ⟨fs, hr, hrun, hended, hW, hsame⟩ := X42.leave (v := some (.int (0 : Int32))) (fun h => by rw [Bd.returns] at h; cases h)
          refine ⟨_, _, pre43 _ ?_, hrun, hended, _, _, rfl, ?_, ⟨_, rfl⟩, hW, hsame.mono (by decide) (by decide)⟩
          · show Steps p.tables e below (T42.setTop (mkF m 159 #[.val (.int pn), .val (.int pf), .val (.int (pn &&& (3 : Int32))), .val (.int (v0_1 pf)), .val (.int (v0_2 pf)), .val (.int (v0_3 pf)), .val (.ref b10), .val (.int (v0_7 pf))] [(.int (v0_7 pf)), (.int (v0_8 pf))])) _
            refine XS.icmpYes X42.here hx rfl (pc0 := 159) (pc' := 166) rfl (hb hby at_159) rfl (feq hc159_44).2 (by decide) (by decide) ?_
            show Steps p.tables e below (T42.setTop (mkF m 166 #[.val (.int pn), .val (.int pf), .val (.int (pn &&& (3 : Int32))), .val (.int (v0_1 pf)), .val (.int (v0_2 pf)), .val (.int (v0_3 pf)), .val (.ref b10), .val (.int (v0_7 pf))] [])) _
            refine XS.iconst X42.here hx rfl (hb hby at_166) ?_
            show Steps p.tables e below (T42.setTop (mkF m 167 #[.val (.int pn), .val (.int pf), .val (.int (pn &&& (3 : Int32))), .val (.int (v0_1 pf)), .val (.int (v0_2 pf)), .val (.int (v0_3 pf)), .val (.ref b10), .val (.int (v0_7 pf))] [(.int (0 : Int32))])) _
            exact retN X42 hx (t := .boolean) Bd.returns (by simp) (hb hby at_167) hr
          · show Q0 Z pn pf h0 n0 _ T42.heap _
            rw [e42]
            exact ⟨by rw [hv], N42⟩
      · obtain ⟨cq45, kq45, q45a, q45b, q45c⟩ := isOf hZ rfl ((((((((A10.keep Kq11).keep Kq12).keep Kq13).keep Kq14).keep Kq15).keep Kq22).keep Kq34))
        obtain ⟨_, _, ⟨T45, L45, k45, n45⟩, -, X45, ⟨Lc45, hQ45, l45, y45, z45⟩, st45⟩ := X34.virtualBack hx (y := (⟨"com/example/glowcursor/glowcursor/parser/ControlSequence", "endParameter", "(Z)V"⟩ : MethodName)) (z := (⟨"com/example/glowcursor/glowcursor/parser/ControlSequence", "endParameter", "(Z)V"⟩ : MethodName)) hown (mvT hZ (hw _ (List.mem_of_getElem? (i := 30) rfl))) (mvT hZ (hw _ (List.mem_of_getElem? (i := 31) rfl))) (notFace_of_selects (args := #[]) (mvT hZ (hw _ (List.mem_of_getElem? (i := 33) rfl)))) (mvT hZ (hw _ (List.mem_of_getElem? (i := 33) rfl))) (mvT hZ (hw _ (List.mem_of_getElem? (i := 32) rfl))) (by decide) (backOf (W := 0) (rm4 l Z a0 hw [] b10 (v0_3 pf) pa sa (2 : Int32) (-1 : Int32) (nar .boolean (v0_2 pf)) (.int (0 : Int32)) (.int (0 : Int32)) (.int (109 : Int32)) ka (setI (setI (setI (setI (List.replicate (32 : Int32).toNatClampNeg 0) (0 : Int32) (-1 : Int32)) (1 : Int32) (-1 : Int32)) (0 : Int32) (-1 : Int32)) (1 : Int32) (-1 : Int32)) kb (setI (setI (setI (setI (List.replicate (32 : Int32).toNatClampNeg 0) (0 : Int32) (nar .boolean (0 : Int32))) (1 : Int32) (nar .boolean (nar .boolean (1 : Int32)))) (0 : Int32) (nar .boolean (0 : Int32))) (1 : Int32) (nar .boolean (nar .boolean (v0_1 pf)))) T34.heap n0 Z34 ((((((((A10.keep Kq11).keep Kq12).keep Kq13).keep Kq14).keep Kq15).keep Kq22).keep Kq34)) g_b10 (Fq34_0) (Fq34_1) (Fq34_2) (Fq34_3) (Fq34_4) (Fq34_5) (Fq34_6) (Fq34_7) (Vq34_0) g_pa (Vq34_1) g_sa (ne1) (ne2) (ne3) (by decide)) hZ (hw _ (List.mem_of_getElem? (i := 34) rfl)) (hw _ (List.mem_of_getElem? (i := 2) rfl)) (by decide) (by decide)) q45a q45c (g := (mkF m 106 #[.val (.int pn), .val (.int pf), .val (.int (pn &&& (3 : Int32))), .val (.int (v0_1 pf)), .val (.int (v0_2 pf)), .val (.int (v0_3 pf)), .val (.ref b10), .unset] [(.int (v0_3 pf)), (.ref b10)])) rfl (by rw [hml]; rfl) (Steps.refl _) (argsL := [(.int (v0_3 pf))]) (rest := []) (lenOf pd_0 rfl) rfl (by show 2 * 0 + _ ≤ _; exact Nat.le_of_eq rfl) (hb hby at_106) (fun _ _ => ⟨rfl, rfl, (by decide : 3 + 0 ≤ _), (by decide : 72 + 0 ≤ _)⟩)
        dsimp only [Pt.U, Pt.locs, Pt.cells, Pt.slots] at X45 l45 y45 z45 st45 hQ45
        subst l45 y45 z45
        obtain ⟨rfl, N45q, Kq45, Fq45_0, Fq45_1, Fq45_2, Fq45_3, Fq45_4, Fq45_5, Fq45_6, Fq45_7, Vq45_0, Vq45_1⟩ := hQ45
        have N45 := Fr.app N34 N45q
        have Z45 : n0 ≤ T45.heap.size := Nat.le_trans Z34 Kq45.1
        have K45 : Keep h0 T45.heap [] := (K34).trans Kq45 (allS (Or.inr sz_b10) (allS (Or.inr sz_pa) (allS (Or.inr sz_sa) all0)))
        have Fq45_2 : Fld Z T45.heap b10 "com/example/glowcursor/glowcursor/parser/ControlSequence" "count" "I" (.int (3 : Int32)) := Fq45_2
        obtain ⟨cq46, kq46, q46a, q46b, q46c⟩ := isOf hZ rfl (((((((((A10.keep Kq11).keep Kq12).keep Kq13).keep Kq14).keep Kq15).keep Kq22).keep Kq34).keep Kq45))
        obtain ⟨_, _, ⟨T46, L46, k46, n46⟩, -, X46, ⟨Lc46, hQ46, l46, y46, z46⟩, st46⟩ := X45.virtualBack hx (y := (⟨"com/example/glowcursor/glowcursor/parser/ControlSequence", "end", "(I)V"⟩ : MethodName)) (z := (⟨"com/example/glowcursor/glowcursor/parser/ControlSequence", "end", "(I)V"⟩ : MethodName)) hown (mvT hZ (hw _ (List.mem_of_getElem? (i := 35) rfl))) (mvT hZ (hw _ (List.mem_of_getElem? (i := 36) rfl))) (notFace_of_selects (args := #[]) (mvT hZ (hw _ (List.mem_of_getElem? (i := 38) rfl)))) (mvT hZ (hw _ (List.mem_of_getElem? (i := 38) rfl))) (mvT hZ (hw _ (List.mem_of_getElem? (i := 37) rfl))) (by decide) (backOf (W := 0) (rm5 l Z a0 hw [] b10 (109 : Int32) pa sa (3 : Int32) (-1 : Int32) (nar .boolean (v0_3 pf)) (.int (0 : Int32)) (.int (0 : Int32)) (.int (109 : Int32)) ka (setI (setI (setI (setI (setI (List.replicate (32 : Int32).toNatClampNeg 0) (0 : Int32) (-1 : Int32)) (1 : Int32) (-1 : Int32)) (0 : Int32) (-1 : Int32)) (1 : Int32) (-1 : Int32)) (2 : Int32) (-1 : Int32)) kb (setI (setI (setI (setI (setI (List.replicate (32 : Int32).toNatClampNeg 0) (0 : Int32) (nar .boolean (0 : Int32))) (1 : Int32) (nar .boolean (nar .boolean (1 : Int32)))) (0 : Int32) (nar .boolean (0 : Int32))) (1 : Int32) (nar .boolean (nar .boolean (v0_1 pf)))) (2 : Int32) (nar .boolean (nar .boolean (v0_2 pf)))) T45.heap n0 Z45 (((((((((A10.keep Kq11).keep Kq12).keep Kq13).keep Kq14).keep Kq15).keep Kq22).keep Kq34).keep Kq45)) g_b10 (Fq45_0) (Fq45_1) (Fq45_2) (Fq45_3) (Fq45_4) (Fq45_5) (Fq45_6) (Fq45_7) (Vq45_0) g_pa (Vq45_1) g_sa (ne1) (ne2) (ne3) (by decide)) hZ (hw _ (List.mem_of_getElem? (i := 39) rfl)) (hw _ (List.mem_of_getElem? (i := 2) rfl)) (by decide) (by decide)) q46a q46c (g := (mkF m 113 #[.val (.int pn), .val (.int pf), .val (.int (pn &&& (3 : Int32))), .val (.int (v0_1 pf)), .val (.int (v0_2 pf)), .val (.int (v0_3 pf)), .val (.ref b10), .unset] [(.int (109 : Int32)), (.ref b10)])) rfl (by rw [hml]; rfl) (Steps.refl _) (argsL := [(.int (109 : Int32))]) (rest := []) (lenOf pd_2 rfl) rfl (by show 2 * 0 + _ ≤ _; exact Nat.le_of_eq rfl) (hb hby at_113) (fun _ _ => ⟨rfl, rfl, (by decide : 3 + 0 ≤ _), (by decide : 72 + 0 ≤ _)⟩)
        dsimp only [Pt.U, Pt.locs, Pt.cells, Pt.slots] at X46 l46 y46 z46 st46 hQ46
        subst l46 y46 z46
        obtain ⟨rfl, N46q, Kq46, Fq46_0, Fq46_1, Fq46_2, Fq46_3, Fq46_4, Fq46_5, Fq46_6, Fq46_7, Vq46_0, Vq46_1⟩ := hQ46
        have N46 := Fr.app N45 N46q
        have Z46 : n0 ≤ T46.heap.size := Nat.le_trans Z45 Kq46.1
        have K46 : Keep h0 T46.heap [] := (K45).trans Kq46 (allS (Or.inr sz_b10) (allS (Or.inr sz_pa) (allS (Or.inr sz_sa) all0)))
        have Fq46_2 : Fld Z T46.heap b10 "com/example/glowcursor/glowcursor/parser/ControlSequence" "count" "I" (.int (4 : Int32)) := Fq46_2
        have pre47 : ∀ t, Steps p.tables e below (T46.setTop (mkF m 122 #[.val (.int pn), .val (.int pf), .val (.int (pn &&& (3 : Int32))), .val (.int (v0_1 pf)), .val (.int (v0_2 pf)), .val (.int (v0_3 pf)), .val (.ref b10), .unset] [(.int (v0_1 pf))])) t → Steps p.tables e below (s₁.setTop (entryFrame m #[(.int pn), (.int pf)] maxLocals)) t := fun t k => pre35 t (by
          show Steps p.tables e below (T34.setTop (mkF m 99 #[.val (.int pn), .val (.int pf), .val (.int (pn &&& (3 : Int32))), .val (.int (v0_1 pf)), .val (.int (v0_2 pf)), .val (.int (v0_3 pf)), .val (.ref b10), .unset] [(.int (3 : Int32)), (.int (pn &&& (3 : Int32)))])) _
          refine XS.icmpNo X34.here hx rfl (hb hby at_99) rfl (flt hc99_36).1 ?_
          show Steps p.tables e below (T34.setTop (mkF m 102 #[.val (.int pn), .val (.int pf), .val (.int (pn &&& (3 : Int32))), .val (.int (v0_1 pf)), .val (.int (v0_2 pf)), .val (.int (v0_3 pf)), .val (.ref b10), .unset] [])) _
          refine XS.aload X34.here hx rfl (hb hby at_102) rfl rfl ?_
          show Steps p.tables e below (T34.setTop (mkF m 104 #[.val (.int pn), .val (.int pf), .val (.int (pn &&& (3 : Int32))), .val (.int (v0_1 pf)), .val (.int (v0_2 pf)), .val (.int (v0_3 pf)), .val (.ref b10), .unset] [(.ref b10)])) _
          refine XS.iload X34.here hx rfl (hb hby at_104) rfl ?_
          show Steps p.tables e below (T34.setTop (mkF m 106 #[.val (.int pn), .val (.int pf), .val (.int (pn &&& (3 : Int32))), .val (.int (v0_1 pf)), .val (.int (v0_2 pf)), .val (.int (v0_3 pf)), .val (.ref b10), .unset] [(.int (v0_3 pf)), (.ref b10)])) _
          refine st45.trans ?_
          show Steps p.tables e below (T45.setTop (mkF m 109 #[.val (.int pn), .val (.int pf), .val (.int (pn &&& (3 : Int32))), .val (.int (v0_1 pf)), .val (.int (v0_2 pf)), .val (.int (v0_3 pf)), .val (.ref b10), .unset] [])) _
          refine XS.aload X45.here hx rfl (hb hby at_109) rfl rfl ?_
          show Steps p.tables e below (T45.setTop (mkF m 111 #[.val (.int pn), .val (.int pf), .val (.int (pn &&& (3 : Int32))), .val (.int (v0_1 pf)), .val (.int (v0_2 pf)), .val (.int (v0_3 pf)), .val (.ref b10), .unset] [(.ref b10)])) _
          refine XS.bipush X45.here hx rfl (hb hby at_111) ?_
          show Steps p.tables e below (T45.setTop (mkF m 113 #[.val (.int pn), .val (.int pf), .val (.int (pn &&& (3 : Int32))), .val (.int (v0_1 pf)), .val (.int (v0_2 pf)), .val (.int (v0_3 pf)), .val (.ref b10), .unset] [(.int (109 : Int32)), (.ref b10)])) _
          refine st46.trans ?_
          show Steps p.tables e below (T46.setTop (mkF m 116 #[.val (.int pn), .val (.int pf), .val (.int (pn &&& (3 : Int32))), .val (.int (v0_1 pf)), .val (.int (v0_2 pf)), .val (.int (v0_3 pf)), .val (.ref b10), .unset] [])) _
          refine XS.iloadN X46.here hx rfl (hb hby at_116) rfl ?_
          show Steps p.tables e below (T46.setTop (mkF m 117 #[.val (.int pn), .val (.int pf), .val (.int (pn &&& (3 : Int32))), .val (.int (v0_1 pf)), .val (.int (v0_2 pf)), .val (.int (v0_3 pf)), .val (.ref b10), .unset] [(.int (pn &&& (3 : Int32)))])) _
          refine XS.iconst X46.here hx rfl (hb hby at_117) ?_
          show Steps p.tables e below (T46.setTop (mkF m 118 #[.val (.int pn), .val (.int pf), .val (.int (pn &&& (3 : Int32))), .val (.int (v0_1 pf)), .val (.int (v0_2 pf)), .val (.int (v0_3 pf)), .val (.ref b10), .unset] [(.int (1 : Int32)), (.int (pn &&& (3 : Int32)))])) _
          refine XS.icmpNo X46.here hx rfl (hb hby at_118) rfl (flt hc76_17).1 ?_
          show Steps p.tables e below (T46.setTop (mkF m 121 #[.val (.int pn), .val (.int pf), .val (.int (pn &&& (3 : Int32))), .val (.int (v0_1 pf)), .val (.int (v0_2 pf)), .val (.int (v0_3 pf)), .val (.ref b10), .unset] [])) _
          refine XS.iloadN X46.here hx rfl (hb hby at_121) rfl ?_
          show Steps p.tables e below (T46.setTop (mkF m 122 #[.val (.int pn), .val (.int pf), .val (.int (pn &&& (3 : Int32))), .val (.int (v0_1 pf)), .val (.int (v0_2 pf)), .val (.int (v0_3 pf)), .val (.ref b10), .unset] [(.int (v0_1 pf))])) _
          exact k)
        have pre51 : ∀ t, Steps p.tables e below (T46.setTop (mkF m 150 #[.val (.int pn), .val (.int pf), .val (.int (pn &&& (3 : Int32))), .val (.int (v0_1 pf)), .val (.int (v0_2 pf)), .val (.int (v0_3 pf)), .val (.ref b10), .unset] [(.int (if (v0_1 pf) = (0 : Int32) then (if (v0_2 pf) = (0 : Int32) then (if (v0_3 pf) = (0 : Int32) then (0 : Int32) else (1 : Int32)) else (1 : Int32)) else (1 : Int32)))])) t → Steps p.tables e below (s₁.setTop (entryFrame m #[(.int pn), (.int pf)] maxLocals)) t := fun t k => pre47 t (by
          show Steps p.tables e below (T46.setTop (mkF m 122 #[.val (.int pn), .val (.int pf), .val (.int (pn &&& (3 : Int32))), .val (.int (v0_1 pf)), .val (.int (v0_2 pf)), .val (.int (v0_3 pf)), .val (.ref b10), .unset] [(.int (v0_1 pf))])) _
          by_cases hd122_48 : (v0_1 pf) = (0 : Int32)
          · try simp only [if_pos hd122_48] at k
            show Steps p.tables e below (T46.setTop (mkF m 122 #[.val (.int pn), .val (.int pf), .val (.int (pn &&& (3 : Int32))), .val (.int (v0_1 pf)), .val (.int (v0_2 pf)), .val (.int (v0_3 pf)), .val (.ref b10), .unset] [(.int (v0_1 pf))])) _
            refine XS.ifNo X46.here hx rfl (hb hby at_122) rfl ((if0 _ _).trans (teq hd122_48).2) ?_
            show Steps p.tables e below (T46.setTop (mkF m 125 #[.val (.int pn), .val (.int pf), .val (.int (pn &&& (3 : Int32))), .val (.int (v0_1 pf)), .val (.int (v0_2 pf)), .val (.int (v0_3 pf)), .val (.ref b10), .unset] [])) _
            refine XS.iloadN X46.here hx rfl (hb hby at_125) rfl ?_
            show Steps p.tables e below (T46.setTop (mkF m 126 #[.val (.int pn), .val (.int pf), .val (.int (pn &&& (3 : Int32))), .val (.int (v0_1 pf)), .val (.int (v0_2 pf)), .val (.int (v0_3 pf)), .val (.ref b10), .unset] [(.int (pn &&& (3 : Int32)))])) _
            refine XS.iconst X46.here hx rfl (hb hby at_126) ?_
            show Steps p.tables e below (T46.setTop (mkF m 127 #[.val (.int pn), .val (.int pf), .val (.int (pn &&& (3 : Int32))), .val (.int (v0_1 pf)), .val (.int (v0_2 pf)), .val (.int (v0_3 pf)), .val (.ref b10), .unset] [(.int (2 : Int32)), (.int (pn &&& (3 : Int32)))])) _
            refine XS.icmpNo X46.here hx rfl (hb hby at_127) rfl (flt hc87_24).1 ?_
            show Steps p.tables e below (T46.setTop (mkF m 130 #[.val (.int pn), .val (.int pf), .val (.int (pn &&& (3 : Int32))), .val (.int (v0_1 pf)), .val (.int (v0_2 pf)), .val (.int (v0_3 pf)), .val (.ref b10), .unset] [])) _
            refine XS.iload X46.here hx rfl (hb hby at_130) rfl ?_
            show Steps p.tables e below (T46.setTop (mkF m 132 #[.val (.int pn), .val (.int pf), .val (.int (pn &&& (3 : Int32))), .val (.int (v0_1 pf)), .val (.int (v0_2 pf)), .val (.int (v0_3 pf)), .val (.ref b10), .unset] [(.int (v0_2 pf))])) _
            by_cases hd132_49 : (v0_2 pf) = (0 : Int32)
            · try simp only [if_pos hd132_49] at k
              show Steps p.tables e below (T46.setTop (mkF m 132 #[.val (.int pn), .val (.int pf), .val (.int (pn &&& (3 : Int32))), .val (.int (v0_1 pf)), .val (.int (v0_2 pf)), .val (.int (v0_3 pf)), .val (.ref b10), .unset] [(.int (v0_2 pf))])) _
              refine XS.ifNo X46.here hx rfl (hb hby at_132) rfl ((if0 _ _).trans (teq hd132_49).2) ?_
              show Steps p.tables e below (T46.setTop (mkF m 135 #[.val (.int pn), .val (.int pf), .val (.int (pn &&& (3 : Int32))), .val (.int (v0_1 pf)), .val (.int (v0_2 pf)), .val (.int (v0_3 pf)), .val (.ref b10), .unset] [])) _
              refine XS.iloadN X46.here hx rfl (hb hby at_135) rfl ?_
              show Steps p.tables e below (T46.setTop (mkF m 136 #[.val (.int pn), .val (.int pf), .val (.int (pn &&& (3 : Int32))), .val (.int (v0_1 pf)), .val (.int (v0_2 pf)), .val (.int (v0_3 pf)), .val (.ref b10), .unset] [(.int (pn &&& (3 : Int32)))])) _
              refine XS.iconst X46.here hx rfl (hb hby at_136) ?_
              show Steps p.tables e below (T46.setTop (mkF m 137 #[.val (.int pn), .val (.int pf), .val (.int (pn &&& (3 : Int32))), .val (.int (v0_1 pf)), .val (.int (v0_2 pf)), .val (.int (v0_3 pf)), .val (.ref b10), .unset] [(.int (3 : Int32)), (.int (pn &&& (3 : Int32)))])) _
              refine XS.icmpNo X46.here hx rfl (hb hby at_137) rfl (flt hc99_36).1 ?_
              show Steps p.tables e below (T46.setTop (mkF m 140 #[.val (.int pn), .val (.int pf), .val (.int (pn &&& (3 : Int32))), .val (.int (v0_1 pf)), .val (.int (v0_2 pf)), .val (.int (v0_3 pf)), .val (.ref b10), .unset] [])) _
              refine XS.iload X46.here hx rfl (hb hby at_140) rfl ?_
              show Steps p.tables e below (T46.setTop (mkF m 142 #[.val (.int pn), .val (.int pf), .val (.int (pn &&& (3 : Int32))), .val (.int (v0_1 pf)), .val (.int (v0_2 pf)), .val (.int (v0_3 pf)), .val (.ref b10), .unset] [(.int (v0_3 pf))])) _
              by_cases hd142_50 : (v0_3 pf) = (0 : Int32)
              · try simp only [if_pos hd142_50] at k
                show Steps p.tables e below (T46.setTop (mkF m 142 #[.val (.int pn), .val (.int pf), .val (.int (pn &&& (3 : Int32))), .val (.int (v0_1 pf)), .val (.int (v0_2 pf)), .val (.int (v0_3 pf)), .val (.ref b10), .unset] [(.int (v0_3 pf))])) _
                refine XS.ifYes X46.here hx rfl (pc0 := 142) (pc' := 149) rfl (hb hby at_142) rfl ((if0 _ _).trans (teq hd142_50).1) (by decide) (by decide) ?_
                show Steps p.tables e below (T46.setTop (mkF m 149 #[.val (.int pn), .val (.int pf), .val (.int (pn &&& (3 : Int32))), .val (.int (v0_1 pf)), .val (.int (v0_2 pf)), .val (.int (v0_3 pf)), .val (.ref b10), .unset] [])) _
                refine XS.iconst X46.here hx rfl (hb hby at_149) ?_
                exact k
              · try simp only [if_neg hd142_50] at k
                show Steps p.tables e below (T46.setTop (mkF m 142 #[.val (.int pn), .val (.int pf), .val (.int (pn &&& (3 : Int32))), .val (.int (v0_1 pf)), .val (.int (v0_2 pf)), .val (.int (v0_3 pf)), .val (.ref b10), .unset] [(.int (v0_3 pf))])) _
                refine XS.ifNo X46.here hx rfl (hb hby at_142) rfl ((if0 _ _).trans (feq hd142_50).1) ?_
                show Steps p.tables e below (T46.setTop (mkF m 145 #[.val (.int pn), .val (.int pf), .val (.int (pn &&& (3 : Int32))), .val (.int (v0_1 pf)), .val (.int (v0_2 pf)), .val (.int (v0_3 pf)), .val (.ref b10), .unset] [])) _
                refine XS.iconst X46.here hx rfl (hb hby at_145) ?_
                show Steps p.tables e below (T46.setTop (mkF m 146 #[.val (.int pn), .val (.int pf), .val (.int (pn &&& (3 : Int32))), .val (.int (v0_1 pf)), .val (.int (v0_2 pf)), .val (.int (v0_3 pf)), .val (.ref b10), .unset] [(.int (1 : Int32))])) _
                refine XS.goto X46.here hx rfl (pc0 := 146) (pc' := 150) rfl (hb hby at_146) (by decide) (by decide) ?_
                exact k
            · try simp only [if_neg hd132_49] at k
              show Steps p.tables e below (T46.setTop (mkF m 132 #[.val (.int pn), .val (.int pf), .val (.int (pn &&& (3 : Int32))), .val (.int (v0_1 pf)), .val (.int (v0_2 pf)), .val (.int (v0_3 pf)), .val (.ref b10), .unset] [(.int (v0_2 pf))])) _
              refine XS.ifYes X46.here hx rfl (pc0 := 132) (pc' := 145) rfl (hb hby at_132) rfl ((if0 _ _).trans (feq hd132_49).2) (by decide) (by decide) ?_
              show Steps p.tables e below (T46.setTop (mkF m 145 #[.val (.int pn), .val (.int pf), .val (.int (pn &&& (3 : Int32))), .val (.int (v0_1 pf)), .val (.int (v0_2 pf)), .val (.int (v0_3 pf)), .val (.ref b10), .unset] [])) _
              refine XS.iconst X46.here hx rfl (hb hby at_145) ?_
              show Steps p.tables e below (T46.setTop (mkF m 146 #[.val (.int pn), .val (.int pf), .val (.int (pn &&& (3 : Int32))), .val (.int (v0_1 pf)), .val (.int (v0_2 pf)), .val (.int (v0_3 pf)), .val (.ref b10), .unset] [(.int (1 : Int32))])) _
              refine XS.goto X46.here hx rfl (pc0 := 146) (pc' := 150) rfl (hb hby at_146) (by decide) (by decide) ?_
              exact k
          · try simp only [if_neg hd122_48] at k
            show Steps p.tables e below (T46.setTop (mkF m 122 #[.val (.int pn), .val (.int pf), .val (.int (pn &&& (3 : Int32))), .val (.int (v0_1 pf)), .val (.int (v0_2 pf)), .val (.int (v0_3 pf)), .val (.ref b10), .unset] [(.int (v0_1 pf))])) _
            refine XS.ifYes X46.here hx rfl (pc0 := 122) (pc' := 145) rfl (hb hby at_122) rfl ((if0 _ _).trans (feq hd122_48).2) (by decide) (by decide) ?_
            show Steps p.tables e below (T46.setTop (mkF m 145 #[.val (.int pn), .val (.int pf), .val (.int (pn &&& (3 : Int32))), .val (.int (v0_1 pf)), .val (.int (v0_2 pf)), .val (.int (v0_3 pf)), .val (.ref b10), .unset] [])) _
            refine XS.iconst X46.here hx rfl (hb hby at_145) ?_
            show Steps p.tables e below (T46.setTop (mkF m 146 #[.val (.int pn), .val (.int pf), .val (.int (pn &&& (3 : Int32))), .val (.int (v0_1 pf)), .val (.int (v0_2 pf)), .val (.int (v0_3 pf)), .val (.ref b10), .unset] [(.int (1 : Int32))])) _
            refine XS.goto X46.here hx rfl (pc0 := 146) (pc' := 150) rfl (hb hby at_146) (by decide) (by decide) ?_
            exact k
          )
        obtain ⟨cq52, kq52, q52a, q52b, q52c⟩ := isOf hZ rfl ((((((((((A10.keep Kq11).keep Kq12).keep Kq13).keep Kq14).keep Kq15).keep Kq22).keep Kq34).keep Kq45).keep Kq46))
        obtain ⟨_, _, ⟨T52, L52, k52, n52⟩, -, X52, ⟨Lc52, hQ52, l52, y52, z52⟩, st52⟩ := X46.virtualBack hx (y := (⟨"com/example/glowcursor/glowcursor/parser/ControlSequence", "hasSubParameters", "()Z"⟩ : MethodName)) (z := (⟨"com/example/glowcursor/glowcursor/parser/ControlSequence", "hasSubParameters", "()Z"⟩ : MethodName)) hown (mvT hZ (hw _ (List.mem_of_getElem? (i := 43) rfl))) (mvT hZ (hw _ (List.mem_of_getElem? (i := 44) rfl))) (notFace_of_selects (args := #[]) (mvT hZ (hw _ (List.mem_of_getElem? (i := 46) rfl)))) (mvT hZ (hw _ (List.mem_of_getElem? (i := 46) rfl))) (mvT hZ (hw _ (List.mem_of_getElem? (i := 45) rfl))) (by decide) (backOf (W := 0) (rm6c4 l Z a0 hw [] b10 sa kb (setI (setI (setI (setI (setI (setI (List.replicate (32 : Int32).toNatClampNeg 0) (0 : Int32) (nar .boolean (0 : Int32))) (1 : Int32) (nar .boolean (nar .boolean (1 : Int32)))) (0 : Int32) (nar .boolean (0 : Int32))) (1 : Int32) (nar .boolean (nar .boolean (v0_1 pf)))) (2 : Int32) (nar .boolean (nar .boolean (v0_2 pf)))) (3 : Int32) (nar .boolean (nar .boolean (v0_3 pf)))) T46.heap n0 Z46 ((((((((((A10.keep Kq11).keep Kq12).keep Kq13).keep Kq14).keep Kq15).keep Kq22).keep Kq34).keep Kq45).keep Kq46)) (Fq46_2) (Fq46_1) (Vq46_1)) hZ (hw _ (List.mem_of_getElem? (i := 47) rfl)) (hw _ (List.mem_of_getElem? (i := 2) rfl)) (by decide) (by decide)) q52a q52c (g := (mkF m 154 #[.val (.int pn), .val (.int pf), .val (.int (pn &&& (3 : Int32))), .val (.int (v0_1 pf)), .val (.int (v0_2 pf)), .val (.int (v0_3 pf)), .val (.ref b10), .val (.int (v0_9 pf))] [(.ref b10)])) rfl (by rw [hml]; rfl) (Steps.refl _) (argsL := []) (rest := []) (lenOf pd_3 rfl) rfl (by show 2 * 0 + _ ≤ _; exact Nat.le_of_eq rfl) (hb hby at_154) (fun _ _ => ⟨rfl, rfl, (by decide : 3 + 0 ≤ _), (by decide : 72 + 0 ≤ _)⟩)
        dsimp only [Pt.U, Pt.locs, Pt.cells, Pt.slots] at X52 l52 y52 z52 st52 hQ52
        subst l52 y52 z52
        obtain ⟨rfl, N52q, e52⟩ := hQ52
        have N52 := Fr.app N46 N52q
        have pre53 : ∀ t, Steps p.tables e below (T52.setTop (mkF m 159 #[.val (.int pn), .val (.int pf), .val (.int (pn &&& (3 : Int32))), .val (.int (v0_1 pf)), .val (.int (v0_2 pf)), .val (.int (v0_3 pf)), .val (.ref b10), .val (.int (v0_9 pf))] [(.int (v0_9 pf)), (.int (v0_10 pf))])) t → Steps p.tables e below (s₁.setTop (entryFrame m #[(.int pn), (.int pf)] maxLocals)) t := fun t k => pre51 t (by
          show Steps p.tables e below (T46.setTop (mkF m 150 #[.val (.int pn), .val (.int pf), .val (.int (pn &&& (3 : Int32))), .val (.int (v0_1 pf)), .val (.int (v0_2 pf)), .val (.int (v0_3 pf)), .val (.ref b10), .unset] [(.int (v0_9 pf))])) _
          refine XS.istore X46.here hx rfl (hb hby at_150) rfl (l' := #[.val (.int pn), .val (.int pf), .val (.int (pn &&& (3 : Int32))), .val (.int (v0_1 pf)), .val (.int (v0_2 pf)), .val (.int (v0_3 pf)), .val (.ref b10), .val (.int (v0_9 pf))]) rfl ?_
          show Steps p.tables e below (T46.setTop (mkF m 152 #[.val (.int pn), .val (.int pf), .val (.int (pn &&& (3 : Int32))), .val (.int (v0_1 pf)), .val (.int (v0_2 pf)), .val (.int (v0_3 pf)), .val (.ref b10), .val (.int (v0_9 pf))] [])) _
          refine XS.aload X46.here hx rfl (hb hby at_152) rfl rfl ?_
          show Steps p.tables e below (T46.setTop (mkF m 154 #[.val (.int pn), .val (.int pf), .val (.int (pn &&& (3 : Int32))), .val (.int (v0_1 pf)), .val (.int (v0_2 pf)), .val (.int (v0_3 pf)), .val (.ref b10), .val (.int (v0_9 pf))] [(.ref b10)])) _
          refine st52.trans ?_
          show Steps p.tables e below (T52.setTop (mkF m 157 #[.val (.int pn), .val (.int pf), .val (.int (pn &&& (3 : Int32))), .val (.int (v0_1 pf)), .val (.int (v0_2 pf)), .val (.int (v0_3 pf)), .val (.ref b10), .val (.int (v0_9 pf))] [(.int (v0_10 pf))])) _
          refine XS.iload X52.here hx rfl (hb hby at_157) rfl ?_
          show Steps p.tables e below (T52.setTop (mkF m 159 #[.val (.int pn), .val (.int pf), .val (.int (pn &&& (3 : Int32))), .val (.int (v0_1 pf)), .val (.int (v0_2 pf)), .val (.int (v0_3 pf)), .val (.ref b10), .val (.int (v0_9 pf))] [(.int (v0_9 pf)), (.int (v0_10 pf))])) _
          exact k)
        by_cases hc159_54 : (v0_10 pf) = (v0_9 pf)
        · have hv : (f0 pn pf) = (1 : Int32) := by simp only [f0, if_neg hc76_17, if_neg hc87_24, if_neg hc99_36, if_pos hc159_54]
          obtain ⟨fs, hr, hrun, hended, hW, hsame⟩ := X52.leave (v := some (.int (1 : Int32))) (fun h => by rw [Bd.returns] at h; cases h)
          refine ⟨_, _, pre53 _ ?_, hrun, hended, _, _, rfl, ?_, ⟨_, rfl⟩, hW, hsame.mono (by decide) (by decide)⟩
          · show Steps p.tables e below (T52.setTop (mkF m 159 #[.val (.int pn), .val (.int pf), .val (.int (pn &&& (3 : Int32))), .val (.int (v0_1 pf)), .val (.int (v0_2 pf)), .val (.int (v0_3 pf)), .val (.ref b10), .val (.int (v0_9 pf))] [(.int (v0_9 pf)), (.int (v0_10 pf))])) _
            refine XS.icmpNo X52.here hx rfl (hb hby at_159) rfl (teq hc159_54).2 ?_
            show Steps p.tables e below (T52.setTop (mkF m 162 #[.val (.int pn), .val (.int pf), .val (.int (pn &&& (3 : Int32))), .val (.int (v0_1 pf)), .val (.int (v0_2 pf)), .val (.int (v0_3 pf)), .val (.ref b10), .val (.int (v0_9 pf))] [])) _
            refine XS.iconst X52.here hx rfl (hb hby at_162) ?_
            show Steps p.tables e below (T52.setTop (mkF m 163 #[.val (.int pn), .val (.int pf), .val (.int (pn &&& (3 : Int32))), .val (.int (v0_1 pf)), .val (.int (v0_2 pf)), .val (.int (v0_3 pf)), .val (.ref b10), .val (.int (v0_9 pf))] [(.int (1 : Int32))])) _
            refine XS.goto X52.here hx rfl (pc0 := 163) (pc' := 167) rfl (hb hby at_163) (by decide) (by decide) ?_
            show Steps p.tables e below (T52.setTop (mkF m 167 #[.val (.int pn), .val (.int pf), .val (.int (pn &&& (3 : Int32))), .val (.int (v0_1 pf)), .val (.int (v0_2 pf)), .val (.int (v0_3 pf)), .val (.ref b10), .val (.int (v0_9 pf))] [(.int (1 : Int32))])) _
            exact retN X52 hx (t := .boolean) Bd.returns (by simp) (hb hby at_167) hr
          · show Q0 Z pn pf h0 n0 _ T52.heap _
            rw [e52]
            exact ⟨by rw [hv], N52⟩
        · have hv : (f0 pn pf) = (0 : Int32) := by simp only [f0, if_neg hc76_17, if_neg hc87_24, if_neg hc99_36, if_neg hc159_54]
          obtain ⟨fs, hr, hrun, hended, hW, hsame⟩ := X52.leave (v := some (.int (0 : Int32))) (fun h => by rw [Bd.returns] at h; cases h)
          refine ⟨_, _, pre53 _ ?_, hrun, hended, _, _, rfl, ?_, ⟨_, rfl⟩, hW, hsame.mono (by decide) (by decide)⟩
          · show Steps p.tables e below (T52.setTop (mkF m 159 #[.val (.int pn), .val (.int pf), .val (.int (pn &&& (3 : Int32))), .val (.int (v0_1 pf)), .val (.int (v0_2 pf)), .val (.int (v0_3 pf)), .val (.ref b10), .val (.int (v0_9 pf))] [(.int (v0_9 pf)), (.int (v0_10 pf))])) _
            refine XS.icmpYes X52.here hx rfl (pc0 := 159) (pc' := 166) rfl (hb hby at_159) rfl (feq hc159_54).2 (by decide) (by decide) ?_
            show Steps p.tables e below (T52.setTop (mkF m 166 #[.val (.int pn), .val (.int pf), .val (.int (pn &&& (3 : Int32))), .val (.int (v0_1 pf)), .val (.int (v0_2 pf)), .val (.int (v0_3 pf)), .val (.ref b10), .val (.int (v0_9 pf))] [])) _
            refine XS.iconst X52.here hx rfl (hb hby at_166) ?_
            show Steps p.tables e below (T52.setTop (mkF m 167 #[.val (.int pn), .val (.int pf), .val (.int (pn &&& (3 : Int32))), .val (.int (v0_1 pf)), .val (.int (v0_2 pf)), .val (.int (v0_3 pf)), .val (.ref b10), .val (.int (v0_9 pf))] [(.int (0 : Int32))])) _
            exact retN X52 hx (t := .boolean) Bd.returns (by simp) (hb hby at_167) hr
          · show Q0 Z pn pf h0 n0 _ T52.heap _
            rw [e52]
            exact ⟨by rw [hv], N52⟩

theorem own_nn (p : Prop) [Decidable p] : nar .boolean (nar .boolean (if p then (0 : Int32) else (1 : Int32))) = (if p then (0 : Int32) else (1 : Int32)) := by
  by_cases h : p
  · rw [if_pos h]; decide
  · rw [if_neg h]; decide
theorem own_n1 (pf : Int32) : nar .boolean (nar .boolean (v0_1 pf)) = v0_1 pf := own_nn _
theorem own_n2 (pf : Int32) : nar .boolean (nar .boolean (v0_2 pf)) = v0_2 pf := own_nn _
theorem own_n3 (pf : Int32) : nar .boolean (nar .boolean (v0_3 pf)) = v0_3 pf := own_nn _
theorem own_e2 (x y a b : Int32) : f6c2 (setI (setI (setI (setI (List.replicate (32 : Int32).toNatClampNeg 0) (0 : Int32) x) (1 : Int32) y) (0 : Int32) a) (1 : Int32) b) = (if a = (0 : Int32) then (if b = (0 : Int32) then (0 : Int32) else (1 : Int32)) else (1 : Int32)) := rfl
theorem own_e3 (x y a b c : Int32) : f6c3 (setI (setI (setI (setI (setI (List.replicate (32 : Int32).toNatClampNeg 0) (0 : Int32) x) (1 : Int32) y) (0 : Int32) a) (1 : Int32) b) (2 : Int32) c) = (if a = (0 : Int32) then (if b = (0 : Int32) then (if c = (0 : Int32) then (0 : Int32) else (1 : Int32)) else (1 : Int32)) else (1 : Int32)) := rfl
theorem own_e4 (x y a b c d : Int32) : f6c4 (setI (setI (setI (setI (setI (setI (List.replicate (32 : Int32).toNatClampNeg 0) (0 : Int32) x) (1 : Int32) y) (0 : Int32) a) (1 : Int32) b) (2 : Int32) c) (3 : Int32) d) = (if a = (0 : Int32) then (if b = (0 : Int32) then (if c = (0 : Int32) then (if d = (0 : Int32) then (0 : Int32) else (1 : Int32)) else (1 : Int32)) else (1 : Int32)) else (1 : Int32)) := rfl
theorem own_00 : nar .boolean (0 : Int32) = 0 := by decide
theorem law_true (pn pf : Int32) : f0 pn pf = 1 := by
  have a : v0_4 = 0 := by decide +kernel
  have b : v0_6 pf = (if v0_1 pf = (0 : Int32) then (0 : Int32) else (1 : Int32)) := by
    unfold v0_6; rw [own_e2, own_n1, own_00, if_pos rfl]
  have c : v0_8 pf = v0_7 pf := by
    unfold v0_8; rw [own_e3, own_n1, own_n2, own_00, if_pos rfl]; rfl
  have d : v0_10 pf = v0_9 pf := by
    unfold v0_10; rw [own_e4, own_n1, own_n2, own_n3, own_00, if_pos rfl]; rfl
  unfold f0
  by_cases h1 : (pn &&& (3 : Int32)) < (1 : Int32)
  · rw [if_pos h1, if_pos a]
  · rw [if_neg h1]
    by_cases h2 : (pn &&& (3 : Int32)) < (2 : Int32)
    · have h3 : (pn &&& (3 : Int32)) < (3 : Int32) := own_up h2 (by decide)
      have e : v0_5 pf pn = (if v0_1 pf = (0 : Int32) then (0 : Int32) else (1 : Int32)) := by
        unfold v0_5; rw [if_pos h3]
      rw [if_pos h2, b, e, if_pos rfl]
    · rw [if_neg h2]
      by_cases h3 : (pn &&& (3 : Int32)) < (3 : Int32)
      · rw [if_pos h3, if_pos c]
      · rw [if_neg h3, if_pos d]

set_option maxRecDepth 65536 in
set_option maxHeartbeats 40000000 in
theorem comes_1 {Post : Tables → Env → Array Value → State → Outcome → State → Prop} (hpost : ∀ tb e args s v u, (limb_1_1.after args s (.returned v) u = true ∧ limb_1_2.after args s (.returned v) u = true ∧ True) → FrameEnd s (.returned v) u (Jvm.fieldLocs frame_1_writes args s ++ Jvm.arrayLocs frame_1_arrays args s ++ Jvm.staticLocs frame_1_statics s) 16 256 → Post tb e args s (.returned v) u) :
    ArmFor flags0 classFile x code maxLocals ret World_1 tables_1 room_1 Calls_1 rest_1 Pre_1 Post := by
  intro l hfl _ _ p e ha hc hk s m args below hf hA hF happ hP
  obtain ⟨hcalls, hrest, hpre⟩ := hP
  obtain ⟨-, -, -, hnamed, -, -, -, hat⟩ := (Spec.applies_iff hf).mp happ
  obtain ⟨hg, hn⟩ := and_e (Cond.before_iff.mp (show (Jvm.Cond.and given_1 narrow_1).before args s = true from hpre))
  obtain ⟨g1, g2⟩ := and_e hg
  obtain ⟨g3, g4⟩ := and_e g2
  obtain ⟨w0, w1, rfl⟩ : ∃ w0 w1 : Value, args = #[w0, w1] := by
    have hs : args.size = 2 := by simpa [Cond.value, given_1] using g1
    obtain ⟨L⟩ := args
    match L, hs with
    | [w0, w1], _ => exact ⟨w0, w1, rfl⟩
  have hw := fun d (hd : d ∈ tables_1) => atoms_spec (ws := Jvm.Cond.code x code maxLocals ret :: tables_1) hat d (List.mem_cons_of_mem _ hd)
  obtain ⟨i0, ei0⟩ := is_v g3
  obtain rfl : w0 = (.int i0) := Option.some.inj ei0
  obtain ⟨i1, ei1⟩ := is_v g4
  obtain rfl : w1 = (.int i1) := Option.some.inj ei1
  obtain ⟨n, o, h1, h2, h3, _, L, rfl, ⟨rfl, N⟩, hq⟩ := rm0 l s _ hw tables_1 i0 i1 s.heap s.heap.size (Nat.le_refl _) p e ha hc hk s m _ below hf ((Spec.applies_iff_loose hf).mp happ).1 ⟨rfl, State.Warmed39.refl s, rfl⟩ trivial
  refine ⟨n, _, h1, h2, h3, hpost _ _ _ _ _ _ ⟨Cond.after_iff.mpr rfl, Cond.after_iff.mpr (eq_i res_at (Term.int_eval (1)) (congrArg Value.int (law_true i0 i1))), trivial⟩ ⟨hq.1, hq.2.1, (hq.2.2.sift fun y hy => Or.inr (N y hy)).mono (by decide) (by decide)⟩⟩
theorem main_1_1 : Claimed_1_1 := comes_1 fun _ _ _ _ _ _ h hF => ⟨h.1, hF⟩
theorem main_1_2 : Claimed_1_2 := comes_1 fun _ _ _ _ _ _ h hF => ⟨h.2.1, hF⟩
end Jvm.Pilot.@@N@@
namespace Jvm.Pilot.@@N@@
open Jvm Jvm.ClassFile Sem Op Lib Jvm.Free Jvm.Stand Jvm.Pilot.@@N@@.Jvm.D
/-! MADE BY PROGRAM (witnessworld.py) out of the Statement's table words and the real class files: 11 classes; the members and pool entries that the words name. The judged class is class 1, her method 1. -/
namespace start1
open Jvm.ClassFile
def u (s : String) : CpInfo := .utf8 (stringToUtf16 s)
/-- a pool by its gaps: so many unusable entries, then the entry; so many at the end -/
def gap : Nat → List CpInfo → List CpInfo
  | 0, r => r
  | n + 1, r => .unusable :: gap n r
def poolList (es : List (Nat × CpInfo)) (last : Nat) : List CpInfo := es.foldr (fun e r => gap e.1 (e.2 :: r)) (gap last [])
def pool (es : List (Nat × CpInfo)) (last : Nat) : Array CpInfo := ⟨poolList es last⟩
def fileOf (pool : Array CpInfo) (this : Nat) (attrs : Array Attribute := #[]) (ms : Array MethodInfo := #[]) (fl : Nat := 33) (sup : Nat := 0) (ifs : Array Nat := #[]) (fds : Array FieldInfo := #[]) : ClassFile where
  minorVersion := 0
  majorVersion := 65
  constantPool := pool
  accessFlags := fl
  thisClass := this
  superClass := sup
  interfaces := ifs
  fields := fds
  methods := ms
  attributes := attrs
def plain (name : String) (sup : Option ClassId) : Class where
  name := name
  kind := .ordinary
  loader := none
  accessFlags := 33
  super := sup
  interfaces := #[]
  cf := none
  fields := #[]
  methods := #[]
  instanceTypes := #[]
  staticTypes := #[]
  resolved := #[]
  callSites := []
  init := .initialized
  statics := none
  mirror := none

def pool0 : Array CpInfo := pool [(5, u "<init>"), (0, u "()V"), (1, .class_ 10), (1, u "java/lang/Object")] 113

def k0c0 : Code := { maxStack := 0, maxLocals := 1, code := object_method_1_code, exceptionTable := #[], attributes := #[] }
def k0m0 : Method := { name := "<init>", desc := "()V", sig := { parameters := [], returnType := none }, accessFlags := 1, code := some k0c0 }
/-- java/lang/Object -/
def k0 : Class := { plain "java/lang/Object" none with
  accessFlags := 33
  interfaces := #[]
  cf := some (fileOf pool0 8 #[] #[{ accessFlags := 1, nameIndex := 5, descriptorIndex := 6, attributes := #[] }] 33 0 #[] #[])
  fields := #[]
  methods := #[k0m0]
  instanceTypes := #[]
  staticTypes := #[]
  resolved := Array.replicate 124 none
  statics := none }

def pool1 : Array CpInfo := pool [(2, .class_ 4), (0, .nameAndType 5 6), (0, u "java/lang/Object"), (0, u "<init>"), (0, u "()V"), (0, .class_ 8), (0, u "com/example/glowcursor/glowcursor/parser/ControlSequence"), (0, .methodref 7 3), (0, .methodref 7 11), (0, .nameAndType 12 6), (0, u "start"), (0, .methodref 7 14), (0, .nameAndType 15 16), (0, u "endParameter"), (0, u "(Z)V"), (0, .methodref 7 18), (0, .nameAndType 19 20), (0, u "end"), (0, u "(I)V"), (0, .methodref 7 22), (0, .nameAndType 23 24), (0, u "hasSubParameters"), (0, u "()Z"), (0, .class_ 26), (0, u "com/example/glowcursor/glowcursor/parser/ControlSequenceHasSubParametersPinLaw"), (2, u "law"), (0, u "(II)Z")] 3

def k1m0 : Method := { name := "<init>", desc := "()V", sig := { parameters := [], returnType := none }, accessFlags := 1, code := none }
def k1c1 : Code := { maxStack := 2, maxLocals := 8, code := code, exceptionTable := #[], attributes := #[] }
def k1m1 : Method := { name := "law", desc := "(II)Z", sig := { parameters := [.int, .int], returnType := some .boolean }, accessFlags := 9, code := some k1c1 }
/-- com/example/glowcursor/glowcursor/parser/ControlSequenceHasSubParametersPinLaw -/
def k1 : Class := { plain "com/example/glowcursor/glowcursor/parser/ControlSequenceHasSubParametersPinLaw" (some 0) with
  accessFlags := 49
  interfaces := #[]
  cf := some (fileOf pool1 25 #[] #[{ accessFlags := 1, nameIndex := 5, descriptorIndex := 6, attributes := #[] }, { accessFlags := 9, nameIndex := 29, descriptorIndex := 30, attributes := #[] }] 49 2 #[] #[])
  fields := #[]
  methods := #[k1m0, k1m1]
  instanceTypes := #[]
  staticTypes := #[]
  resolved := Array.replicate 34 none
  statics := none }

def pool2 : Array CpInfo := pool [(1, .methodref 2 3), (0, .class_ 4), (0, .nameAndType 5 6), (0, u "java/lang/Object"), (0, u "<init>"), (0, u "()V"), (0, .class_ 8), (0, u "com/example/glowcursor/glowcursor/parser/ControlSequence"), (0, .fieldref 7 10), (0, .nameAndType 11 12), (0, u "parameters"), (0, u "[I"), (0, .fieldref 7 14), (0, .nameAndType 15 16), (0, u "subParameters"), (0, u "[Z"), (0, .fieldref 7 18), (0, .nameAndType 19 20), (0, u "privateMarker"), (0, u "I"), (0, .fieldref 7 22), (0, .nameAndType 23 20), (0, u "intermediate"), (0, .fieldref 7 25), (0, .nameAndType 26 20), (0, u "finalByte"), (0, .fieldref 7 28), (0, .nameAndType 29 20), (0, u "count"), (0, .fieldref 7 31), (0, .nameAndType 32 20), (0, u "current"), (0, .fieldref 7 34), (0, .nameAndType 35 36), (0, u "currentIsSubParameter"), (0, u "Z"), (9, .methodref 7 47), (0, .nameAndType 48 49), (0, u "endParameter"), (0, u "(Z)V"), (0, u "MAX_PARAMETERS"), (2, u "MAX_VALUE"), (0, u "MISSING"), (9, u "hasSubParameters"), (0, u "()Z"), (0, u "start"), (1, u "(I)V"), (2, u "end")] 2

def k2c0 : Code := { maxStack := 2, maxLocals := 1, code := prog_38_method_1_code, exceptionTable := #[], attributes := #[] }
def k2m0 : Method := { name := "<init>", desc := "()V", sig := { parameters := [], returnType := none }, accessFlags := 0, code := some k2c0 }
def k2c1 : Code := { maxStack := 2, maxLocals := 2, code := prog_38_method_8_code, exceptionTable := #[], attributes := #[] }
def k2m1 : Method := { name := "hasSubParameters", desc := "()Z", sig := { parameters := [], returnType := some .boolean }, accessFlags := 1, code := some k2c1 }
def k2c2 : Code := { maxStack := 2, maxLocals := 1, code := prog_38_method_9_code, exceptionTable := #[], attributes := #[] }
def k2m2 : Method := { name := "start", desc := "()V", sig := { parameters := [], returnType := none }, accessFlags := 0, code := some k2c2 }
def k2c3 : Code := { maxStack := 3, maxLocals := 2, code := prog_38_method_13_code, exceptionTable := #[], attributes := #[] }
def k2m3 : Method := { name := "endParameter", desc := "(Z)V", sig := { parameters := [.boolean], returnType := none }, accessFlags := 0, code := some k2c3 }
def k2c4 : Code := { maxStack := 2, maxLocals := 2, code := prog_38_method_14_code, exceptionTable := #[], attributes := #[] }
def k2m4 : Method := { name := "end", desc := "(I)V", sig := { parameters := [.int], returnType := none }, accessFlags := 0, code := some k2c4 }
/-- com/example/glowcursor/glowcursor/parser/ControlSequence -/
def k2 : Class := { plain "com/example/glowcursor/glowcursor/parser/ControlSequence" (some 0) with
  accessFlags := 49
  interfaces := #[]
  cf := some (fileOf pool2 7 #[] #[{ accessFlags := 0, nameIndex := 5, descriptorIndex := 6, attributes := #[] }, { accessFlags := 1, nameIndex := 64, descriptorIndex := 65, attributes := #[] }, { accessFlags := 0, nameIndex := 66, descriptorIndex := 6, attributes := #[] }, { accessFlags := 0, nameIndex := 48, descriptorIndex := 49, attributes := #[] }, { accessFlags := 0, nameIndex := 71, descriptorIndex := 68, attributes := #[] }] 49 2 #[] #[{ accessFlags := 25, nameIndex := 50, descriptorIndex := 20, attributes := #[] }, { accessFlags := 25, nameIndex := 53, descriptorIndex := 20, attributes := #[] }, { accessFlags := 26, nameIndex := 54, descriptorIndex := 20, attributes := #[] }, { accessFlags := 18, nameIndex := 11, descriptorIndex := 12, attributes := #[] }, { accessFlags := 18, nameIndex := 15, descriptorIndex := 16, attributes := #[] }, { accessFlags := 2, nameIndex := 29, descriptorIndex := 20, attributes := #[] }, { accessFlags := 2, nameIndex := 32, descriptorIndex := 20, attributes := #[] }, { accessFlags := 2, nameIndex := 35, descriptorIndex := 36, attributes := #[] }, { accessFlags := 2, nameIndex := 19, descriptorIndex := 20, attributes := #[] }, { accessFlags := 2, nameIndex := 23, descriptorIndex := 20, attributes := #[] }, { accessFlags := 2, nameIndex := 26, descriptorIndex := 20, attributes := #[] }])
  fields := #[{ name := "MAX_PARAMETERS", type := .int, accessFlags := 25, slot := 0, constantValue := 0 }, { name := "MAX_VALUE", type := .int, accessFlags := 25, slot := 1, constantValue := 0 }, { name := "MISSING", type := .int, accessFlags := 26, slot := 2, constantValue := 0 }, { name := "parameters", type := (.array .int), accessFlags := 18, slot := 0, constantValue := 0 }, { name := "subParameters", type := (.array .boolean), accessFlags := 18, slot := 1, constantValue := 0 }, { name := "count", type := .int, accessFlags := 2, slot := 2, constantValue := 0 }, { name := "current", type := .int, accessFlags := 2, slot := 3, constantValue := 0 }, { name := "currentIsSubParameter", type := .boolean, accessFlags := 2, slot := 4, constantValue := 0 }, { name := "privateMarker", type := .int, accessFlags := 2, slot := 5, constantValue := 0 }, { name := "intermediate", type := .int, accessFlags := 2, slot := 6, constantValue := 0 }, { name := "finalByte", type := .int, accessFlags := 2, slot := 7, constantValue := 0 }]
  methods := #[k2m0, k2m1, k2m2, k2m3, k2m4]
  instanceTypes := #[(.array .int), (.array .boolean), .int, .int, .boolean, .int, .int, .int]
  staticTypes := #[.int, .int, .int]
  resolved := Array.replicate 74 none
  statics := none }

def pool3 : Array CpInfo := pool [(1, u "java/lang/Cloneable"), (0, .class_ 1), (0, u "java/lang/Object"), (0, .class_ 3)] 3

/-- java/lang/Cloneable -/
def k3 : Class := { plain "java/lang/Cloneable" (some 0) with
  accessFlags := 1537
  interfaces := #[]
  cf := some (fileOf pool3 2 #[] #[] 1537 4 #[] #[])
  fields := #[]
  methods := #[]
  instanceTypes := #[]
  staticTypes := #[]
  resolved := Array.replicate 8 none
  statics := none }

def pool4 : Array CpInfo := pool [(1, u "java/io/Serializable"), (0, .class_ 1), (0, u "java/lang/Object"), (0, .class_ 3)] 3

/-- java/io/Serializable -/
def k4 : Class := { plain "java/io/Serializable" (some 0) with
  accessFlags := 1537
  interfaces := #[]
  cf := some (fileOf pool4 2 #[] #[] 1537 4 #[] #[])
  fields := #[]
  methods := #[]
  instanceTypes := #[]
  staticTypes := #[]
  resolved := Array.replicate 8 none
  statics := none }

/-- the primitive boolean -/
def k5 : Class := { plain "boolean" none with kind := .primitive 'Z', accessFlags := 0x411 }
/-- [Z -/
def k6 : Class := { plain "[Z" (some 0) with kind := .array 5 .boolean, interfaces := #[3, 4], accessFlags := 1041 }

/-- the primitive byte -/
def k7 : Class := { plain "byte" none with kind := .primitive 'B', accessFlags := 0x411 }
/-- [B -/
def k8 : Class := { plain "[B" (some 0) with kind := .array 7 .byte, interfaces := #[3, 4], accessFlags := 1041 }

/-- the primitive int -/
def k9 : Class := { plain "int" none with kind := .primitive 'I', accessFlags := 0x411 }
/-- [I -/
def k10 : Class := { plain "[I" (some 0) with kind := .array 9 .int, interfaces := #[3, 4], accessFlags := 1041 }

def heap : Heap := #[]
def classes : Array Class := #[k0, k1, k2, k3, k4, k5, k6, k7, k8, k9, k10]
def interned : List (Array UInt16 × Addr) := []
def slotsUsed : Nat := 0
def theMethod : MethodId := ⟨1, 1⟩
def args0 : Array Value := #[.int 5, .int 7]
def aboutOver (below : List Frame) : State where
  vm := { classes := classes, interned := interned.toArray }
  heap := heap
  slotsUsed := slotsUsed
  threads := #[{ frames := .invoking theMethod args0 :: below }]
def below0 : List Frame := [.native { method := ⟨0, 0⟩, args := #[] }]
def about1 : State := aboutOver below0
def p0 : Program := .bare "" "" ""
def e0 : Env := launch0.env 0 0 0
theorem w_frames : about1.frames = Frame.invoking theMethod args0 :: below0 := rfl
set_option maxRecDepth 65536 in
theorem w_args : argsFit about1.vm theMethod args0 = true := by decide +kernel
set_option maxRecDepth 65536 in
theorem w_heap : heapFits about1 = true := by decide +kernel
set_option maxRecDepth 65536 in
theorem w_runnable : about1.curStatus? = some .runnable := by decide +kernel
set_option maxRecDepth 65536 in
theorem w_alone : about1.alone = true := by decide +kernel
set_option maxRecDepth 65536 in
theorem w_named : about1.methodNamed? x = some theMethod := by decide +kernel
set_option maxRecDepth 65536 in
theorem w_hears : about1.hears theMethod below0 = true := by decide +kernel
set_option maxRecDepth 65536 in
theorem w_ripe : about1.ripe theMethod args0 below0 = true := by decide +kernel
theorem w_running : about1.status = .running := rfl
set_option maxRecDepth 65536 in
theorem w_room : about1.hasRoom e0.platform room_1 = true :=
  launch0.hasRoom_least _ room_1 (by decide +kernel) (by decide +kernel) (by decide +kernel) (by decide +kernel) (by decide +kernel) (by decide +kernel)
theorem allAtoms_all (ts : List Jvm.Cond) (a : Array Jvm.Value) (st : Jvm.State) : (allAtoms ts).before a st = ts.all (fun c => c.before a st) := by
  induction ts with
  | nil => rfl
  | cons c t ih =>
    show (Jvm.Cond.and c (allAtoms t)).before a st = _
    rw [Jvm.Cond.before_and, ih, List.all_cons]
def words1 : List Jvm.Cond := Jvm.Cond.code x code maxLocals ret :: tables_1
/-- a 'code' word, met by the world's own term for the bytes: nothing is compared byte by byte -/
theorem code_word {y : MethodName} {bytes : ByteArray} {mx : Nat} {rt : Option FieldType} {a : Array Value} {s : State} {m : MethodId} {meth : Method} {c : Code} (h1 : s.methodNamed? y = some m) (h2 : s.vm.method? m = some meth) (h3 : meth.code = some c) (h4 : c.code = bytes)
    (h5 : (c.maxLocals == mx && c.exceptionTable.isEmpty && decide (c.maxStack ≤ mostOperands) && decide (meth.sig.returnType = rt) && !meth.locks && decide (parseMethodDescriptor y.desc = some meth.sig)) = true) : (Jvm.Cond.code y bytes mx rt).before a s = true := by
  simp only [Bool.and_eq_true, beq_iff_eq, Bool.not_eq_true', decide_eq_true_eq] at h5
  obtain ⟨⟨⟨⟨⟨g1, g2⟩, g3⟩, g4⟩, g5⟩, g6⟩ := h5
  simp [Cond.before, Cond.holds, Cond.value, h1, h2, h3, h4, g1, g2, g3, g4, g5, g6]
def isCode : Jvm.Cond → Bool
  | .code _ _ _ _ => true
  | _ => false
theorem all_split {L : List Jvm.Cond} {P : Jvm.Cond → Bool} (h1 : L.all (fun c => isCode c || P c) = true) (h2 : ∀ c ∈ L.filter isCode, P c = true) : L.all P = true := by
  refine List.all_eq_true.mpr fun c hc => ?_
  have h := List.all_eq_true.mp h1 c hc
  rcases Bool.eq_false_or_eq_true (isCode c) with hi | hi
  · exact h2 c (List.mem_filter.mpr ⟨hc, hi⟩)
  · simpa [hi] using h
set_option maxRecDepth 65536 in
theorem w_c0 : (Jvm.Cond.code x code maxLocals ret).before args0 about1 = true := code_word (m := ⟨1, 1⟩) (meth := k1m1) (c := k1c1) (by decide +kernel) rfl rfl rfl (by decide +kernel)
set_option maxRecDepth 65536 in
theorem w_c1 : (Jvm.Cond.code ({ cls := "com/example/glowcursor/glowcursor/parser/ControlSequence", name := "<init>", desc := "()V" } : Jvm.MethodName) prog_38_method_1_code (1 : Nat) (Option.none : Option Jvm.ClassFile.FieldType)).before args0 about1 = true := code_word (m := ⟨2, 0⟩) (meth := k2m0) (c := k2c0) (by decide +kernel) rfl rfl rfl (by decide +kernel)
set_option maxRecDepth 65536 in
theorem w_c2 : (Jvm.Cond.code ({ cls := "java/lang/Object", name := "<init>", desc := "()V" } : Jvm.MethodName) object_method_1_code (1 : Nat) (Option.none : Option Jvm.ClassFile.FieldType)).before args0 about1 = true := code_word (m := ⟨0, 0⟩) (meth := k0m0) (c := k0c0) (by decide +kernel) rfl rfl rfl (by decide +kernel)
set_option maxRecDepth 65536 in
theorem w_c3 : (Jvm.Cond.code ({ cls := "com/example/glowcursor/glowcursor/parser/ControlSequence", name := "start", desc := "()V" } : Jvm.MethodName) prog_38_method_9_code (1 : Nat) (Option.none : Option Jvm.ClassFile.FieldType)).before args0 about1 = true := code_word (m := ⟨2, 2⟩) (meth := k2m2) (c := k2c2) (by decide +kernel) rfl rfl rfl (by decide +kernel)
set_option maxRecDepth 65536 in
theorem w_c4 : (Jvm.Cond.code ({ cls := "com/example/glowcursor/glowcursor/parser/ControlSequence", name := "endParameter", desc := "(Z)V" } : Jvm.MethodName) prog_38_method_13_code (2 : Nat) (Option.none : Option Jvm.ClassFile.FieldType)).before args0 about1 = true := code_word (m := ⟨2, 3⟩) (meth := k2m3) (c := k2c3) (by decide +kernel) rfl rfl rfl (by decide +kernel)
set_option maxRecDepth 65536 in
theorem w_c5 : (Jvm.Cond.code ({ cls := "com/example/glowcursor/glowcursor/parser/ControlSequence", name := "end", desc := "(I)V" } : Jvm.MethodName) prog_38_method_14_code (2 : Nat) (Option.none : Option Jvm.ClassFile.FieldType)).before args0 about1 = true := code_word (m := ⟨2, 4⟩) (meth := k2m4) (c := k2c4) (by decide +kernel) rfl rfl rfl (by decide +kernel)
set_option maxRecDepth 65536 in
theorem w_c6 : (Jvm.Cond.code ({ cls := "com/example/glowcursor/glowcursor/parser/ControlSequence", name := "hasSubParameters", desc := "()Z" } : Jvm.MethodName) prog_38_method_8_code (2 : Nat) (Option.some Jvm.ClassFile.FieldType.boolean)).before args0 about1 = true := code_word (m := ⟨2, 1⟩) (meth := k2m1) (c := k2c1) (by decide +kernel) rfl rfl rfl (by decide +kernel)
def codes1 : List Jvm.Cond := [Jvm.Cond.code x code maxLocals ret, Jvm.Cond.code ({ cls := "com/example/glowcursor/glowcursor/parser/ControlSequence", name := "<init>", desc := "()V" } : Jvm.MethodName) prog_38_method_1_code (1 : Nat) (Option.none : Option Jvm.ClassFile.FieldType), Jvm.Cond.code ({ cls := "java/lang/Object", name := "<init>", desc := "()V" } : Jvm.MethodName) object_method_1_code (1 : Nat) (Option.none : Option Jvm.ClassFile.FieldType), Jvm.Cond.code ({ cls := "com/example/glowcursor/glowcursor/parser/ControlSequence", name := "start", desc := "()V" } : Jvm.MethodName) prog_38_method_9_code (1 : Nat) (Option.none : Option Jvm.ClassFile.FieldType), Jvm.Cond.code ({ cls := "com/example/glowcursor/glowcursor/parser/ControlSequence", name := "endParameter", desc := "(Z)V" } : Jvm.MethodName) prog_38_method_13_code (2 : Nat) (Option.none : Option Jvm.ClassFile.FieldType), Jvm.Cond.code ({ cls := "com/example/glowcursor/glowcursor/parser/ControlSequence", name := "end", desc := "(I)V" } : Jvm.MethodName) prog_38_method_14_code (2 : Nat) (Option.none : Option Jvm.ClassFile.FieldType), Jvm.Cond.code ({ cls := "com/example/glowcursor/glowcursor/parser/ControlSequence", name := "hasSubParameters", desc := "()Z" } : Jvm.MethodName) prog_38_method_8_code (2 : Nat) (Option.some Jvm.ClassFile.FieldType.boolean)]
set_option maxRecDepth 65536 in
theorem codes_eq : words1.filter isCode = codes1 := rfl
theorem w_codes : ∀ c ∈ words1.filter isCode, c.before args0 about1 = true := by
  rw [codes_eq]
  intro c hc
  simp only [codes1, List.mem_cons, List.not_mem_nil, or_false] at hc
  rcases hc with rfl | rfl | rfl | rfl | rfl | rfl | rfl
  · exact w_c0
  · exact w_c1
  · exact w_c2
  · exact w_c3
  · exact w_c4
  · exact w_c5
  · exact w_c6
set_option maxRecDepth 65536 in
theorem w_t1 : (words1.take 24).all (fun c => isCode c || c.before args0 about1) = true := by decide +kernel
set_option maxRecDepth 65536 in
theorem w_t2 : ((words1.drop 24).take 24).all (fun c => isCode c || c.before args0 about1) = true := by decide +kernel
set_option maxRecDepth 65536 in
theorem w_t3 : ((words1.drop 24).drop 24).all (fun c => isCode c || c.before args0 about1) = true := by decide +kernel
theorem w_tables : (allAtoms (Jvm.Cond.code x code maxLocals ret :: tables_1)).before args0 about1 = true := by
  rw [allAtoms_all]
  show words1.all (fun c => c.before args0 about1) = true
  refine all_split ?_ w_codes
  rw [← List.take_append_drop 24 words1, List.all_append, w_t1, ← List.take_append_drop 24 (words1.drop 24), List.all_append, w_t2, w_t3]
  rfl
set_option maxRecDepth 65536 in
theorem w_case : (Jvm.Cond.and given_1 narrow_1).before args0 about1 = true := by decide +kernel
theorem w_applies : (headSpec (Jvm.Cond.code x code maxLocals ret :: tables_1) room_1).applies x e0.platform about1 = true :=
  (Spec.applies_iff w_frames).mpr ⟨w_running, w_runnable, w_alone, w_named, w_hears, w_ripe, w_room, w_tables⟩
theorem atStart : AtStart classFile x code maxLocals ret World_1 tables_1 room_1 Calls_1 rest_1 Pre_1 launch0 p0 e0 about1 theMethod args0 below0 :=
  ⟨lists_1, trivial, launch0.admits_env _ _ _, launch0.least_env, fairChoices_fair.cas, fairChoices_fair.clock, w_frames, w_args, w_heap, w_applies, trivial, trivial, w_case⟩
end start1
theorem witness_1 : WitnessClaimed_1 := ⟨start1.p0, start1.e0, start1.about1, start1.theMethod, start1.args0, start1.below0, start1.atStart⟩
end Jvm.Pilot.@@N@@
