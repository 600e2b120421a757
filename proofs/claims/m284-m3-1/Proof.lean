import JvmDerived
import JvmDerived.Pilot.@@N@@Statement
import JvmDerived.Pilot.@@N@@Code
set_option linter.unusedVariables false
set_option linter.unusedSimpArgs false
namespace Jvm.RoadKit
open Sem ClassFile Op Lib Jvm.Stand Jvm.Free Jvm.LawKit
section New
variable {p : Program} {l : Launch} {e : Env} {R : Room} {s : State} {m : MethodId} {args : Array Value} {below : List Frame} {meth : Method} {c : Code} {T : State} {locs : List Loc} {cells slots : Nat}
theorem retI (X : Stand p l e R s m args below meth c T locs cells slots) (hx : p.tables.exec = Jvm.exec) {pc : Nat} {Ls : Array Slot} {z : Int32} {rest : List Value} (hret : meth.sig.returnType = some .int) (hd : decode c.code pc = .ok (.ireturn, 1)) {fs : List Frame}
    (hl : ∀ (f : JFrame) (acts : List Action), f.method = m → f.locked = none → f.entered = [] → (doReturn e (T.setTop f) acts (some (.int z))).1 = T.setFrames fs) : Steps p.tables e below (T.setTop (mkF m pc Ls (.int z :: rest))) (T.setFrames fs) := by
  have hm' : T.vm.method? m = some meth := X.method'
  have hn : narrow .int (.int z) = .int z := rfl
  show Steps p.tables e below (T.setTop { method := m, pc := pc, locals := Ls, stack := _ :: rest, locked := none }) _
  jvm_step X.here [X.here.top, hx, hd, hm', hret, hn]
  first | (intro acts; rw [hl _ acts rfl rfl rfl]) | rw [hl _ _ rfl rfl rfl]
  exact Steps.refl _
end New
end Jvm.RoadKit
namespace Jvm.Pilot.@@N@@
open Jvm Jvm.ClassFile Sem Op Lib Jvm.Free Jvm.Stand Jvm.LawKit Jvm.RoadKit Bundle Jvm.Pilot.@@N@@.Jvm.D
theorem pd_0 : parseMethodDescriptor "()V" = some ⟨[], none⟩ := by decide +kernel
theorem pd_1 : parseMethodDescriptor "(JZ)V" = some ⟨[.long, .boolean], none⟩ := by decide +kernel
theorem pd_2 : parseMethodDescriptor "(Lcom/example/wattle/wattle/process/CompilerThreads$Look;)Z" = some ⟨[(.object "com/example/wattle/wattle/process/CompilerThreads$Look")], some .boolean⟩ := by decide +kernel
theorem pd_3 : parseMethodDescriptor "(ZJJ)Z" = some ⟨[.boolean, .long, .long], some .boolean⟩ := by decide +kernel
theorem d2_0 : decode jdk_30_method_1_code 0 = .ok (.aload_n 0, 1) := by decide +kernel
theorem d2_1 : decode jdk_30_method_1_code 1 = .ok (.invokespecial 1, 3) := by decide +kernel
theorem d2_4 : decode jdk_30_method_1_code 4 = .ok (.return_, 1) := by decide +kernel
theorem pn_2 : plainName "java/lang/Record" = true := by first | (simp [plainName, overriddenIn]; done) | decide +kernel
theorem ef_2 (m : MethodId) (x0 : Addr) : entryFrame m #[(.ref x0)] 1 = mkF m 0 #[.val (.ref x0)] [] := by first | (simp [entryFrame, mkF, argsToLocals, Value.category]; done) | rfl
def Q2 (Z : State) (o0 : Addr)  (h0 : Heap) (n0 : Nat) (v : Option Value) (h : Heap) (L : List Loc) : Prop := v = none ∧ Fr n0 L ∧ h = h0
set_option maxRecDepth 65536 in
set_option maxHeartbeats 40000000 in
theorem rm2 (l : Launch) (Z : State) (a0 : Array Value) (hw : ∀ d ∈ tables_1, d.before a0 Z = true) (ws : List Jvm.Cond) (o0 : Addr)  (h0 : Heap) (n0 : Nat) (Z0 : n0 ≤ h0.size)   :
    MetFree l (⟨"java/lang/Record", "<init>", "()V"⟩ : MethodName) (head1 (Jvm.Cond.code (⟨"java/lang/Record", "<init>", "()V"⟩ : MethodName) jdk_30_method_1_code 1 none :: ws) ({ frames := 1, cells := 0, slots := 0, locals := 12 } : Room)) (fun a U => a = #[(.ref o0)] ∧ Z.Warmed39 U.vm ∧ U.heap = h0) (fun _ _ _ _ _ => True) (fun _ U o U' => ∃ v L, o = .returned v ∧ Q2 Z o0 h0 n0 v U'.heap L ∧ FrameEnd U o U' L ({ frames := 1, cells := 0, slots := 0, locals := 12 } : Room).cells ({ frames := 1, cells := 0, slots := 0, locals := 12 } : Room).slots) := by
  refine MetFree.of_bodySF (plainFor_of_name pn_2) hisR ?_
  intro p e s m args below meth c s₁ Bd hml0 hP hK
  obtain ⟨rfl, hZ, hh⟩ := hP
  have hx := Bd.exec
  have hby := Bd.bytes
  have hml : c.maxLocals = 1 := hml0
  have hown : s.vm.findClass "java/lang/Record" = some m.cls := findClass_of_methodNamed Bd.named
  have hnm := (name_of_methodNamed Bd.named Bd.method).1
  have X0 : Stand p l e ({ frames := 1, cells := 0, slots := 0, locals := 12 } : Room) s m #[(.ref o0)] below meth c s₁ [] 0 0 := Stand.of_body Bd
  have e0 : s₁.heap = h0 := by rw [← hh, Bd.state]; rfl
  have N0 := Fr.nil n0
  have pre0 : ∀ t, Steps p.tables e below (s₁.setTop (mkF m 0 #[.val (.ref o0)] [])) t → Steps p.tables e below (s₁.setTop (entryFrame m #[(.ref o0)] 1)) t := fun t k => castTop (ef_2 m o0) k
  obtain ⟨T1, X1, e1, st1⟩ := initO X0 hx hZ hown (hw _ (List.mem_of_getElem? (i := 11) rfl)) (hw _ (List.mem_of_getElem? (i := 12) rfl)) (hw _ (List.mem_of_getElem? (i := 13) rfl)) e0 (g := (mkF m 1 #[.val (.ref o0)] [(.ref o0)])) rfl (by rw [hml]; rfl) rfl (hb hby d2_1) (by decide) (W := 0) (by show 2 * 0 + _ ≤ _; exact Nat.le_of_eq rfl) (by decide)
  obtain ⟨fs, hr, hrun, hended, hW, hsame⟩ := X1.leave (v := none) (fun _ => rfl)
  refine ⟨_, _, pre0 _ ?_, hrun, hended, _, _, rfl, ?_, ⟨_, rfl⟩, hW, hsame.mono (by decide) (by decide)⟩
  · show Steps p.tables e below (s₁.setTop (mkF m 0 #[.val (.ref o0)] [])) _
    refine XS.aloadN X0.here hx rfl (hb hby d2_0) rfl rfl ?_
    show Steps p.tables e below (s₁.setTop (mkF m 1 #[.val (.ref o0)] [(.ref o0)])) _
    refine st1 _ ?_
    show Steps p.tables e below (T1.setTop (mkF m 4 #[.val (.ref o0)] [])) _
    exact X1.returnOut hx Bd.returns (hb hby d2_4) hr
  · show Q2 Z o0 h0 n0 _ T1.heap _
    rw [e1]
    exact ⟨rfl, N0, rfl⟩
theorem d1_0 : decode prog_109_method_1_code 0 = .ok (.aload_n 0, 1) := by decide +kernel
theorem d1_1 : decode prog_109_method_1_code 1 = .ok (.invokespecial 1, 3) := by decide +kernel
theorem d1_4 : decode prog_109_method_1_code 4 = .ok (.aload_n 0, 1) := by decide +kernel
theorem d1_5 : decode prog_109_method_1_code 5 = .ok (.lload_n 1, 1) := by decide +kernel
theorem d1_6 : decode prog_109_method_1_code 6 = .ok (.putfield 7, 3) := by decide +kernel
theorem d1_9 : decode prog_109_method_1_code 9 = .ok (.aload_n 0, 1) := by decide +kernel
theorem d1_10 : decode prog_109_method_1_code 10 = .ok (.iload_n 3, 1) := by decide +kernel
theorem d1_11 : decode prog_109_method_1_code 11 = .ok (.putfield 13, 3) := by decide +kernel
theorem d1_14 : decode prog_109_method_1_code 14 = .ok (.return_, 1) := by decide +kernel
theorem pn_1 : plainName "com/example/wattle/wattle/process/CompilerThreads$Look" = true := by first | (simp [plainName, overriddenIn]; done) | decide +kernel
theorem ef_1 (m : MethodId) (x0 : Addr) (x1 : Int64) (x2 : Int32) : entryFrame m #[(.ref x0), (.long x1), (.int x2)] 4 = mkF m 0 #[.val (.ref x0), .val (.long x1), .second, .val (.int x2)] [] := by first | (simp [entryFrame, mkF, argsToLocals, Value.category]; done) | rfl
def Q1 (Z : State) (o0 : Addr) (q0 : Int64) (p0 : Int32) (u_ticks : Value) (u_compiling : Value) (h0 : Heap) (n0 : Nat) (v : Option Value) (h : Heap) (L : List Loc) : Prop := v = none ∧ Fr n0 L ∧ Keep h0 h [o0] ∧ Fld Z h o0 "com/example/wattle/wattle/process/CompilerThreads$Look" "ticks" "J" (.long q0) ∧ Fld Z h o0 "com/example/wattle/wattle/process/CompilerThreads$Look" "compiling" "Z" (.int (nar .boolean p0))
set_option maxRecDepth 65536 in
set_option maxHeartbeats 40000000 in
theorem rm1 (l : Launch) (Z : State) (a0 : Array Value) (hw : ∀ d ∈ tables_1, d.before a0 Z = true) (ws : List Jvm.Cond) (o0 : Addr) (q0 : Int64) (p0 : Int32) (u_ticks : Value) (u_compiling : Value) (h0 : Heap) (n0 : Nat) (Z0 : n0 ≤ h0.size) (E_o0 : Exa Z h0 o0 "com/example/wattle/wattle/process/CompilerThreads$Look") (g_o0 : n0 ≤ o0) (F_ticks_o0 : Fld Z h0 o0 "com/example/wattle/wattle/process/CompilerThreads$Look" "ticks" "J" u_ticks) (F_compiling_o0 : Fld Z h0 o0 "com/example/wattle/wattle/process/CompilerThreads$Look" "compiling" "Z" u_compiling)  :
    MetFree l (⟨"com/example/wattle/wattle/process/CompilerThreads$Look", "<init>", "(JZ)V"⟩ : MethodName) (head1 (Jvm.Cond.code (⟨"com/example/wattle/wattle/process/CompilerThreads$Look", "<init>", "(JZ)V"⟩ : MethodName) prog_109_method_1_code 4 none :: ws) ({ frames := 2, cells := 0, slots := 0, locals := 24 } : Room)) (fun a U => a = #[(.ref o0), (.long q0), (.int p0)] ∧ Z.Warmed39 U.vm ∧ U.heap = h0) (fun _ _ _ _ _ => True) (fun _ U o U' => ∃ v L, o = .returned v ∧ Q1 Z o0 q0 p0 u_ticks u_compiling h0 n0 v U'.heap L ∧ FrameEnd U o U' L ({ frames := 2, cells := 0, slots := 0, locals := 24 } : Room).cells ({ frames := 2, cells := 0, slots := 0, locals := 24 } : Room).slots) := by
  refine MetFree.of_bodySF (plainFor_of_name pn_1) hisR ?_
  intro p e s m args below meth c s₁ Bd hml0 hP hK
  obtain ⟨rfl, hZ, hh⟩ := hP
  have hx := Bd.exec
  have hby := Bd.bytes
  have hml : c.maxLocals = 4 := hml0
  have hown : s.vm.findClass "com/example/wattle/wattle/process/CompilerThreads$Look" = some m.cls := findClass_of_methodNamed Bd.named
  have hnm := (name_of_methodNamed Bd.named Bd.method).1
  have X0 : Stand p l e ({ frames := 2, cells := 0, slots := 0, locals := 24 } : Room) s m #[(.ref o0), (.long q0), (.int p0)] below meth c s₁ [] 0 0 := Stand.of_body Bd
  have e0 : s₁.heap = h0 := by rw [← hh, Bd.state]; rfl
  have N0 := Fr.nil n0
  have pre0 : ∀ t, Steps p.tables e below (s₁.setTop (mkF m 0 #[.val (.ref o0), .val (.long q0), .second, .val (.int p0)] [])) t → Steps p.tables e below (s₁.setTop (entryFrame m #[(.ref o0), (.long q0), (.int p0)] 4)) t := fun t k => castTop (ef_1 m o0 q0 p0) k
  obtain ⟨_, _, ⟨T1, L1, k1, n1⟩, -, X1, ⟨Lc1, hQ1, l1, y1, z1⟩, st1⟩ := X0.specialBack hx (y := (⟨"java/lang/Record", "<init>", "()V"⟩ : MethodName)) rfl hown (mvT hZ (hw _ (List.mem_of_getElem? (i := 6) rfl))) (mvT hZ (hw _ (List.mem_of_getElem? (i := 7) rfl))) (mvT hZ (hw _ (List.mem_of_getElem? (i := 10) rfl))) (by decide) (backOf (W := 0) (rm2 l Z a0 hw [] o0  h0 n0 Z0 ) hZ (hw _ (List.mem_of_getElem? (i := 10) rfl)) (hw _ (List.mem_of_getElem? (i := 9) rfl)) (by decide) (by decide)) (g := (mkF m 1 #[.val (.ref o0), .val (.long q0), .second, .val (.int p0)] [(.ref o0)])) rfl (by rw [hml]; rfl) (Steps.refl _) (a := o0) (argsL := []) (rest := []) (lenOf pd_0 rfl) rfl (by show 2 * 0 + _ ≤ _; exact Nat.le_of_eq rfl) (hb hby d1_1) (fun _ _ => ⟨rfl, e0, (by decide : 0 + 0 ≤ _), (by decide : 0 + 0 ≤ _)⟩)
  dsimp only [Pt.U, Pt.locs, Pt.cells, Pt.slots] at X1 l1 y1 z1 st1 hQ1
  subst l1 y1 z1
  obtain ⟨rfl, N1q, e1⟩ := hQ1
  have N1 := Fr.app N0 N1q
  obtain ⟨T2, h2, X2, e2, W2, st2⟩ := putF X1 hx hZ hown (host := "") (Or.inl (hw _ (List.mem_of_getElem? (i := 14) rfl))) Via.refl e1 (F_ticks_o0) (E_o0) (Or.inr ⟨(hw _ (List.mem_of_getElem? (i := 15) rfl)), rfl, hnm⟩) (hw _ (List.mem_of_getElem? (i := 1) rfl)) (ty := .long) (by decide) rfl rfl (g := (mkF m 6 #[.val (.ref o0), .val (.long q0), .second, .val (.int p0)] [(.long q0), (.ref o0)])) rfl rfl (hb hby d1_6)
  have Fw2 := (F_ticks_o0).same W2
  have N2 := Fr.snoc X2 N1 g_o0
  have Z2 : n0 ≤ h2.size := Nat.le_trans Z0 (Keep.of_wr W2).1
  have K2 : Keep h0 h2 [o0] := ((Keep.refl h0 [o0])).wr W2 (Or.inl (List.mem_of_getElem? (i := 0) rfl))
  obtain ⟨T3, h3, X3, e3, W3, st3⟩ := putFN X2 hx hZ hown (hw _ (List.mem_of_getElem? (i := 16) rfl)) Via.refl e2 ((F_compiling_o0.other W2 (Or.inr (slot_ne (Or.inr (hw _ (List.mem_of_getElem? (i := 17) rfl))) (Or.inr (hw _ (List.mem_of_getElem? (i := 15) rfl))) (by decide) (t := .boolean) (t' := .long) (by decide) (by decide))))) ((E_o0.wr W2)) (Or.inr ⟨(hw _ (List.mem_of_getElem? (i := 17) rfl)), rfl, hnm⟩) (hw _ (List.mem_of_getElem? (i := 1) rfl)) (ty := .boolean) (v' := (.int (nar .boolean p0))) (by decide) rfl (fits_nar_bool _) (g := (mkF m 11 #[.val (.ref o0), .val (.long q0), .second, .val (.int p0)] [(.int p0), (.ref o0)])) rfl rfl (hb hby d1_11)
  have Fw3 := ((F_compiling_o0.other W2 (Or.inr (slot_ne (Or.inr (hw _ (List.mem_of_getElem? (i := 17) rfl))) (Or.inr (hw _ (List.mem_of_getElem? (i := 15) rfl))) (by decide) (t := .boolean) (t' := .long) (by decide) (by decide))))).same W3
  have N3 := Fr.snoc X3 N2 g_o0
  have Z3 : n0 ≤ h3.size := Nat.le_trans Z2 (Keep.of_wr W3).1
  have K3 : Keep h0 h3 [o0] := (K2).wr W3 (Or.inl (List.mem_of_getElem? (i := 0) rfl))
  obtain ⟨fs, hr, hrun, hended, hW, hsame⟩ := X3.leave (v := none) (fun _ => rfl)
  refine ⟨_, _, pre0 _ ?_, hrun, hended, _, _, rfl, ?_, ⟨_, rfl⟩, hW, hsame.mono (by decide) (by decide)⟩
  · show Steps p.tables e below (s₁.setTop (mkF m 0 #[.val (.ref o0), .val (.long q0), .second, .val (.int p0)] [])) _
    refine XS.aloadN X0.here hx rfl (hb hby d1_0) rfl rfl ?_
    show Steps p.tables e below (s₁.setTop (mkF m 1 #[.val (.ref o0), .val (.long q0), .second, .val (.int p0)] [(.ref o0)])) _
    refine st1.trans ?_
    show Steps p.tables e below (T1.setTop (mkF m 4 #[.val (.ref o0), .val (.long q0), .second, .val (.int p0)] [])) _
    refine XS.aloadN X1.here hx rfl (hb hby d1_4) rfl rfl ?_
    show Steps p.tables e below (T1.setTop (mkF m 5 #[.val (.ref o0), .val (.long q0), .second, .val (.int p0)] [(.ref o0)])) _
    refine XS.lloadN X1.here hx rfl (hb hby d1_5) rfl ?_
    show Steps p.tables e below (T1.setTop (mkF m 6 #[.val (.ref o0), .val (.long q0), .second, .val (.int p0)] [(.long q0), (.ref o0)])) _
    refine st2 _ ?_
    show Steps p.tables e below (T2.setTop (mkF m 9 #[.val (.ref o0), .val (.long q0), .second, .val (.int p0)] [])) _
    refine XS.aloadN X2.here hx rfl (hb hby d1_9) rfl rfl ?_
    show Steps p.tables e below (T2.setTop (mkF m 10 #[.val (.ref o0), .val (.long q0), .second, .val (.int p0)] [(.ref o0)])) _
    refine XS.iloadN X2.here hx rfl (hb hby d1_10) rfl ?_
    show Steps p.tables e below (T2.setTop (mkF m 11 #[.val (.ref o0), .val (.long q0), .second, .val (.int p0)] [(.int p0), (.ref o0)])) _
    refine st3 _ ?_
    show Steps p.tables e below (T3.setTop (mkF m 14 #[.val (.ref o0), .val (.long q0), .second, .val (.int p0)] [])) _
    exact X3.returnOut hx Bd.returns (hb hby d1_14) hr
  · show Q1 Z o0 q0 p0 u_ticks u_compiling h0 n0 _ T3.heap _
    rw [e3]
    exact ⟨rfl, N3, K3, (Fw2.other W3 (Or.inr (slot_ne (Or.inr (hw _ (List.mem_of_getElem? (i := 15) rfl))) (Or.inr (hw _ (List.mem_of_getElem? (i := 17) rfl))) (by decide) (t := .long) (t' := .boolean) (by decide) (by decide)))), Fw3⟩
theorem d4_0 : decode prog_109_method_2_code 0 = .ok (.aload_n 0, 1) := by decide +kernel
theorem d4_1 : decode prog_109_method_2_code 1 = .ok (.getfield 13, 3) := by decide +kernel
theorem d4_4 : decode prog_109_method_2_code 4 = .ok (.ifCond .ne 15, 3) := by decide +kernel
theorem d4_7 : decode prog_109_method_2_code 7 = .ok (.aload_n 0, 1) := by decide +kernel
theorem d4_8 : decode prog_109_method_2_code 8 = .ok (.getfield 7, 3) := by decide +kernel
theorem d4_11 : decode prog_109_method_2_code 11 = .ok (.aload_n 1, 1) := by decide +kernel
theorem d4_12 : decode prog_109_method_2_code 12 = .ok (.getfield 7, 3) := by decide +kernel
theorem d4_15 : decode prog_109_method_2_code 15 = .ok (.lcmp, 1) := by decide +kernel
theorem d4_16 : decode prog_109_method_2_code 16 = .ok (.ifCond .eq 7, 3) := by decide +kernel
theorem d4_19 : decode prog_109_method_2_code 19 = .ok (.iconst 1, 1) := by decide +kernel
theorem d4_20 : decode prog_109_method_2_code 20 = .ok (.goto 4, 3) := by decide +kernel
theorem d4_23 : decode prog_109_method_2_code 23 = .ok (.iconst 0, 1) := by decide +kernel
theorem d4_24 : decode prog_109_method_2_code 24 = .ok (.ireturn, 1) := by decide +kernel
theorem pn_4 : plainName "com/example/wattle/wattle/process/CompilerThreads$Look" = true := by first | (simp [plainName, overriddenIn]; done) | decide +kernel
theorem ef_4 (m : MethodId) (x0 : Addr) (x1 : Addr) : entryFrame m #[(.ref x0), (.ref x1)] 2 = mkF m 0 #[.val (.ref x0), .val (.ref x1)] [] := by first | (simp [entryFrame, mkF, argsToLocals, Value.category]; done) | rfl
def f4 (cn : Int32) (ta : Int64) (tb : Int64) : Int32 := (if cn = (0 : Int32) then (if (lcmpW ta tb) = (0 : Int32) then (0 : Int32) else (1 : Int32)) else (1 : Int32))
def Q4 (Z : State) (o0 : Addr) (o1 : Addr) (cn : Int32) (ta : Int64) (tb : Int64) (h0 : Heap) (n0 : Nat) (v : Option Value) (h : Heap) (L : List Loc) : Prop := v = some (.int (f4 cn ta tb)) ∧ Fr n0 L ∧ h = h0
set_option maxRecDepth 65536 in
set_option maxHeartbeats 40000000 in
theorem rm4 (l : Launch) (Z : State) (a0 : Array Value) (hw : ∀ d ∈ tables_1, d.before a0 Z = true) (ws : List Jvm.Cond) (o0 : Addr) (o1 : Addr) (cn : Int32) (ta : Int64) (tb : Int64) (h0 : Heap) (n0 : Nat) (Z0 : n0 ≤ h0.size) (E_o0 : Exa Z h0 o0 "com/example/wattle/wattle/process/CompilerThreads$Look") (E_o1 : Exa Z h0 o1 "com/example/wattle/wattle/process/CompilerThreads$Look") (F_compiling_o0 : Fld Z h0 o0 "com/example/wattle/wattle/process/CompilerThreads$Look" "compiling" "Z" (.int cn)) (F_ticks_o0 : Fld Z h0 o0 "com/example/wattle/wattle/process/CompilerThreads$Look" "ticks" "J" (.long ta)) (F_ticks_o1 : Fld Z h0 o1 "com/example/wattle/wattle/process/CompilerThreads$Look" "ticks" "J" (.long tb))  :
    MetFree l (⟨"com/example/wattle/wattle/process/CompilerThreads$Look", "busySince", "(Lcom/example/wattle/wattle/process/CompilerThreads$Look;)Z"⟩ : MethodName) (head1 (Jvm.Cond.code (⟨"com/example/wattle/wattle/process/CompilerThreads$Look", "busySince", "(Lcom/example/wattle/wattle/process/CompilerThreads$Look;)Z"⟩ : MethodName) prog_109_method_2_code 2 (some .boolean) :: ws) ({ frames := 0, cells := 0, slots := 0, locals := 0 } : Room)) (fun a U => a = #[(.ref o0), (.ref o1)] ∧ Z.Warmed39 U.vm ∧ U.heap = h0) (fun _ _ _ _ _ => True) (fun _ U o U' => ∃ v L, o = .returned v ∧ Q4 Z o0 o1 cn ta tb h0 n0 v U'.heap L ∧ FrameEnd U o U' L ({ frames := 0, cells := 0, slots := 0, locals := 0 } : Room).cells ({ frames := 0, cells := 0, slots := 0, locals := 0 } : Room).slots) := by
  refine MetFree.of_bodySF (plainFor_of_name pn_4) hisR ?_
  intro p e s m args below meth c s₁ Bd hml0 hP hK
  obtain ⟨rfl, hZ, hh⟩ := hP
  have hx := Bd.exec
  have hby := Bd.bytes
  have hml : c.maxLocals = 2 := hml0
  have hown : s.vm.findClass "com/example/wattle/wattle/process/CompilerThreads$Look" = some m.cls := findClass_of_methodNamed Bd.named
  have hnm := (name_of_methodNamed Bd.named Bd.method).1
  have X0 : Stand p l e ({ frames := 0, cells := 0, slots := 0, locals := 0 } : Room) s m #[(.ref o0), (.ref o1)] below meth c s₁ [] 0 0 := Stand.of_body Bd
  have e0 : s₁.heap = h0 := by rw [← hh, Bd.state]; rfl
  have N0 := Fr.nil n0
  have pre0 : ∀ t, Steps p.tables e below (s₁.setTop (mkF m 0 #[.val (.ref o0), .val (.ref o1)] [])) t → Steps p.tables e below (s₁.setTop (entryFrame m #[(.ref o0), (.ref o1)] 2)) t := fun t k => castTop (ef_4 m o0 o1) k
  obtain ⟨T1, X1, e1, st1⟩ := getF X0 hx hZ hown (host := "") (Or.inl (hw _ (List.mem_of_getElem? (i := 16) rfl))) Via.refl e0 (F_compiling_o0) (g := (mkF m 1 #[.val (.ref o0), .val (.ref o1)] [(.ref o0)])) rfl rfl (hb hby d4_1)
  have pre2 : ∀ t, Steps p.tables e below (T1.setTop (mkF m 4 #[.val (.ref o0), .val (.ref o1)] [(.int cn)])) t → Steps p.tables e below (s₁.setTop (entryFrame m #[(.ref o0), (.ref o1)] 2)) t := fun t k => pre0 t (by
    show Steps p.tables e below (s₁.setTop (mkF m 0 #[.val (.ref o0), .val (.ref o1)] [])) _
    refine XS.aloadN X0.here hx rfl (hb hby d4_0) rfl rfl ?_
    show Steps p.tables e below (s₁.setTop (mkF m 1 #[.val (.ref o0), .val (.ref o1)] [(.ref o0)])) _
    refine st1 _ ?_
    show Steps p.tables e below (T1.setTop (mkF m 4 #[.val (.ref o0), .val (.ref o1)] [(.int cn)])) _
    exact k)
  by_cases hc4_3 : cn = (0 : Int32)
  · obtain ⟨T4, X4, e4, st4⟩ := getF X1 hx hZ hown (host := "") (Or.inl (hw _ (List.mem_of_getElem? (i := 14) rfl))) Via.refl e1 (F_ticks_o0) (g := (mkF m 8 #[.val (.ref o0), .val (.ref o1)] [(.ref o0)])) rfl rfl (hb hby d4_8)
    obtain ⟨T5, X5, e5, st5⟩ := getF X4 hx hZ hown (host := "") (Or.inl (hw _ (List.mem_of_getElem? (i := 14) rfl))) Via.refl e4 (F_ticks_o1) (g := (mkF m 12 #[.val (.ref o0), .val (.ref o1)] [(.ref o1), (.long ta)])) rfl rfl (hb hby d4_12)
    have pre6 : ∀ t, Steps p.tables e below (T5.setTop (mkF m 16 #[.val (.ref o0), .val (.ref o1)] [(.int (lcmpW ta tb))])) t → Steps p.tables e below (s₁.setTop (entryFrame m #[(.ref o0), (.ref o1)] 2)) t := fun t k => pre2 t (by
      show Steps p.tables e below (T1.setTop (mkF m 4 #[.val (.ref o0), .val (.ref o1)] [(.int cn)])) _
      refine XS.ifNo X1.here hx rfl (hb hby d4_4) rfl ((if0 _ _).trans (teq hc4_3).2) ?_
      show Steps p.tables e below (T1.setTop (mkF m 7 #[.val (.ref o0), .val (.ref o1)] [])) _
      refine XS.aloadN X1.here hx rfl (hb hby d4_7) rfl rfl ?_
      show Steps p.tables e below (T1.setTop (mkF m 8 #[.val (.ref o0), .val (.ref o1)] [(.ref o0)])) _
      refine st4 _ ?_
      show Steps p.tables e below (T4.setTop (mkF m 11 #[.val (.ref o0), .val (.ref o1)] [(.long ta)])) _
      refine XS.aloadN X4.here hx rfl (hb hby d4_11) rfl rfl ?_
      show Steps p.tables e below (T4.setTop (mkF m 12 #[.val (.ref o0), .val (.ref o1)] [(.ref o1), (.long ta)])) _
      refine st5 _ ?_
      show Steps p.tables e below (T5.setTop (mkF m 15 #[.val (.ref o0), .val (.ref o1)] [(.long tb), (.long ta)])) _
      refine XS.lcmp X5.here hx rfl (hb hby d4_15) rfl ?_
      show Steps p.tables e below (T5.setTop (mkF m 16 #[.val (.ref o0), .val (.ref o1)] [(.int (lcmpW ta tb))])) _
      exact k)
    by_cases hc16_7 : (lcmpW ta tb) = (0 : Int32)
    · have hv : (f4 cn ta tb) = (0 : Int32) := by simp only [f4, if_pos hc4_3, if_pos hc16_7]
      obtain ⟨fs, hr, hrun, hended, hW, hsame⟩ := X5.leave (v := some (.int (0 : Int32))) (fun h => by rw [Bd.returns] at h; cases h)
      refine ⟨_, _, pre6 _ ?_, hrun, hended, _, _, rfl, ?_, ⟨_, rfl⟩, hW, hsame.mono (by decide) (by decide)⟩
      · show Steps p.tables e below (T5.setTop (mkF m 16 #[.val (.ref o0), .val (.ref o1)] [(.int (lcmpW ta tb))])) _
        refine XS.ifYes X5.here hx rfl (pc0 := 16) (pc' := 23) rfl (hb hby d4_16) rfl ((if0 _ _).trans (teq hc16_7).1) (by decide) (by decide) ?_
        show Steps p.tables e below (T5.setTop (mkF m 23 #[.val (.ref o0), .val (.ref o1)] [])) _
        refine XS.iconst X5.here hx rfl (hb hby d4_23) ?_
        show Steps p.tables e below (T5.setTop (mkF m 24 #[.val (.ref o0), .val (.ref o1)] [(.int (0 : Int32))])) _
        exact retN X5 hx (t := .boolean) Bd.returns (by simp) (hb hby d4_24) hr
      · show Q4 Z o0 o1 cn ta tb h0 n0 _ T5.heap _
        rw [e5]
        exact ⟨by rw [hv], N0, rfl⟩
    · have hv : (f4 cn ta tb) = (1 : Int32) := by simp only [f4, if_pos hc4_3, if_neg hc16_7]
      obtain ⟨fs, hr, hrun, hended, hW, hsame⟩ := X5.leave (v := some (.int (1 : Int32))) (fun h => by rw [Bd.returns] at h; cases h)
      refine ⟨_, _, pre6 _ ?_, hrun, hended, _, _, rfl, ?_, ⟨_, rfl⟩, hW, hsame.mono (by decide) (by decide)⟩
      · show Steps p.tables e below (T5.setTop (mkF m 16 #[.val (.ref o0), .val (.ref o1)] [(.int (lcmpW ta tb))])) _
        refine XS.ifNo X5.here hx rfl (hb hby d4_16) rfl ((if0 _ _).trans (feq hc16_7).1) ?_
        show Steps p.tables e below (T5.setTop (mkF m 19 #[.val (.ref o0), .val (.ref o1)] [])) _
        refine XS.iconst X5.here hx rfl (hb hby d4_19) ?_
        show Steps p.tables e below (T5.setTop (mkF m 20 #[.val (.ref o0), .val (.ref o1)] [(.int (1 : Int32))])) _
        refine XS.goto X5.here hx rfl (pc0 := 20) (pc' := 24) rfl (hb hby d4_20) (by decide) (by decide) ?_
        show Steps p.tables e below (T5.setTop (mkF m 24 #[.val (.ref o0), .val (.ref o1)] [(.int (1 : Int32))])) _
        exact retN X5 hx (t := .boolean) Bd.returns (by simp) (hb hby d4_24) hr
      · show Q4 Z o0 o1 cn ta tb h0 n0 _ T5.heap _
        rw [e5]
        exact ⟨by rw [hv], N0, rfl⟩
  · have hv : (f4 cn ta tb) = (1 : Int32) := by simp only [f4, if_neg hc4_3]
    obtain ⟨fs, hr, hrun, hended, hW, hsame⟩ := X1.leave (v := some (.int (1 : Int32))) (fun h => by rw [Bd.returns] at h; cases h)
    refine ⟨_, _, pre2 _ ?_, hrun, hended, _, _, rfl, ?_, ⟨_, rfl⟩, hW, hsame.mono (by decide) (by decide)⟩
    · show Steps p.tables e below (T1.setTop (mkF m 4 #[.val (.ref o0), .val (.ref o1)] [(.int cn)])) _
      refine XS.ifYes X1.here hx rfl (pc0 := 4) (pc' := 19) rfl (hb hby d4_4) rfl ((if0 _ _).trans (feq hc4_3).2) (by decide) (by decide) ?_
      show Steps p.tables e below (T1.setTop (mkF m 19 #[.val (.ref o0), .val (.ref o1)] [])) _
      refine XS.iconst X1.here hx rfl (hb hby d4_19) ?_
      show Steps p.tables e below (T1.setTop (mkF m 20 #[.val (.ref o0), .val (.ref o1)] [(.int (1 : Int32))])) _
      refine XS.goto X1.here hx rfl (pc0 := 20) (pc' := 24) rfl (hb hby d4_20) (by decide) (by decide) ?_
      show Steps p.tables e below (T1.setTop (mkF m 24 #[.val (.ref o0), .val (.ref o1)] [(.int (1 : Int32))])) _
      exact retN X1 hx (t := .boolean) Bd.returns (by simp) (hb hby d4_24) hr
    · show Q4 Z o0 o1 cn ta tb h0 n0 _ T1.heap _
      rw [e1]
      exact ⟨by rw [hv], N0, rfl⟩
theorem d5_0 : decode method_2_code 0 = .ok (.iload_n 0, 1) := by decide +kernel
theorem d5_1 : decode method_2_code 1 = .ok (.ifCond .eq 5, 3) := by decide +kernel
theorem d5_4 : decode method_2_code 4 = .ok (.iconst 1, 1) := by decide +kernel
theorem d5_5 : decode method_2_code 5 = .ok (.ireturn, 1) := by decide +kernel
theorem d5_6 : decode method_2_code 6 = .ok (.lload_n 1, 1) := by decide +kernel
theorem d5_7 : decode method_2_code 7 = .ok (.lload_n 3, 1) := by decide +kernel
theorem d5_8 : decode method_2_code 8 = .ok (.lsub, 1) := by decide +kernel
theorem d5_9 : decode method_2_code 9 = .ok (.lconst 0, 1) := by decide +kernel
theorem d5_10 : decode method_2_code 10 = .ok (.lcmp, 1) := by decide +kernel
theorem d5_11 : decode method_2_code 11 = .ok (.ifCond .ne 5, 3) := by decide +kernel
theorem d5_14 : decode method_2_code 14 = .ok (.iconst 0, 1) := by decide +kernel
theorem d5_15 : decode method_2_code 15 = .ok (.ireturn, 1) := by decide +kernel
theorem d5_16 : decode method_2_code 16 = .ok (.iconst 1, 1) := by decide +kernel
theorem d5_17 : decode method_2_code 17 = .ok (.ireturn, 1) := by decide +kernel
theorem pn_5 : plainName "com/example/wattle/wattle/process/LookBusySincePinLaw" = true := by first | (simp [plainName, overriddenIn]; done) | decide +kernel
theorem ef_5 (m : MethodId) (x0 : Int32) (x1 : Int64) (x2 : Int64) : entryFrame m #[(.int x0), (.long x1), (.long x2)] 5 = mkF m 0 #[.val (.int x0), .val (.long x1), .second, .val (.long x2), .second] [] := by first | (simp [entryFrame, mkF, argsToLocals, Value.category]; done) | rfl
def f5 (p0 : Int32) (qa : Int64) (qb : Int64) : Int32 := (if p0 = (0 : Int32) then (if (lcmpW (qa - qb) (0 : Int64)) = (0 : Int32) then (0 : Int32) else (1 : Int32)) else (1 : Int32))
def Q5 (Z : State) (p0 : Int32) (qa : Int64) (qb : Int64) (h0 : Heap) (n0 : Nat) (v : Option Value) (h : Heap) (L : List Loc) : Prop := v = some (.int (f5 p0 qa qb)) ∧ Fr n0 L ∧ h = h0
set_option maxRecDepth 65536 in
set_option maxHeartbeats 40000000 in
theorem rm5 (l : Launch) (Z : State) (a0 : Array Value) (hw : ∀ d ∈ tables_1, d.before a0 Z = true) (ws : List Jvm.Cond) (p0 : Int32) (qa : Int64) (qb : Int64)  (h0 : Heap) (n0 : Nat) (Z0 : n0 ≤ h0.size)  :
    MetFree l (⟨"com/example/wattle/wattle/process/LookBusySincePinLaw", "expected", "(ZJJ)Z"⟩ : MethodName) (head1 (Jvm.Cond.code (⟨"com/example/wattle/wattle/process/LookBusySincePinLaw", "expected", "(ZJJ)Z"⟩ : MethodName) method_2_code 5 (some .boolean) :: ws) ({ frames := 0, cells := 0, slots := 0, locals := 0 } : Room)) (fun a U => a = #[(.int p0), (.long qa), (.long qb)] ∧ Z.Warmed39 U.vm ∧ U.heap = h0) (fun _ _ _ _ _ => True) (fun _ U o U' => ∃ v L, o = .returned v ∧ Q5 Z p0 qa qb h0 n0 v U'.heap L ∧ FrameEnd U o U' L ({ frames := 0, cells := 0, slots := 0, locals := 0 } : Room).cells ({ frames := 0, cells := 0, slots := 0, locals := 0 } : Room).slots) := by
  refine MetFree.of_bodySF (plainFor_of_name pn_5) hisR ?_
  intro p e s m args below meth c s₁ Bd hml0 hP hK
  obtain ⟨rfl, hZ, hh⟩ := hP
  have hx := Bd.exec
  have hby := Bd.bytes
  have hml : c.maxLocals = 5 := hml0
  have hown : s.vm.findClass "com/example/wattle/wattle/process/LookBusySincePinLaw" = some m.cls := findClass_of_methodNamed Bd.named
  have hnm := (name_of_methodNamed Bd.named Bd.method).1
  have X0 : Stand p l e ({ frames := 0, cells := 0, slots := 0, locals := 0 } : Room) s m #[(.int p0), (.long qa), (.long qb)] below meth c s₁ [] 0 0 := Stand.of_body Bd
  have e0 : s₁.heap = h0 := by rw [← hh, Bd.state]; rfl
  have N0 := Fr.nil n0
  have pre0 : ∀ t, Steps p.tables e below (s₁.setTop (mkF m 0 #[.val (.int p0), .val (.long qa), .second, .val (.long qb), .second] [])) t → Steps p.tables e below (s₁.setTop (entryFrame m #[(.int p0), (.long qa), (.long qb)] 5)) t := fun t k => castTop (ef_5 m p0 qa qb) k
  have pre1 : ∀ t, Steps p.tables e below (s₁.setTop (mkF m 1 #[.val (.int p0), .val (.long qa), .second, .val (.long qb), .second] [(.int p0)])) t → Steps p.tables e below (s₁.setTop (entryFrame m #[(.int p0), (.long qa), (.long qb)] 5)) t := fun t k => pre0 t (by
    show Steps p.tables e below (s₁.setTop (mkF m 0 #[.val (.int p0), .val (.long qa), .second, .val (.long qb), .second] [])) _
    refine XS.iloadN X0.here hx rfl (hb hby d5_0) rfl ?_
    show Steps p.tables e below (s₁.setTop (mkF m 1 #[.val (.int p0), .val (.long qa), .second, .val (.long qb), .second] [(.int p0)])) _
    exact k)
  by_cases hc1_2 : p0 = (0 : Int32)
  · have pre3 : ∀ t, Steps p.tables e below (s₁.setTop (mkF m 11 #[.val (.int p0), .val (.long qa), .second, .val (.long qb), .second] [(.int (lcmpW (qa - qb) (0 : Int64)))])) t → Steps p.tables e below (s₁.setTop (entryFrame m #[(.int p0), (.long qa), (.long qb)] 5)) t := fun t k => pre1 t (by
      show Steps p.tables e below (s₁.setTop (mkF m 1 #[.val (.int p0), .val (.long qa), .second, .val (.long qb), .second] [(.int p0)])) _
      refine XS.ifYes X0.here hx rfl (pc0 := 1) (pc' := 6) rfl (hb hby d5_1) rfl ((if0 _ _).trans (teq hc1_2).1) (by decide) (by decide) ?_
      show Steps p.tables e below (s₁.setTop (mkF m 6 #[.val (.int p0), .val (.long qa), .second, .val (.long qb), .second] [])) _
      refine XS.lloadN X0.here hx rfl (hb hby d5_6) rfl ?_
      show Steps p.tables e below (s₁.setTop (mkF m 7 #[.val (.int p0), .val (.long qa), .second, .val (.long qb), .second] [(.long qa)])) _
      refine XS.lloadN X0.here hx rfl (hb hby d5_7) rfl ?_
      show Steps p.tables e below (s₁.setTop (mkF m 8 #[.val (.int p0), .val (.long qa), .second, .val (.long qb), .second] [(.long qb), (.long qa)])) _
      refine XS.lsub X0.here hx rfl (hb hby d5_8) rfl ?_
      show Steps p.tables e below (s₁.setTop (mkF m 9 #[.val (.int p0), .val (.long qa), .second, .val (.long qb), .second] [(.long (qa - qb))])) _
      refine XS.lconst X0.here hx rfl (hb hby d5_9) ?_
      show Steps p.tables e below (s₁.setTop (mkF m 10 #[.val (.int p0), .val (.long qa), .second, .val (.long qb), .second] [(.long (0 : Int64)), (.long (qa - qb))])) _
      refine XS.lcmp X0.here hx rfl (hb hby d5_10) rfl ?_
      show Steps p.tables e below (s₁.setTop (mkF m 11 #[.val (.int p0), .val (.long qa), .second, .val (.long qb), .second] [(.int (lcmpW (qa - qb) (0 : Int64)))])) _
      exact k)
    by_cases hc11_4 : (lcmpW (qa - qb) (0 : Int64)) = (0 : Int32)
    · have hv : (f5 p0 qa qb) = (0 : Int32) := by simp only [f5, if_pos hc1_2, if_pos hc11_4]
      obtain ⟨fs, hr, hrun, hended, hW, hsame⟩ := X0.leave (v := some (.int (0 : Int32))) (fun h => by rw [Bd.returns] at h; cases h)
      refine ⟨_, _, pre3 _ ?_, hrun, hended, _, _, rfl, ?_, ⟨_, rfl⟩, hW, hsame.mono (by decide) (by decide)⟩
      · show Steps p.tables e below (s₁.setTop (mkF m 11 #[.val (.int p0), .val (.long qa), .second, .val (.long qb), .second] [(.int (lcmpW (qa - qb) (0 : Int64)))])) _
        refine XS.ifNo X0.here hx rfl (hb hby d5_11) rfl ((if0 _ _).trans (teq hc11_4).2) ?_
        show Steps p.tables e below (s₁.setTop (mkF m 14 #[.val (.int p0), .val (.long qa), .second, .val (.long qb), .second] [])) _
        refine XS.iconst X0.here hx rfl (hb hby d5_14) ?_
        show Steps p.tables e below (s₁.setTop (mkF m 15 #[.val (.int p0), .val (.long qa), .second, .val (.long qb), .second] [(.int (0 : Int32))])) _
        exact retN X0 hx (t := .boolean) Bd.returns (by simp) (hb hby d5_15) hr
      · exact ⟨by rw [hv], N0, e0⟩
    · have hv : (f5 p0 qa qb) = (1 : Int32) := by simp only [f5, if_pos hc1_2, if_neg hc11_4]
      obtain ⟨fs, hr, hrun, hended, hW, hsame⟩ := X0.leave (v := some (.int (1 : Int32))) (fun h => by rw [Bd.returns] at h; cases h)
      refine ⟨_, _, pre3 _ ?_, hrun, hended, _, _, rfl, ?_, ⟨_, rfl⟩, hW, hsame.mono (by decide) (by decide)⟩
      · show Steps p.tables e below (s₁.setTop (mkF m 11 #[.val (.int p0), .val (.long qa), .second, .val (.long qb), .second] [(.int (lcmpW (qa - qb) (0 : Int64)))])) _
        refine XS.ifYes X0.here hx rfl (pc0 := 11) (pc' := 16) rfl (hb hby d5_11) rfl ((if0 _ _).trans (feq hc11_4).2) (by decide) (by decide) ?_
        show Steps p.tables e below (s₁.setTop (mkF m 16 #[.val (.int p0), .val (.long qa), .second, .val (.long qb), .second] [])) _
        refine XS.iconst X0.here hx rfl (hb hby d5_16) ?_
        show Steps p.tables e below (s₁.setTop (mkF m 17 #[.val (.int p0), .val (.long qa), .second, .val (.long qb), .second] [(.int (1 : Int32))])) _
        exact retN X0 hx (t := .boolean) Bd.returns (by simp) (hb hby d5_17) hr
      · exact ⟨by rw [hv], N0, e0⟩
  · have hv : (f5 p0 qa qb) = (1 : Int32) := by simp only [f5, if_neg hc1_2]
    obtain ⟨fs, hr, hrun, hended, hW, hsame⟩ := X0.leave (v := some (.int (1 : Int32))) (fun h => by rw [Bd.returns] at h; cases h)
    refine ⟨_, _, pre1 _ ?_, hrun, hended, _, _, rfl, ?_, ⟨_, rfl⟩, hW, hsame.mono (by decide) (by decide)⟩
    · show Steps p.tables e below (s₁.setTop (mkF m 1 #[.val (.int p0), .val (.long qa), .second, .val (.long qb), .second] [(.int p0)])) _
      refine XS.ifNo X0.here hx rfl (hb hby d5_1) rfl ((if0 _ _).trans (feq hc1_2).1) ?_
      show Steps p.tables e below (s₁.setTop (mkF m 4 #[.val (.int p0), .val (.long qa), .second, .val (.long qb), .second] [])) _
      refine XS.iconst X0.here hx rfl (hb hby d5_4) ?_
      show Steps p.tables e below (s₁.setTop (mkF m 5 #[.val (.int p0), .val (.long qa), .second, .val (.long qb), .second] [(.int (1 : Int32))])) _
      exact retN X0 hx (t := .boolean) Bd.returns (by simp) (hb hby d5_5) hr
    · exact ⟨by rw [hv], N0, e0⟩
theorem pn_0 : plainName "com/example/wattle/wattle/process/LookBusySincePinLaw" = true := by first | (simp [plainName, overriddenIn]; done) | decide +kernel
theorem ef_0 (m : MethodId) (x0 : Int64) (x1 : Int64) (x2 : Int32) : entryFrame m #[(.long x0), (.long x1), (.int x2)] maxLocals = mkF m 0 #[.val (.long x0), .second, .val (.long x1), .second, .val (.int x2), .unset, .unset, .unset, .unset, .unset, .unset, .unset, .unset, .unset] [] := by first | (simp [entryFrame, mkF, argsToLocals, Value.category, maxLocals]; done) | rfl
def v0_1 (pf : Int32) : Int32 := (if (pf &&& (1 : Int32)) = (0 : Int32) then (0 : Int32) else (1 : Int32))
def v0_2 (pf : Int32) : Int32 := (if (pf &&& (2 : Int32)) = (0 : Int32) then (0 : Int32) else (1 : Int32))
def v0_3 (pf : Int32) : Int32 := (((pf.toUInt32 >>> ((2 : Int32) &&& 31).toUInt32).toInt32) &&& (3 : Int32))
def v0_4 (pf : Int32) (qb : Int64) (qa : Int64) : Int64 := (if (v0_3 pf) = (0 : Int32) then qb else (if (v0_3 pf) = (1 : Int32) then qa else (if (v0_3 pf) = (2 : Int32) then (qa + (1 : Int64)) else (qa - (1 : Int64)))))
def f0 (qa : Int64) (qb : Int64) (pf : Int32) : Int32 := (if (f4 (nar .boolean (v0_1 pf)) qa (v0_4 pf qb qa)) = (f5 (v0_1 pf) qa (v0_4 pf qb qa)) then (if (f4 (nar .boolean (v0_2 pf)) (v0_4 pf qb qa) qa) = (f5 (v0_2 pf) (v0_4 pf qb qa) qa) then (1 : Int32) else (0 : Int32)) else (0 : Int32))
def Q0 (Z : State) (qa : Int64) (qb : Int64) (pf : Int32)  (h0 : Heap) (n0 : Nat) (v : Option Value) (h : Heap) (L : List Loc) : Prop := v = some (.int (f0 qa qb pf)) ∧ Fr n0 L
set_option maxRecDepth 65536 in
set_option maxHeartbeats 40000000 in
theorem rm0 (l : Launch) (Z : State) (a0 : Array Value) (hw : ∀ d ∈ tables_1, d.before a0 Z = true) (ws : List Jvm.Cond) (qa : Int64) (qb : Int64) (pf : Int32)  (h0 : Heap) (n0 : Nat) (Z0 : n0 ≤ h0.size)   :
    MetFree l x (head1 (Jvm.Cond.code x code maxLocals ret :: ws) room_1) (fun a U => a = #[(.long qa), (.long qb), (.int pf)] ∧ Z.Warmed39 U.vm ∧ U.heap = h0) (fun _ _ _ _ _ => True) (fun _ U o U' => ∃ v L, o = .returned v ∧ Q0 Z qa qb pf h0 n0 v U'.heap L ∧ FrameEnd U o U' L room_1.cells room_1.slots) := by
  refine MetFree.of_bodySF (plainFor_of_name pn_0) hisR ?_
  intro p e s m args below meth c s₁ Bd hml0 hP hK
  obtain ⟨rfl, hZ, hh⟩ := hP
  have hx := Bd.exec
  have hby := Bd.bytes
  have hml : c.maxLocals = 14 := hml0
  have hown : s.vm.findClass "com/example/wattle/wattle/process/LookBusySincePinLaw" = some m.cls := findClass_of_methodNamed Bd.named
  have hnm := (name_of_methodNamed Bd.named Bd.method).1
  have X0 : Stand p l e room_1 s m #[(.long qa), (.long qb), (.int pf)] below meth c s₁ [] 0 0 := Stand.of_body Bd
  have e0 : s₁.heap = h0 := by rw [← hh, Bd.state]; rfl
  have N0 := Fr.nil n0
  have pre0 : ∀ t, Steps p.tables e below (s₁.setTop (mkF m 0 #[.val (.long qa), .second, .val (.long qb), .second, .val (.int pf), .unset, .unset, .unset, .unset, .unset, .unset, .unset, .unset, .unset] [])) t → Steps p.tables e below (s₁.setTop (entryFrame m #[(.long qa), (.long qb), (.int pf)] maxLocals)) t := fun t k => castTop (ef_0 m qa qb pf) k
  have pre1 : ∀ t, Steps p.tables e below (s₁.setTop (mkF m 4 #[.val (.long qa), .second, .val (.long qb), .second, .val (.int pf), .unset, .unset, .unset, .unset, .unset, .unset, .unset, .unset, .unset] [(.int (pf &&& (1 : Int32)))])) t → Steps p.tables e below (s₁.setTop (entryFrame m #[(.long qa), (.long qb), (.int pf)] maxLocals)) t := fun t k => pre0 t (by
    show Steps p.tables e below (s₁.setTop (mkF m 0 #[.val (.long qa), .second, .val (.long qb), .second, .val (.int pf), .unset, .unset, .unset, .unset, .unset, .unset, .unset, .unset, .unset] [])) _
    refine XS.iload X0.here hx rfl (hb hby at_0) rfl ?_
    show Steps p.tables e below (s₁.setTop (mkF m 2 #[.val (.long qa), .second, .val (.long qb), .second, .val (.int pf), .unset, .unset, .unset, .unset, .unset, .unset, .unset, .unset, .unset] [(.int pf)])) _
    refine XS.iconst X0.here hx rfl (hb hby at_2) ?_
    show Steps p.tables e below (s₁.setTop (mkF m 3 #[.val (.long qa), .second, .val (.long qb), .second, .val (.int pf), .unset, .unset, .unset, .unset, .unset, .unset, .unset, .unset, .unset] [(.int (1 : Int32)), (.int pf)])) _
    refine XS.iand X0.here hx rfl (hb hby at_3) rfl ?_
    show Steps p.tables e below (s₁.setTop (mkF m 4 #[.val (.long qa), .second, .val (.long qb), .second, .val (.int pf), .unset, .unset, .unset, .unset, .unset, .unset, .unset, .unset, .unset] [(.int (pf &&& (1 : Int32)))])) _
    exact k)
  have pre3 : ∀ t, Steps p.tables e below (s₁.setTop (mkF m 12 #[.val (.long qa), .second, .val (.long qb), .second, .val (.int pf), .unset, .unset, .unset, .unset, .unset, .unset, .unset, .unset, .unset] [(.int (if (pf &&& (1 : Int32)) = (0 : Int32) then (0 : Int32) else (1 : Int32)))])) t → Steps p.tables e below (s₁.setTop (entryFrame m #[(.long qa), (.long qb), (.int pf)] maxLocals)) t := fun t k => pre1 t (by
    show Steps p.tables e below (s₁.setTop (mkF m 4 #[.val (.long qa), .second, .val (.long qb), .second, .val (.int pf), .unset, .unset, .unset, .unset, .unset, .unset, .unset, .unset, .unset] [(.int (pf &&& (1 : Int32)))])) _
    by_cases hd4_2 : (pf &&& (1 : Int32)) = (0 : Int32)
    · try simp only [if_pos hd4_2] at k
      show Steps p.tables e below (s₁.setTop (mkF m 4 #[.val (.long qa), .second, .val (.long qb), .second, .val (.int pf), .unset, .unset, .unset, .unset, .unset, .unset, .unset, .unset, .unset] [(.int (pf &&& (1 : Int32)))])) _
      refine XS.ifYes X0.here hx rfl (pc0 := 4) (pc' := 11) rfl (hb hby at_4) rfl ((if0 _ _).trans (teq hd4_2).1) (by decide) (by decide) ?_
      show Steps p.tables e below (s₁.setTop (mkF m 11 #[.val (.long qa), .second, .val (.long qb), .second, .val (.int pf), .unset, .unset, .unset, .unset, .unset, .unset, .unset, .unset, .unset] [])) _
      refine XS.iconst X0.here hx rfl (hb hby at_11) ?_
      exact k
    · try simp only [if_neg hd4_2] at k
      show Steps p.tables e below (s₁.setTop (mkF m 4 #[.val (.long qa), .second, .val (.long qb), .second, .val (.int pf), .unset, .unset, .unset, .unset, .unset, .unset, .unset, .unset, .unset] [(.int (pf &&& (1 : Int32)))])) _
      refine XS.ifNo X0.here hx rfl (hb hby at_4) rfl ((if0 _ _).trans (feq hd4_2).1) ?_
      show Steps p.tables e below (s₁.setTop (mkF m 7 #[.val (.long qa), .second, .val (.long qb), .second, .val (.int pf), .unset, .unset, .unset, .unset, .unset, .unset, .unset, .unset, .unset] [])) _
      refine XS.iconst X0.here hx rfl (hb hby at_7) ?_
      show Steps p.tables e below (s₁.setTop (mkF m 8 #[.val (.long qa), .second, .val (.long qb), .second, .val (.int pf), .unset, .unset, .unset, .unset, .unset, .unset, .unset, .unset, .unset] [(.int (1 : Int32))])) _
      refine XS.goto X0.here hx rfl (pc0 := 8) (pc' := 12) rfl (hb hby at_8) (by decide) (by decide) ?_
      exact k
    )
  have pre4 : ∀ t, Steps p.tables e below (s₁.setTop (mkF m 18 #[.val (.long qa), .second, .val (.long qb), .second, .val (.int pf), .val (.int (v0_1 pf)), .unset, .unset, .unset, .unset, .unset, .unset, .unset, .unset] [(.int (pf &&& (2 : Int32)))])) t → Steps p.tables e below (s₁.setTop (entryFrame m #[(.long qa), (.long qb), (.int pf)] maxLocals)) t := fun t k => pre3 t (by
    show Steps p.tables e below (s₁.setTop (mkF m 12 #[.val (.long qa), .second, .val (.long qb), .second, .val (.int pf), .unset, .unset, .unset, .unset, .unset, .unset, .unset, .unset, .unset] [(.int (v0_1 pf))])) _
    refine XS.istore X0.here hx rfl (hb hby at_12) rfl (l' := #[.val (.long qa), .second, .val (.long qb), .second, .val (.int pf), .val (.int (v0_1 pf)), .unset, .unset, .unset, .unset, .unset, .unset, .unset, .unset]) rfl ?_
    show Steps p.tables e below (s₁.setTop (mkF m 14 #[.val (.long qa), .second, .val (.long qb), .second, .val (.int pf), .val (.int (v0_1 pf)), .unset, .unset, .unset, .unset, .unset, .unset, .unset, .unset] [])) _
    refine XS.iload X0.here hx rfl (hb hby at_14) rfl ?_
    show Steps p.tables e below (s₁.setTop (mkF m 16 #[.val (.long qa), .second, .val (.long qb), .second, .val (.int pf), .val (.int (v0_1 pf)), .unset, .unset, .unset, .unset, .unset, .unset, .unset, .unset] [(.int pf)])) _
    refine XS.iconst X0.here hx rfl (hb hby at_16) ?_
    show Steps p.tables e below (s₁.setTop (mkF m 17 #[.val (.long qa), .second, .val (.long qb), .second, .val (.int pf), .val (.int (v0_1 pf)), .unset, .unset, .unset, .unset, .unset, .unset, .unset, .unset] [(.int (2 : Int32)), (.int pf)])) _
    refine XS.iand X0.here hx rfl (hb hby at_17) rfl ?_
    show Steps p.tables e below (s₁.setTop (mkF m 18 #[.val (.long qa), .second, .val (.long qb), .second, .val (.int pf), .val (.int (v0_1 pf)), .unset, .unset, .unset, .unset, .unset, .unset, .unset, .unset] [(.int (pf &&& (2 : Int32)))])) _
    exact k)
  have pre6 : ∀ t, Steps p.tables e below (s₁.setTop (mkF m 26 #[.val (.long qa), .second, .val (.long qb), .second, .val (.int pf), .val (.int (v0_1 pf)), .unset, .unset, .unset, .unset, .unset, .unset, .unset, .unset] [(.int (if (pf &&& (2 : Int32)) = (0 : Int32) then (0 : Int32) else (1 : Int32)))])) t → Steps p.tables e below (s₁.setTop (entryFrame m #[(.long qa), (.long qb), (.int pf)] maxLocals)) t := fun t k => pre4 t (by
    show Steps p.tables e below (s₁.setTop (mkF m 18 #[.val (.long qa), .second, .val (.long qb), .second, .val (.int pf), .val (.int (v0_1 pf)), .unset, .unset, .unset, .unset, .unset, .unset, .unset, .unset] [(.int (pf &&& (2 : Int32)))])) _
    by_cases hd18_5 : (pf &&& (2 : Int32)) = (0 : Int32)
    · try simp only [if_pos hd18_5] at k
      show Steps p.tables e below (s₁.setTop (mkF m 18 #[.val (.long qa), .second, .val (.long qb), .second, .val (.int pf), .val (.int (v0_1 pf)), .unset, .unset, .unset, .unset, .unset, .unset, .unset, .unset] [(.int (pf &&& (2 : Int32)))])) _
      refine XS.ifYes X0.here hx rfl (pc0 := 18) (pc' := 25) rfl (hb hby at_18) rfl ((if0 _ _).trans (teq hd18_5).1) (by decide) (by decide) ?_
      show Steps p.tables e below (s₁.setTop (mkF m 25 #[.val (.long qa), .second, .val (.long qb), .second, .val (.int pf), .val (.int (v0_1 pf)), .unset, .unset, .unset, .unset, .unset, .unset, .unset, .unset] [])) _
      refine XS.iconst X0.here hx rfl (hb hby at_25) ?_
      exact k
    · try simp only [if_neg hd18_5] at k
      show Steps p.tables e below (s₁.setTop (mkF m 18 #[.val (.long qa), .second, .val (.long qb), .second, .val (.int pf), .val (.int (v0_1 pf)), .unset, .unset, .unset, .unset, .unset, .unset, .unset, .unset] [(.int (pf &&& (2 : Int32)))])) _
      refine XS.ifNo X0.here hx rfl (hb hby at_18) rfl ((if0 _ _).trans (feq hd18_5).1) ?_
      show Steps p.tables e below (s₁.setTop (mkF m 21 #[.val (.long qa), .second, .val (.long qb), .second, .val (.int pf), .val (.int (v0_1 pf)), .unset, .unset, .unset, .unset, .unset, .unset, .unset, .unset] [])) _
      refine XS.iconst X0.here hx rfl (hb hby at_21) ?_
      show Steps p.tables e below (s₁.setTop (mkF m 22 #[.val (.long qa), .second, .val (.long qb), .second, .val (.int pf), .val (.int (v0_1 pf)), .unset, .unset, .unset, .unset, .unset, .unset, .unset, .unset] [(.int (1 : Int32))])) _
      refine XS.goto X0.here hx rfl (pc0 := 22) (pc' := 26) rfl (hb hby at_22) (by decide) (by decide) ?_
      exact k
    )
  have pre7 : ∀ t, Steps p.tables e below (s₁.setTop (mkF m 38 #[.val (.long qa), .second, .val (.long qb), .second, .val (.int pf), .val (.int (v0_1 pf)), .val (.int (v0_2 pf)), .val (.int (v0_3 pf)), .unset, .unset, .unset, .unset, .unset, .unset] [(.int (v0_3 pf))])) t → Steps p.tables e below (s₁.setTop (entryFrame m #[(.long qa), (.long qb), (.int pf)] maxLocals)) t := fun t k => pre6 t (by
    show Steps p.tables e below (s₁.setTop (mkF m 26 #[.val (.long qa), .second, .val (.long qb), .second, .val (.int pf), .val (.int (v0_1 pf)), .unset, .unset, .unset, .unset, .unset, .unset, .unset, .unset] [(.int (v0_2 pf))])) _
    refine XS.istore X0.here hx rfl (hb hby at_26) rfl (l' := #[.val (.long qa), .second, .val (.long qb), .second, .val (.int pf), .val (.int (v0_1 pf)), .val (.int (v0_2 pf)), .unset, .unset, .unset, .unset, .unset, .unset, .unset]) rfl ?_
    show Steps p.tables e below (s₁.setTop (mkF m 28 #[.val (.long qa), .second, .val (.long qb), .second, .val (.int pf), .val (.int (v0_1 pf)), .val (.int (v0_2 pf)), .unset, .unset, .unset, .unset, .unset, .unset, .unset] [])) _
    refine XS.iload X0.here hx rfl (hb hby at_28) rfl ?_
    show Steps p.tables e below (s₁.setTop (mkF m 30 #[.val (.long qa), .second, .val (.long qb), .second, .val (.int pf), .val (.int (v0_1 pf)), .val (.int (v0_2 pf)), .unset, .unset, .unset, .unset, .unset, .unset, .unset] [(.int pf)])) _
    refine XS.iconst X0.here hx rfl (hb hby at_30) ?_
    show Steps p.tables e below (s₁.setTop (mkF m 31 #[.val (.long qa), .second, .val (.long qb), .second, .val (.int pf), .val (.int (v0_1 pf)), .val (.int (v0_2 pf)), .unset, .unset, .unset, .unset, .unset, .unset, .unset] [(.int (2 : Int32)), (.int pf)])) _
    refine XS.iushr X0.here hx rfl (hb hby at_31) rfl ?_
    show Steps p.tables e below (s₁.setTop (mkF m 32 #[.val (.long qa), .second, .val (.long qb), .second, .val (.int pf), .val (.int (v0_1 pf)), .val (.int (v0_2 pf)), .unset, .unset, .unset, .unset, .unset, .unset, .unset] [(.int ((pf.toUInt32 >>> ((2 : Int32) &&& 31).toUInt32).toInt32))])) _
    refine XS.iconst X0.here hx rfl (hb hby at_32) ?_
    show Steps p.tables e below (s₁.setTop (mkF m 33 #[.val (.long qa), .second, .val (.long qb), .second, .val (.int pf), .val (.int (v0_1 pf)), .val (.int (v0_2 pf)), .unset, .unset, .unset, .unset, .unset, .unset, .unset] [(.int (3 : Int32)), (.int ((pf.toUInt32 >>> ((2 : Int32) &&& 31).toUInt32).toInt32))])) _
    refine XS.iand X0.here hx rfl (hb hby at_33) rfl ?_
    show Steps p.tables e below (s₁.setTop (mkF m 34 #[.val (.long qa), .second, .val (.long qb), .second, .val (.int pf), .val (.int (v0_1 pf)), .val (.int (v0_2 pf)), .unset, .unset, .unset, .unset, .unset, .unset, .unset] [(.int (((pf.toUInt32 >>> ((2 : Int32) &&& 31).toUInt32).toInt32) &&& (3 : Int32)))])) _
    refine XS.istore X0.here hx rfl (hb hby at_34) rfl (l' := #[.val (.long qa), .second, .val (.long qb), .second, .val (.int pf), .val (.int (v0_1 pf)), .val (.int (v0_2 pf)), .val (.int (((pf.toUInt32 >>> ((2 : Int32) &&& 31).toUInt32).toInt32) &&& (3 : Int32))), .unset, .unset, .unset, .unset, .unset, .unset]) rfl ?_
    show Steps p.tables e below (s₁.setTop (mkF m 36 #[.val (.long qa), .second, .val (.long qb), .second, .val (.int pf), .val (.int (v0_1 pf)), .val (.int (v0_2 pf)), .val (.int (v0_3 pf)), .unset, .unset, .unset, .unset, .unset, .unset] [])) _
    refine XS.iload X0.here hx rfl (hb hby at_36) rfl ?_
    show Steps p.tables e below (s₁.setTop (mkF m 38 #[.val (.long qa), .second, .val (.long qb), .second, .val (.int pf), .val (.int (v0_1 pf)), .val (.int (v0_2 pf)), .val (.int (v0_3 pf)), .unset, .unset, .unset, .unset, .unset, .unset] [(.int (v0_3 pf))])) _
    exact k)
  have pre11 : ∀ t, Steps p.tables e below (s₁.setTop (mkF m 78 #[.val (.long qa), .second, .val (.long qb), .second, .val (.int pf), .val (.int (v0_1 pf)), .val (.int (v0_2 pf)), .val (.int (v0_3 pf)), .val (.long (if (v0_3 pf) = (0 : Int32) then qb else (if (v0_3 pf) = (1 : Int32) then qa else (if (v0_3 pf) = (2 : Int32) then (qa + (1 : Int64)) else (qa - (1 : Int64)))))), .second, .unset, .unset, .unset, .unset] [])) t → Steps p.tables e below (s₁.setTop (entryFrame m #[(.long qa), (.long qb), (.int pf)] maxLocals)) t := fun t k => pre7 t (by
    show Steps p.tables e below (s₁.setTop (mkF m 38 #[.val (.long qa), .second, .val (.long qb), .second, .val (.int pf), .val (.int (v0_1 pf)), .val (.int (v0_2 pf)), .val (.int (v0_3 pf)), .unset, .unset, .unset, .unset, .unset, .unset] [(.int (v0_3 pf))])) _
    by_cases hd38_8 : (v0_3 pf) = (0 : Int32)
    · try simp only [if_pos hd38_8] at k
      show Steps p.tables e below (s₁.setTop (mkF m 38 #[.val (.long qa), .second, .val (.long qb), .second, .val (.int pf), .val (.int (v0_1 pf)), .val (.int (v0_2 pf)), .val (.int (v0_3 pf)), .unset, .unset, .unset, .unset, .unset, .unset] [(.int (v0_3 pf))])) _
      refine XS.ifNo X0.here hx rfl (hb hby at_38) rfl ((if0 _ _).trans (teq hd38_8).2) ?_
      show Steps p.tables e below (s₁.setTop (mkF m 41 #[.val (.long qa), .second, .val (.long qb), .second, .val (.int pf), .val (.int (v0_1 pf)), .val (.int (v0_2 pf)), .val (.int (v0_3 pf)), .unset, .unset, .unset, .unset, .unset, .unset] [])) _
      refine XS.lloadN X0.here hx rfl (hb hby at_41) rfl ?_
      show Steps p.tables e below (s₁.setTop (mkF m 42 #[.val (.long qa), .second, .val (.long qb), .second, .val (.int pf), .val (.int (v0_1 pf)), .val (.int (v0_2 pf)), .val (.int (v0_3 pf)), .unset, .unset, .unset, .unset, .unset, .unset] [(.long qb)])) _
      refine XS.lstore X0.here hx rfl (hb hby at_42) rfl (l' := #[.val (.long qa), .second, .val (.long qb), .second, .val (.int pf), .val (.int (v0_1 pf)), .val (.int (v0_2 pf)), .val (.int (v0_3 pf)), .val (.long qb), .second, .unset, .unset, .unset, .unset]) rfl ?_
      show Steps p.tables e below (s₁.setTop (mkF m 44 #[.val (.long qa), .second, .val (.long qb), .second, .val (.int pf), .val (.int (v0_1 pf)), .val (.int (v0_2 pf)), .val (.int (v0_3 pf)), .val (.long qb), .second, .unset, .unset, .unset, .unset] [])) _
      refine XS.goto X0.here hx rfl (pc0 := 44) (pc' := 78) rfl (hb hby at_44) (by decide) (by decide) ?_
      exact k
    · try simp only [if_neg hd38_8] at k
      show Steps p.tables e below (s₁.setTop (mkF m 38 #[.val (.long qa), .second, .val (.long qb), .second, .val (.int pf), .val (.int (v0_1 pf)), .val (.int (v0_2 pf)), .val (.int (v0_3 pf)), .unset, .unset, .unset, .unset, .unset, .unset] [(.int (v0_3 pf))])) _
      refine XS.ifYes X0.here hx rfl (pc0 := 38) (pc' := 47) rfl (hb hby at_38) rfl ((if0 _ _).trans (feq hd38_8).2) (by decide) (by decide) ?_
      show Steps p.tables e below (s₁.setTop (mkF m 47 #[.val (.long qa), .second, .val (.long qb), .second, .val (.int pf), .val (.int (v0_1 pf)), .val (.int (v0_2 pf)), .val (.int (v0_3 pf)), .unset, .unset, .unset, .unset, .unset, .unset] [])) _
      refine XS.iload X0.here hx rfl (hb hby at_47) rfl ?_
      show Steps p.tables e below (s₁.setTop (mkF m 49 #[.val (.long qa), .second, .val (.long qb), .second, .val (.int pf), .val (.int (v0_1 pf)), .val (.int (v0_2 pf)), .val (.int (v0_3 pf)), .unset, .unset, .unset, .unset, .unset, .unset] [(.int (v0_3 pf))])) _
      refine XS.iconst X0.here hx rfl (hb hby at_49) ?_
      show Steps p.tables e below (s₁.setTop (mkF m 50 #[.val (.long qa), .second, .val (.long qb), .second, .val (.int pf), .val (.int (v0_1 pf)), .val (.int (v0_2 pf)), .val (.int (v0_3 pf)), .unset, .unset, .unset, .unset, .unset, .unset] [(.int (1 : Int32)), (.int (v0_3 pf))])) _
      by_cases hd50_9 : (v0_3 pf) = (1 : Int32)
      · try simp only [if_pos hd50_9] at k
        show Steps p.tables e below (s₁.setTop (mkF m 50 #[.val (.long qa), .second, .val (.long qb), .second, .val (.int pf), .val (.int (v0_1 pf)), .val (.int (v0_2 pf)), .val (.int (v0_3 pf)), .unset, .unset, .unset, .unset, .unset, .unset] [(.int (1 : Int32)), (.int (v0_3 pf))])) _
        refine XS.icmpNo X0.here hx rfl (hb hby at_50) rfl (teq hd50_9).2 ?_
        show Steps p.tables e below (s₁.setTop (mkF m 53 #[.val (.long qa), .second, .val (.long qb), .second, .val (.int pf), .val (.int (v0_1 pf)), .val (.int (v0_2 pf)), .val (.int (v0_3 pf)), .unset, .unset, .unset, .unset, .unset, .unset] [])) _
        refine XS.lloadN X0.here hx rfl (hb hby at_53) rfl ?_
        show Steps p.tables e below (s₁.setTop (mkF m 54 #[.val (.long qa), .second, .val (.long qb), .second, .val (.int pf), .val (.int (v0_1 pf)), .val (.int (v0_2 pf)), .val (.int (v0_3 pf)), .unset, .unset, .unset, .unset, .unset, .unset] [(.long qa)])) _
        refine XS.lstore X0.here hx rfl (hb hby at_54) rfl (l' := #[.val (.long qa), .second, .val (.long qb), .second, .val (.int pf), .val (.int (v0_1 pf)), .val (.int (v0_2 pf)), .val (.int (v0_3 pf)), .val (.long qa), .second, .unset, .unset, .unset, .unset]) rfl ?_
        show Steps p.tables e below (s₁.setTop (mkF m 56 #[.val (.long qa), .second, .val (.long qb), .second, .val (.int pf), .val (.int (v0_1 pf)), .val (.int (v0_2 pf)), .val (.int (v0_3 pf)), .val (.long qa), .second, .unset, .unset, .unset, .unset] [])) _
        refine XS.goto X0.here hx rfl (pc0 := 56) (pc' := 78) rfl (hb hby at_56) (by decide) (by decide) ?_
        exact k
      · try simp only [if_neg hd50_9] at k
        show Steps p.tables e below (s₁.setTop (mkF m 50 #[.val (.long qa), .second, .val (.long qb), .second, .val (.int pf), .val (.int (v0_1 pf)), .val (.int (v0_2 pf)), .val (.int (v0_3 pf)), .unset, .unset, .unset, .unset, .unset, .unset] [(.int (1 : Int32)), (.int (v0_3 pf))])) _
        refine XS.icmpYes X0.here hx rfl (pc0 := 50) (pc' := 59) rfl (hb hby at_50) rfl (feq hd50_9).2 (by decide) (by decide) ?_
        show Steps p.tables e below (s₁.setTop (mkF m 59 #[.val (.long qa), .second, .val (.long qb), .second, .val (.int pf), .val (.int (v0_1 pf)), .val (.int (v0_2 pf)), .val (.int (v0_3 pf)), .unset, .unset, .unset, .unset, .unset, .unset] [])) _
        refine XS.iload X0.here hx rfl (hb hby at_59) rfl ?_
        show Steps p.tables e below (s₁.setTop (mkF m 61 #[.val (.long qa), .second, .val (.long qb), .second, .val (.int pf), .val (.int (v0_1 pf)), .val (.int (v0_2 pf)), .val (.int (v0_3 pf)), .unset, .unset, .unset, .unset, .unset, .unset] [(.int (v0_3 pf))])) _
        refine XS.iconst X0.here hx rfl (hb hby at_61) ?_
        show Steps p.tables e below (s₁.setTop (mkF m 62 #[.val (.long qa), .second, .val (.long qb), .second, .val (.int pf), .val (.int (v0_1 pf)), .val (.int (v0_2 pf)), .val (.int (v0_3 pf)), .unset, .unset, .unset, .unset, .unset, .unset] [(.int (2 : Int32)), (.int (v0_3 pf))])) _
        by_cases hd62_10 : (v0_3 pf) = (2 : Int32)
        · try simp only [if_pos hd62_10] at k
          show Steps p.tables e below (s₁.setTop (mkF m 62 #[.val (.long qa), .second, .val (.long qb), .second, .val (.int pf), .val (.int (v0_1 pf)), .val (.int (v0_2 pf)), .val (.int (v0_3 pf)), .unset, .unset, .unset, .unset, .unset, .unset] [(.int (2 : Int32)), (.int (v0_3 pf))])) _
          refine XS.icmpNo X0.here hx rfl (hb hby at_62) rfl (teq hd62_10).2 ?_
          show Steps p.tables e below (s₁.setTop (mkF m 65 #[.val (.long qa), .second, .val (.long qb), .second, .val (.int pf), .val (.int (v0_1 pf)), .val (.int (v0_2 pf)), .val (.int (v0_3 pf)), .unset, .unset, .unset, .unset, .unset, .unset] [])) _
          refine XS.lloadN X0.here hx rfl (hb hby at_65) rfl ?_
          show Steps p.tables e below (s₁.setTop (mkF m 66 #[.val (.long qa), .second, .val (.long qb), .second, .val (.int pf), .val (.int (v0_1 pf)), .val (.int (v0_2 pf)), .val (.int (v0_3 pf)), .unset, .unset, .unset, .unset, .unset, .unset] [(.long qa)])) _
          refine XS.lconst X0.here hx rfl (hb hby at_66) ?_
          show Steps p.tables e below (s₁.setTop (mkF m 67 #[.val (.long qa), .second, .val (.long qb), .second, .val (.int pf), .val (.int (v0_1 pf)), .val (.int (v0_2 pf)), .val (.int (v0_3 pf)), .unset, .unset, .unset, .unset, .unset, .unset] [(.long (1 : Int64)), (.long qa)])) _
          refine XS.ladd X0.here hx rfl (hb hby at_67) rfl ?_
          show Steps p.tables e below (s₁.setTop (mkF m 68 #[.val (.long qa), .second, .val (.long qb), .second, .val (.int pf), .val (.int (v0_1 pf)), .val (.int (v0_2 pf)), .val (.int (v0_3 pf)), .unset, .unset, .unset, .unset, .unset, .unset] [(.long (qa + (1 : Int64)))])) _
          refine XS.lstore X0.here hx rfl (hb hby at_68) rfl (l' := #[.val (.long qa), .second, .val (.long qb), .second, .val (.int pf), .val (.int (v0_1 pf)), .val (.int (v0_2 pf)), .val (.int (v0_3 pf)), .val (.long (qa + (1 : Int64))), .second, .unset, .unset, .unset, .unset]) rfl ?_
          show Steps p.tables e below (s₁.setTop (mkF m 70 #[.val (.long qa), .second, .val (.long qb), .second, .val (.int pf), .val (.int (v0_1 pf)), .val (.int (v0_2 pf)), .val (.int (v0_3 pf)), .val (.long (qa + (1 : Int64))), .second, .unset, .unset, .unset, .unset] [])) _
          refine XS.goto X0.here hx rfl (pc0 := 70) (pc' := 78) rfl (hb hby at_70) (by decide) (by decide) ?_
          exact k
        · try simp only [if_neg hd62_10] at k
          show Steps p.tables e below (s₁.setTop (mkF m 62 #[.val (.long qa), .second, .val (.long qb), .second, .val (.int pf), .val (.int (v0_1 pf)), .val (.int (v0_2 pf)), .val (.int (v0_3 pf)), .unset, .unset, .unset, .unset, .unset, .unset] [(.int (2 : Int32)), (.int (v0_3 pf))])) _
          refine XS.icmpYes X0.here hx rfl (pc0 := 62) (pc' := 73) rfl (hb hby at_62) rfl (feq hd62_10).2 (by decide) (by decide) ?_
          show Steps p.tables e below (s₁.setTop (mkF m 73 #[.val (.long qa), .second, .val (.long qb), .second, .val (.int pf), .val (.int (v0_1 pf)), .val (.int (v0_2 pf)), .val (.int (v0_3 pf)), .unset, .unset, .unset, .unset, .unset, .unset] [])) _
          refine XS.lloadN X0.here hx rfl (hb hby at_73) rfl ?_
          show Steps p.tables e below (s₁.setTop (mkF m 74 #[.val (.long qa), .second, .val (.long qb), .second, .val (.int pf), .val (.int (v0_1 pf)), .val (.int (v0_2 pf)), .val (.int (v0_3 pf)), .unset, .unset, .unset, .unset, .unset, .unset] [(.long qa)])) _
          refine XS.lconst X0.here hx rfl (hb hby at_74) ?_
          show Steps p.tables e below (s₁.setTop (mkF m 75 #[.val (.long qa), .second, .val (.long qb), .second, .val (.int pf), .val (.int (v0_1 pf)), .val (.int (v0_2 pf)), .val (.int (v0_3 pf)), .unset, .unset, .unset, .unset, .unset, .unset] [(.long (1 : Int64)), (.long qa)])) _
          refine XS.lsub X0.here hx rfl (hb hby at_75) rfl ?_
          show Steps p.tables e below (s₁.setTop (mkF m 76 #[.val (.long qa), .second, .val (.long qb), .second, .val (.int pf), .val (.int (v0_1 pf)), .val (.int (v0_2 pf)), .val (.int (v0_3 pf)), .unset, .unset, .unset, .unset, .unset, .unset] [(.long (qa - (1 : Int64)))])) _
          refine XS.lstore X0.here hx rfl (hb hby at_76) rfl (l' := #[.val (.long qa), .second, .val (.long qb), .second, .val (.int pf), .val (.int (v0_1 pf)), .val (.int (v0_2 pf)), .val (.int (v0_3 pf)), .val (.long (qa - (1 : Int64))), .second, .unset, .unset, .unset, .unset]) rfl ?_
          exact k
    )
  obtain ⟨T12, h12, X12, e12, E12, A12, D12, -, st12⟩ := newO X0 hx hZ hown (hw _ (List.mem_of_getElem? (i := 0) rfl)) (hw _ (List.mem_of_getElem? (i := 1) rfl)) (hw _ (List.mem_of_getElem? (i := 2) rfl)) e0 (g := (mkF m 78 #[.val (.long qa), .second, .val (.long qb), .second, .val (.int pf), .val (.int (v0_1 pf)), .val (.int (v0_2 pf)), .val (.int (v0_3 pf)), .val (.long (v0_4 pf qb qa)), .second, .unset, .unset, .unset, .unset] [])) rfl (hb hby at_78) (by decide) (by decide)
  obtain ⟨b12, g12⟩ : ∃ z, z = h0.size := ⟨_, rfl⟩
  rw [← g12] at A12 D12 st12
  have g_b12 : n0 ≤ b12 := Nat.le_trans Z0 (Nat.le_of_eq g12.symm)
  have sz_b12 : h0.size ≤ b12 := Nat.le_trans ((Keep.refl h0 [])).1 (Nat.le_of_eq g12.symm)
  have Z12 : n0 ≤ h12.size := Nat.le_trans Z0 E12.1
  have K12 : Keep h0 h12 [] := ((Keep.refl h0 [])).ext E12
  have F_ticks_b12 : Fld Z h12 b12 "com/example/wattle/wattle/process/CompilerThreads$Look" "ticks" "J" (.long (0 : Int64)) := D12 (Or.inr (hw _ (List.mem_of_getElem? (i := 15) rfl))) (ty := .long) (by decide)
  have F_compiling_b12 : Fld Z h12 b12 "com/example/wattle/wattle/process/CompilerThreads$Look" "compiling" "Z" (.int (0 : Int32)) := D12 (Or.inr (hw _ (List.mem_of_getElem? (i := 17) rfl))) (ty := .boolean) (by decide)
  obtain ⟨_, _, ⟨T13, L13, k13, n13⟩, -, X13, ⟨Lc13, hQ13, l13, y13, z13⟩, st13⟩ := X12.specialBack hx (y := (⟨"com/example/wattle/wattle/process/CompilerThreads$Look", "<init>", "(JZ)V"⟩ : MethodName)) rfl hown (mvT hZ (hw _ (List.mem_of_getElem? (i := 3) rfl))) (mvT hZ (hw _ (List.mem_of_getElem? (i := 4) rfl))) (mvT hZ (hw _ (List.mem_of_getElem? (i := 5) rfl))) (by decide) (backOf (W := 1) (rm1 l Z a0 hw [] b12 qa (v0_1 pf) (.long (0 : Int64)) (.int (0 : Int32)) h12 n0 Z12 (A12) g_b12 (F_ticks_b12) (F_compiling_b12)) hZ (hw _ (List.mem_of_getElem? (i := 5) rfl)) (hw _ (List.mem_of_getElem? (i := 2) rfl)) (by decide) (by decide)) (g := (mkF m 85 #[.val (.long qa), .second, .val (.long qb), .second, .val (.int pf), .val (.int (v0_1 pf)), .val (.int (v0_2 pf)), .val (.int (v0_3 pf)), .val (.long (v0_4 pf qb qa)), .second, .unset, .unset, .unset, .unset] [(.int (v0_1 pf)), (.long qa), (.ref b12), (.ref b12)])) rfl (by rw [hml]; rfl) (Steps.refl _) (a := b12) (argsL := [(.long qa), (.int (v0_1 pf))]) (rest := [(.ref b12)]) (lenOf pd_1 rfl) rfl (by show 2 * 0 + _ ≤ _; exact Nat.le_of_eq rfl) (hb hby at_85) (fun _ _ => ⟨rfl, e12, (by decide : 1 + 0 ≤ _), (by decide : 2 + 0 ≤ _)⟩)
  dsimp only [Pt.U, Pt.locs, Pt.cells, Pt.slots] at X13 l13 y13 z13 st13 hQ13
  subst l13 y13 z13
  obtain ⟨rfl, N13q, Kq13, Fq13_0, Fq13_1⟩ := hQ13
  have N13 := Fr.app N0 N13q
  have Z13 : n0 ≤ T13.heap.size := Nat.le_trans Z12 Kq13.1
  have K13 : Keep h0 T13.heap [] := (K12).trans Kq13 (allS (Or.inr sz_b12) all0)
  obtain ⟨T14, h14, X14, e14, E14, A14, D14, -, st14⟩ := newO X13 hx hZ hown (hw _ (List.mem_of_getElem? (i := 0) rfl)) (hw _ (List.mem_of_getElem? (i := 1) rfl)) (hw _ (List.mem_of_getElem? (i := 2) rfl)) rfl (g := (mkF m 90 #[.val (.long qa), .second, .val (.long qb), .second, .val (.int pf), .val (.int (v0_1 pf)), .val (.int (v0_2 pf)), .val (.int (v0_3 pf)), .val (.long (v0_4 pf qb qa)), .second, .val (.ref b12), .unset, .unset, .unset] [])) rfl (hb hby at_90) (by decide) (by decide)
  obtain ⟨b14, g14⟩ : ∃ z, z = T13.heap.size := ⟨_, rfl⟩
  rw [← g14] at A14 D14 st14
  have g_b14 : n0 ≤ b14 := Nat.le_trans Z13 (Nat.le_of_eq g14.symm)
  have sz_b14 : h0.size ≤ b14 := Nat.le_trans (K13).1 (Nat.le_of_eq g14.symm)
  have Z14 : n0 ≤ h14.size := Nat.le_trans Z13 E14.1
  have K14 : Keep h0 h14 [] := (K13).ext E14
  have F_ticks_b14 : Fld Z h14 b14 "com/example/wattle/wattle/process/CompilerThreads$Look" "ticks" "J" (.long (0 : Int64)) := D14 (Or.inr (hw _ (List.mem_of_getElem? (i := 15) rfl))) (ty := .long) (by decide)
  have F_compiling_b14 : Fld Z h14 b14 "com/example/wattle/wattle/process/CompilerThreads$Look" "compiling" "Z" (.int (0 : Int32)) := D14 (Or.inr (hw _ (List.mem_of_getElem? (i := 17) rfl))) (ty := .boolean) (by decide)
  obtain ⟨_, _, ⟨T15, L15, k15, n15⟩, -, X15, ⟨Lc15, hQ15, l15, y15, z15⟩, st15⟩ := X14.specialBack hx (y := (⟨"com/example/wattle/wattle/process/CompilerThreads$Look", "<init>", "(JZ)V"⟩ : MethodName)) rfl hown (mvT hZ (hw _ (List.mem_of_getElem? (i := 3) rfl))) (mvT hZ (hw _ (List.mem_of_getElem? (i := 4) rfl))) (mvT hZ (hw _ (List.mem_of_getElem? (i := 5) rfl))) (by decide) (backOf (W := 1) (rm1 l Z a0 hw [] b14 (v0_4 pf qb qa) (v0_2 pf) (.long (0 : Int64)) (.int (0 : Int32)) h14 n0 Z14 (A14) g_b14 (F_ticks_b14) (F_compiling_b14)) hZ (hw _ (List.mem_of_getElem? (i := 5) rfl)) (hw _ (List.mem_of_getElem? (i := 2) rfl)) (by decide) (by decide)) (g := (mkF m 98 #[.val (.long qa), .second, .val (.long qb), .second, .val (.int pf), .val (.int (v0_1 pf)), .val (.int (v0_2 pf)), .val (.int (v0_3 pf)), .val (.long (v0_4 pf qb qa)), .second, .val (.ref b12), .unset, .unset, .unset] [(.int (v0_2 pf)), (.long (v0_4 pf qb qa)), (.ref b14), (.ref b14)])) rfl (by rw [hml]; rfl) (Steps.refl _) (a := b14) (argsL := [(.long (v0_4 pf qb qa)), (.int (v0_2 pf))]) (rest := [(.ref b14)]) (lenOf pd_1 rfl) rfl (by show 2 * 0 + _ ≤ _; exact Nat.le_of_eq rfl) (hb hby at_98) (fun _ _ => ⟨rfl, e14, (by decide : 2 + 0 ≤ _), (by decide : 4 + 0 ≤ _)⟩)
  dsimp only [Pt.U, Pt.locs, Pt.cells, Pt.slots] at X15 l15 y15 z15 st15 hQ15
  subst l15 y15 z15
  obtain ⟨rfl, N15q, Kq15, Fq15_0, Fq15_1⟩ := hQ15
  have N15 := Fr.app N13 N15q
  have Z15 : n0 ≤ T15.heap.size := Nat.le_trans Z14 Kq15.1
  have K15 : Keep h0 T15.heap [] := (K14).trans Kq15 (allS (Or.inr sz_b14) all0)
  obtain ⟨cq16, kq16, q16a, q16b, q16c⟩ := isOf hZ rfl ((((A12.keep Kq13).ext E14).keep Kq15))
  obtain ⟨_, _, ⟨T16, L16, k16, n16⟩, -, X16, ⟨Lc16, hQ16, l16, y16, z16⟩, st16⟩ := X15.virtualBack hx (y := (⟨"com/example/wattle/wattle/process/CompilerThreads$Look", "busySince", "(Lcom/example/wattle/wattle/process/CompilerThreads$Look;)Z"⟩ : MethodName)) (z := (⟨"com/example/wattle/wattle/process/CompilerThreads$Look", "busySince", "(Lcom/example/wattle/wattle/process/CompilerThreads$Look;)Z"⟩ : MethodName)) hown (mvT hZ (hw _ (List.mem_of_getElem? (i := 18) rfl))) (mvT hZ (hw _ (List.mem_of_getElem? (i := 19) rfl))) (notFace_of_selects (args := #[]) (mvT hZ (hw _ (List.mem_of_getElem? (i := 21) rfl)))) (mvT hZ (hw _ (List.mem_of_getElem? (i := 21) rfl))) (mvT hZ (hw _ (List.mem_of_getElem? (i := 20) rfl))) (by decide) (backOf (W := 0) (rm4 l Z a0 hw [] b12 b14 (nar .boolean (v0_1 pf)) qa (v0_4 pf qb qa) T15.heap n0 Z15 ((((A12.keep Kq13).ext E14).keep Kq15)) ((A14.keep Kq15)) (((Fq13_1.ext E14).keep Kq15 (ninS (Nat.ne_of_lt (Nat.lt_of_lt_of_le (A12.keep Kq13).lt (Nat.le_of_eq g14.symm))) nin0))) (((Fq13_0.ext E14).keep Kq15 (ninS (Nat.ne_of_lt (Nat.lt_of_lt_of_le (A12.keep Kq13).lt (Nat.le_of_eq g14.symm))) nin0))) (Fq15_0)) hZ (hw _ (List.mem_of_getElem? (i := 22) rfl)) (hw _ (List.mem_of_getElem? (i := 2) rfl)) (by decide) (by decide)) q16a q16c (g := (mkF m 107 #[.val (.long qa), .second, .val (.long qb), .second, .val (.int pf), .val (.int (v0_1 pf)), .val (.int (v0_2 pf)), .val (.int (v0_3 pf)), .val (.long (v0_4 pf qb qa)), .second, .val (.ref b12), .val (.ref b14), .unset, .unset] [(.ref b14), (.ref b12)])) rfl (by rw [hml]; rfl) (Steps.refl _) (argsL := [(.ref b14)]) (rest := []) (lenOf pd_2 rfl) rfl (by show 2 * 0 + _ ≤ _; exact Nat.le_of_eq rfl) (hb hby at_107) (fun _ _ => ⟨rfl, rfl, (by decide : 2 + 0 ≤ _), (by decide : 4 + 0 ≤ _)⟩)
  dsimp only [Pt.U, Pt.locs, Pt.cells, Pt.slots] at X16 l16 y16 z16 st16 hQ16
  subst l16 y16 z16
  obtain ⟨rfl, N16q, e16⟩ := hQ16
  have N16 := Fr.app N15 N16q
  obtain ⟨cq17, kq17, q17a, q17b, q17c⟩ := isOf hZ e16 ((A14.keep Kq15))
  obtain ⟨_, _, ⟨T17, L17, k17, n17⟩, -, X17, ⟨Lc17, hQ17, l17, y17, z17⟩, st17⟩ := X16.virtualBack hx (y := (⟨"com/example/wattle/wattle/process/CompilerThreads$Look", "busySince", "(Lcom/example/wattle/wattle/process/CompilerThreads$Look;)Z"⟩ : MethodName)) (z := (⟨"com/example/wattle/wattle/process/CompilerThreads$Look", "busySince", "(Lcom/example/wattle/wattle/process/CompilerThreads$Look;)Z"⟩ : MethodName)) hown (mvT hZ (hw _ (List.mem_of_getElem? (i := 18) rfl))) (mvT hZ (hw _ (List.mem_of_getElem? (i := 19) rfl))) (notFace_of_selects (args := #[]) (mvT hZ (hw _ (List.mem_of_getElem? (i := 21) rfl)))) (mvT hZ (hw _ (List.mem_of_getElem? (i := 21) rfl))) (mvT hZ (hw _ (List.mem_of_getElem? (i := 20) rfl))) (by decide) (backOf (W := 0) (rm4 l Z a0 hw [] b14 b12 (nar .boolean (v0_2 pf)) (v0_4 pf qb qa) qa T15.heap n0 Z15 ((A14.keep Kq15)) ((((A12.keep Kq13).ext E14).keep Kq15)) (Fq15_1) (Fq15_0) (((Fq13_0.ext E14).keep Kq15 (ninS (Nat.ne_of_lt (Nat.lt_of_lt_of_le (A12.keep Kq13).lt (Nat.le_of_eq g14.symm))) nin0)))) hZ (hw _ (List.mem_of_getElem? (i := 22) rfl)) (hw _ (List.mem_of_getElem? (i := 2) rfl)) (by decide) (by decide)) q17a q17c (g := (mkF m 116 #[.val (.long qa), .second, .val (.long qb), .second, .val (.int pf), .val (.int (v0_1 pf)), .val (.int (v0_2 pf)), .val (.int (v0_3 pf)), .val (.long (v0_4 pf qb qa)), .second, .val (.ref b12), .val (.ref b14), .val (.int (f4 (nar .boolean (v0_1 pf)) qa (v0_4 pf qb qa))), .unset] [(.ref b12), (.ref b14)])) rfl (by rw [hml]; rfl) (Steps.refl _) (argsL := [(.ref b12)]) (rest := []) (lenOf pd_2 rfl) rfl (by show 2 * 0 + _ ≤ _; exact Nat.le_of_eq rfl) (hb hby at_116) (fun _ _ => ⟨rfl, e16, (by decide : 2 + 0 ≤ _), (by decide : 4 + 0 ≤ _)⟩)
  dsimp only [Pt.U, Pt.locs, Pt.cells, Pt.slots] at X17 l17 y17 z17 st17 hQ17
  subst l17 y17 z17
  obtain ⟨rfl, N17q, e17⟩ := hQ17
  have N17 := Fr.app N16 N17q
  obtain ⟨_, _, ⟨T18, L18, k18, n18⟩, -, X18, ⟨Lc18, hQ18, l18, y18, z18⟩, st18⟩ := Jvm.LawKit.callS X17 hx (y := (⟨"com/example/wattle/wattle/process/LookBusySincePinLaw", "expected", "(ZJJ)Z"⟩ : MethodName)) hown (mvT hZ (hw _ (List.mem_of_getElem? (i := 23) rfl))) (mvT hZ (hw _ (List.mem_of_getElem? (i := 24) rfl))) (mvT hZ (hw _ (List.mem_of_getElem? (i := 25) rfl))) (mvT hZ (hw _ (List.mem_of_getElem? (i := 26) rfl))) (by decide) (backOf (W := 1) (rm5 l Z a0 hw [] (v0_1 pf) qa (v0_4 pf qb qa) T15.heap n0 Z15) hZ (hw _ (List.mem_of_getElem? (i := 26) rfl)) (hw _ (List.mem_of_getElem? (i := 25) rfl)) (by decide) (by decide)) (g := (mkF m 128 #[.val (.long qa), .second, .val (.long qb), .second, .val (.int pf), .val (.int (v0_1 pf)), .val (.int (v0_2 pf)), .val (.int (v0_3 pf)), .val (.long (v0_4 pf qb qa)), .second, .val (.ref b12), .val (.ref b14), .val (.int (f4 (nar .boolean (v0_1 pf)) qa (v0_4 pf qb qa))), .val (.int (f4 (nar .boolean (v0_2 pf)) (v0_4 pf qb qa) qa))] [(.long (v0_4 pf qb qa)), (.long qa), (.int (v0_1 pf)), (.int (f4 (nar .boolean (v0_1 pf)) qa (v0_4 pf qb qa)))])) rfl (by rw [hml]; rfl) (argsL := [(.int (v0_1 pf)), (.long qa), (.long (v0_4 pf qb qa))]) (rest := [(.int (f4 (nar .boolean (v0_1 pf)) qa (v0_4 pf qb qa)))]) (lenOf pd_3 rfl) rfl (by show 2 * 0 + _ ≤ _; exact Nat.le_of_eq rfl) (hb hby at_128) (fun _ _ => ⟨rfl, e17, (by decide : 2 + 0 ≤ _), (by decide : 4 + 0 ≤ _)⟩)
  dsimp only [Pt.U, Pt.locs, Pt.cells, Pt.slots] at X18 l18 y18 z18 st18 hQ18
  subst l18 y18 z18
  obtain ⟨rfl, N18q, e18⟩ := hQ18
  have N18 := Fr.app N17 N18q
  have pre19 : ∀ t, Steps p.tables e below (T18.setTop (mkF m 131 #[.val (.long qa), .second, .val (.long qb), .second, .val (.int pf), .val (.int (v0_1 pf)), .val (.int (v0_2 pf)), .val (.int (v0_3 pf)), .val (.long (v0_4 pf qb qa)), .second, .val (.ref b12), .val (.ref b14), .val (.int (f4 (nar .boolean (v0_1 pf)) qa (v0_4 pf qb qa))), .val (.int (f4 (nar .boolean (v0_2 pf)) (v0_4 pf qb qa) qa))] [(.int (f5 (v0_1 pf) qa (v0_4 pf qb qa))), (.int (f4 (nar .boolean (v0_1 pf)) qa (v0_4 pf qb qa)))])) t → Steps p.tables e below (s₁.setTop (entryFrame m #[(.long qa), (.long qb), (.int pf)] maxLocals)) t := fun t k => pre11 t (by
    show Steps p.tables e below (s₁.setTop (mkF m 78 #[.val (.long qa), .second, .val (.long qb), .second, .val (.int pf), .val (.int (v0_1 pf)), .val (.int (v0_2 pf)), .val (.int (v0_3 pf)), .val (.long (v0_4 pf qb qa)), .second, .unset, .unset, .unset, .unset] [])) _
    refine st12 _ ?_
    show Steps p.tables e below (T12.setTop (mkF m 81 #[.val (.long qa), .second, .val (.long qb), .second, .val (.int pf), .val (.int (v0_1 pf)), .val (.int (v0_2 pf)), .val (.int (v0_3 pf)), .val (.long (v0_4 pf qb qa)), .second, .unset, .unset, .unset, .unset] [(.ref b12)])) _
    refine XS.dup X12.here hx rfl (hb hby at_81) rfl rfl ?_
    show Steps p.tables e below (T12.setTop (mkF m 82 #[.val (.long qa), .second, .val (.long qb), .second, .val (.int pf), .val (.int (v0_1 pf)), .val (.int (v0_2 pf)), .val (.int (v0_3 pf)), .val (.long (v0_4 pf qb qa)), .second, .unset, .unset, .unset, .unset] [(.ref b12), (.ref b12)])) _
    refine XS.lloadN X12.here hx rfl (hb hby at_82) rfl ?_
    show Steps p.tables e below (T12.setTop (mkF m 83 #[.val (.long qa), .second, .val (.long qb), .second, .val (.int pf), .val (.int (v0_1 pf)), .val (.int (v0_2 pf)), .val (.int (v0_3 pf)), .val (.long (v0_4 pf qb qa)), .second, .unset, .unset, .unset, .unset] [(.long qa), (.ref b12), (.ref b12)])) _
    refine XS.iload X12.here hx rfl (hb hby at_83) rfl ?_
    show Steps p.tables e below (T12.setTop (mkF m 85 #[.val (.long qa), .second, .val (.long qb), .second, .val (.int pf), .val (.int (v0_1 pf)), .val (.int (v0_2 pf)), .val (.int (v0_3 pf)), .val (.long (v0_4 pf qb qa)), .second, .unset, .unset, .unset, .unset] [(.int (v0_1 pf)), (.long qa), (.ref b12), (.ref b12)])) _
    refine st13.trans ?_
    show Steps p.tables e below (T13.setTop (mkF m 88 #[.val (.long qa), .second, .val (.long qb), .second, .val (.int pf), .val (.int (v0_1 pf)), .val (.int (v0_2 pf)), .val (.int (v0_3 pf)), .val (.long (v0_4 pf qb qa)), .second, .unset, .unset, .unset, .unset] [(.ref b12)])) _
    refine XS.astore X13.here hx rfl (hb hby at_88) rfl rfl (l' := #[.val (.long qa), .second, .val (.long qb), .second, .val (.int pf), .val (.int (v0_1 pf)), .val (.int (v0_2 pf)), .val (.int (v0_3 pf)), .val (.long (v0_4 pf qb qa)), .second, .val (.ref b12), .unset, .unset, .unset]) rfl ?_
    show Steps p.tables e below (T13.setTop (mkF m 90 #[.val (.long qa), .second, .val (.long qb), .second, .val (.int pf), .val (.int (v0_1 pf)), .val (.int (v0_2 pf)), .val (.int (v0_3 pf)), .val (.long (v0_4 pf qb qa)), .second, .val (.ref b12), .unset, .unset, .unset] [])) _
    refine st14 _ ?_
    show Steps p.tables e below (T14.setTop (mkF m 93 #[.val (.long qa), .second, .val (.long qb), .second, .val (.int pf), .val (.int (v0_1 pf)), .val (.int (v0_2 pf)), .val (.int (v0_3 pf)), .val (.long (v0_4 pf qb qa)), .second, .val (.ref b12), .unset, .unset, .unset] [(.ref b14)])) _
    refine XS.dup X14.here hx rfl (hb hby at_93) rfl rfl ?_
    show Steps p.tables e below (T14.setTop (mkF m 94 #[.val (.long qa), .second, .val (.long qb), .second, .val (.int pf), .val (.int (v0_1 pf)), .val (.int (v0_2 pf)), .val (.int (v0_3 pf)), .val (.long (v0_4 pf qb qa)), .second, .val (.ref b12), .unset, .unset, .unset] [(.ref b14), (.ref b14)])) _
    refine XS.lload X14.here hx rfl (hb hby at_94) rfl ?_
    show Steps p.tables e below (T14.setTop (mkF m 96 #[.val (.long qa), .second, .val (.long qb), .second, .val (.int pf), .val (.int (v0_1 pf)), .val (.int (v0_2 pf)), .val (.int (v0_3 pf)), .val (.long (v0_4 pf qb qa)), .second, .val (.ref b12), .unset, .unset, .unset] [(.long (v0_4 pf qb qa)), (.ref b14), (.ref b14)])) _
    refine XS.iload X14.here hx rfl (hb hby at_96) rfl ?_
    show Steps p.tables e below (T14.setTop (mkF m 98 #[.val (.long qa), .second, .val (.long qb), .second, .val (.int pf), .val (.int (v0_1 pf)), .val (.int (v0_2 pf)), .val (.int (v0_3 pf)), .val (.long (v0_4 pf qb qa)), .second, .val (.ref b12), .unset, .unset, .unset] [(.int (v0_2 pf)), (.long (v0_4 pf qb qa)), (.ref b14), (.ref b14)])) _
    refine st15.trans ?_
    show Steps p.tables e below (T15.setTop (mkF m 101 #[.val (.long qa), .second, .val (.long qb), .second, .val (.int pf), .val (.int (v0_1 pf)), .val (.int (v0_2 pf)), .val (.int (v0_3 pf)), .val (.long (v0_4 pf qb qa)), .second, .val (.ref b12), .unset, .unset, .unset] [(.ref b14)])) _
    refine XS.astore X15.here hx rfl (hb hby at_101) rfl rfl (l' := #[.val (.long qa), .second, .val (.long qb), .second, .val (.int pf), .val (.int (v0_1 pf)), .val (.int (v0_2 pf)), .val (.int (v0_3 pf)), .val (.long (v0_4 pf qb qa)), .second, .val (.ref b12), .val (.ref b14), .unset, .unset]) rfl ?_
    show Steps p.tables e below (T15.setTop (mkF m 103 #[.val (.long qa), .second, .val (.long qb), .second, .val (.int pf), .val (.int (v0_1 pf)), .val (.int (v0_2 pf)), .val (.int (v0_3 pf)), .val (.long (v0_4 pf qb qa)), .second, .val (.ref b12), .val (.ref b14), .unset, .unset] [])) _
    refine XS.aload X15.here hx rfl (hb hby at_103) rfl rfl ?_
    show Steps p.tables e below (T15.setTop (mkF m 105 #[.val (.long qa), .second, .val (.long qb), .second, .val (.int pf), .val (.int (v0_1 pf)), .val (.int (v0_2 pf)), .val (.int (v0_3 pf)), .val (.long (v0_4 pf qb qa)), .second, .val (.ref b12), .val (.ref b14), .unset, .unset] [(.ref b12)])) _
    refine XS.aload X15.here hx rfl (hb hby at_105) rfl rfl ?_
    show Steps p.tables e below (T15.setTop (mkF m 107 #[.val (.long qa), .second, .val (.long qb), .second, .val (.int pf), .val (.int (v0_1 pf)), .val (.int (v0_2 pf)), .val (.int (v0_3 pf)), .val (.long (v0_4 pf qb qa)), .second, .val (.ref b12), .val (.ref b14), .unset, .unset] [(.ref b14), (.ref b12)])) _
    refine st16.trans ?_
    show Steps p.tables e below (T16.setTop (mkF m 110 #[.val (.long qa), .second, .val (.long qb), .second, .val (.int pf), .val (.int (v0_1 pf)), .val (.int (v0_2 pf)), .val (.int (v0_3 pf)), .val (.long (v0_4 pf qb qa)), .second, .val (.ref b12), .val (.ref b14), .unset, .unset] [(.int (f4 (nar .boolean (v0_1 pf)) qa (v0_4 pf qb qa)))])) _
    refine XS.istore X16.here hx rfl (hb hby at_110) rfl (l' := #[.val (.long qa), .second, .val (.long qb), .second, .val (.int pf), .val (.int (v0_1 pf)), .val (.int (v0_2 pf)), .val (.int (v0_3 pf)), .val (.long (v0_4 pf qb qa)), .second, .val (.ref b12), .val (.ref b14), .val (.int (f4 (nar .boolean (v0_1 pf)) qa (v0_4 pf qb qa))), .unset]) rfl ?_
    show Steps p.tables e below (T16.setTop (mkF m 112 #[.val (.long qa), .second, .val (.long qb), .second, .val (.int pf), .val (.int (v0_1 pf)), .val (.int (v0_2 pf)), .val (.int (v0_3 pf)), .val (.long (v0_4 pf qb qa)), .second, .val (.ref b12), .val (.ref b14), .val (.int (f4 (nar .boolean (v0_1 pf)) qa (v0_4 pf qb qa))), .unset] [])) _
    refine XS.aload X16.here hx rfl (hb hby at_112) rfl rfl ?_
    show Steps p.tables e below (T16.setTop (mkF m 114 #[.val (.long qa), .second, .val (.long qb), .second, .val (.int pf), .val (.int (v0_1 pf)), .val (.int (v0_2 pf)), .val (.int (v0_3 pf)), .val (.long (v0_4 pf qb qa)), .second, .val (.ref b12), .val (.ref b14), .val (.int (f4 (nar .boolean (v0_1 pf)) qa (v0_4 pf qb qa))), .unset] [(.ref b14)])) _
    refine XS.aload X16.here hx rfl (hb hby at_114) rfl rfl ?_
    show Steps p.tables e below (T16.setTop (mkF m 116 #[.val (.long qa), .second, .val (.long qb), .second, .val (.int pf), .val (.int (v0_1 pf)), .val (.int (v0_2 pf)), .val (.int (v0_3 pf)), .val (.long (v0_4 pf qb qa)), .second, .val (.ref b12), .val (.ref b14), .val (.int (f4 (nar .boolean (v0_1 pf)) qa (v0_4 pf qb qa))), .unset] [(.ref b12), (.ref b14)])) _
    refine st17.trans ?_
    show Steps p.tables e below (T17.setTop (mkF m 119 #[.val (.long qa), .second, .val (.long qb), .second, .val (.int pf), .val (.int (v0_1 pf)), .val (.int (v0_2 pf)), .val (.int (v0_3 pf)), .val (.long (v0_4 pf qb qa)), .second, .val (.ref b12), .val (.ref b14), .val (.int (f4 (nar .boolean (v0_1 pf)) qa (v0_4 pf qb qa))), .unset] [(.int (f4 (nar .boolean (v0_2 pf)) (v0_4 pf qb qa) qa))])) _
    refine XS.istore X17.here hx rfl (hb hby at_119) rfl (l' := #[.val (.long qa), .second, .val (.long qb), .second, .val (.int pf), .val (.int (v0_1 pf)), .val (.int (v0_2 pf)), .val (.int (v0_3 pf)), .val (.long (v0_4 pf qb qa)), .second, .val (.ref b12), .val (.ref b14), .val (.int (f4 (nar .boolean (v0_1 pf)) qa (v0_4 pf qb qa))), .val (.int (f4 (nar .boolean (v0_2 pf)) (v0_4 pf qb qa) qa))]) rfl ?_
    show Steps p.tables e below (T17.setTop (mkF m 121 #[.val (.long qa), .second, .val (.long qb), .second, .val (.int pf), .val (.int (v0_1 pf)), .val (.int (v0_2 pf)), .val (.int (v0_3 pf)), .val (.long (v0_4 pf qb qa)), .second, .val (.ref b12), .val (.ref b14), .val (.int (f4 (nar .boolean (v0_1 pf)) qa (v0_4 pf qb qa))), .val (.int (f4 (nar .boolean (v0_2 pf)) (v0_4 pf qb qa) qa))] [])) _
    refine XS.iload X17.here hx rfl (hb hby at_121) rfl ?_
    show Steps p.tables e below (T17.setTop (mkF m 123 #[.val (.long qa), .second, .val (.long qb), .second, .val (.int pf), .val (.int (v0_1 pf)), .val (.int (v0_2 pf)), .val (.int (v0_3 pf)), .val (.long (v0_4 pf qb qa)), .second, .val (.ref b12), .val (.ref b14), .val (.int (f4 (nar .boolean (v0_1 pf)) qa (v0_4 pf qb qa))), .val (.int (f4 (nar .boolean (v0_2 pf)) (v0_4 pf qb qa) qa))] [(.int (f4 (nar .boolean (v0_1 pf)) qa (v0_4 pf qb qa)))])) _
    refine XS.iload X17.here hx rfl (hb hby at_123) rfl ?_
    show Steps p.tables e below (T17.setTop (mkF m 125 #[.val (.long qa), .second, .val (.long qb), .second, .val (.int pf), .val (.int (v0_1 pf)), .val (.int (v0_2 pf)), .val (.int (v0_3 pf)), .val (.long (v0_4 pf qb qa)), .second, .val (.ref b12), .val (.ref b14), .val (.int (f4 (nar .boolean (v0_1 pf)) qa (v0_4 pf qb qa))), .val (.int (f4 (nar .boolean (v0_2 pf)) (v0_4 pf qb qa) qa))] [(.int (v0_1 pf)), (.int (f4 (nar .boolean (v0_1 pf)) qa (v0_4 pf qb qa)))])) _
    refine XS.lloadN X17.here hx rfl (hb hby at_125) rfl ?_
    show Steps p.tables e below (T17.setTop (mkF m 126 #[.val (.long qa), .second, .val (.long qb), .second, .val (.int pf), .val (.int (v0_1 pf)), .val (.int (v0_2 pf)), .val (.int (v0_3 pf)), .val (.long (v0_4 pf qb qa)), .second, .val (.ref b12), .val (.ref b14), .val (.int (f4 (nar .boolean (v0_1 pf)) qa (v0_4 pf qb qa))), .val (.int (f4 (nar .boolean (v0_2 pf)) (v0_4 pf qb qa) qa))] [(.long qa), (.int (v0_1 pf)), (.int (f4 (nar .boolean (v0_1 pf)) qa (v0_4 pf qb qa)))])) _
    refine XS.lload X17.here hx rfl (hb hby at_126) rfl ?_
    show Steps p.tables e below (T17.setTop (mkF m 128 #[.val (.long qa), .second, .val (.long qb), .second, .val (.int pf), .val (.int (v0_1 pf)), .val (.int (v0_2 pf)), .val (.int (v0_3 pf)), .val (.long (v0_4 pf qb qa)), .second, .val (.ref b12), .val (.ref b14), .val (.int (f4 (nar .boolean (v0_1 pf)) qa (v0_4 pf qb qa))), .val (.int (f4 (nar .boolean (v0_2 pf)) (v0_4 pf qb qa) qa))] [(.long (v0_4 pf qb qa)), (.long qa), (.int (v0_1 pf)), (.int (f4 (nar .boolean (v0_1 pf)) qa (v0_4 pf qb qa)))])) _
    refine st18 _ ?_
    show Steps p.tables e below (T18.setTop (mkF m 131 #[.val (.long qa), .second, .val (.long qb), .second, .val (.int pf), .val (.int (v0_1 pf)), .val (.int (v0_2 pf)), .val (.int (v0_3 pf)), .val (.long (v0_4 pf qb qa)), .second, .val (.ref b12), .val (.ref b14), .val (.int (f4 (nar .boolean (v0_1 pf)) qa (v0_4 pf qb qa))), .val (.int (f4 (nar .boolean (v0_2 pf)) (v0_4 pf qb qa) qa))] [(.int (f5 (v0_1 pf) qa (v0_4 pf qb qa))), (.int (f4 (nar .boolean (v0_1 pf)) qa (v0_4 pf qb qa)))])) _
    exact k)
  by_cases hc131_20 : (f4 (nar .boolean (v0_1 pf)) qa (v0_4 pf qb qa)) = (f5 (v0_1 pf) qa (v0_4 pf qb qa))
  · obtain ⟨_, _, ⟨T21, L21, k21, n21⟩, -, X21, ⟨Lc21, hQ21, l21, y21, z21⟩, st21⟩ := Jvm.LawKit.callS X18 hx (y := (⟨"com/example/wattle/wattle/process/LookBusySincePinLaw", "expected", "(ZJJ)Z"⟩ : MethodName)) hown (mvT hZ (hw _ (List.mem_of_getElem? (i := 23) rfl))) (mvT hZ (hw _ (List.mem_of_getElem? (i := 24) rfl))) (mvT hZ (hw _ (List.mem_of_getElem? (i := 25) rfl))) (mvT hZ (hw _ (List.mem_of_getElem? (i := 26) rfl))) (by decide) (backOf (W := 1) (rm5 l Z a0 hw [] (v0_2 pf) (v0_4 pf qb qa) qa T15.heap n0 Z15) hZ (hw _ (List.mem_of_getElem? (i := 26) rfl)) (hw _ (List.mem_of_getElem? (i := 25) rfl)) (by decide) (by decide)) (g := (mkF m 141 #[.val (.long qa), .second, .val (.long qb), .second, .val (.int pf), .val (.int (v0_1 pf)), .val (.int (v0_2 pf)), .val (.int (v0_3 pf)), .val (.long (v0_4 pf qb qa)), .second, .val (.ref b12), .val (.ref b14), .val (.int (f4 (nar .boolean (v0_1 pf)) qa (v0_4 pf qb qa))), .val (.int (f4 (nar .boolean (v0_2 pf)) (v0_4 pf qb qa) qa))] [(.long qa), (.long (v0_4 pf qb qa)), (.int (v0_2 pf)), (.int (f4 (nar .boolean (v0_2 pf)) (v0_4 pf qb qa) qa))])) rfl (by rw [hml]; rfl) (argsL := [(.int (v0_2 pf)), (.long (v0_4 pf qb qa)), (.long qa)]) (rest := [(.int (f4 (nar .boolean (v0_2 pf)) (v0_4 pf qb qa) qa))]) (lenOf pd_3 rfl) rfl (by show 2 * 0 + _ ≤ _; exact Nat.le_of_eq rfl) (hb hby at_141) (fun _ _ => ⟨rfl, e18, (by decide : 2 + 0 ≤ _), (by decide : 4 + 0 ≤ _)⟩)
    dsimp only [Pt.U, Pt.locs, Pt.cells, Pt.slots] at X21 l21 y21 z21 st21 hQ21
    subst l21 y21 z21
    obtain ⟨rfl, N21q, e21⟩ := hQ21
    have N21 := Fr.app N18 N21q
    have pre22 : ∀ t, Steps p.tables e below (T21.setTop (mkF m 144 #[.val (.long qa), .second, .val (.long qb), .second, .val (.int pf), .val (.int (v0_1 pf)), .val (.int (v0_2 pf)), .val (.int (v0_3 pf)), .val (.long (v0_4 pf qb qa)), .second, .val (.ref b12), .val (.ref b14), .val (.int (f4 (nar .boolean (v0_1 pf)) qa (v0_4 pf qb qa))), .val (.int (f4 (nar .boolean (v0_2 pf)) (v0_4 pf qb qa) qa))] [(.int (f5 (v0_2 pf) (v0_4 pf qb qa) qa)), (.int (f4 (nar .boolean (v0_2 pf)) (v0_4 pf qb qa) qa))])) t → Steps p.tables e below (s₁.setTop (entryFrame m #[(.long qa), (.long qb), (.int pf)] maxLocals)) t := fun t k => pre19 t (by
      show Steps p.tables e below (T18.setTop (mkF m 131 #[.val (.long qa), .second, .val (.long qb), .second, .val (.int pf), .val (.int (v0_1 pf)), .val (.int (v0_2 pf)), .val (.int (v0_3 pf)), .val (.long (v0_4 pf qb qa)), .second, .val (.ref b12), .val (.ref b14), .val (.int (f4 (nar .boolean (v0_1 pf)) qa (v0_4 pf qb qa))), .val (.int (f4 (nar .boolean (v0_2 pf)) (v0_4 pf qb qa) qa))] [(.int (f5 (v0_1 pf) qa (v0_4 pf qb qa))), (.int (f4 (nar .boolean (v0_1 pf)) qa (v0_4 pf qb qa)))])) _
      refine XS.icmpNo X18.here hx rfl (hb hby at_131) rfl (teq hc131_20).2 ?_
      show Steps p.tables e below (T18.setTop (mkF m 134 #[.val (.long qa), .second, .val (.long qb), .second, .val (.int pf), .val (.int (v0_1 pf)), .val (.int (v0_2 pf)), .val (.int (v0_3 pf)), .val (.long (v0_4 pf qb qa)), .second, .val (.ref b12), .val (.ref b14), .val (.int (f4 (nar .boolean (v0_1 pf)) qa (v0_4 pf qb qa))), .val (.int (f4 (nar .boolean (v0_2 pf)) (v0_4 pf qb qa) qa))] [])) _
      refine XS.iload X18.here hx rfl (hb hby at_134) rfl ?_
      show Steps p.tables e below (T18.setTop (mkF m 136 #[.val (.long qa), .second, .val (.long qb), .second, .val (.int pf), .val (.int (v0_1 pf)), .val (.int (v0_2 pf)), .val (.int (v0_3 pf)), .val (.long (v0_4 pf qb qa)), .second, .val (.ref b12), .val (.ref b14), .val (.int (f4 (nar .boolean (v0_1 pf)) qa (v0_4 pf qb qa))), .val (.int (f4 (nar .boolean (v0_2 pf)) (v0_4 pf qb qa) qa))] [(.int (f4 (nar .boolean (v0_2 pf)) (v0_4 pf qb qa) qa))])) _
      refine XS.iload X18.here hx rfl (hb hby at_136) rfl ?_
      show Steps p.tables e below (T18.setTop (mkF m 138 #[.val (.long qa), .second, .val (.long qb), .second, .val (.int pf), .val (.int (v0_1 pf)), .val (.int (v0_2 pf)), .val (.int (v0_3 pf)), .val (.long (v0_4 pf qb qa)), .second, .val (.ref b12), .val (.ref b14), .val (.int (f4 (nar .boolean (v0_1 pf)) qa (v0_4 pf qb qa))), .val (.int (f4 (nar .boolean (v0_2 pf)) (v0_4 pf qb qa) qa))] [(.int (v0_2 pf)), (.int (f4 (nar .boolean (v0_2 pf)) (v0_4 pf qb qa) qa))])) _
      refine XS.lload X18.here hx rfl (hb hby at_138) rfl ?_
      show Steps p.tables e below (T18.setTop (mkF m 140 #[.val (.long qa), .second, .val (.long qb), .second, .val (.int pf), .val (.int (v0_1 pf)), .val (.int (v0_2 pf)), .val (.int (v0_3 pf)), .val (.long (v0_4 pf qb qa)), .second, .val (.ref b12), .val (.ref b14), .val (.int (f4 (nar .boolean (v0_1 pf)) qa (v0_4 pf qb qa))), .val (.int (f4 (nar .boolean (v0_2 pf)) (v0_4 pf qb qa) qa))] [(.long (v0_4 pf qb qa)), (.int (v0_2 pf)), (.int (f4 (nar .boolean (v0_2 pf)) (v0_4 pf qb qa) qa))])) _
      refine XS.lloadN X18.here hx rfl (hb hby at_140) rfl ?_
      show Steps p.tables e below (T18.setTop (mkF m 141 #[.val (.long qa), .second, .val (.long qb), .second, .val (.int pf), .val (.int (v0_1 pf)), .val (.int (v0_2 pf)), .val (.int (v0_3 pf)), .val (.long (v0_4 pf qb qa)), .second, .val (.ref b12), .val (.ref b14), .val (.int (f4 (nar .boolean (v0_1 pf)) qa (v0_4 pf qb qa))), .val (.int (f4 (nar .boolean (v0_2 pf)) (v0_4 pf qb qa) qa))] [(.long qa), (.long (v0_4 pf qb qa)), (.int (v0_2 pf)), (.int (f4 (nar .boolean (v0_2 pf)) (v0_4 pf qb qa) qa))])) _
      refine st21 _ ?_
      show Steps p.tables e below (T21.setTop (mkF m 144 #[.val (.long qa), .second, .val (.long qb), .second, .val (.int pf), .val (.int (v0_1 pf)), .val (.int (v0_2 pf)), .val (.int (v0_3 pf)), .val (.long (v0_4 pf qb qa)), .second, .val (.ref b12), .val (.ref b14), .val (.int (f4 (nar .boolean (v0_1 pf)) qa (v0_4 pf qb qa))), .val (.int (f4 (nar .boolean (v0_2 pf)) (v0_4 pf qb qa) qa))] [(.int (f5 (v0_2 pf) (v0_4 pf qb qa) qa)), (.int (f4 (nar .boolean (v0_2 pf)) (v0_4 pf qb qa) qa))])) _
      exact k)
    by_cases hc144_23 : (f4 (nar .boolean (v0_2 pf)) (v0_4 pf qb qa) qa) = (f5 (v0_2 pf) (v0_4 pf qb qa) qa)
    · have hv : (f0 qa qb pf) = (1 : Int32) := by simp only [f0, if_pos hc131_20, if_pos hc144_23]
      obtain ⟨fs, hr, hrun, hended, hW, hsame⟩ := X21.leave (v := some (.int (1 : Int32))) (fun h => by rw [Bd.returns] at h; cases h)
      refine ⟨_, _, pre22 _ ?_, hrun, hended, _, _, rfl, ?_, ⟨_, rfl⟩, hW, hsame.mono (by decide) (by decide)⟩
      · show Steps p.tables e below (T21.setTop (mkF m 144 #[.val (.long qa), .second, .val (.long qb), .second, .val (.int pf), .val (.int (v0_1 pf)), .val (.int (v0_2 pf)), .val (.int (v0_3 pf)), .val (.long (v0_4 pf qb qa)), .second, .val (.ref b12), .val (.ref b14), .val (.int (f4 (nar .boolean (v0_1 pf)) qa (v0_4 pf qb qa))), .val (.int (f4 (nar .boolean (v0_2 pf)) (v0_4 pf qb qa) qa))] [(.int (f5 (v0_2 pf) (v0_4 pf qb qa) qa)), (.int (f4 (nar .boolean (v0_2 pf)) (v0_4 pf qb qa) qa))])) _
        refine XS.icmpNo X21.here hx rfl (hb hby at_144) rfl (teq hc144_23).2 ?_
        show Steps p.tables e below (T21.setTop (mkF m 147 #[.val (.long qa), .second, .val (.long qb), .second, .val (.int pf), .val (.int (v0_1 pf)), .val (.int (v0_2 pf)), .val (.int (v0_3 pf)), .val (.long (v0_4 pf qb qa)), .second, .val (.ref b12), .val (.ref b14), .val (.int (f4 (nar .boolean (v0_1 pf)) qa (v0_4 pf qb qa))), .val (.int (f4 (nar .boolean (v0_2 pf)) (v0_4 pf qb qa) qa))] [])) _
        refine XS.iconst X21.here hx rfl (hb hby at_147) ?_
        show Steps p.tables e below (T21.setTop (mkF m 148 #[.val (.long qa), .second, .val (.long qb), .second, .val (.int pf), .val (.int (v0_1 pf)), .val (.int (v0_2 pf)), .val (.int (v0_3 pf)), .val (.long (v0_4 pf qb qa)), .second, .val (.ref b12), .val (.ref b14), .val (.int (f4 (nar .boolean (v0_1 pf)) qa (v0_4 pf qb qa))), .val (.int (f4 (nar .boolean (v0_2 pf)) (v0_4 pf qb qa) qa))] [(.int (1 : Int32))])) _
        refine XS.goto X21.here hx rfl (pc0 := 148) (pc' := 152) rfl (hb hby at_148) (by decide) (by decide) ?_
        show Steps p.tables e below (T21.setTop (mkF m 152 #[.val (.long qa), .second, .val (.long qb), .second, .val (.int pf), .val (.int (v0_1 pf)), .val (.int (v0_2 pf)), .val (.int (v0_3 pf)), .val (.long (v0_4 pf qb qa)), .second, .val (.ref b12), .val (.ref b14), .val (.int (f4 (nar .boolean (v0_1 pf)) qa (v0_4 pf qb qa))), .val (.int (f4 (nar .boolean (v0_2 pf)) (v0_4 pf qb qa) qa))] [(.int (1 : Int32))])) _
        exact retN X21 hx (t := .boolean) Bd.returns (by simp) (hb hby at_152) hr
      · show Q0 Z qa qb pf h0 n0 _ T21.heap _
        rw [e21]
        exact ⟨by rw [hv], N21⟩
    · have hv : (f0 qa qb pf) = (0 : Int32) := by simp only [f0, if_pos hc131_20, if_neg hc144_23]
      obtain ⟨fs, hr, hrun, hended, hW, hsame⟩ := X21.leave (v := some (.int (0 : Int32))) (fun h => by rw [Bd.returns] at h; cases h)
      refine ⟨_, _, pre22 _ ?_, hrun, hended, _, _, rfl, ?_, ⟨_, rfl⟩, hW, hsame.mono (by decide) (by decide)⟩
      · show Steps p.tables e below (T21.setTop (mkF m 144 #[.val (.long qa), .second, .val (.long qb), .second, .val (.int pf), .val (.int (v0_1 pf)), .val (.int (v0_2 pf)), .val (.int (v0_3 pf)), .val (.long (v0_4 pf qb qa)), .second, .val (.ref b12), .val (.ref b14), .val (.int (f4 (nar .boolean (v0_1 pf)) qa (v0_4 pf qb qa))), .val (.int (f4 (nar .boolean (v0_2 pf)) (v0_4 pf qb qa) qa))] [(.int (f5 (v0_2 pf) (v0_4 pf qb qa) qa)), (.int (f4 (nar .boolean (v0_2 pf)) (v0_4 pf qb qa) qa))])) _
        refine XS.icmpYes X21.here hx rfl (pc0 := 144) (pc' := 151) rfl (hb hby at_144) rfl (feq hc144_23).2 (by decide) (by decide) ?_
        show Steps p.tables e below (T21.setTop (mkF m 151 #[.val (.long qa), .second, .val (.long qb), .second, .val (.int pf), .val (.int (v0_1 pf)), .val (.int (v0_2 pf)), .val (.int (v0_3 pf)), .val (.long (v0_4 pf qb qa)), .second, .val (.ref b12), .val (.ref b14), .val (.int (f4 (nar .boolean (v0_1 pf)) qa (v0_4 pf qb qa))), .val (.int (f4 (nar .boolean (v0_2 pf)) (v0_4 pf qb qa) qa))] [])) _
        refine XS.iconst X21.here hx rfl (hb hby at_151) ?_
        show Steps p.tables e below (T21.setTop (mkF m 152 #[.val (.long qa), .second, .val (.long qb), .second, .val (.int pf), .val (.int (v0_1 pf)), .val (.int (v0_2 pf)), .val (.int (v0_3 pf)), .val (.long (v0_4 pf qb qa)), .second, .val (.ref b12), .val (.ref b14), .val (.int (f4 (nar .boolean (v0_1 pf)) qa (v0_4 pf qb qa))), .val (.int (f4 (nar .boolean (v0_2 pf)) (v0_4 pf qb qa) qa))] [(.int (0 : Int32))])) _
        exact retN X21 hx (t := .boolean) Bd.returns (by simp) (hb hby at_152) hr
      · show Q0 Z qa qb pf h0 n0 _ T21.heap _
        rw [e21]
        exact ⟨by rw [hv], N21⟩
  · have hv : (f0 qa qb pf) = (0 : Int32) := by simp only [f0, if_neg hc131_20]
    obtain ⟨fs, hr, hrun, hended, hW, hsame⟩ := X18.leave (v := some (.int (0 : Int32))) (fun h => by rw [Bd.returns] at h; cases h)
    refine ⟨_, _, pre19 _ ?_, hrun, hended, _, _, rfl, ?_, ⟨_, rfl⟩, hW, hsame.mono (by decide) (by decide)⟩
    · show Steps p.tables e below (T18.setTop (mkF m 131 #[.val (.long qa), .second, .val (.long qb), .second, .val (.int pf), .val (.int (v0_1 pf)), .val (.int (v0_2 pf)), .val (.int (v0_3 pf)), .val (.long (v0_4 pf qb qa)), .second, .val (.ref b12), .val (.ref b14), .val (.int (f4 (nar .boolean (v0_1 pf)) qa (v0_4 pf qb qa))), .val (.int (f4 (nar .boolean (v0_2 pf)) (v0_4 pf qb qa) qa))] [(.int (f5 (v0_1 pf) qa (v0_4 pf qb qa))), (.int (f4 (nar .boolean (v0_1 pf)) qa (v0_4 pf qb qa)))])) _
      refine XS.icmpYes X18.here hx rfl (pc0 := 131) (pc' := 151) rfl (hb hby at_131) rfl (feq hc131_20).2 (by decide) (by decide) ?_
      show Steps p.tables e below (T18.setTop (mkF m 151 #[.val (.long qa), .second, .val (.long qb), .second, .val (.int pf), .val (.int (v0_1 pf)), .val (.int (v0_2 pf)), .val (.int (v0_3 pf)), .val (.long (v0_4 pf qb qa)), .second, .val (.ref b12), .val (.ref b14), .val (.int (f4 (nar .boolean (v0_1 pf)) qa (v0_4 pf qb qa))), .val (.int (f4 (nar .boolean (v0_2 pf)) (v0_4 pf qb qa) qa))] [])) _
      refine XS.iconst X18.here hx rfl (hb hby at_151) ?_
      show Steps p.tables e below (T18.setTop (mkF m 152 #[.val (.long qa), .second, .val (.long qb), .second, .val (.int pf), .val (.int (v0_1 pf)), .val (.int (v0_2 pf)), .val (.int (v0_3 pf)), .val (.long (v0_4 pf qb qa)), .second, .val (.ref b12), .val (.ref b14), .val (.int (f4 (nar .boolean (v0_1 pf)) qa (v0_4 pf qb qa))), .val (.int (f4 (nar .boolean (v0_2 pf)) (v0_4 pf qb qa) qa))] [(.int (0 : Int32))])) _
      exact retN X18 hx (t := .boolean) Bd.returns (by simp) (hb hby at_152) hr
    · show Q0 Z qa qb pf h0 n0 _ T18.heap _
      rw [e18]
      exact ⟨by rw [hv], N18⟩
theorem own_iff (a b : Int64) : ((lcmpW a b) = (0 : Int32)) ↔ ((lcmpW (a - b) (0 : Int64)) = (0 : Int32)) := by
  rw [lcW, lcW, lc_eq, lc_eq]
  constructor
  · intro h; rw [h]; exact Int64.sub_self b
  · intro h
    have e : a = (a - b) + b := (Int64.sub_add_cancel a b).symm
    rw [h, Int64.zero_add] at e; exact e
theorem own_f (c : Int32) (a b : Int64) (h : nar .boolean c = c) : f4 (nar .boolean c) a b = f5 c a b := by
  rw [h]
  unfold f4 f5
  by_cases h1 : lcmpW a b = (0 : Int32)
  · rw [if_pos h1, if_pos ((own_iff a b).mp h1)]
  · rw [if_neg h1, if_neg (fun q => h1 ((own_iff a b).mpr q))]
theorem own_v (p : Prop) [Decidable p] : nar .boolean (if p then (0 : Int32) else (1 : Int32)) = (if p then (0 : Int32) else (1 : Int32)) := by
  split <;> decide
theorem law_true (qa qb : Int64) (pf : Int32) : f0 qa qb pf = 1 := by
  unfold f0
  rw [if_pos (own_f (v0_1 pf) _ _ (own_v _)), if_pos (own_f (v0_2 pf) _ _ (own_v _))]

set_option maxRecDepth 65536 in
set_option maxHeartbeats 40000000 in
theorem comes_1 {Post : Tables → Env → Array Value → State → Outcome → State → Prop} (hpost : ∀ tb e args s v u, (limb_1_1.after args s (.returned v) u = true ∧ limb_1_2.after args s (.returned v) u = true ∧ True) → FrameEnd s (.returned v) u (Jvm.fieldLocs frame_1_writes args s ++ Jvm.arrayLocs frame_1_arrays args s ++ Jvm.staticLocs frame_1_statics s) 16 128 → Post tb e args s (.returned v) u) :
    ArmFor flags0 classFile x code maxLocals ret World_1 tables_1 room_1 Calls_1 rest_1 Pre_1 Post := by
  intro l hfl _ _ p e ha hc hk s m args below hf hA hF happ hP
  obtain ⟨hcalls, hrest, hpre⟩ := hP
  obtain ⟨-, -, -, hnamed, -, -, -, hat⟩ := (Spec.applies_iff hf).mp happ
  obtain ⟨hg, hn⟩ := and_e (Cond.before_iff.mp (show (Jvm.Cond.and given_1 narrow_1).before args s = true from hpre))
  obtain ⟨g1, g2⟩ := and_e hg
  obtain ⟨g3, g4⟩ := and_e g2
  obtain ⟨g5, g6⟩ := and_e g4
  obtain ⟨w0, w1, w2, rfl⟩ : ∃ w0 w1 w2 : Value, args = #[w0, w1, w2] := by
    have hs : args.size = 3 := by simpa [Cond.value, given_1] using g1
    obtain ⟨L⟩ := args
    match L, hs with
    | [w0, w1, w2], _ => exact ⟨w0, w1, w2, rfl⟩
  have hw := fun d (hd : d ∈ tables_1) => atoms_spec (ws := Jvm.Cond.code x code maxLocals ret :: tables_1) hat d (List.mem_cons_of_mem _ hd)
  obtain ⟨i0, ei0⟩ := isL_v g3
  obtain rfl : w0 = (.long i0) := Option.some.inj ei0
  obtain ⟨i1, ei1⟩ := isL_v g5
  obtain rfl : w1 = (.long i1) := Option.some.inj ei1
  obtain ⟨i2, ei2⟩ := is_v g6
  obtain rfl : w2 = (.int i2) := Option.some.inj ei2
  obtain ⟨n, o, h1, h2, h3, _, L, rfl, ⟨rfl, N⟩, hq⟩ := rm0 l s _ hw tables_1 i0 i1 i2 s.heap s.heap.size (Nat.le_refl _) p e ha hc hk s m _ below hf ((Spec.applies_iff_loose hf).mp happ).1 ⟨rfl, State.Warmed39.refl s, rfl⟩ trivial
  refine ⟨n, _, h1, h2, h3, hpost _ _ _ _ _ _ ⟨Cond.after_iff.mpr rfl, Cond.after_iff.mpr (eq_i res_at (Term.int_eval (1)) (congrArg Value.int (law_true i0 i1 i2))), trivial⟩ ⟨hq.1, hq.2.1, (hq.2.2.sift fun y hy => Or.inr (N y hy)).mono (by decide) (by decide)⟩⟩
theorem main_1_1 : Claimed_1_1 := comes_1 fun _ _ _ _ _ _ h hF => ⟨h.1, hF⟩
theorem main_1_2 : Claimed_1_2 := comes_1 fun _ _ _ _ _ _ h hF => ⟨h.2.1, hF⟩
end Jvm.Pilot.@@N@@
namespace Jvm.Pilot.@@N@@
open Jvm Jvm.ClassFile Sem Op Lib Jvm.Free Jvm.Stand Jvm.Pilot.@@N@@.Jvm.D
/-! MADE BY PROGRAM (witnessworld.py) out of the Statement's table words and the real class files: 10 classes; the members and pool entries that the words name. The judged class is class 1, her method 2. -/
namespace start1
open Jvm.ClassFile
def u (s : String) : CpInfo := .utf8 (stringToUtf16 s)
/-- a pool by its gaps: so many unusable entries, then the entry; so many at the end -/
def gap : Nat → List CpInfo → List CpInfo
  | 0, r => r
  | n + 1, r => .unusable :: gap n r
def poolList (es : List (Nat × CpInfo)) (last : Nat) : List CpInfo := es.foldr (fun e r => gap e.1 (e.2 :: r)) (gap last [])
def pool (es : List (Nat × CpInfo)) (last : Nat) : Array CpInfo := ⟨poolList es last⟩
def fileOf (pool : Array CpInfo) (this : Nat) (attrs : Array Attribute := #[]) (ms : Array MethodInfo := #[]) (fl : Nat := 33) (sup : Nat := 0) (ifs : Array Nat := #[]) (fds : Array FieldInfo := #[]) : ClassFile where
  minorVersion := 0
  majorVersion := 65
  constantPool := pool
  accessFlags := fl
  thisClass := this
  superClass := sup
  interfaces := ifs
  fields := fds
  methods := ms
  attributes := attrs
def plain (name : String) (sup : Option ClassId) : Class where
  name := name
  kind := .ordinary
  loader := none
  accessFlags := 33
  super := sup
  interfaces := #[]
  cf := none
  fields := #[]
  methods := #[]
  instanceTypes := #[]
  staticTypes := #[]
  resolved := #[]
  callSites := []
  init := .initialized
  statics := none
  mirror := none

def pool0 : Array CpInfo := pool [(5, u "<init>"), (0, u "()V"), (1, .class_ 10), (1, u "java/lang/Object")] 113

def k0c0 : Code := { maxStack := 0, maxLocals := 1, code := object_method_1_code, exceptionTable := #[], attributes := #[] }
def k0m0 : Method := { name := "<init>", desc := "()V", sig := { parameters := [], returnType := none }, accessFlags := 1, code := some k0c0 }
/-- java/lang/Object -/
def k0 : Class := { plain "java/lang/Object" none with
  accessFlags := 33
  interfaces := #[]
  cf := some (fileOf pool0 8 #[] #[{ accessFlags := 1, nameIndex := 5, descriptorIndex := 6, attributes := #[] }] 33 0 #[] #[])
  fields := #[]
  methods := #[k0m0]
  instanceTypes := #[]
  staticTypes := #[]
  resolved := Array.replicate 124 none
  statics := none }

def pool1 : Array CpInfo := pool [(2, .class_ 4), (1, u "java/lang/Object"), (0, u "<init>"), (0, u "()V"), (0, .class_ 8), (0, u "com/example/wattle/wattle/process/CompilerThreads$Look"), (0, .methodref 7 10), (0, .nameAndType 5 11), (0, u "(JZ)V"), (0, .methodref 7 13), (0, .nameAndType 14 15), (0, u "busySince"), (0, u "(Lcom/example/wattle/wattle/process/CompilerThreads$Look;)Z"), (0, .methodref 17 18), (0, .class_ 19), (0, .nameAndType 20 21), (0, u "com/example/wattle/wattle/process/LookBusySincePinLaw"), (0, u "expected"), (0, u "(ZJJ)Z"), (3, u "law"), (0, u "(JJI)Z")] 6

def k1m0 : Method := { name := "<init>", desc := "()V", sig := { parameters := [], returnType := none }, accessFlags := 1, code := none }
def k1c1 : Code := { maxStack := 4, maxLocals := 5, code := method_2_code, exceptionTable := #[], attributes := #[] }
def k1m1 : Method := { name := "expected", desc := "(ZJJ)Z", sig := { parameters := [.boolean, .long, .long], returnType := some .boolean }, accessFlags := 10, code := some k1c1 }
def k1c2 : Code := { maxStack := 6, maxLocals := 14, code := code, exceptionTable := #[], attributes := #[] }
def k1m2 : Method := { name := "law", desc := "(JJI)Z", sig := { parameters := [.long, .long, .int], returnType := some .boolean }, accessFlags := 9, code := some k1c2 }
/-- com/example/wattle/wattle/process/LookBusySincePinLaw -/
def k1 : Class := { plain "com/example/wattle/wattle/process/LookBusySincePinLaw" (some 0) with
  accessFlags := 49
  interfaces := #[]
  cf := some (fileOf pool1 17 #[] #[{ accessFlags := 1, nameIndex := 5, descriptorIndex := 6, attributes := #[] }, { accessFlags := 10, nameIndex := 20, descriptorIndex := 21, attributes := #[] }, { accessFlags := 9, nameIndex := 25, descriptorIndex := 26, attributes := #[] }] 49 2 #[] #[])
  fields := #[]
  methods := #[k1m0, k1m1, k1m2]
  instanceTypes := #[]
  staticTypes := #[]
  resolved := Array.replicate 33 none
  statics := none }

def pool2 : Array CpInfo := pool [(1, .methodref 2 3), (0, .class_ 4), (0, .nameAndType 5 6), (0, u "java/lang/Object"), (0, u "<init>"), (0, u "()V"), (0, .class_ 8), (0, u "java/lang/Record")] 13

def k2c0 : Code := { maxStack := 1, maxLocals := 1, code := jdk_30_method_1_code, exceptionTable := #[], attributes := #[] }
def k2m0 : Method := { name := "<init>", desc := "()V", sig := { parameters := [], returnType := none }, accessFlags := 4, code := some k2c0 }
/-- java/lang/Record -/
def k2 : Class := { plain "java/lang/Record" (some 0) with
  accessFlags := 1057
  interfaces := #[]
  cf := some (fileOf pool2 7 #[] #[{ accessFlags := 4, nameIndex := 5, descriptorIndex := 6, attributes := #[] }] 1057 2 #[] #[])
  fields := #[]
  methods := #[k2m0]
  instanceTypes := #[]
  staticTypes := #[]
  resolved := Array.replicate 22 none
  statics := none }

def pool3 : Array CpInfo := pool [(1, .methodref 2 3), (0, .class_ 4), (0, .nameAndType 5 6), (0, u "java/lang/Record"), (0, u "<init>"), (0, u "()V"), (0, .fieldref 8 9), (0, .class_ 10), (0, .nameAndType 11 12), (0, u "com/example/wattle/wattle/process/CompilerThreads$Look"), (0, u "ticks"), (0, u "J"), (0, .fieldref 8 14), (0, .nameAndType 15 16), (0, u "compiling"), (0, u "Z"), (12, u "(JZ)V"), (3, u "busySince"), (0, u "(Lcom/example/wattle/wattle/process/CompilerThreads$Look;)Z"), (9, .class_ 45), (0, u "com/example/wattle/wattle/process/CompilerThreads")] 20

def k3c0 : Code := { maxStack := 3, maxLocals := 4, code := prog_109_method_1_code, exceptionTable := #[], attributes := #[] }
def k3m0 : Method := { name := "<init>", desc := "(JZ)V", sig := { parameters := [.long, .boolean], returnType := none }, accessFlags := 1, code := some k3c0 }
def k3c1 : Code := { maxStack := 4, maxLocals := 2, code := prog_109_method_2_code, exceptionTable := #[], attributes := #[] }
def k3m1 : Method := { name := "busySince", desc := "(Lcom/example/wattle/wattle/process/CompilerThreads$Look;)Z", sig := { parameters := [(.object "com/example/wattle/wattle/process/CompilerThreads$Look")], returnType := some .boolean }, accessFlags := 1, code := some k3c1 }
/-- com/example/wattle/wattle/process/CompilerThreads$Look -/
def k3 : Class := { plain "com/example/wattle/wattle/process/CompilerThreads$Look" (some 2) with
  accessFlags := 49
  interfaces := #[]
  cf := some (fileOf pool3 8 #[.nestHost 44] #[{ accessFlags := 1, nameIndex := 5, descriptorIndex := 29, attributes := #[] }, { accessFlags := 1, nameIndex := 33, descriptorIndex := 34, attributes := #[] }] 49 2 #[] #[{ accessFlags := 18, nameIndex := 11, descriptorIndex := 12, attributes := #[] }, { accessFlags := 18, nameIndex := 15, descriptorIndex := 16, attributes := #[] }])
  fields := #[{ name := "ticks", type := .long, accessFlags := 18, slot := 0, constantValue := 0 }, { name := "compiling", type := .boolean, accessFlags := 18, slot := 1, constantValue := 0 }]
  methods := #[k3m0, k3m1]
  instanceTypes := #[.long, .boolean]
  staticTypes := #[]
  resolved := Array.replicate 66 none
  statics := none }

def pool4 : Array CpInfo := pool [(1, u "java/lang/Cloneable"), (0, .class_ 1), (0, u "java/lang/Object"), (0, .class_ 3)] 3

/-- java/lang/Cloneable -/
def k4 : Class := { plain "java/lang/Cloneable" (some 0) with
  accessFlags := 1537
  interfaces := #[]
  cf := some (fileOf pool4 2 #[] #[] 1537 4 #[] #[])
  fields := #[]
  methods := #[]
  instanceTypes := #[]
  staticTypes := #[]
  resolved := Array.replicate 8 none
  statics := none }

def pool5 : Array CpInfo := pool [(1, u "java/io/Serializable"), (0, .class_ 1), (0, u "java/lang/Object"), (0, .class_ 3)] 3

/-- java/io/Serializable -/
def k5 : Class := { plain "java/io/Serializable" (some 0) with
  accessFlags := 1537
  interfaces := #[]
  cf := some (fileOf pool5 2 #[] #[] 1537 4 #[] #[])
  fields := #[]
  methods := #[]
  instanceTypes := #[]
  staticTypes := #[]
  resolved := Array.replicate 8 none
  statics := none }

/-- the primitive byte -/
def k6 : Class := { plain "byte" none with kind := .primitive 'B', accessFlags := 0x411 }
/-- [B -/
def k7 : Class := { plain "[B" (some 0) with kind := .array 6 .byte, interfaces := #[4, 5], accessFlags := 1041 }

/-- the primitive int -/
def k8 : Class := { plain "int" none with kind := .primitive 'I', accessFlags := 0x411 }
/-- [I -/
def k9 : Class := { plain "[I" (some 0) with kind := .array 8 .int, interfaces := #[4, 5], accessFlags := 1041 }

def heap : Heap := #[]
def classes : Array Class := #[k0, k1, k2, k3, k4, k5, k6, k7, k8, k9]
def interned : List (Array UInt16 × Addr) := []
def slotsUsed : Nat := 0
def theMethod : MethodId := ⟨1, 2⟩
def args0 : Array Value := #[.long 5, .long 7, .int 0]
def aboutOver (below : List Frame) : State where
  vm := { classes := classes, interned := interned.toArray }
  heap := heap
  slotsUsed := slotsUsed
  threads := #[{ frames := .invoking theMethod args0 :: below }]
def below0 : List Frame := [.native { method := ⟨0, 0⟩, args := #[] }]
def about1 : State := aboutOver below0
def p0 : Program := .bare "" "" ""
def e0 : Env := launch0.env 0 0 0
theorem w_frames : about1.frames = Frame.invoking theMethod args0 :: below0 := rfl
set_option maxRecDepth 65536 in
theorem w_args : argsFit about1.vm theMethod args0 = true := by decide +kernel
set_option maxRecDepth 65536 in
theorem w_heap : heapFits about1 = true := by decide +kernel
set_option maxRecDepth 65536 in
theorem w_runnable : about1.curStatus? = some .runnable := by decide +kernel
set_option maxRecDepth 65536 in
theorem w_alone : about1.alone = true := by decide +kernel
set_option maxRecDepth 65536 in
theorem w_named : about1.methodNamed? x = some theMethod := by decide +kernel
set_option maxRecDepth 65536 in
theorem w_hears : about1.hears theMethod below0 = true := by decide +kernel
set_option maxRecDepth 65536 in
theorem w_ripe : about1.ripe theMethod args0 below0 = true := by decide +kernel
theorem w_running : about1.status = .running := rfl
set_option maxRecDepth 65536 in
theorem w_room : about1.hasRoom e0.platform room_1 = true :=
  launch0.hasRoom_least _ room_1 (by decide +kernel) (by decide +kernel) (by decide +kernel) (by decide +kernel) (by decide +kernel) (by decide +kernel)
theorem allAtoms_all (ts : List Jvm.Cond) (a : Array Jvm.Value) (st : Jvm.State) : (allAtoms ts).before a st = ts.all (fun c => c.before a st) := by
  induction ts with
  | nil => rfl
  | cons c t ih =>
    show (Jvm.Cond.and c (allAtoms t)).before a st = _
    rw [Jvm.Cond.before_and, ih, List.all_cons]
def words1 : List Jvm.Cond := Jvm.Cond.code x code maxLocals ret :: tables_1
/-- a 'code' word, met by the world's own term for the bytes: nothing is compared byte by byte -/
theorem code_word {y : MethodName} {bytes : ByteArray} {mx : Nat} {rt : Option FieldType} {a : Array Value} {s : State} {m : MethodId} {meth : Method} {c : Code} (h1 : s.methodNamed? y = some m) (h2 : s.vm.method? m = some meth) (h3 : meth.code = some c) (h4 : c.code = bytes)
    (h5 : (c.maxLocals == mx && c.exceptionTable.isEmpty && decide (c.maxStack ≤ mostOperands) && decide (meth.sig.returnType = rt) && !meth.locks && decide (parseMethodDescriptor y.desc = some meth.sig)) = true) : (Jvm.Cond.code y bytes mx rt).before a s = true := by
  simp only [Bool.and_eq_true, beq_iff_eq, Bool.not_eq_true', decide_eq_true_eq] at h5
  obtain ⟨⟨⟨⟨⟨g1, g2⟩, g3⟩, g4⟩, g5⟩, g6⟩ := h5
  simp [Cond.before, Cond.holds, Cond.value, h1, h2, h3, h4, g1, g2, g3, g4, g5, g6]
def isCode : Jvm.Cond → Bool
  | .code _ _ _ _ => true
  | _ => false
theorem all_split {L : List Jvm.Cond} {P : Jvm.Cond → Bool} (h1 : L.all (fun c => isCode c || P c) = true) (h2 : ∀ c ∈ L.filter isCode, P c = true) : L.all P = true := by
  refine List.all_eq_true.mpr fun c hc => ?_
  have h := List.all_eq_true.mp h1 c hc
  rcases Bool.eq_false_or_eq_true (isCode c) with hi | hi
  · exact h2 c (List.mem_filter.mpr ⟨hc, hi⟩)
  · simpa [hi] using h
set_option maxRecDepth 65536 in
theorem w_c0 : (Jvm.Cond.code x code maxLocals ret).before args0 about1 = true := code_word (m := ⟨1, 2⟩) (meth := k1m2) (c := k1c2) (by decide +kernel) rfl rfl rfl (by decide +kernel)
set_option maxRecDepth 65536 in
theorem w_c1 : (Jvm.Cond.code ({ cls := "com/example/wattle/wattle/process/CompilerThreads$Look", name := "<init>", desc := "(JZ)V" } : Jvm.MethodName) prog_109_method_1_code (4 : Nat) (Option.none : Option Jvm.ClassFile.FieldType)).before args0 about1 = true := code_word (m := ⟨3, 0⟩) (meth := k3m0) (c := k3c0) (by decide +kernel) rfl rfl rfl (by decide +kernel)
set_option maxRecDepth 65536 in
theorem w_c2 : (Jvm.Cond.code ({ cls := "java/lang/Record", name := "<init>", desc := "()V" } : Jvm.MethodName) jdk_30_method_1_code (1 : Nat) (Option.none : Option Jvm.ClassFile.FieldType)).before args0 about1 = true := code_word (m := ⟨2, 0⟩) (meth := k2m0) (c := k2c0) (by decide +kernel) rfl rfl rfl (by decide +kernel)
set_option maxRecDepth 65536 in
theorem w_c3 : (Jvm.Cond.code ({ cls := "java/lang/Object", name := "<init>", desc := "()V" } : Jvm.MethodName) object_method_1_code (1 : Nat) (Option.none : Option Jvm.ClassFile.FieldType)).before args0 about1 = true := code_word (m := ⟨0, 0⟩) (meth := k0m0) (c := k0c0) (by decide +kernel) rfl rfl rfl (by decide +kernel)
set_option maxRecDepth 65536 in
theorem w_c4 : (Jvm.Cond.code ({ cls := "com/example/wattle/wattle/process/CompilerThreads$Look", name := "busySince", desc := "(Lcom/example/wattle/wattle/process/CompilerThreads$Look;)Z" } : Jvm.MethodName) prog_109_method_2_code (2 : Nat) (Option.some Jvm.ClassFile.FieldType.boolean)).before args0 about1 = true := code_word (m := ⟨3, 1⟩) (meth := k3m1) (c := k3c1) (by decide +kernel) rfl rfl rfl (by decide +kernel)
set_option maxRecDepth 65536 in
theorem w_c5 : (Jvm.Cond.code ({ cls := "com/example/wattle/wattle/process/LookBusySincePinLaw", name := "expected", desc := "(ZJJ)Z" } : Jvm.MethodName) method_2_code (5 : Nat) (Option.some Jvm.ClassFile.FieldType.boolean)).before args0 about1 = true := code_word (m := ⟨1, 1⟩) (meth := k1m1) (c := k1c1) (by decide +kernel) rfl rfl rfl (by decide +kernel)
def codes1 : List Jvm.Cond := [Jvm.Cond.code x code maxLocals ret, Jvm.Cond.code ({ cls := "com/example/wattle/wattle/process/CompilerThreads$Look", name := "<init>", desc := "(JZ)V" } : Jvm.MethodName) prog_109_method_1_code (4 : Nat) (Option.none : Option Jvm.ClassFile.FieldType), Jvm.Cond.code ({ cls := "java/lang/Record", name := "<init>", desc := "()V" } : Jvm.MethodName) jdk_30_method_1_code (1 : Nat) (Option.none : Option Jvm.ClassFile.FieldType), Jvm.Cond.code ({ cls := "java/lang/Object", name := "<init>", desc := "()V" } : Jvm.MethodName) object_method_1_code (1 : Nat) (Option.none : Option Jvm.ClassFile.FieldType), Jvm.Cond.code ({ cls := "com/example/wattle/wattle/process/CompilerThreads$Look", name := "busySince", desc := "(Lcom/example/wattle/wattle/process/CompilerThreads$Look;)Z" } : Jvm.MethodName) prog_109_method_2_code (2 : Nat) (Option.some Jvm.ClassFile.FieldType.boolean), Jvm.Cond.code ({ cls := "com/example/wattle/wattle/process/LookBusySincePinLaw", name := "expected", desc := "(ZJJ)Z" } : Jvm.MethodName) method_2_code (5 : Nat) (Option.some Jvm.ClassFile.FieldType.boolean)]
set_option maxRecDepth 65536 in
theorem codes_eq : words1.filter isCode = codes1 := rfl
theorem w_codes : ∀ c ∈ words1.filter isCode, c.before args0 about1 = true := by
  rw [codes_eq]
  intro c hc
  simp only [codes1, List.mem_cons, List.not_mem_nil, or_false] at hc
  rcases hc with rfl | rfl | rfl | rfl | rfl | rfl
  · exact w_c0
  · exact w_c1
  · exact w_c2
  · exact w_c3
  · exact w_c4
  · exact w_c5
set_option maxRecDepth 65536 in
theorem w_t1 : (words1.take 24).all (fun c => isCode c || c.before args0 about1) = true := by decide +kernel
set_option maxRecDepth 65536 in
theorem w_t2 : (words1.drop 24).all (fun c => isCode c || c.before args0 about1) = true := by decide +kernel
theorem w_tables : (allAtoms (Jvm.Cond.code x code maxLocals ret :: tables_1)).before args0 about1 = true := by
  rw [allAtoms_all]
  show words1.all (fun c => c.before args0 about1) = true
  refine all_split ?_ w_codes
  rw [← List.take_append_drop 24 words1, List.all_append, w_t1, w_t2]
  rfl
set_option maxRecDepth 65536 in
theorem w_case : (Jvm.Cond.and given_1 narrow_1).before args0 about1 = true := by decide +kernel
theorem w_applies : (headSpec (Jvm.Cond.code x code maxLocals ret :: tables_1) room_1).applies x e0.platform about1 = true :=
  (Spec.applies_iff w_frames).mpr ⟨w_running, w_runnable, w_alone, w_named, w_hears, w_ripe, w_room, w_tables⟩
theorem atStart : AtStart classFile x code maxLocals ret World_1 tables_1 room_1 Calls_1 rest_1 Pre_1 launch0 p0 e0 about1 theMethod args0 below0 :=
  ⟨lists_1, trivial, launch0.admits_env _ _ _, launch0.least_env, fairChoices_fair.cas, fairChoices_fair.clock, w_frames, w_args, w_heap, w_applies, trivial, trivial, w_case⟩
end start1
theorem witness_1 : WitnessClaimed_1 := ⟨start1.p0, start1.e0, start1.about1, start1.theMethod, start1.args0, start1.below0, start1.atStart⟩
end Jvm.Pilot.@@N@@
