import JvmDerived
import JvmDerived.Pilot.@@N@@Statement
import JvmDerived.Pilot.@@N@@Code
set_option linter.unusedVariables false
set_option linter.unusedSimpArgs false
namespace Jvm.RoadKit
open Sem ClassFile Op Lib Jvm.Stand Jvm.Free Jvm.LawKit
section New
variable {p : Program} {l : Launch} {e : Env} {R : Room} {s : State} {m : MethodId} {args : Array Value} {below : List Frame} {meth : Method} {c : Code} {T : State} {locs : List Loc} {cells slots : Nat}
theorem retI (X : Stand p l e R s m args below meth c T locs cells slots) (hx : p.tables.exec = Jvm.exec) {pc : Nat} {Ls : Array Slot} {z : Int32} {rest : List Value} (hret : meth.sig.returnType = some .int) (hd : decode c.code pc = .ok (.ireturn, 1)) {fs : List Frame}
    (hl : ∀ (f : JFrame) (acts : List Action), f.method = m → f.locked = none → f.entered = [] → (doReturn e (T.setTop f) acts (some (.int z))).1 = T.setFrames fs) : Steps p.tables e below (T.setTop (mkF m pc Ls (.int z :: rest))) (T.setFrames fs) := by
  have hm' : T.vm.method? m = some meth := X.method'
  have hn : narrow .int (.int z) = .int z := rfl
  show Steps p.tables e below (T.setTop { method := m, pc := pc, locals := Ls, stack := _ :: rest, locked := none }) _
  jvm_step X.here [X.here.top, hx, hd, hm', hret, hn]
  first | (intro acts; rw [hl _ acts rfl rfl rfl]) | rw [hl _ _ rfl rfl rfl]
  exact Steps.refl _
end New
end Jvm.RoadKit
namespace Jvm.Pilot.@@N@@
open Jvm Jvm.ClassFile Sem Op Lib Jvm.Free Jvm.Stand Jvm.LawKit Jvm.RoadKit Bundle Jvm.Pilot.@@N@@.Jvm.D
theorem pd_0 : parseMethodDescriptor "()V" = some ⟨[], none⟩ := by decide +kernel
theorem pd_1 : parseMethodDescriptor "(JJ)V" = some ⟨[.long, .long], none⟩ := by decide +kernel
theorem pd_2 : parseMethodDescriptor "(Lcom/example/wattle/wattle/process/CollectorTime;)Z" = some ⟨[(.object "com/example/wattle/wattle/process/CollectorTime")], some .boolean⟩ := by decide +kernel
theorem d2_0 : decode jdk_30_method_1_code 0 = .ok (.aload_n 0, 1) := by decide +kernel
theorem d2_1 : decode jdk_30_method_1_code 1 = .ok (.invokespecial 1, 3) := by decide +kernel
theorem d2_4 : decode jdk_30_method_1_code 4 = .ok (.return_, 1) := by decide +kernel
theorem pn_2 : plainName "java/lang/Record" = true := by first | (simp [plainName, overriddenIn]; done) | decide +kernel
theorem ef_2 (m : MethodId) (x0 : Addr) : entryFrame m #[(.ref x0)] 1 = mkF m 0 #[.val (.ref x0)] [] := by first | (simp [entryFrame, mkF, argsToLocals, Value.category]; done) | rfl
def Q2 (Z : State) (o0 : Addr)  (h0 : Heap) (n0 : Nat) (v : Option Value) (h : Heap) (L : List Loc) : Prop := v = none ∧ Fr n0 L ∧ h = h0
set_option maxRecDepth 65536 in
set_option maxHeartbeats 40000000 in
theorem rm2 (l : Launch) (Z : State) (a0 : Array Value) (hw : ∀ d ∈ tables_1, d.before a0 Z = true) (ws : List Jvm.Cond) (o0 : Addr)  (h0 : Heap) (n0 : Nat) (Z0 : n0 ≤ h0.size)   :
    MetFree l (⟨"java/lang/Record", "<init>", "()V"⟩ : MethodName) (head1 (Jvm.Cond.code (⟨"java/lang/Record", "<init>", "()V"⟩ : MethodName) jdk_30_method_1_code 1 none :: ws) ({ frames := 1, cells := 0, slots := 0, locals := 12 } : Room)) (fun a U => a = #[(.ref o0)] ∧ Z.Warmed39 U.vm ∧ U.heap = h0) (fun _ _ _ _ _ => True) (fun _ U o U' => ∃ v L, o = .returned v ∧ Q2 Z o0 h0 n0 v U'.heap L ∧ FrameEnd U o U' L ({ frames := 1, cells := 0, slots := 0, locals := 12 } : Room).cells ({ frames := 1, cells := 0, slots := 0, locals := 12 } : Room).slots) := by
  refine MetFree.of_bodySF (plainFor_of_name pn_2) hisR ?_
  intro p e s m args below meth c s₁ Bd hml0 hP hK
  obtain ⟨rfl, hZ, hh⟩ := hP
  have hx := Bd.exec
  have hby := Bd.bytes
  have hml : c.maxLocals = 1 := hml0
  have hown : s.vm.findClass "java/lang/Record" = some m.cls := findClass_of_methodNamed Bd.named
  have hnm := (name_of_methodNamed Bd.named Bd.method).1
  have X0 : Stand p l e ({ frames := 1, cells := 0, slots := 0, locals := 12 } : Room) s m #[(.ref o0)] below meth c s₁ [] 0 0 := Stand.of_body Bd
  have e0 : s₁.heap = h0 := by rw [← hh, Bd.state]; rfl
  have N0 := Fr.nil n0
  have pre0 : ∀ t, Steps p.tables e below (s₁.setTop (mkF m 0 #[.val (.ref o0)] [])) t → Steps p.tables e below (s₁.setTop (entryFrame m #[(.ref o0)] 1)) t := fun t k => castTop (ef_2 m o0) k
  obtain ⟨T1, X1, e1, st1⟩ := initO X0 hx hZ hown (hw _ (List.mem_of_getElem? (i := 12) rfl)) (hw _ (List.mem_of_getElem? (i := 13) rfl)) (hw _ (List.mem_of_getElem? (i := 14) rfl)) e0 (g := (mkF m 1 #[.val (.ref o0)] [(.ref o0)])) rfl (by rw [hml]; rfl) rfl (hb hby d2_1) (by decide) (W := 0) (by show 2 * 0 + _ ≤ _; exact Nat.le_of_eq rfl) (by decide)
  obtain ⟨fs, hr, hrun, hended, hW, hsame⟩ := X1.leave (v := none) (fun _ => rfl)
  refine ⟨_, _, pre0 _ ?_, hrun, hended, _, _, rfl, ?_, ⟨_, rfl⟩, hW, hsame.mono (by decide) (by decide)⟩
  · show Steps p.tables e below (s₁.setTop (mkF m 0 #[.val (.ref o0)] [])) _
    refine XS.aloadN X0.here hx rfl (hb hby d2_0) rfl rfl ?_
    show Steps p.tables e below (s₁.setTop (mkF m 1 #[.val (.ref o0)] [(.ref o0)])) _
    refine st1 _ ?_
    show Steps p.tables e below (T1.setTop (mkF m 4 #[.val (.ref o0)] [])) _
    exact X1.returnOut hx Bd.returns (hb hby d2_4) hr
  · show Q2 Z o0 h0 n0 _ T1.heap _
    rw [e1]
    exact ⟨rfl, N0, rfl⟩
theorem d1_0 : decode prog_107_method_1_code 0 = .ok (.aload_n 0, 1) := by decide +kernel
theorem d1_1 : decode prog_107_method_1_code 1 = .ok (.invokespecial 1, 3) := by decide +kernel
theorem d1_4 : decode prog_107_method_1_code 4 = .ok (.aload_n 0, 1) := by decide +kernel
theorem d1_5 : decode prog_107_method_1_code 5 = .ok (.lload_n 1, 1) := by decide +kernel
theorem d1_6 : decode prog_107_method_1_code 6 = .ok (.putfield 7, 3) := by decide +kernel
theorem d1_9 : decode prog_107_method_1_code 9 = .ok (.aload_n 0, 1) := by decide +kernel
theorem d1_10 : decode prog_107_method_1_code 10 = .ok (.lload_n 3, 1) := by decide +kernel
theorem d1_11 : decode prog_107_method_1_code 11 = .ok (.putfield 13, 3) := by decide +kernel
theorem d1_14 : decode prog_107_method_1_code 14 = .ok (.return_, 1) := by decide +kernel
theorem pn_1 : plainName "com/example/wattle/wattle/process/CollectorTime" = true := by first | (simp [plainName, overriddenIn]; done) | decide +kernel
theorem ef_1 (m : MethodId) (x0 : Addr) (x1 : Int64) (x2 : Int64) : entryFrame m #[(.ref x0), (.long x1), (.long x2)] 5 = mkF m 0 #[.val (.ref x0), .val (.long x1), .second, .val (.long x2), .second] [] := by first | (simp [entryFrame, mkF, argsToLocals, Value.category]; done) | rfl
def Q1 (Z : State) (o0 : Addr) (qa : Int64) (qb : Int64) (u_processTicks : Value) (u_collectorTicks : Value) (h0 : Heap) (n0 : Nat) (v : Option Value) (h : Heap) (L : List Loc) : Prop := v = none ∧ Fr n0 L ∧ Keep h0 h [o0] ∧ Fld Z h o0 "com/example/wattle/wattle/process/CollectorTime" "processTicks" "J" (.long qa) ∧ Fld Z h o0 "com/example/wattle/wattle/process/CollectorTime" "collectorTicks" "J" (.long qb)
set_option maxRecDepth 65536 in
set_option maxHeartbeats 40000000 in
theorem rm1 (l : Launch) (Z : State) (a0 : Array Value) (hw : ∀ d ∈ tables_1, d.before a0 Z = true) (ws : List Jvm.Cond) (o0 : Addr) (qa : Int64) (qb : Int64) (u_processTicks : Value) (u_collectorTicks : Value) (h0 : Heap) (n0 : Nat) (Z0 : n0 ≤ h0.size) (E_o0 : Exa Z h0 o0 "com/example/wattle/wattle/process/CollectorTime") (g_o0 : n0 ≤ o0) (F_processTicks_o0 : Fld Z h0 o0 "com/example/wattle/wattle/process/CollectorTime" "processTicks" "J" u_processTicks) (F_collectorTicks_o0 : Fld Z h0 o0 "com/example/wattle/wattle/process/CollectorTime" "collectorTicks" "J" u_collectorTicks)  :
    MetFree l (⟨"com/example/wattle/wattle/process/CollectorTime", "<init>", "(JJ)V"⟩ : MethodName) (head1 (Jvm.Cond.code (⟨"com/example/wattle/wattle/process/CollectorTime", "<init>", "(JJ)V"⟩ : MethodName) prog_107_method_1_code 5 none :: ws) ({ frames := 2, cells := 0, slots := 0, locals := 24 } : Room)) (fun a U => a = #[(.ref o0), (.long qa), (.long qb)] ∧ Z.Warmed39 U.vm ∧ U.heap = h0) (fun _ _ _ _ _ => True) (fun _ U o U' => ∃ v L, o = .returned v ∧ Q1 Z o0 qa qb u_processTicks u_collectorTicks h0 n0 v U'.heap L ∧ FrameEnd U o U' L ({ frames := 2, cells := 0, slots := 0, locals := 24 } : Room).cells ({ frames := 2, cells := 0, slots := 0, locals := 24 } : Room).slots) := by
  refine MetFree.of_bodySF (plainFor_of_name pn_1) hisR ?_
  intro p e s m args below meth c s₁ Bd hml0 hP hK
  obtain ⟨rfl, hZ, hh⟩ := hP
  have hx := Bd.exec
  have hby := Bd.bytes
  have hml : c.maxLocals = 5 := hml0
  have hown : s.vm.findClass "com/example/wattle/wattle/process/CollectorTime" = some m.cls := findClass_of_methodNamed Bd.named
  have hnm := (name_of_methodNamed Bd.named Bd.method).1
  have X0 : Stand p l e ({ frames := 2, cells := 0, slots := 0, locals := 24 } : Room) s m #[(.ref o0), (.long qa), (.long qb)] below meth c s₁ [] 0 0 := Stand.of_body Bd
  have e0 : s₁.heap = h0 := by rw [← hh, Bd.state]; rfl
  have N0 := Fr.nil n0
  have pre0 : ∀ t, Steps p.tables e below (s₁.setTop (mkF m 0 #[.val (.ref o0), .val (.long qa), .second, .val (.long qb), .second] [])) t → Steps p.tables e below (s₁.setTop (entryFrame m #[(.ref o0), (.long qa), (.long qb)] 5)) t := fun t k => castTop (ef_1 m o0 qa qb) k
  obtain ⟨_, _, ⟨T1, L1, k1, n1⟩, -, X1, ⟨Lc1, hQ1, l1, y1, z1⟩, st1⟩ := X0.specialBack hx (y := (⟨"java/lang/Record", "<init>", "()V"⟩ : MethodName)) rfl hown (mvT hZ (hw _ (List.mem_of_getElem? (i := 7) rfl))) (mvT hZ (hw _ (List.mem_of_getElem? (i := 8) rfl))) (mvT hZ (hw _ (List.mem_of_getElem? (i := 11) rfl))) (by decide) (backOf (W := 0) (rm2 l Z a0 hw [] o0  h0 n0 Z0 ) hZ (hw _ (List.mem_of_getElem? (i := 11) rfl)) (hw _ (List.mem_of_getElem? (i := 10) rfl)) (by decide) (by decide)) (g := (mkF m 1 #[.val (.ref o0), .val (.long qa), .second, .val (.long qb), .second] [(.ref o0)])) rfl (by rw [hml]; rfl) (Steps.refl _) (a := o0) (argsL := []) (rest := []) (lenOf pd_0 rfl) rfl (by show 2 * 0 + _ ≤ _; exact Nat.le_of_eq rfl) (hb hby d1_1) (fun _ _ => ⟨rfl, e0, (by decide : 0 + 0 ≤ _), (by decide : 0 + 0 ≤ _)⟩)
  dsimp only [Pt.U, Pt.locs, Pt.cells, Pt.slots] at X1 l1 y1 z1 st1 hQ1
  subst l1 y1 z1
  obtain ⟨rfl, N1q, e1⟩ := hQ1
  have N1 := Fr.app N0 N1q
  obtain ⟨T2, h2, X2, e2, W2, st2⟩ := putF X1 hx hZ hown (host := "") (Or.inl (hw _ (List.mem_of_getElem? (i := 15) rfl))) Via.refl e1 (F_processTicks_o0) (E_o0) (Or.inr ⟨(hw _ (List.mem_of_getElem? (i := 16) rfl)), rfl, hnm⟩) (hw _ (List.mem_of_getElem? (i := 2) rfl)) (ty := .long) (by decide) rfl rfl (g := (mkF m 6 #[.val (.ref o0), .val (.long qa), .second, .val (.long qb), .second] [(.long qa), (.ref o0)])) rfl rfl (hb hby d1_6)
  have Fw2 := (F_processTicks_o0).same W2
  have N2 := Fr.snoc X2 N1 g_o0
  have Z2 : n0 ≤ h2.size := Nat.le_trans Z0 (Keep.of_wr W2).1
  have K2 : Keep h0 h2 [o0] := ((Keep.refl h0 [o0])).wr W2 (Or.inl (List.mem_of_getElem? (i := 0) rfl))
  obtain ⟨T3, h3, X3, e3, W3, st3⟩ := putF X2 hx hZ hown (host := "") (Or.inl (hw _ (List.mem_of_getElem? (i := 17) rfl))) Via.refl e2 ((F_collectorTicks_o0.other W2 (Or.inr (slot_ne (Or.inr (hw _ (List.mem_of_getElem? (i := 18) rfl))) (Or.inr (hw _ (List.mem_of_getElem? (i := 16) rfl))) (by decide) (t := .long) (t' := .long) (by decide) (by decide))))) ((E_o0.wr W2)) (Or.inr ⟨(hw _ (List.mem_of_getElem? (i := 18) rfl)), rfl, hnm⟩) (hw _ (List.mem_of_getElem? (i := 2) rfl)) (ty := .long) (by decide) rfl rfl (g := (mkF m 11 #[.val (.ref o0), .val (.long qa), .second, .val (.long qb), .second] [(.long qb), (.ref o0)])) rfl rfl (hb hby d1_11)
  have Fw3 := ((F_collectorTicks_o0.other W2 (Or.inr (slot_ne (Or.inr (hw _ (List.mem_of_getElem? (i := 18) rfl))) (Or.inr (hw _ (List.mem_of_getElem? (i := 16) rfl))) (by decide) (t := .long) (t' := .long) (by decide) (by decide))))).same W3
  have N3 := Fr.snoc X3 N2 g_o0
  have Z3 : n0 ≤ h3.size := Nat.le_trans Z2 (Keep.of_wr W3).1
  have K3 : Keep h0 h3 [o0] := (K2).wr W3 (Or.inl (List.mem_of_getElem? (i := 0) rfl))
  obtain ⟨fs, hr, hrun, hended, hW, hsame⟩ := X3.leave (v := none) (fun _ => rfl)
  refine ⟨_, _, pre0 _ ?_, hrun, hended, _, _, rfl, ?_, ⟨_, rfl⟩, hW, hsame.mono (by decide) (by decide)⟩
  · show Steps p.tables e below (s₁.setTop (mkF m 0 #[.val (.ref o0), .val (.long qa), .second, .val (.long qb), .second] [])) _
    refine XS.aloadN X0.here hx rfl (hb hby d1_0) rfl rfl ?_
    show Steps p.tables e below (s₁.setTop (mkF m 1 #[.val (.ref o0), .val (.long qa), .second, .val (.long qb), .second] [(.ref o0)])) _
    refine st1.trans ?_
    show Steps p.tables e below (T1.setTop (mkF m 4 #[.val (.ref o0), .val (.long qa), .second, .val (.long qb), .second] [])) _
    refine XS.aloadN X1.here hx rfl (hb hby d1_4) rfl rfl ?_
    show Steps p.tables e below (T1.setTop (mkF m 5 #[.val (.ref o0), .val (.long qa), .second, .val (.long qb), .second] [(.ref o0)])) _
    refine XS.lloadN X1.here hx rfl (hb hby d1_5) rfl ?_
    show Steps p.tables e below (T1.setTop (mkF m 6 #[.val (.ref o0), .val (.long qa), .second, .val (.long qb), .second] [(.long qa), (.ref o0)])) _
    refine st2 _ ?_
    show Steps p.tables e below (T2.setTop (mkF m 9 #[.val (.ref o0), .val (.long qa), .second, .val (.long qb), .second] [])) _
    refine XS.aloadN X2.here hx rfl (hb hby d1_9) rfl rfl ?_
    show Steps p.tables e below (T2.setTop (mkF m 10 #[.val (.ref o0), .val (.long qa), .second, .val (.long qb), .second] [(.ref o0)])) _
    refine XS.lloadN X2.here hx rfl (hb hby d1_10) rfl ?_
    show Steps p.tables e below (T2.setTop (mkF m 11 #[.val (.ref o0), .val (.long qa), .second, .val (.long qb), .second] [(.long qb), (.ref o0)])) _
    refine st3 _ ?_
    show Steps p.tables e below (T3.setTop (mkF m 14 #[.val (.ref o0), .val (.long qa), .second, .val (.long qb), .second] [])) _
    exact X3.returnOut hx Bd.returns (hb hby d1_14) hr
  · show Q1 Z o0 qa qb u_processTicks u_collectorTicks h0 n0 _ T3.heap _
    rw [e3]
    exact ⟨rfl, N3, K3, (Fw2.other W3 (Or.inr (slot_ne (Or.inr (hw _ (List.mem_of_getElem? (i := 16) rfl))) (Or.inr (hw _ (List.mem_of_getElem? (i := 18) rfl))) (by decide) (t := .long) (t' := .long) (by decide) (by decide)))), Fw3⟩
theorem d4_0 : decode prog_107_method_3_code 0 = .ok (.ldc2_w 79, 3) := by decide +kernel
theorem d4_3 : decode prog_107_method_3_code 3 = .ok (.aload_n 0, 1) := by decide +kernel
theorem d4_4 : decode prog_107_method_3_code 4 = .ok (.getfield 13, 3) := by decide +kernel
theorem d4_7 : decode prog_107_method_3_code 7 = .ok (.aload_n 1, 1) := by decide +kernel
theorem d4_8 : decode prog_107_method_3_code 8 = .ok (.getfield 13, 3) := by decide +kernel
theorem d4_11 : decode prog_107_method_3_code 11 = .ok (.lsub, 1) := by decide +kernel
theorem d4_12 : decode prog_107_method_3_code 12 = .ok (.lmul, 1) := by decide +kernel
theorem d4_13 : decode prog_107_method_3_code 13 = .ok (.aload_n 0, 1) := by decide +kernel
theorem d4_14 : decode prog_107_method_3_code 14 = .ok (.getfield 7, 3) := by decide +kernel
theorem d4_17 : decode prog_107_method_3_code 17 = .ok (.aload_n 1, 1) := by decide +kernel
theorem d4_18 : decode prog_107_method_3_code 18 = .ok (.getfield 7, 3) := by decide +kernel
theorem d4_21 : decode prog_107_method_3_code 21 = .ok (.lsub, 1) := by decide +kernel
theorem d4_22 : decode prog_107_method_3_code 22 = .ok (.lcmp, 1) := by decide +kernel
theorem d4_23 : decode prog_107_method_3_code 23 = .ok (.ifCond .le 7, 3) := by decide +kernel
theorem d4_26 : decode prog_107_method_3_code 26 = .ok (.iconst 1, 1) := by decide +kernel
theorem d4_27 : decode prog_107_method_3_code 27 = .ok (.goto 4, 3) := by decide +kernel
theorem d4_30 : decode prog_107_method_3_code 30 = .ok (.iconst 0, 1) := by decide +kernel
theorem d4_31 : decode prog_107_method_3_code 31 = .ok (.ireturn, 1) := by decide +kernel
theorem pn_4 : plainName "com/example/wattle/wattle/process/CollectorTime" = true := by first | (simp [plainName, overriddenIn]; done) | decide +kernel
theorem ef_4 (m : MethodId) (x0 : Addr) (x1 : Addr) : entryFrame m #[(.ref x0), (.ref x1)] 2 = mkF m 0 #[.val (.ref x0), .val (.ref x1)] [] := by first | (simp [entryFrame, mkF, argsToLocals, Value.category]; done) | rfl
def f4 (ca : Int64) (cb : Int64) (pa : Int64) (pb : Int64) : Int32 := (if (0 : Int32) < (lcmpW ((2 : Int64) * (ca - cb)) (pa - pb)) then (1 : Int32) else (0 : Int32))
def Q4 (Z : State) (o0 : Addr) (o1 : Addr) (ca : Int64) (cb : Int64) (pa : Int64) (pb : Int64) (h0 : Heap) (n0 : Nat) (v : Option Value) (h : Heap) (L : List Loc) : Prop := v = some (.int (f4 ca cb pa pb)) ∧ Fr n0 L ∧ h = h0
set_option maxRecDepth 65536 in
set_option maxHeartbeats 40000000 in
theorem rm4 (l : Launch) (Z : State) (a0 : Array Value) (hw : ∀ d ∈ tables_1, d.before a0 Z = true) (ws : List Jvm.Cond) (o0 : Addr) (o1 : Addr) (ca : Int64) (cb : Int64) (pa : Int64) (pb : Int64) (h0 : Heap) (n0 : Nat) (Z0 : n0 ≤ h0.size) (E_o0 : Exa Z h0 o0 "com/example/wattle/wattle/process/CollectorTime") (E_o1 : Exa Z h0 o1 "com/example/wattle/wattle/process/CollectorTime") (F_collectorTicks_o0 : Fld Z h0 o0 "com/example/wattle/wattle/process/CollectorTime" "collectorTicks" "J" (.long ca)) (F_collectorTicks_o1 : Fld Z h0 o1 "com/example/wattle/wattle/process/CollectorTime" "collectorTicks" "J" (.long cb)) (F_processTicks_o0 : Fld Z h0 o0 "com/example/wattle/wattle/process/CollectorTime" "processTicks" "J" (.long pa)) (F_processTicks_o1 : Fld Z h0 o1 "com/example/wattle/wattle/process/CollectorTime" "processTicks" "J" (.long pb))  :
    MetFree l (⟨"com/example/wattle/wattle/process/CollectorTime", "mostlyCollectingSince", "(Lcom/example/wattle/wattle/process/CollectorTime;)Z"⟩ : MethodName) (head1 (Jvm.Cond.code (⟨"com/example/wattle/wattle/process/CollectorTime", "mostlyCollectingSince", "(Lcom/example/wattle/wattle/process/CollectorTime;)Z"⟩ : MethodName) prog_107_method_3_code 2 (some .boolean) :: ws) ({ frames := 0, cells := 0, slots := 0, locals := 0 } : Room)) (fun a U => a = #[(.ref o0), (.ref o1)] ∧ Z.Warmed39 U.vm ∧ U.heap = h0) (fun _ _ _ _ _ => True) (fun _ U o U' => ∃ v L, o = .returned v ∧ Q4 Z o0 o1 ca cb pa pb h0 n0 v U'.heap L ∧ FrameEnd U o U' L ({ frames := 0, cells := 0, slots := 0, locals := 0 } : Room).cells ({ frames := 0, cells := 0, slots := 0, locals := 0 } : Room).slots) := by
  refine MetFree.of_bodySF (plainFor_of_name pn_4) hisR ?_
  intro p e s m args below meth c s₁ Bd hml0 hP hK
  obtain ⟨rfl, hZ, hh⟩ := hP
  have hx := Bd.exec
  have hby := Bd.bytes
  have hml : c.maxLocals = 2 := hml0
  have hown : s.vm.findClass "com/example/wattle/wattle/process/CollectorTime" = some m.cls := findClass_of_methodNamed Bd.named
  have hnm := (name_of_methodNamed Bd.named Bd.method).1
  have X0 : Stand p l e ({ frames := 0, cells := 0, slots := 0, locals := 0 } : Room) s m #[(.ref o0), (.ref o1)] below meth c s₁ [] 0 0 := Stand.of_body Bd
  have e0 : s₁.heap = h0 := by rw [← hh, Bd.state]; rfl
  have N0 := Fr.nil n0
  have pre0 : ∀ t, Steps p.tables e below (s₁.setTop (mkF m 0 #[.val (.ref o0), .val (.ref o1)] [])) t → Steps p.tables e below (s₁.setTop (entryFrame m #[(.ref o0), (.ref o1)] 2)) t := fun t k => castTop (ef_4 m o0 o1) k
  obtain ⟨T1, X1, e1, st1⟩ := getF X0 hx hZ hown (host := "") (Or.inl (hw _ (List.mem_of_getElem? (i := 17) rfl))) Via.refl e0 (F_collectorTicks_o0) (g := (mkF m 4 #[.val (.ref o0), .val (.ref o1)] [(.ref o0), (.long (2 : Int64))])) rfl rfl (hb hby d4_4)
  obtain ⟨T2, X2, e2, st2⟩ := getF X1 hx hZ hown (host := "") (Or.inl (hw _ (List.mem_of_getElem? (i := 17) rfl))) Via.refl e1 (F_collectorTicks_o1) (g := (mkF m 8 #[.val (.ref o0), .val (.ref o1)] [(.ref o1), (.long ca), (.long (2 : Int64))])) rfl rfl (hb hby d4_8)
  obtain ⟨T3, X3, e3, st3⟩ := getF X2 hx hZ hown (host := "") (Or.inl (hw _ (List.mem_of_getElem? (i := 15) rfl))) Via.refl e2 (F_processTicks_o0) (g := (mkF m 14 #[.val (.ref o0), .val (.ref o1)] [(.ref o0), (.long ((2 : Int64) * (ca - cb)))])) rfl rfl (hb hby d4_14)
  obtain ⟨T4, X4, e4, st4⟩ := getF X3 hx hZ hown (host := "") (Or.inl (hw _ (List.mem_of_getElem? (i := 15) rfl))) Via.refl e3 (F_processTicks_o1) (g := (mkF m 18 #[.val (.ref o0), .val (.ref o1)] [(.ref o1), (.long pa), (.long ((2 : Int64) * (ca - cb)))])) rfl rfl (hb hby d4_18)
  have pre5 : ∀ t, Steps p.tables e below (T4.setTop (mkF m 23 #[.val (.ref o0), .val (.ref o1)] [(.int (lcmpW ((2 : Int64) * (ca - cb)) (pa - pb)))])) t → Steps p.tables e below (s₁.setTop (entryFrame m #[(.ref o0), (.ref o1)] 2)) t := fun t k => pre0 t (by
    show Steps p.tables e below (s₁.setTop (mkF m 0 #[.val (.ref o0), .val (.ref o1)] [])) _
    refine X0.ldc2Long hx hown (mvT hZ (hw _ (List.mem_of_getElem? (i := 24) rfl))) (g := (mkF m 0 #[.val (.ref o0), .val (.ref o1)] [])) rfl (hb hby d4_0) _ ?_
    show Steps p.tables e below (s₁.setTop (mkF m 3 #[.val (.ref o0), .val (.ref o1)] [(.long (2 : Int64))])) _
    refine XS.aloadN X0.here hx rfl (hb hby d4_3) rfl rfl ?_
    show Steps p.tables e below (s₁.setTop (mkF m 4 #[.val (.ref o0), .val (.ref o1)] [(.ref o0), (.long (2 : Int64))])) _
    refine st1 _ ?_
    show Steps p.tables e below (T1.setTop (mkF m 7 #[.val (.ref o0), .val (.ref o1)] [(.long ca), (.long (2 : Int64))])) _
    refine XS.aloadN X1.here hx rfl (hb hby d4_7) rfl rfl ?_
    show Steps p.tables e below (T1.setTop (mkF m 8 #[.val (.ref o0), .val (.ref o1)] [(.ref o1), (.long ca), (.long (2 : Int64))])) _
    refine st2 _ ?_
    show Steps p.tables e below (T2.setTop (mkF m 11 #[.val (.ref o0), .val (.ref o1)] [(.long cb), (.long ca), (.long (2 : Int64))])) _
    refine XS.lsub X2.here hx rfl (hb hby d4_11) rfl ?_
    show Steps p.tables e below (T2.setTop (mkF m 12 #[.val (.ref o0), .val (.ref o1)] [(.long (ca - cb)), (.long (2 : Int64))])) _
    refine XS.lmul X2.here hx rfl (hb hby d4_12) rfl ?_
    show Steps p.tables e below (T2.setTop (mkF m 13 #[.val (.ref o0), .val (.ref o1)] [(.long ((2 : Int64) * (ca - cb)))])) _
    refine XS.aloadN X2.here hx rfl (hb hby d4_13) rfl rfl ?_
    show Steps p.tables e below (T2.setTop (mkF m 14 #[.val (.ref o0), .val (.ref o1)] [(.ref o0), (.long ((2 : Int64) * (ca - cb)))])) _
    refine st3 _ ?_
    show Steps p.tables e below (T3.setTop (mkF m 17 #[.val (.ref o0), .val (.ref o1)] [(.long pa), (.long ((2 : Int64) * (ca - cb)))])) _
    refine XS.aloadN X3.here hx rfl (hb hby d4_17) rfl rfl ?_
    show Steps p.tables e below (T3.setTop (mkF m 18 #[.val (.ref o0), .val (.ref o1)] [(.ref o1), (.long pa), (.long ((2 : Int64) * (ca - cb)))])) _
    refine st4 _ ?_
    show Steps p.tables e below (T4.setTop (mkF m 21 #[.val (.ref o0), .val (.ref o1)] [(.long pb), (.long pa), (.long ((2 : Int64) * (ca - cb)))])) _
    refine XS.lsub X4.here hx rfl (hb hby d4_21) rfl ?_
    show Steps p.tables e below (T4.setTop (mkF m 22 #[.val (.ref o0), .val (.ref o1)] [(.long (pa - pb)), (.long ((2 : Int64) * (ca - cb)))])) _
    refine XS.lcmp X4.here hx rfl (hb hby d4_22) rfl ?_
    show Steps p.tables e below (T4.setTop (mkF m 23 #[.val (.ref o0), .val (.ref o1)] [(.int (lcmpW ((2 : Int64) * (ca - cb)) (pa - pb)))])) _
    exact k)
  by_cases hc23_6 : (0 : Int32) < (lcmpW ((2 : Int64) * (ca - cb)) (pa - pb))
  · have hv : (f4 ca cb pa pb) = (1 : Int32) := by simp only [f4, if_pos hc23_6]
    obtain ⟨fs, hr, hrun, hended, hW, hsame⟩ := X4.leave (v := some (.int (1 : Int32))) (fun h => by rw [Bd.returns] at h; cases h)
    refine ⟨_, _, pre5 _ ?_, hrun, hended, _, _, rfl, ?_, ⟨_, rfl⟩, hW, hsame.mono (by decide) (by decide)⟩
    · show Steps p.tables e below (T4.setTop (mkF m 23 #[.val (.ref o0), .val (.ref o1)] [(.int (lcmpW ((2 : Int64) * (ca - cb)) (pa - pb)))])) _
      refine XS.ifNo X4.here hx rfl (hb hby d4_23) rfl ((if0 _ _).trans (tlt hc23_6).2.2.2) ?_
      show Steps p.tables e below (T4.setTop (mkF m 26 #[.val (.ref o0), .val (.ref o1)] [])) _
      refine XS.iconst X4.here hx rfl (hb hby d4_26) ?_
      show Steps p.tables e below (T4.setTop (mkF m 27 #[.val (.ref o0), .val (.ref o1)] [(.int (1 : Int32))])) _
      refine XS.goto X4.here hx rfl (pc0 := 27) (pc' := 31) rfl (hb hby d4_27) (by decide) (by decide) ?_
      show Steps p.tables e below (T4.setTop (mkF m 31 #[.val (.ref o0), .val (.ref o1)] [(.int (1 : Int32))])) _
      exact retN X4 hx (t := .boolean) Bd.returns (by simp) (hb hby d4_31) hr
    · show Q4 Z o0 o1 ca cb pa pb h0 n0 _ T4.heap _
      rw [e4]
      exact ⟨by rw [hv], N0, rfl⟩
  · have hv : (f4 ca cb pa pb) = (0 : Int32) := by simp only [f4, if_neg hc23_6]
    obtain ⟨fs, hr, hrun, hended, hW, hsame⟩ := X4.leave (v := some (.int (0 : Int32))) (fun h => by rw [Bd.returns] at h; cases h)
    refine ⟨_, _, pre5 _ ?_, hrun, hended, _, _, rfl, ?_, ⟨_, rfl⟩, hW, hsame.mono (by decide) (by decide)⟩
    · show Steps p.tables e below (T4.setTop (mkF m 23 #[.val (.ref o0), .val (.ref o1)] [(.int (lcmpW ((2 : Int64) * (ca - cb)) (pa - pb)))])) _
      refine XS.ifYes X4.here hx rfl (pc0 := 23) (pc' := 30) rfl (hb hby d4_23) rfl ((if0 _ _).trans (flt hc23_6).2.2.2) (by decide) (by decide) ?_
      show Steps p.tables e below (T4.setTop (mkF m 30 #[.val (.ref o0), .val (.ref o1)] [])) _
      refine XS.iconst X4.here hx rfl (hb hby d4_30) ?_
      show Steps p.tables e below (T4.setTop (mkF m 31 #[.val (.ref o0), .val (.ref o1)] [(.int (0 : Int32))])) _
      exact retN X4 hx (t := .boolean) Bd.returns (by simp) (hb hby d4_31) hr
    · show Q4 Z o0 o1 ca cb pa pb h0 n0 _ T4.heap _
      rw [e4]
      exact ⟨by rw [hv], N0, rfl⟩
theorem pn_0 : plainName "com/example/wattle/wattle/process/CollectorTimeMostlyCollectingSincePinLaw" = true := by first | (simp [plainName, overriddenIn]; done) | decide +kernel
theorem ef_0 (m : MethodId) (x0 : Int64) (x1 : Int64) (x2 : Int64) (x3 : Int64) : entryFrame m #[(.long x0), (.long x1), (.long x2), (.long x3)] maxLocals = mkF m 0 #[.val (.long x0), .second, .val (.long x1), .second, .val (.long x2), .second, .val (.long x3), .second, .unset, .unset, .unset, .unset, .unset, .unset, .unset, .unset, .unset, .unset, .unset, .unset, .unset, .unset, .unset, .unset, .unset] [] := by first | (simp [entryFrame, mkF, argsToLocals, Value.category, maxLocals]; done) | rfl
def v0_1 (qb : Int64) (qd : Int64) (qa : Int64) (qc : Int64) : Int32 := (f4 (qb &&& (2305843009213693951 : Int64)) (qd &&& (2305843009213693951 : Int64)) (qa &&& (2305843009213693951 : Int64)) (qc &&& (2305843009213693951 : Int64)))
def v0_2 (qa : Int64) (qc : Int64) : Int64 := ((qa &&& (2305843009213693951 : Int64)) - (qc &&& (2305843009213693951 : Int64)))
def v0_3 (qb : Int64) (qd : Int64) : Int64 := ((qb &&& (2305843009213693951 : Int64)) - (qd &&& (2305843009213693951 : Int64)))
def v0_4 (qb : Int64) (qd : Int64) (qa : Int64) (qc : Int64) : Int32 := (if (0 : Int32) < (lcmpW (v0_3 qb qd) ((v0_2 qa qc) - (v0_3 qb qd))) then (1 : Int32) else (0 : Int32))
def v0_5 (qb : Int64) (qd : Int64) (qa : Int64) (qc : Int64) : Int32 := (if (0 : Int32) < (lcmpW (v0_3 qb qd) ((v0_2 qa qc) / (2 : Int64))) then (1 : Int32) else (0 : Int32))
def f0 (qa : Int64) (qb : Int64) (qc : Int64) (qd : Int64) : Int32 := (if (v0_1 qb qd qa qc) = (v0_4 qb qd qa qc) then (if (lcmpW (v0_2 qa qc) (0 : Int64)) < (0 : Int32) then (if (lcmpW (v0_2 qa qc) (0 : Int64)) = (0 : Int32) then (if (0 : Int32) < (lcmpW (v0_3 qb qd) (0 : Int64)) then (1 : Int32) else (if (v0_1 qb qd qa qc) = (0 : Int32) then (1 : Int32) else (0 : Int32))) else (1 : Int32)) else (if (v0_1 qb qd qa qc) = (v0_5 qb qd qa qc) then (if (lcmpW (v0_2 qa qc) (0 : Int64)) = (0 : Int32) then (if (0 : Int32) < (lcmpW (v0_3 qb qd) (0 : Int64)) then (1 : Int32) else (if (v0_1 qb qd qa qc) = (0 : Int32) then (1 : Int32) else (0 : Int32))) else (1 : Int32)) else (0 : Int32))) else (0 : Int32))
def Q0 (Z : State) (qa : Int64) (qb : Int64) (qc : Int64) (qd : Int64)  (h0 : Heap) (n0 : Nat) (v : Option Value) (h : Heap) (L : List Loc) : Prop := v = some (.int (f0 qa qb qc qd)) ∧ Fr n0 L
set_option maxRecDepth 65536 in
set_option maxHeartbeats 40000000 in
theorem rm0 (l : Launch) (Z : State) (a0 : Array Value) (hw : ∀ d ∈ tables_1, d.before a0 Z = true) (ws : List Jvm.Cond) (qa : Int64) (qb : Int64) (qc : Int64) (qd : Int64)  (h0 : Heap) (n0 : Nat) (Z0 : n0 ≤ h0.size)   :
    MetFree l x (head1 (Jvm.Cond.code x code maxLocals ret :: ws) room_1) (fun a U => a = #[(.long qa), (.long qb), (.long qc), (.long qd)] ∧ Z.Warmed39 U.vm ∧ U.heap = h0) (fun _ _ _ _ _ => True) (fun _ U o U' => ∃ v L, o = .returned v ∧ Q0 Z qa qb qc qd h0 n0 v U'.heap L ∧ FrameEnd U o U' L room_1.cells room_1.slots) := by
  refine MetFree.of_bodySF (plainFor_of_name pn_0) hisR ?_
  intro p e s m args below meth c s₁ Bd hml0 hP hK
  obtain ⟨rfl, hZ, hh⟩ := hP
  have hx := Bd.exec
  have hby := Bd.bytes
  have hml : c.maxLocals = 25 := hml0
  have hown : s.vm.findClass "com/example/wattle/wattle/process/CollectorTimeMostlyCollectingSincePinLaw" = some m.cls := findClass_of_methodNamed Bd.named
  have hnm := (name_of_methodNamed Bd.named Bd.method).1
  have X0 : Stand p l e room_1 s m #[(.long qa), (.long qb), (.long qc), (.long qd)] below meth c s₁ [] 0 0 := Stand.of_body Bd
  have e0 : s₁.heap = h0 := by rw [← hh, Bd.state]; rfl
  have N0 := Fr.nil n0
  have pre0 : ∀ t, Steps p.tables e below (s₁.setTop (mkF m 0 #[.val (.long qa), .second, .val (.long qb), .second, .val (.long qc), .second, .val (.long qd), .second, .unset, .unset, .unset, .unset, .unset, .unset, .unset, .unset, .unset, .unset, .unset, .unset, .unset, .unset, .unset, .unset, .unset] [])) t → Steps p.tables e below (s₁.setTop (entryFrame m #[(.long qa), (.long qb), (.long qc), (.long qd)] maxLocals)) t := fun t k => castTop (ef_0 m qa qb qc qd) k
  obtain ⟨T1, h1, X1, e1, E1, A1, D1, -, st1⟩ := newO X0 hx hZ hown (hw _ (List.mem_of_getElem? (i := 1) rfl)) (hw _ (List.mem_of_getElem? (i := 2) rfl)) (hw _ (List.mem_of_getElem? (i := 3) rfl)) e0 (g := (mkF m 30 #[.val (.long qa), .second, .val (.long qb), .second, .val (.long qc), .second, .val (.long qd), .second, .val (.long (qa &&& (2305843009213693951 : Int64))), .second, .val (.long (qb &&& (2305843009213693951 : Int64))), .second, .val (.long (qc &&& (2305843009213693951 : Int64))), .second, .val (.long (qd &&& (2305843009213693951 : Int64))), .second, .unset, .unset, .unset, .unset, .unset, .unset, .unset, .unset, .unset] [])) rfl (hb hby at_30) (by decide) (by decide)
  obtain ⟨b1, g1⟩ : ∃ z, z = h0.size := ⟨_, rfl⟩
  rw [← g1] at A1 D1 st1
  have g_b1 : n0 ≤ b1 := Nat.le_trans Z0 (Nat.le_of_eq g1.symm)
  have sz_b1 : h0.size ≤ b1 := Nat.le_trans ((Keep.refl h0 [])).1 (Nat.le_of_eq g1.symm)
  have Z1 : n0 ≤ h1.size := Nat.le_trans Z0 E1.1
  have K1 : Keep h0 h1 [] := ((Keep.refl h0 [])).ext E1
  have F_processTicks_b1 : Fld Z h1 b1 "com/example/wattle/wattle/process/CollectorTime" "processTicks" "J" (.long (0 : Int64)) := D1 (Or.inr (hw _ (List.mem_of_getElem? (i := 16) rfl))) (ty := .long) (by decide)
  have F_collectorTicks_b1 : Fld Z h1 b1 "com/example/wattle/wattle/process/CollectorTime" "collectorTicks" "J" (.long (0 : Int64)) := D1 (Or.inr (hw _ (List.mem_of_getElem? (i := 18) rfl))) (ty := .long) (by decide)
  obtain ⟨_, _, ⟨T2, L2, k2, n2⟩, -, X2, ⟨Lc2, hQ2, l2, y2, z2⟩, st2⟩ := X1.specialBack hx (y := (⟨"com/example/wattle/wattle/process/CollectorTime", "<init>", "(JJ)V"⟩ : MethodName)) rfl hown (mvT hZ (hw _ (List.mem_of_getElem? (i := 4) rfl))) (mvT hZ (hw _ (List.mem_of_getElem? (i := 5) rfl))) (mvT hZ (hw _ (List.mem_of_getElem? (i := 6) rfl))) (by decide) (backOf (W := 1) (rm1 l Z a0 hw [] b1 (qa &&& (2305843009213693951 : Int64)) (qb &&& (2305843009213693951 : Int64)) (.long (0 : Int64)) (.long (0 : Int64)) h1 n0 Z1 (A1) g_b1 (F_processTicks_b1) (F_collectorTicks_b1)) hZ (hw _ (List.mem_of_getElem? (i := 6) rfl)) (hw _ (List.mem_of_getElem? (i := 3) rfl)) (by decide) (by decide)) (g := (mkF m 38 #[.val (.long qa), .second, .val (.long qb), .second, .val (.long qc), .second, .val (.long qd), .second, .val (.long (qa &&& (2305843009213693951 : Int64))), .second, .val (.long (qb &&& (2305843009213693951 : Int64))), .second, .val (.long (qc &&& (2305843009213693951 : Int64))), .second, .val (.long (qd &&& (2305843009213693951 : Int64))), .second, .unset, .unset, .unset, .unset, .unset, .unset, .unset, .unset, .unset] [(.long (qb &&& (2305843009213693951 : Int64))), (.long (qa &&& (2305843009213693951 : Int64))), (.ref b1), (.ref b1)])) rfl (by rw [hml]; rfl) (Steps.refl _) (a := b1) (argsL := [(.long (qa &&& (2305843009213693951 : Int64))), (.long (qb &&& (2305843009213693951 : Int64)))]) (rest := [(.ref b1)]) (lenOf pd_1 rfl) rfl (by show 2 * 0 + _ ≤ _; exact Nat.le_of_eq rfl) (hb hby at_38) (fun _ _ => ⟨rfl, e1, (by decide : 1 + 0 ≤ _), (by decide : 2 + 0 ≤ _)⟩)
  dsimp only [Pt.U, Pt.locs, Pt.cells, Pt.slots] at X2 l2 y2 z2 st2 hQ2
  subst l2 y2 z2
  obtain ⟨rfl, N2q, Kq2, Fq2_0, Fq2_1⟩ := hQ2
  have N2 := Fr.app N0 N2q
  have Z2 : n0 ≤ T2.heap.size := Nat.le_trans Z1 Kq2.1
  have K2 : Keep h0 T2.heap [] := (K1).trans Kq2 (allS (Or.inr sz_b1) all0)
  obtain ⟨T3, h3, X3, e3, E3, A3, D3, -, st3⟩ := newO X2 hx hZ hown (hw _ (List.mem_of_getElem? (i := 1) rfl)) (hw _ (List.mem_of_getElem? (i := 2) rfl)) (hw _ (List.mem_of_getElem? (i := 3) rfl)) rfl (g := (mkF m 43 #[.val (.long qa), .second, .val (.long qb), .second, .val (.long qc), .second, .val (.long qd), .second, .val (.long (qa &&& (2305843009213693951 : Int64))), .second, .val (.long (qb &&& (2305843009213693951 : Int64))), .second, .val (.long (qc &&& (2305843009213693951 : Int64))), .second, .val (.long (qd &&& (2305843009213693951 : Int64))), .second, .val (.ref b1), .unset, .unset, .unset, .unset, .unset, .unset, .unset, .unset] [])) rfl (hb hby at_43) (by decide) (by decide)
  obtain ⟨b3, g3⟩ : ∃ z, z = T2.heap.size := ⟨_, rfl⟩
  rw [← g3] at A3 D3 st3
  have g_b3 : n0 ≤ b3 := Nat.le_trans Z2 (Nat.le_of_eq g3.symm)
  have sz_b3 : h0.size ≤ b3 := Nat.le_trans (K2).1 (Nat.le_of_eq g3.symm)
  have Z3 : n0 ≤ h3.size := Nat.le_trans Z2 E3.1
  have K3 : Keep h0 h3 [] := (K2).ext E3
  have F_processTicks_b3 : Fld Z h3 b3 "com/example/wattle/wattle/process/CollectorTime" "processTicks" "J" (.long (0 : Int64)) := D3 (Or.inr (hw _ (List.mem_of_getElem? (i := 16) rfl))) (ty := .long) (by decide)
  have F_collectorTicks_b3 : Fld Z h3 b3 "com/example/wattle/wattle/process/CollectorTime" "collectorTicks" "J" (.long (0 : Int64)) := D3 (Or.inr (hw _ (List.mem_of_getElem? (i := 18) rfl))) (ty := .long) (by decide)
  obtain ⟨_, _, ⟨T4, L4, k4, n4⟩, -, X4, ⟨Lc4, hQ4, l4, y4, z4⟩, st4⟩ := X3.specialBack hx (y := (⟨"com/example/wattle/wattle/process/CollectorTime", "<init>", "(JJ)V"⟩ : MethodName)) rfl hown (mvT hZ (hw _ (List.mem_of_getElem? (i := 4) rfl))) (mvT hZ (hw _ (List.mem_of_getElem? (i := 5) rfl))) (mvT hZ (hw _ (List.mem_of_getElem? (i := 6) rfl))) (by decide) (backOf (W := 1) (rm1 l Z a0 hw [] b3 (qc &&& (2305843009213693951 : Int64)) (qd &&& (2305843009213693951 : Int64)) (.long (0 : Int64)) (.long (0 : Int64)) h3 n0 Z3 (A3) g_b3 (F_processTicks_b3) (F_collectorTicks_b3)) hZ (hw _ (List.mem_of_getElem? (i := 6) rfl)) (hw _ (List.mem_of_getElem? (i := 3) rfl)) (by decide) (by decide)) (g := (mkF m 51 #[.val (.long qa), .second, .val (.long qb), .second, .val (.long qc), .second, .val (.long qd), .second, .val (.long (qa &&& (2305843009213693951 : Int64))), .second, .val (.long (qb &&& (2305843009213693951 : Int64))), .second, .val (.long (qc &&& (2305843009213693951 : Int64))), .second, .val (.long (qd &&& (2305843009213693951 : Int64))), .second, .val (.ref b1), .unset, .unset, .unset, .unset, .unset, .unset, .unset, .unset] [(.long (qd &&& (2305843009213693951 : Int64))), (.long (qc &&& (2305843009213693951 : Int64))), (.ref b3), (.ref b3)])) rfl (by rw [hml]; rfl) (Steps.refl _) (a := b3) (argsL := [(.long (qc &&& (2305843009213693951 : Int64))), (.long (qd &&& (2305843009213693951 : Int64)))]) (rest := [(.ref b3)]) (lenOf pd_1 rfl) rfl (by show 2 * 0 + _ ≤ _; exact Nat.le_of_eq rfl) (hb hby at_51) (fun _ _ => ⟨rfl, e3, (by decide : 2 + 0 ≤ _), (by decide : 4 + 0 ≤ _)⟩)
  dsimp only [Pt.U, Pt.locs, Pt.cells, Pt.slots] at X4 l4 y4 z4 st4 hQ4
  subst l4 y4 z4
  obtain ⟨rfl, N4q, Kq4, Fq4_0, Fq4_1⟩ := hQ4
  have N4 := Fr.app N2 N4q
  have Z4 : n0 ≤ T4.heap.size := Nat.le_trans Z3 Kq4.1
  have K4 : Keep h0 T4.heap [] := (K3).trans Kq4 (allS (Or.inr sz_b3) all0)
  obtain ⟨cq5, kq5, q5a, q5b, q5c⟩ := isOf hZ rfl ((((A1.keep Kq2).ext E3).keep Kq4))
  obtain ⟨_, _, ⟨T5, L5, k5, n5⟩, -, X5, ⟨Lc5, hQ5, l5, y5, z5⟩, st5⟩ := X4.virtualBack hx (y := (⟨"com/example/wattle/wattle/process/CollectorTime", "mostlyCollectingSince", "(Lcom/example/wattle/wattle/process/CollectorTime;)Z"⟩ : MethodName)) (z := (⟨"com/example/wattle/wattle/process/CollectorTime", "mostlyCollectingSince", "(Lcom/example/wattle/wattle/process/CollectorTime;)Z"⟩ : MethodName)) hown (mvT hZ (hw _ (List.mem_of_getElem? (i := 19) rfl))) (mvT hZ (hw _ (List.mem_of_getElem? (i := 20) rfl))) (notFace_of_selects (args := #[]) (mvT hZ (hw _ (List.mem_of_getElem? (i := 22) rfl)))) (mvT hZ (hw _ (List.mem_of_getElem? (i := 22) rfl))) (mvT hZ (hw _ (List.mem_of_getElem? (i := 21) rfl))) (by decide) (backOf (W := 0) (rm4 l Z a0 hw [] b1 b3 (qb &&& (2305843009213693951 : Int64)) (qd &&& (2305843009213693951 : Int64)) (qa &&& (2305843009213693951 : Int64)) (qc &&& (2305843009213693951 : Int64)) T4.heap n0 Z4 ((((A1.keep Kq2).ext E3).keep Kq4)) ((A3.keep Kq4)) (((Fq2_1.ext E3).keep Kq4 (ninS (Nat.ne_of_lt (Nat.lt_of_lt_of_le (A1.keep Kq2).lt (Nat.le_of_eq g3.symm))) nin0))) (Fq4_1) (((Fq2_0.ext E3).keep Kq4 (ninS (Nat.ne_of_lt (Nat.lt_of_lt_of_le (A1.keep Kq2).lt (Nat.le_of_eq g3.symm))) nin0))) (Fq4_0)) hZ (hw _ (List.mem_of_getElem? (i := 23) rfl)) (hw _ (List.mem_of_getElem? (i := 3) rfl)) (by decide) (by decide)) q5a q5c (g := (mkF m 60 #[.val (.long qa), .second, .val (.long qb), .second, .val (.long qc), .second, .val (.long qd), .second, .val (.long (qa &&& (2305843009213693951 : Int64))), .second, .val (.long (qb &&& (2305843009213693951 : Int64))), .second, .val (.long (qc &&& (2305843009213693951 : Int64))), .second, .val (.long (qd &&& (2305843009213693951 : Int64))), .second, .val (.ref b1), .val (.ref b3), .unset, .unset, .unset, .unset, .unset, .unset, .unset] [(.ref b3), (.ref b1)])) rfl (by rw [hml]; rfl) (Steps.refl _) (argsL := [(.ref b3)]) (rest := []) (lenOf pd_2 rfl) rfl (by show 2 * 0 + _ ≤ _; exact Nat.le_of_eq rfl) (hb hby at_60) (fun _ _ => ⟨rfl, rfl, (by decide : 2 + 0 ≤ _), (by decide : 4 + 0 ≤ _)⟩)
  dsimp only [Pt.U, Pt.locs, Pt.cells, Pt.slots] at X5 l5 y5 z5 st5 hQ5
  subst l5 y5 z5
  obtain ⟨rfl, N5q, e5⟩ := hQ5
  have N5 := Fr.app N4 N5q
  have pre6 : ∀ t, Steps p.tables e below (T5.setTop (mkF m 93 #[.val (.long qa), .second, .val (.long qb), .second, .val (.long qc), .second, .val (.long qd), .second, .val (.long (qa &&& (2305843009213693951 : Int64))), .second, .val (.long (qb &&& (2305843009213693951 : Int64))), .second, .val (.long (qc &&& (2305843009213693951 : Int64))), .second, .val (.long (qd &&& (2305843009213693951 : Int64))), .second, .val (.ref b1), .val (.ref b3), .val (.int (v0_1 qb qd qa qc)), .val (.long (v0_2 qa qc)), .second, .val (.long (v0_3 qb qd)), .second, .val (.long ((v0_2 qa qc) - (v0_3 qb qd))), .second] [(.int (lcmpW (v0_3 qb qd) ((v0_2 qa qc) - (v0_3 qb qd)))), (.int (v0_1 qb qd qa qc))])) t → Steps p.tables e below (s₁.setTop (entryFrame m #[(.long qa), (.long qb), (.long qc), (.long qd)] maxLocals)) t := fun t k => pre0 t (by
    show Steps p.tables e below (s₁.setTop (mkF m 0 #[.val (.long qa), .second, .val (.long qb), .second, .val (.long qc), .second, .val (.long qd), .second, .unset, .unset, .unset, .unset, .unset, .unset, .unset, .unset, .unset, .unset, .unset, .unset, .unset, .unset, .unset, .unset, .unset] [])) _
    refine XS.lloadN X0.here hx rfl (hb hby at_0) rfl ?_
    show Steps p.tables e below (s₁.setTop (mkF m 1 #[.val (.long qa), .second, .val (.long qb), .second, .val (.long qc), .second, .val (.long qd), .second, .unset, .unset, .unset, .unset, .unset, .unset, .unset, .unset, .unset, .unset, .unset, .unset, .unset, .unset, .unset, .unset, .unset] [(.long qa)])) _
    refine X0.ldc2Long hx hown (mvT hZ (hw _ (List.mem_of_getElem? (i := 0) rfl))) (g := (mkF m 1 #[.val (.long qa), .second, .val (.long qb), .second, .val (.long qc), .second, .val (.long qd), .second, .unset, .unset, .unset, .unset, .unset, .unset, .unset, .unset, .unset, .unset, .unset, .unset, .unset, .unset, .unset, .unset, .unset] [(.long qa)])) rfl (hb hby at_1) _ ?_
    show Steps p.tables e below (s₁.setTop (mkF m 4 #[.val (.long qa), .second, .val (.long qb), .second, .val (.long qc), .second, .val (.long qd), .second, .unset, .unset, .unset, .unset, .unset, .unset, .unset, .unset, .unset, .unset, .unset, .unset, .unset, .unset, .unset, .unset, .unset] [(.long (2305843009213693951 : Int64)), (.long qa)])) _
    refine XS.land X0.here hx rfl (hb hby at_4) rfl ?_
    show Steps p.tables e below (s₁.setTop (mkF m 5 #[.val (.long qa), .second, .val (.long qb), .second, .val (.long qc), .second, .val (.long qd), .second, .unset, .unset, .unset, .unset, .unset, .unset, .unset, .unset, .unset, .unset, .unset, .unset, .unset, .unset, .unset, .unset, .unset] [(.long (qa &&& (2305843009213693951 : Int64)))])) _
    refine XS.lstore X0.here hx rfl (hb hby at_5) rfl (l' := #[.val (.long qa), .second, .val (.long qb), .second, .val (.long qc), .second, .val (.long qd), .second, .val (.long (qa &&& (2305843009213693951 : Int64))), .second, .unset, .unset, .unset, .unset, .unset, .unset, .unset, .unset, .unset, .unset, .unset, .unset, .unset, .unset, .unset]) rfl ?_
    show Steps p.tables e below (s₁.setTop (mkF m 7 #[.val (.long qa), .second, .val (.long qb), .second, .val (.long qc), .second, .val (.long qd), .second, .val (.long (qa &&& (2305843009213693951 : Int64))), .second, .unset, .unset, .unset, .unset, .unset, .unset, .unset, .unset, .unset, .unset, .unset, .unset, .unset, .unset, .unset] [])) _
    refine XS.lloadN X0.here hx rfl (hb hby at_7) rfl ?_
    show Steps p.tables e below (s₁.setTop (mkF m 8 #[.val (.long qa), .second, .val (.long qb), .second, .val (.long qc), .second, .val (.long qd), .second, .val (.long (qa &&& (2305843009213693951 : Int64))), .second, .unset, .unset, .unset, .unset, .unset, .unset, .unset, .unset, .unset, .unset, .unset, .unset, .unset, .unset, .unset] [(.long qb)])) _
    refine X0.ldc2Long hx hown (mvT hZ (hw _ (List.mem_of_getElem? (i := 0) rfl))) (g := (mkF m 8 #[.val (.long qa), .second, .val (.long qb), .second, .val (.long qc), .second, .val (.long qd), .second, .val (.long (qa &&& (2305843009213693951 : Int64))), .second, .unset, .unset, .unset, .unset, .unset, .unset, .unset, .unset, .unset, .unset, .unset, .unset, .unset, .unset, .unset] [(.long qb)])) rfl (hb hby at_8) _ ?_
    show Steps p.tables e below (s₁.setTop (mkF m 11 #[.val (.long qa), .second, .val (.long qb), .second, .val (.long qc), .second, .val (.long qd), .second, .val (.long (qa &&& (2305843009213693951 : Int64))), .second, .unset, .unset, .unset, .unset, .unset, .unset, .unset, .unset, .unset, .unset, .unset, .unset, .unset, .unset, .unset] [(.long (2305843009213693951 : Int64)), (.long qb)])) _
    refine XS.land X0.here hx rfl (hb hby at_11) rfl ?_
    show Steps p.tables e below (s₁.setTop (mkF m 12 #[.val (.long qa), .second, .val (.long qb), .second, .val (.long qc), .second, .val (.long qd), .second, .val (.long (qa &&& (2305843009213693951 : Int64))), .second, .unset, .unset, .unset, .unset, .unset, .unset, .unset, .unset, .unset, .unset, .unset, .unset, .unset, .unset, .unset] [(.long (qb &&& (2305843009213693951 : Int64)))])) _
    refine XS.lstore X0.here hx rfl (hb hby at_12) rfl (l' := #[.val (.long qa), .second, .val (.long qb), .second, .val (.long qc), .second, .val (.long qd), .second, .val (.long (qa &&& (2305843009213693951 : Int64))), .second, .val (.long (qb &&& (2305843009213693951 : Int64))), .second, .unset, .unset, .unset, .unset, .unset, .unset, .unset, .unset, .unset, .unset, .unset, .unset, .unset]) rfl ?_
    show Steps p.tables e below (s₁.setTop (mkF m 14 #[.val (.long qa), .second, .val (.long qb), .second, .val (.long qc), .second, .val (.long qd), .second, .val (.long (qa &&& (2305843009213693951 : Int64))), .second, .val (.long (qb &&& (2305843009213693951 : Int64))), .second, .unset, .unset, .unset, .unset, .unset, .unset, .unset, .unset, .unset, .unset, .unset, .unset, .unset] [])) _
    refine XS.lload X0.here hx rfl (hb hby at_14) rfl ?_
    show Steps p.tables e below (s₁.setTop (mkF m 16 #[.val (.long qa), .second, .val (.long qb), .second, .val (.long qc), .second, .val (.long qd), .second, .val (.long (qa &&& (2305843009213693951 : Int64))), .second, .val (.long (qb &&& (2305843009213693951 : Int64))), .second, .unset, .unset, .unset, .unset, .unset, .unset, .unset, .unset, .unset, .unset, .unset, .unset, .unset] [(.long qc)])) _
    refine X0.ldc2Long hx hown (mvT hZ (hw _ (List.mem_of_getElem? (i := 0) rfl))) (g := (mkF m 16 #[.val (.long qa), .second, .val (.long qb), .second, .val (.long qc), .second, .val (.long qd), .second, .val (.long (qa &&& (2305843009213693951 : Int64))), .second, .val (.long (qb &&& (2305843009213693951 : Int64))), .second, .unset, .unset, .unset, .unset, .unset, .unset, .unset, .unset, .unset, .unset, .unset, .unset, .unset] [(.long qc)])) rfl (hb hby at_16) _ ?_
    show Steps p.tables e below (s₁.setTop (mkF m 19 #[.val (.long qa), .second, .val (.long qb), .second, .val (.long qc), .second, .val (.long qd), .second, .val (.long (qa &&& (2305843009213693951 : Int64))), .second, .val (.long (qb &&& (2305843009213693951 : Int64))), .second, .unset, .unset, .unset, .unset, .unset, .unset, .unset, .unset, .unset, .unset, .unset, .unset, .unset] [(.long (2305843009213693951 : Int64)), (.long qc)])) _
    refine XS.land X0.here hx rfl (hb hby at_19) rfl ?_
    show Steps p.tables e below (s₁.setTop (mkF m 20 #[.val (.long qa), .second, .val (.long qb), .second, .val (.long qc), .second, .val (.long qd), .second, .val (.long (qa &&& (2305843009213693951 : Int64))), .second, .val (.long (qb &&& (2305843009213693951 : Int64))), .second, .unset, .unset, .unset, .unset, .unset, .unset, .unset, .unset, .unset, .unset, .unset, .unset, .unset] [(.long (qc &&& (2305843009213693951 : Int64)))])) _
    refine XS.lstore X0.here hx rfl (hb hby at_20) rfl (l' := #[.val (.long qa), .second, .val (.long qb), .second, .val (.long qc), .second, .val (.long qd), .second, .val (.long (qa &&& (2305843009213693951 : Int64))), .second, .val (.long (qb &&& (2305843009213693951 : Int64))), .second, .val (.long (qc &&& (2305843009213693951 : Int64))), .second, .unset, .unset, .unset, .unset, .unset, .unset, .unset, .unset, .unset, .unset, .unset]) rfl ?_
    show Steps p.tables e below (s₁.setTop (mkF m 22 #[.val (.long qa), .second, .val (.long qb), .second, .val (.long qc), .second, .val (.long qd), .second, .val (.long (qa &&& (2305843009213693951 : Int64))), .second, .val (.long (qb &&& (2305843009213693951 : Int64))), .second, .val (.long (qc &&& (2305843009213693951 : Int64))), .second, .unset, .unset, .unset, .unset, .unset, .unset, .unset, .unset, .unset, .unset, .unset] [])) _
    refine XS.lload X0.here hx rfl (hb hby at_22) rfl ?_
    show Steps p.tables e below (s₁.setTop (mkF m 24 #[.val (.long qa), .second, .val (.long qb), .second, .val (.long qc), .second, .val (.long qd), .second, .val (.long (qa &&& (2305843009213693951 : Int64))), .second, .val (.long (qb &&& (2305843009213693951 : Int64))), .second, .val (.long (qc &&& (2305843009213693951 : Int64))), .second, .unset, .unset, .unset, .unset, .unset, .unset, .unset, .unset, .unset, .unset, .unset] [(.long qd)])) _
    refine X0.ldc2Long hx hown (mvT hZ (hw _ (List.mem_of_getElem? (i := 0) rfl))) (g := (mkF m 24 #[.val (.long qa), .second, .val (.long qb), .second, .val (.long qc), .second, .val (.long qd), .second, .val (.long (qa &&& (2305843009213693951 : Int64))), .second, .val (.long (qb &&& (2305843009213693951 : Int64))), .second, .val (.long (qc &&& (2305843009213693951 : Int64))), .second, .unset, .unset, .unset, .unset, .unset, .unset, .unset, .unset, .unset, .unset, .unset] [(.long qd)])) rfl (hb hby at_24) _ ?_
    show Steps p.tables e below (s₁.setTop (mkF m 27 #[.val (.long qa), .second, .val (.long qb), .second, .val (.long qc), .second, .val (.long qd), .second, .val (.long (qa &&& (2305843009213693951 : Int64))), .second, .val (.long (qb &&& (2305843009213693951 : Int64))), .second, .val (.long (qc &&& (2305843009213693951 : Int64))), .second, .unset, .unset, .unset, .unset, .unset, .unset, .unset, .unset, .unset, .unset, .unset] [(.long (2305843009213693951 : Int64)), (.long qd)])) _
    refine XS.land X0.here hx rfl (hb hby at_27) rfl ?_
    show Steps p.tables e below (s₁.setTop (mkF m 28 #[.val (.long qa), .second, .val (.long qb), .second, .val (.long qc), .second, .val (.long qd), .second, .val (.long (qa &&& (2305843009213693951 : Int64))), .second, .val (.long (qb &&& (2305843009213693951 : Int64))), .second, .val (.long (qc &&& (2305843009213693951 : Int64))), .second, .unset, .unset, .unset, .unset, .unset, .unset, .unset, .unset, .unset, .unset, .unset] [(.long (qd &&& (2305843009213693951 : Int64)))])) _
    refine XS.lstore X0.here hx rfl (hb hby at_28) rfl (l' := #[.val (.long qa), .second, .val (.long qb), .second, .val (.long qc), .second, .val (.long qd), .second, .val (.long (qa &&& (2305843009213693951 : Int64))), .second, .val (.long (qb &&& (2305843009213693951 : Int64))), .second, .val (.long (qc &&& (2305843009213693951 : Int64))), .second, .val (.long (qd &&& (2305843009213693951 : Int64))), .second, .unset, .unset, .unset, .unset, .unset, .unset, .unset, .unset, .unset]) rfl ?_
    show Steps p.tables e below (s₁.setTop (mkF m 30 #[.val (.long qa), .second, .val (.long qb), .second, .val (.long qc), .second, .val (.long qd), .second, .val (.long (qa &&& (2305843009213693951 : Int64))), .second, .val (.long (qb &&& (2305843009213693951 : Int64))), .second, .val (.long (qc &&& (2305843009213693951 : Int64))), .second, .val (.long (qd &&& (2305843009213693951 : Int64))), .second, .unset, .unset, .unset, .unset, .unset, .unset, .unset, .unset, .unset] [])) _
    refine st1 _ ?_
    show Steps p.tables e below (T1.setTop (mkF m 33 #[.val (.long qa), .second, .val (.long qb), .second, .val (.long qc), .second, .val (.long qd), .second, .val (.long (qa &&& (2305843009213693951 : Int64))), .second, .val (.long (qb &&& (2305843009213693951 : Int64))), .second, .val (.long (qc &&& (2305843009213693951 : Int64))), .second, .val (.long (qd &&& (2305843009213693951 : Int64))), .second, .unset, .unset, .unset, .unset, .unset, .unset, .unset, .unset, .unset] [(.ref b1)])) _
    refine XS.dup X1.here hx rfl (hb hby at_33) rfl rfl ?_
    show Steps p.tables e below (T1.setTop (mkF m 34 #[.val (.long qa), .second, .val (.long qb), .second, .val (.long qc), .second, .val (.long qd), .second, .val (.long (qa &&& (2305843009213693951 : Int64))), .second, .val (.long (qb &&& (2305843009213693951 : Int64))), .second, .val (.long (qc &&& (2305843009213693951 : Int64))), .second, .val (.long (qd &&& (2305843009213693951 : Int64))), .second, .unset, .unset, .unset, .unset, .unset, .unset, .unset, .unset, .unset] [(.ref b1), (.ref b1)])) _
    refine XS.lload X1.here hx rfl (hb hby at_34) rfl ?_
    show Steps p.tables e below (T1.setTop (mkF m 36 #[.val (.long qa), .second, .val (.long qb), .second, .val (.long qc), .second, .val (.long qd), .second, .val (.long (qa &&& (2305843009213693951 : Int64))), .second, .val (.long (qb &&& (2305843009213693951 : Int64))), .second, .val (.long (qc &&& (2305843009213693951 : Int64))), .second, .val (.long (qd &&& (2305843009213693951 : Int64))), .second, .unset, .unset, .unset, .unset, .unset, .unset, .unset, .unset, .unset] [(.long (qa &&& (2305843009213693951 : Int64))), (.ref b1), (.ref b1)])) _
    refine XS.lload X1.here hx rfl (hb hby at_36) rfl ?_
    show Steps p.tables e below (T1.setTop (mkF m 38 #[.val (.long qa), .second, .val (.long qb), .second, .val (.long qc), .second, .val (.long qd), .second, .val (.long (qa &&& (2305843009213693951 : Int64))), .second, .val (.long (qb &&& (2305843009213693951 : Int64))), .second, .val (.long (qc &&& (2305843009213693951 : Int64))), .second, .val (.long (qd &&& (2305843009213693951 : Int64))), .second, .unset, .unset, .unset, .unset, .unset, .unset, .unset, .unset, .unset] [(.long (qb &&& (2305843009213693951 : Int64))), (.long (qa &&& (2305843009213693951 : Int64))), (.ref b1), (.ref b1)])) _
    refine st2.trans ?_
    show Steps p.tables e below (T2.setTop (mkF m 41 #[.val (.long qa), .second, .val (.long qb), .second, .val (.long qc), .second, .val (.long qd), .second, .val (.long (qa &&& (2305843009213693951 : Int64))), .second, .val (.long (qb &&& (2305843009213693951 : Int64))), .second, .val (.long (qc &&& (2305843009213693951 : Int64))), .second, .val (.long (qd &&& (2305843009213693951 : Int64))), .second, .unset, .unset, .unset, .unset, .unset, .unset, .unset, .unset, .unset] [(.ref b1)])) _
    refine XS.astore X2.here hx rfl (hb hby at_41) rfl rfl (l' := #[.val (.long qa), .second, .val (.long qb), .second, .val (.long qc), .second, .val (.long qd), .second, .val (.long (qa &&& (2305843009213693951 : Int64))), .second, .val (.long (qb &&& (2305843009213693951 : Int64))), .second, .val (.long (qc &&& (2305843009213693951 : Int64))), .second, .val (.long (qd &&& (2305843009213693951 : Int64))), .second, .val (.ref b1), .unset, .unset, .unset, .unset, .unset, .unset, .unset, .unset]) rfl ?_
    show Steps p.tables e below (T2.setTop (mkF m 43 #[.val (.long qa), .second, .val (.long qb), .second, .val (.long qc), .second, .val (.long qd), .second, .val (.long (qa &&& (2305843009213693951 : Int64))), .second, .val (.long (qb &&& (2305843009213693951 : Int64))), .second, .val (.long (qc &&& (2305843009213693951 : Int64))), .second, .val (.long (qd &&& (2305843009213693951 : Int64))), .second, .val (.ref b1), .unset, .unset, .unset, .unset, .unset, .unset, .unset, .unset] [])) _
    refine st3 _ ?_
    show Steps p.tables e below (T3.setTop (mkF m 46 #[.val (.long qa), .second, .val (.long qb), .second, .val (.long qc), .second, .val (.long qd), .second, .val (.long (qa &&& (2305843009213693951 : Int64))), .second, .val (.long (qb &&& (2305843009213693951 : Int64))), .second, .val (.long (qc &&& (2305843009213693951 : Int64))), .second, .val (.long (qd &&& (2305843009213693951 : Int64))), .second, .val (.ref b1), .unset, .unset, .unset, .unset, .unset, .unset, .unset, .unset] [(.ref b3)])) _
    refine XS.dup X3.here hx rfl (hb hby at_46) rfl rfl ?_
    show Steps p.tables e below (T3.setTop (mkF m 47 #[.val (.long qa), .second, .val (.long qb), .second, .val (.long qc), .second, .val (.long qd), .second, .val (.long (qa &&& (2305843009213693951 : Int64))), .second, .val (.long (qb &&& (2305843009213693951 : Int64))), .second, .val (.long (qc &&& (2305843009213693951 : Int64))), .second, .val (.long (qd &&& (2305843009213693951 : Int64))), .second, .val (.ref b1), .unset, .unset, .unset, .unset, .unset, .unset, .unset, .unset] [(.ref b3), (.ref b3)])) _
    refine XS.lload X3.here hx rfl (hb hby at_47) rfl ?_
    show Steps p.tables e below (T3.setTop (mkF m 49 #[.val (.long qa), .second, .val (.long qb), .second, .val (.long qc), .second, .val (.long qd), .second, .val (.long (qa &&& (2305843009213693951 : Int64))), .second, .val (.long (qb &&& (2305843009213693951 : Int64))), .second, .val (.long (qc &&& (2305843009213693951 : Int64))), .second, .val (.long (qd &&& (2305843009213693951 : Int64))), .second, .val (.ref b1), .unset, .unset, .unset, .unset, .unset, .unset, .unset, .unset] [(.long (qc &&& (2305843009213693951 : Int64))), (.ref b3), (.ref b3)])) _
    refine XS.lload X3.here hx rfl (hb hby at_49) rfl ?_
    show Steps p.tables e below (T3.setTop (mkF m 51 #[.val (.long qa), .second, .val (.long qb), .second, .val (.long qc), .second, .val (.long qd), .second, .val (.long (qa &&& (2305843009213693951 : Int64))), .second, .val (.long (qb &&& (2305843009213693951 : Int64))), .second, .val (.long (qc &&& (2305843009213693951 : Int64))), .second, .val (.long (qd &&& (2305843009213693951 : Int64))), .second, .val (.ref b1), .unset, .unset, .unset, .unset, .unset, .unset, .unset, .unset] [(.long (qd &&& (2305843009213693951 : Int64))), (.long (qc &&& (2305843009213693951 : Int64))), (.ref b3), (.ref b3)])) _
    refine st4.trans ?_
    show Steps p.tables e below (T4.setTop (mkF m 54 #[.val (.long qa), .second, .val (.long qb), .second, .val (.long qc), .second, .val (.long qd), .second, .val (.long (qa &&& (2305843009213693951 : Int64))), .second, .val (.long (qb &&& (2305843009213693951 : Int64))), .second, .val (.long (qc &&& (2305843009213693951 : Int64))), .second, .val (.long (qd &&& (2305843009213693951 : Int64))), .second, .val (.ref b1), .unset, .unset, .unset, .unset, .unset, .unset, .unset, .unset] [(.ref b3)])) _
    refine XS.astore X4.here hx rfl (hb hby at_54) rfl rfl (l' := #[.val (.long qa), .second, .val (.long qb), .second, .val (.long qc), .second, .val (.long qd), .second, .val (.long (qa &&& (2305843009213693951 : Int64))), .second, .val (.long (qb &&& (2305843009213693951 : Int64))), .second, .val (.long (qc &&& (2305843009213693951 : Int64))), .second, .val (.long (qd &&& (2305843009213693951 : Int64))), .second, .val (.ref b1), .val (.ref b3), .unset, .unset, .unset, .unset, .unset, .unset, .unset]) rfl ?_
    show Steps p.tables e below (T4.setTop (mkF m 56 #[.val (.long qa), .second, .val (.long qb), .second, .val (.long qc), .second, .val (.long qd), .second, .val (.long (qa &&& (2305843009213693951 : Int64))), .second, .val (.long (qb &&& (2305843009213693951 : Int64))), .second, .val (.long (qc &&& (2305843009213693951 : Int64))), .second, .val (.long (qd &&& (2305843009213693951 : Int64))), .second, .val (.ref b1), .val (.ref b3), .unset, .unset, .unset, .unset, .unset, .unset, .unset] [])) _
    refine XS.aload X4.here hx rfl (hb hby at_56) rfl rfl ?_
    show Steps p.tables e below (T4.setTop (mkF m 58 #[.val (.long qa), .second, .val (.long qb), .second, .val (.long qc), .second, .val (.long qd), .second, .val (.long (qa &&& (2305843009213693951 : Int64))), .second, .val (.long (qb &&& (2305843009213693951 : Int64))), .second, .val (.long (qc &&& (2305843009213693951 : Int64))), .second, .val (.long (qd &&& (2305843009213693951 : Int64))), .second, .val (.ref b1), .val (.ref b3), .unset, .unset, .unset, .unset, .unset, .unset, .unset] [(.ref b1)])) _
    refine XS.aload X4.here hx rfl (hb hby at_58) rfl rfl ?_
    show Steps p.tables e below (T4.setTop (mkF m 60 #[.val (.long qa), .second, .val (.long qb), .second, .val (.long qc), .second, .val (.long qd), .second, .val (.long (qa &&& (2305843009213693951 : Int64))), .second, .val (.long (qb &&& (2305843009213693951 : Int64))), .second, .val (.long (qc &&& (2305843009213693951 : Int64))), .second, .val (.long (qd &&& (2305843009213693951 : Int64))), .second, .val (.ref b1), .val (.ref b3), .unset, .unset, .unset, .unset, .unset, .unset, .unset] [(.ref b3), (.ref b1)])) _
    refine st5.trans ?_
    show Steps p.tables e below (T5.setTop (mkF m 63 #[.val (.long qa), .second, .val (.long qb), .second, .val (.long qc), .second, .val (.long qd), .second, .val (.long (qa &&& (2305843009213693951 : Int64))), .second, .val (.long (qb &&& (2305843009213693951 : Int64))), .second, .val (.long (qc &&& (2305843009213693951 : Int64))), .second, .val (.long (qd &&& (2305843009213693951 : Int64))), .second, .val (.ref b1), .val (.ref b3), .unset, .unset, .unset, .unset, .unset, .unset, .unset] [(.int (v0_1 qb qd qa qc))])) _
    refine XS.istore X5.here hx rfl (hb hby at_63) rfl (l' := #[.val (.long qa), .second, .val (.long qb), .second, .val (.long qc), .second, .val (.long qd), .second, .val (.long (qa &&& (2305843009213693951 : Int64))), .second, .val (.long (qb &&& (2305843009213693951 : Int64))), .second, .val (.long (qc &&& (2305843009213693951 : Int64))), .second, .val (.long (qd &&& (2305843009213693951 : Int64))), .second, .val (.ref b1), .val (.ref b3), .val (.int (v0_1 qb qd qa qc)), .unset, .unset, .unset, .unset, .unset, .unset]) rfl ?_
    show Steps p.tables e below (T5.setTop (mkF m 65 #[.val (.long qa), .second, .val (.long qb), .second, .val (.long qc), .second, .val (.long qd), .second, .val (.long (qa &&& (2305843009213693951 : Int64))), .second, .val (.long (qb &&& (2305843009213693951 : Int64))), .second, .val (.long (qc &&& (2305843009213693951 : Int64))), .second, .val (.long (qd &&& (2305843009213693951 : Int64))), .second, .val (.ref b1), .val (.ref b3), .val (.int (v0_1 qb qd qa qc)), .unset, .unset, .unset, .unset, .unset, .unset] [])) _
    refine XS.lload X5.here hx rfl (hb hby at_65) rfl ?_
    show Steps p.tables e below (T5.setTop (mkF m 67 #[.val (.long qa), .second, .val (.long qb), .second, .val (.long qc), .second, .val (.long qd), .second, .val (.long (qa &&& (2305843009213693951 : Int64))), .second, .val (.long (qb &&& (2305843009213693951 : Int64))), .second, .val (.long (qc &&& (2305843009213693951 : Int64))), .second, .val (.long (qd &&& (2305843009213693951 : Int64))), .second, .val (.ref b1), .val (.ref b3), .val (.int (v0_1 qb qd qa qc)), .unset, .unset, .unset, .unset, .unset, .unset] [(.long (qa &&& (2305843009213693951 : Int64)))])) _
    refine XS.lload X5.here hx rfl (hb hby at_67) rfl ?_
    show Steps p.tables e below (T5.setTop (mkF m 69 #[.val (.long qa), .second, .val (.long qb), .second, .val (.long qc), .second, .val (.long qd), .second, .val (.long (qa &&& (2305843009213693951 : Int64))), .second, .val (.long (qb &&& (2305843009213693951 : Int64))), .second, .val (.long (qc &&& (2305843009213693951 : Int64))), .second, .val (.long (qd &&& (2305843009213693951 : Int64))), .second, .val (.ref b1), .val (.ref b3), .val (.int (v0_1 qb qd qa qc)), .unset, .unset, .unset, .unset, .unset, .unset] [(.long (qc &&& (2305843009213693951 : Int64))), (.long (qa &&& (2305843009213693951 : Int64)))])) _
    refine XS.lsub X5.here hx rfl (hb hby at_69) rfl ?_
    show Steps p.tables e below (T5.setTop (mkF m 70 #[.val (.long qa), .second, .val (.long qb), .second, .val (.long qc), .second, .val (.long qd), .second, .val (.long (qa &&& (2305843009213693951 : Int64))), .second, .val (.long (qb &&& (2305843009213693951 : Int64))), .second, .val (.long (qc &&& (2305843009213693951 : Int64))), .second, .val (.long (qd &&& (2305843009213693951 : Int64))), .second, .val (.ref b1), .val (.ref b3), .val (.int (v0_1 qb qd qa qc)), .unset, .unset, .unset, .unset, .unset, .unset] [(.long ((qa &&& (2305843009213693951 : Int64)) - (qc &&& (2305843009213693951 : Int64))))])) _
    refine XS.lstore X5.here hx rfl (hb hby at_70) rfl (l' := #[.val (.long qa), .second, .val (.long qb), .second, .val (.long qc), .second, .val (.long qd), .second, .val (.long (qa &&& (2305843009213693951 : Int64))), .second, .val (.long (qb &&& (2305843009213693951 : Int64))), .second, .val (.long (qc &&& (2305843009213693951 : Int64))), .second, .val (.long (qd &&& (2305843009213693951 : Int64))), .second, .val (.ref b1), .val (.ref b3), .val (.int (v0_1 qb qd qa qc)), .val (.long ((qa &&& (2305843009213693951 : Int64)) - (qc &&& (2305843009213693951 : Int64)))), .second, .unset, .unset, .unset, .unset]) rfl ?_
    show Steps p.tables e below (T5.setTop (mkF m 72 #[.val (.long qa), .second, .val (.long qb), .second, .val (.long qc), .second, .val (.long qd), .second, .val (.long (qa &&& (2305843009213693951 : Int64))), .second, .val (.long (qb &&& (2305843009213693951 : Int64))), .second, .val (.long (qc &&& (2305843009213693951 : Int64))), .second, .val (.long (qd &&& (2305843009213693951 : Int64))), .second, .val (.ref b1), .val (.ref b3), .val (.int (v0_1 qb qd qa qc)), .val (.long (v0_2 qa qc)), .second, .unset, .unset, .unset, .unset] [])) _
    refine XS.lload X5.here hx rfl (hb hby at_72) rfl ?_
    show Steps p.tables e below (T5.setTop (mkF m 74 #[.val (.long qa), .second, .val (.long qb), .second, .val (.long qc), .second, .val (.long qd), .second, .val (.long (qa &&& (2305843009213693951 : Int64))), .second, .val (.long (qb &&& (2305843009213693951 : Int64))), .second, .val (.long (qc &&& (2305843009213693951 : Int64))), .second, .val (.long (qd &&& (2305843009213693951 : Int64))), .second, .val (.ref b1), .val (.ref b3), .val (.int (v0_1 qb qd qa qc)), .val (.long (v0_2 qa qc)), .second, .unset, .unset, .unset, .unset] [(.long (qb &&& (2305843009213693951 : Int64)))])) _
    refine XS.lload X5.here hx rfl (hb hby at_74) rfl ?_
    show Steps p.tables e below (T5.setTop (mkF m 76 #[.val (.long qa), .second, .val (.long qb), .second, .val (.long qc), .second, .val (.long qd), .second, .val (.long (qa &&& (2305843009213693951 : Int64))), .second, .val (.long (qb &&& (2305843009213693951 : Int64))), .second, .val (.long (qc &&& (2305843009213693951 : Int64))), .second, .val (.long (qd &&& (2305843009213693951 : Int64))), .second, .val (.ref b1), .val (.ref b3), .val (.int (v0_1 qb qd qa qc)), .val (.long (v0_2 qa qc)), .second, .unset, .unset, .unset, .unset] [(.long (qd &&& (2305843009213693951 : Int64))), (.long (qb &&& (2305843009213693951 : Int64)))])) _
    refine XS.lsub X5.here hx rfl (hb hby at_76) rfl ?_
    show Steps p.tables e below (T5.setTop (mkF m 77 #[.val (.long qa), .second, .val (.long qb), .second, .val (.long qc), .second, .val (.long qd), .second, .val (.long (qa &&& (2305843009213693951 : Int64))), .second, .val (.long (qb &&& (2305843009213693951 : Int64))), .second, .val (.long (qc &&& (2305843009213693951 : Int64))), .second, .val (.long (qd &&& (2305843009213693951 : Int64))), .second, .val (.ref b1), .val (.ref b3), .val (.int (v0_1 qb qd qa qc)), .val (.long (v0_2 qa qc)), .second, .unset, .unset, .unset, .unset] [(.long ((qb &&& (2305843009213693951 : Int64)) - (qd &&& (2305843009213693951 : Int64))))])) _
    refine XS.lstore X5.here hx rfl (hb hby at_77) rfl (l' := #[.val (.long qa), .second, .val (.long qb), .second, .val (.long qc), .second, .val (.long qd), .second, .val (.long (qa &&& (2305843009213693951 : Int64))), .second, .val (.long (qb &&& (2305843009213693951 : Int64))), .second, .val (.long (qc &&& (2305843009213693951 : Int64))), .second, .val (.long (qd &&& (2305843009213693951 : Int64))), .second, .val (.ref b1), .val (.ref b3), .val (.int (v0_1 qb qd qa qc)), .val (.long (v0_2 qa qc)), .second, .val (.long ((qb &&& (2305843009213693951 : Int64)) - (qd &&& (2305843009213693951 : Int64)))), .second, .unset, .unset]) rfl ?_
    show Steps p.tables e below (T5.setTop (mkF m 79 #[.val (.long qa), .second, .val (.long qb), .second, .val (.long qc), .second, .val (.long qd), .second, .val (.long (qa &&& (2305843009213693951 : Int64))), .second, .val (.long (qb &&& (2305843009213693951 : Int64))), .second, .val (.long (qc &&& (2305843009213693951 : Int64))), .second, .val (.long (qd &&& (2305843009213693951 : Int64))), .second, .val (.ref b1), .val (.ref b3), .val (.int (v0_1 qb qd qa qc)), .val (.long (v0_2 qa qc)), .second, .val (.long (v0_3 qb qd)), .second, .unset, .unset] [])) _
    refine XS.lload X5.here hx rfl (hb hby at_79) rfl ?_
    show Steps p.tables e below (T5.setTop (mkF m 81 #[.val (.long qa), .second, .val (.long qb), .second, .val (.long qc), .second, .val (.long qd), .second, .val (.long (qa &&& (2305843009213693951 : Int64))), .second, .val (.long (qb &&& (2305843009213693951 : Int64))), .second, .val (.long (qc &&& (2305843009213693951 : Int64))), .second, .val (.long (qd &&& (2305843009213693951 : Int64))), .second, .val (.ref b1), .val (.ref b3), .val (.int (v0_1 qb qd qa qc)), .val (.long (v0_2 qa qc)), .second, .val (.long (v0_3 qb qd)), .second, .unset, .unset] [(.long (v0_2 qa qc))])) _
    refine XS.lload X5.here hx rfl (hb hby at_81) rfl ?_
    show Steps p.tables e below (T5.setTop (mkF m 83 #[.val (.long qa), .second, .val (.long qb), .second, .val (.long qc), .second, .val (.long qd), .second, .val (.long (qa &&& (2305843009213693951 : Int64))), .second, .val (.long (qb &&& (2305843009213693951 : Int64))), .second, .val (.long (qc &&& (2305843009213693951 : Int64))), .second, .val (.long (qd &&& (2305843009213693951 : Int64))), .second, .val (.ref b1), .val (.ref b3), .val (.int (v0_1 qb qd qa qc)), .val (.long (v0_2 qa qc)), .second, .val (.long (v0_3 qb qd)), .second, .unset, .unset] [(.long (v0_3 qb qd)), (.long (v0_2 qa qc))])) _
    refine XS.lsub X5.here hx rfl (hb hby at_83) rfl ?_
    show Steps p.tables e below (T5.setTop (mkF m 84 #[.val (.long qa), .second, .val (.long qb), .second, .val (.long qc), .second, .val (.long qd), .second, .val (.long (qa &&& (2305843009213693951 : Int64))), .second, .val (.long (qb &&& (2305843009213693951 : Int64))), .second, .val (.long (qc &&& (2305843009213693951 : Int64))), .second, .val (.long (qd &&& (2305843009213693951 : Int64))), .second, .val (.ref b1), .val (.ref b3), .val (.int (v0_1 qb qd qa qc)), .val (.long (v0_2 qa qc)), .second, .val (.long (v0_3 qb qd)), .second, .unset, .unset] [(.long ((v0_2 qa qc) - (v0_3 qb qd)))])) _
    refine XS.lstore X5.here hx rfl (hb hby at_84) rfl (l' := #[.val (.long qa), .second, .val (.long qb), .second, .val (.long qc), .second, .val (.long qd), .second, .val (.long (qa &&& (2305843009213693951 : Int64))), .second, .val (.long (qb &&& (2305843009213693951 : Int64))), .second, .val (.long (qc &&& (2305843009213693951 : Int64))), .second, .val (.long (qd &&& (2305843009213693951 : Int64))), .second, .val (.ref b1), .val (.ref b3), .val (.int (v0_1 qb qd qa qc)), .val (.long (v0_2 qa qc)), .second, .val (.long (v0_3 qb qd)), .second, .val (.long ((v0_2 qa qc) - (v0_3 qb qd))), .second]) rfl ?_
    show Steps p.tables e below (T5.setTop (mkF m 86 #[.val (.long qa), .second, .val (.long qb), .second, .val (.long qc), .second, .val (.long qd), .second, .val (.long (qa &&& (2305843009213693951 : Int64))), .second, .val (.long (qb &&& (2305843009213693951 : Int64))), .second, .val (.long (qc &&& (2305843009213693951 : Int64))), .second, .val (.long (qd &&& (2305843009213693951 : Int64))), .second, .val (.ref b1), .val (.ref b3), .val (.int (v0_1 qb qd qa qc)), .val (.long (v0_2 qa qc)), .second, .val (.long (v0_3 qb qd)), .second, .val (.long ((v0_2 qa qc) - (v0_3 qb qd))), .second] [])) _
    refine XS.iload X5.here hx rfl (hb hby at_86) rfl ?_
    show Steps p.tables e below (T5.setTop (mkF m 88 #[.val (.long qa), .second, .val (.long qb), .second, .val (.long qc), .second, .val (.long qd), .second, .val (.long (qa &&& (2305843009213693951 : Int64))), .second, .val (.long (qb &&& (2305843009213693951 : Int64))), .second, .val (.long (qc &&& (2305843009213693951 : Int64))), .second, .val (.long (qd &&& (2305843009213693951 : Int64))), .second, .val (.ref b1), .val (.ref b3), .val (.int (v0_1 qb qd qa qc)), .val (.long (v0_2 qa qc)), .second, .val (.long (v0_3 qb qd)), .second, .val (.long ((v0_2 qa qc) - (v0_3 qb qd))), .second] [(.int (v0_1 qb qd qa qc))])) _
    refine XS.lload X5.here hx rfl (hb hby at_88) rfl ?_
    show Steps p.tables e below (T5.setTop (mkF m 90 #[.val (.long qa), .second, .val (.long qb), .second, .val (.long qc), .second, .val (.long qd), .second, .val (.long (qa &&& (2305843009213693951 : Int64))), .second, .val (.long (qb &&& (2305843009213693951 : Int64))), .second, .val (.long (qc &&& (2305843009213693951 : Int64))), .second, .val (.long (qd &&& (2305843009213693951 : Int64))), .second, .val (.ref b1), .val (.ref b3), .val (.int (v0_1 qb qd qa qc)), .val (.long (v0_2 qa qc)), .second, .val (.long (v0_3 qb qd)), .second, .val (.long ((v0_2 qa qc) - (v0_3 qb qd))), .second] [(.long (v0_3 qb qd)), (.int (v0_1 qb qd qa qc))])) _
    refine XS.lload X5.here hx rfl (hb hby at_90) rfl ?_
    show Steps p.tables e below (T5.setTop (mkF m 92 #[.val (.long qa), .second, .val (.long qb), .second, .val (.long qc), .second, .val (.long qd), .second, .val (.long (qa &&& (2305843009213693951 : Int64))), .second, .val (.long (qb &&& (2305843009213693951 : Int64))), .second, .val (.long (qc &&& (2305843009213693951 : Int64))), .second, .val (.long (qd &&& (2305843009213693951 : Int64))), .second, .val (.ref b1), .val (.ref b3), .val (.int (v0_1 qb qd qa qc)), .val (.long (v0_2 qa qc)), .second, .val (.long (v0_3 qb qd)), .second, .val (.long ((v0_2 qa qc) - (v0_3 qb qd))), .second] [(.long ((v0_2 qa qc) - (v0_3 qb qd))), (.long (v0_3 qb qd)), (.int (v0_1 qb qd qa qc))])) _
    refine XS.lcmp X5.here hx rfl (hb hby at_92) rfl ?_
    show Steps p.tables e below (T5.setTop (mkF m 93 #[.val (.long qa), .second, .val (.long qb), .second, .val (.long qc), .second, .val (.long qd), .second, .val (.long (qa &&& (2305843009213693951 : Int64))), .second, .val (.long (qb &&& (2305843009213693951 : Int64))), .second, .val (.long (qc &&& (2305843009213693951 : Int64))), .second, .val (.long (qd &&& (2305843009213693951 : Int64))), .second, .val (.ref b1), .val (.ref b3), .val (.int (v0_1 qb qd qa qc)), .val (.long (v0_2 qa qc)), .second, .val (.long (v0_3 qb qd)), .second, .val (.long ((v0_2 qa qc) - (v0_3 qb qd))), .second] [(.int (lcmpW (v0_3 qb qd) ((v0_2 qa qc) - (v0_3 qb qd)))), (.int (v0_1 qb qd qa qc))])) _
    exact k)
  have pre8 : ∀ t, Steps p.tables e below (T5.setTop (mkF m 101 #[.val (.long qa), .second, .val (.long qb), .second, .val (.long qc), .second, .val (.long qd), .second, .val (.long (qa &&& (2305843009213693951 : Int64))), .second, .val (.long (qb &&& (2305843009213693951 : Int64))), .second, .val (.long (qc &&& (2305843009213693951 : Int64))), .second, .val (.long (qd &&& (2305843009213693951 : Int64))), .second, .val (.ref b1), .val (.ref b3), .val (.int (v0_1 qb qd qa qc)), .val (.long (v0_2 qa qc)), .second, .val (.long (v0_3 qb qd)), .second, .val (.long ((v0_2 qa qc) - (v0_3 qb qd))), .second] [(.int (if (0 : Int32) < (lcmpW (v0_3 qb qd) ((v0_2 qa qc) - (v0_3 qb qd))) then (1 : Int32) else (0 : Int32))), (.int (v0_1 qb qd qa qc))])) t → Steps p.tables e below (s₁.setTop (entryFrame m #[(.long qa), (.long qb), (.long qc), (.long qd)] maxLocals)) t := fun t k => pre6 t (by
    show Steps p.tables e below (T5.setTop (mkF m 93 #[.val (.long qa), .second, .val (.long qb), .second, .val (.long qc), .second, .val (.long qd), .second, .val (.long (qa &&& (2305843009213693951 : Int64))), .second, .val (.long (qb &&& (2305843009213693951 : Int64))), .second, .val (.long (qc &&& (2305843009213693951 : Int64))), .second, .val (.long (qd &&& (2305843009213693951 : Int64))), .second, .val (.ref b1), .val (.ref b3), .val (.int (v0_1 qb qd qa qc)), .val (.long (v0_2 qa qc)), .second, .val (.long (v0_3 qb qd)), .second, .val (.long ((v0_2 qa qc) - (v0_3 qb qd))), .second] [(.int (lcmpW (v0_3 qb qd) ((v0_2 qa qc) - (v0_3 qb qd)))), (.int (v0_1 qb qd qa qc))])) _
    by_cases hd93_7 : (0 : Int32) < (lcmpW (v0_3 qb qd) ((v0_2 qa qc) - (v0_3 qb qd)))
    · try simp only [if_pos hd93_7] at k
      show Steps p.tables e below (T5.setTop (mkF m 93 #[.val (.long qa), .second, .val (.long qb), .second, .val (.long qc), .second, .val (.long qd), .second, .val (.long (qa &&& (2305843009213693951 : Int64))), .second, .val (.long (qb &&& (2305843009213693951 : Int64))), .second, .val (.long (qc &&& (2305843009213693951 : Int64))), .second, .val (.long (qd &&& (2305843009213693951 : Int64))), .second, .val (.ref b1), .val (.ref b3), .val (.int (v0_1 qb qd qa qc)), .val (.long (v0_2 qa qc)), .second, .val (.long (v0_3 qb qd)), .second, .val (.long ((v0_2 qa qc) - (v0_3 qb qd))), .second] [(.int (lcmpW (v0_3 qb qd) ((v0_2 qa qc) - (v0_3 qb qd)))), (.int (v0_1 qb qd qa qc))])) _
      refine XS.ifNo X5.here hx rfl (hb hby at_93) rfl ((if0 _ _).trans (tlt hd93_7).2.2.2) ?_
      show Steps p.tables e below (T5.setTop (mkF m 96 #[.val (.long qa), .second, .val (.long qb), .second, .val (.long qc), .second, .val (.long qd), .second, .val (.long (qa &&& (2305843009213693951 : Int64))), .second, .val (.long (qb &&& (2305843009213693951 : Int64))), .second, .val (.long (qc &&& (2305843009213693951 : Int64))), .second, .val (.long (qd &&& (2305843009213693951 : Int64))), .second, .val (.ref b1), .val (.ref b3), .val (.int (v0_1 qb qd qa qc)), .val (.long (v0_2 qa qc)), .second, .val (.long (v0_3 qb qd)), .second, .val (.long ((v0_2 qa qc) - (v0_3 qb qd))), .second] [(.int (v0_1 qb qd qa qc))])) _
      refine XS.iconst X5.here hx rfl (hb hby at_96) ?_
      show Steps p.tables e below (T5.setTop (mkF m 97 #[.val (.long qa), .second, .val (.long qb), .second, .val (.long qc), .second, .val (.long qd), .second, .val (.long (qa &&& (2305843009213693951 : Int64))), .second, .val (.long (qb &&& (2305843009213693951 : Int64))), .second, .val (.long (qc &&& (2305843009213693951 : Int64))), .second, .val (.long (qd &&& (2305843009213693951 : Int64))), .second, .val (.ref b1), .val (.ref b3), .val (.int (v0_1 qb qd qa qc)), .val (.long (v0_2 qa qc)), .second, .val (.long (v0_3 qb qd)), .second, .val (.long ((v0_2 qa qc) - (v0_3 qb qd))), .second] [(.int (1 : Int32)), (.int (v0_1 qb qd qa qc))])) _
      refine XS.goto X5.here hx rfl (pc0 := 97) (pc' := 101) rfl (hb hby at_97) (by decide) (by decide) ?_
      exact k
    · try simp only [if_neg hd93_7] at k
      show Steps p.tables e below (T5.setTop (mkF m 93 #[.val (.long qa), .second, .val (.long qb), .second, .val (.long qc), .second, .val (.long qd), .second, .val (.long (qa &&& (2305843009213693951 : Int64))), .second, .val (.long (qb &&& (2305843009213693951 : Int64))), .second, .val (.long (qc &&& (2305843009213693951 : Int64))), .second, .val (.long (qd &&& (2305843009213693951 : Int64))), .second, .val (.ref b1), .val (.ref b3), .val (.int (v0_1 qb qd qa qc)), .val (.long (v0_2 qa qc)), .second, .val (.long (v0_3 qb qd)), .second, .val (.long ((v0_2 qa qc) - (v0_3 qb qd))), .second] [(.int (lcmpW (v0_3 qb qd) ((v0_2 qa qc) - (v0_3 qb qd)))), (.int (v0_1 qb qd qa qc))])) _
      refine XS.ifYes X5.here hx rfl (pc0 := 93) (pc' := 100) rfl (hb hby at_93) rfl ((if0 _ _).trans (flt hd93_7).2.2.2) (by decide) (by decide) ?_
      show Steps p.tables e below (T5.setTop (mkF m 100 #[.val (.long qa), .second, .val (.long qb), .second, .val (.long qc), .second, .val (.long qd), .second, .val (.long (qa &&& (2305843009213693951 : Int64))), .second, .val (.long (qb &&& (2305843009213693951 : Int64))), .second, .val (.long (qc &&& (2305843009213693951 : Int64))), .second, .val (.long (qd &&& (2305843009213693951 : Int64))), .second, .val (.ref b1), .val (.ref b3), .val (.int (v0_1 qb qd qa qc)), .val (.long (v0_2 qa qc)), .second, .val (.long (v0_3 qb qd)), .second, .val (.long ((v0_2 qa qc) - (v0_3 qb qd))), .second] [(.int (v0_1 qb qd qa qc))])) _
      refine XS.iconst X5.here hx rfl (hb hby at_100) ?_
      exact k
    )
  by_cases hc101_9 : (v0_1 qb qd qa qc) = (v0_4 qb qd qa qc)
  · have pre10 : ∀ t, Steps p.tables e below (T5.setTop (mkF m 110 #[.val (.long qa), .second, .val (.long qb), .second, .val (.long qc), .second, .val (.long qd), .second, .val (.long (qa &&& (2305843009213693951 : Int64))), .second, .val (.long (qb &&& (2305843009213693951 : Int64))), .second, .val (.long (qc &&& (2305843009213693951 : Int64))), .second, .val (.long (qd &&& (2305843009213693951 : Int64))), .second, .val (.ref b1), .val (.ref b3), .val (.int (v0_1 qb qd qa qc)), .val (.long (v0_2 qa qc)), .second, .val (.long (v0_3 qb qd)), .second, .val (.long ((v0_2 qa qc) - (v0_3 qb qd))), .second] [(.int (lcmpW (v0_2 qa qc) (0 : Int64)))])) t → Steps p.tables e below (s₁.setTop (entryFrame m #[(.long qa), (.long qb), (.long qc), (.long qd)] maxLocals)) t := fun t k => pre8 t (by
      show Steps p.tables e below (T5.setTop (mkF m 101 #[.val (.long qa), .second, .val (.long qb), .second, .val (.long qc), .second, .val (.long qd), .second, .val (.long (qa &&& (2305843009213693951 : Int64))), .second, .val (.long (qb &&& (2305843009213693951 : Int64))), .second, .val (.long (qc &&& (2305843009213693951 : Int64))), .second, .val (.long (qd &&& (2305843009213693951 : Int64))), .second, .val (.ref b1), .val (.ref b3), .val (.int (v0_1 qb qd qa qc)), .val (.long (v0_2 qa qc)), .second, .val (.long (v0_3 qb qd)), .second, .val (.long ((v0_2 qa qc) - (v0_3 qb qd))), .second] [(.int (v0_4 qb qd qa qc)), (.int (v0_1 qb qd qa qc))])) _
      refine XS.icmpYes X5.here hx rfl (pc0 := 101) (pc' := 106) rfl (hb hby at_101) rfl (teq hc101_9).1 (by decide) (by decide) ?_
      show Steps p.tables e below (T5.setTop (mkF m 106 #[.val (.long qa), .second, .val (.long qb), .second, .val (.long qc), .second, .val (.long qd), .second, .val (.long (qa &&& (2305843009213693951 : Int64))), .second, .val (.long (qb &&& (2305843009213693951 : Int64))), .second, .val (.long (qc &&& (2305843009213693951 : Int64))), .second, .val (.long (qd &&& (2305843009213693951 : Int64))), .second, .val (.ref b1), .val (.ref b3), .val (.int (v0_1 qb qd qa qc)), .val (.long (v0_2 qa qc)), .second, .val (.long (v0_3 qb qd)), .second, .val (.long ((v0_2 qa qc) - (v0_3 qb qd))), .second] [])) _
      refine XS.lload X5.here hx rfl (hb hby at_106) rfl ?_
      show Steps p.tables e below (T5.setTop (mkF m 108 #[.val (.long qa), .second, .val (.long qb), .second, .val (.long qc), .second, .val (.long qd), .second, .val (.long (qa &&& (2305843009213693951 : Int64))), .second, .val (.long (qb &&& (2305843009213693951 : Int64))), .second, .val (.long (qc &&& (2305843009213693951 : Int64))), .second, .val (.long (qd &&& (2305843009213693951 : Int64))), .second, .val (.ref b1), .val (.ref b3), .val (.int (v0_1 qb qd qa qc)), .val (.long (v0_2 qa qc)), .second, .val (.long (v0_3 qb qd)), .second, .val (.long ((v0_2 qa qc) - (v0_3 qb qd))), .second] [(.long (v0_2 qa qc))])) _
      refine XS.lconst X5.here hx rfl (hb hby at_108) ?_
      show Steps p.tables e below (T5.setTop (mkF m 109 #[.val (.long qa), .second, .val (.long qb), .second, .val (.long qc), .second, .val (.long qd), .second, .val (.long (qa &&& (2305843009213693951 : Int64))), .second, .val (.long (qb &&& (2305843009213693951 : Int64))), .second, .val (.long (qc &&& (2305843009213693951 : Int64))), .second, .val (.long (qd &&& (2305843009213693951 : Int64))), .second, .val (.ref b1), .val (.ref b3), .val (.int (v0_1 qb qd qa qc)), .val (.long (v0_2 qa qc)), .second, .val (.long (v0_3 qb qd)), .second, .val (.long ((v0_2 qa qc) - (v0_3 qb qd))), .second] [(.long (0 : Int64)), (.long (v0_2 qa qc))])) _
      refine XS.lcmp X5.here hx rfl (hb hby at_109) rfl ?_
      show Steps p.tables e below (T5.setTop (mkF m 110 #[.val (.long qa), .second, .val (.long qb), .second, .val (.long qc), .second, .val (.long qd), .second, .val (.long (qa &&& (2305843009213693951 : Int64))), .second, .val (.long (qb &&& (2305843009213693951 : Int64))), .second, .val (.long (qc &&& (2305843009213693951 : Int64))), .second, .val (.long (qd &&& (2305843009213693951 : Int64))), .second, .val (.ref b1), .val (.ref b3), .val (.int (v0_1 qb qd qa qc)), .val (.long (v0_2 qa qc)), .second, .val (.long (v0_3 qb qd)), .second, .val (.long ((v0_2 qa qc) - (v0_3 qb qd))), .second] [(.int (lcmpW (v0_2 qa qc) (0 : Int64)))])) _
      exact k)
    by_cases hc110_11 : (lcmpW (v0_2 qa qc) (0 : Int64)) < (0 : Int32)
    · have pre12 : ∀ t, Steps p.tables e below (T5.setTop (mkF m 141 #[.val (.long qa), .second, .val (.long qb), .second, .val (.long qc), .second, .val (.long qd), .second, .val (.long (qa &&& (2305843009213693951 : Int64))), .second, .val (.long (qb &&& (2305843009213693951 : Int64))), .second, .val (.long (qc &&& (2305843009213693951 : Int64))), .second, .val (.long (qd &&& (2305843009213693951 : Int64))), .second, .val (.ref b1), .val (.ref b3), .val (.int (v0_1 qb qd qa qc)), .val (.long (v0_2 qa qc)), .second, .val (.long (v0_3 qb qd)), .second, .val (.long ((v0_2 qa qc) - (v0_3 qb qd))), .second] [(.int (lcmpW (v0_2 qa qc) (0 : Int64)))])) t → Steps p.tables e below (s₁.setTop (entryFrame m #[(.long qa), (.long qb), (.long qc), (.long qd)] maxLocals)) t := fun t k => pre10 t (by
        show Steps p.tables e below (T5.setTop (mkF m 110 #[.val (.long qa), .second, .val (.long qb), .second, .val (.long qc), .second, .val (.long qd), .second, .val (.long (qa &&& (2305843009213693951 : Int64))), .second, .val (.long (qb &&& (2305843009213693951 : Int64))), .second, .val (.long (qc &&& (2305843009213693951 : Int64))), .second, .val (.long (qd &&& (2305843009213693951 : Int64))), .second, .val (.ref b1), .val (.ref b3), .val (.int (v0_1 qb qd qa qc)), .val (.long (v0_2 qa qc)), .second, .val (.long (v0_3 qb qd)), .second, .val (.long ((v0_2 qa qc) - (v0_3 qb qd))), .second] [(.int (lcmpW (v0_2 qa qc) (0 : Int64)))])) _
        refine XS.ifYes X5.here hx rfl (pc0 := 110) (pc' := 137) rfl (hb hby at_110) rfl ((if0 _ _).trans (tlt hc110_11).1) (by decide) (by decide) ?_
        show Steps p.tables e below (T5.setTop (mkF m 137 #[.val (.long qa), .second, .val (.long qb), .second, .val (.long qc), .second, .val (.long qd), .second, .val (.long (qa &&& (2305843009213693951 : Int64))), .second, .val (.long (qb &&& (2305843009213693951 : Int64))), .second, .val (.long (qc &&& (2305843009213693951 : Int64))), .second, .val (.long (qd &&& (2305843009213693951 : Int64))), .second, .val (.ref b1), .val (.ref b3), .val (.int (v0_1 qb qd qa qc)), .val (.long (v0_2 qa qc)), .second, .val (.long (v0_3 qb qd)), .second, .val (.long ((v0_2 qa qc) - (v0_3 qb qd))), .second] [])) _
        refine XS.lload X5.here hx rfl (hb hby at_137) rfl ?_
        show Steps p.tables e below (T5.setTop (mkF m 139 #[.val (.long qa), .second, .val (.long qb), .second, .val (.long qc), .second, .val (.long qd), .second, .val (.long (qa &&& (2305843009213693951 : Int64))), .second, .val (.long (qb &&& (2305843009213693951 : Int64))), .second, .val (.long (qc &&& (2305843009213693951 : Int64))), .second, .val (.long (qd &&& (2305843009213693951 : Int64))), .second, .val (.ref b1), .val (.ref b3), .val (.int (v0_1 qb qd qa qc)), .val (.long (v0_2 qa qc)), .second, .val (.long (v0_3 qb qd)), .second, .val (.long ((v0_2 qa qc) - (v0_3 qb qd))), .second] [(.long (v0_2 qa qc))])) _
        refine XS.lconst X5.here hx rfl (hb hby at_139) ?_
        show Steps p.tables e below (T5.setTop (mkF m 140 #[.val (.long qa), .second, .val (.long qb), .second, .val (.long qc), .second, .val (.long qd), .second, .val (.long (qa &&& (2305843009213693951 : Int64))), .second, .val (.long (qb &&& (2305843009213693951 : Int64))), .second, .val (.long (qc &&& (2305843009213693951 : Int64))), .second, .val (.long (qd &&& (2305843009213693951 : Int64))), .second, .val (.ref b1), .val (.ref b3), .val (.int (v0_1 qb qd qa qc)), .val (.long (v0_2 qa qc)), .second, .val (.long (v0_3 qb qd)), .second, .val (.long ((v0_2 qa qc) - (v0_3 qb qd))), .second] [(.long (0 : Int64)), (.long (v0_2 qa qc))])) _
        refine XS.lcmp X5.here hx rfl (hb hby at_140) rfl ?_
        show Steps p.tables e below (T5.setTop (mkF m 141 #[.val (.long qa), .second, .val (.long qb), .second, .val (.long qc), .second, .val (.long qd), .second, .val (.long (qa &&& (2305843009213693951 : Int64))), .second, .val (.long (qb &&& (2305843009213693951 : Int64))), .second, .val (.long (qc &&& (2305843009213693951 : Int64))), .second, .val (.long (qd &&& (2305843009213693951 : Int64))), .second, .val (.ref b1), .val (.ref b3), .val (.int (v0_1 qb qd qa qc)), .val (.long (v0_2 qa qc)), .second, .val (.long (v0_3 qb qd)), .second, .val (.long ((v0_2 qa qc) - (v0_3 qb qd))), .second] [(.int (lcmpW (v0_2 qa qc) (0 : Int64)))])) _
        exact k)
      by_cases hc141_13 : (lcmpW (v0_2 qa qc) (0 : Int64)) = (0 : Int32)
      · have pre14 : ∀ t, Steps p.tables e below (T5.setTop (mkF m 148 #[.val (.long qa), .second, .val (.long qb), .second, .val (.long qc), .second, .val (.long qd), .second, .val (.long (qa &&& (2305843009213693951 : Int64))), .second, .val (.long (qb &&& (2305843009213693951 : Int64))), .second, .val (.long (qc &&& (2305843009213693951 : Int64))), .second, .val (.long (qd &&& (2305843009213693951 : Int64))), .second, .val (.ref b1), .val (.ref b3), .val (.int (v0_1 qb qd qa qc)), .val (.long (v0_2 qa qc)), .second, .val (.long (v0_3 qb qd)), .second, .val (.long ((v0_2 qa qc) - (v0_3 qb qd))), .second] [(.int (lcmpW (v0_3 qb qd) (0 : Int64)))])) t → Steps p.tables e below (s₁.setTop (entryFrame m #[(.long qa), (.long qb), (.long qc), (.long qd)] maxLocals)) t := fun t k => pre12 t (by
          show Steps p.tables e below (T5.setTop (mkF m 141 #[.val (.long qa), .second, .val (.long qb), .second, .val (.long qc), .second, .val (.long qd), .second, .val (.long (qa &&& (2305843009213693951 : Int64))), .second, .val (.long (qb &&& (2305843009213693951 : Int64))), .second, .val (.long (qc &&& (2305843009213693951 : Int64))), .second, .val (.long (qd &&& (2305843009213693951 : Int64))), .second, .val (.ref b1), .val (.ref b3), .val (.int (v0_1 qb qd qa qc)), .val (.long (v0_2 qa qc)), .second, .val (.long (v0_3 qb qd)), .second, .val (.long ((v0_2 qa qc) - (v0_3 qb qd))), .second] [(.int (lcmpW (v0_2 qa qc) (0 : Int64)))])) _
          refine XS.ifNo X5.here hx rfl (hb hby at_141) rfl ((if0 _ _).trans (teq hc141_13).2) ?_
          show Steps p.tables e below (T5.setTop (mkF m 144 #[.val (.long qa), .second, .val (.long qb), .second, .val (.long qc), .second, .val (.long qd), .second, .val (.long (qa &&& (2305843009213693951 : Int64))), .second, .val (.long (qb &&& (2305843009213693951 : Int64))), .second, .val (.long (qc &&& (2305843009213693951 : Int64))), .second, .val (.long (qd &&& (2305843009213693951 : Int64))), .second, .val (.ref b1), .val (.ref b3), .val (.int (v0_1 qb qd qa qc)), .val (.long (v0_2 qa qc)), .second, .val (.long (v0_3 qb qd)), .second, .val (.long ((v0_2 qa qc) - (v0_3 qb qd))), .second] [])) _
          refine XS.lload X5.here hx rfl (hb hby at_144) rfl ?_
          show Steps p.tables e below (T5.setTop (mkF m 146 #[.val (.long qa), .second, .val (.long qb), .second, .val (.long qc), .second, .val (.long qd), .second, .val (.long (qa &&& (2305843009213693951 : Int64))), .second, .val (.long (qb &&& (2305843009213693951 : Int64))), .second, .val (.long (qc &&& (2305843009213693951 : Int64))), .second, .val (.long (qd &&& (2305843009213693951 : Int64))), .second, .val (.ref b1), .val (.ref b3), .val (.int (v0_1 qb qd qa qc)), .val (.long (v0_2 qa qc)), .second, .val (.long (v0_3 qb qd)), .second, .val (.long ((v0_2 qa qc) - (v0_3 qb qd))), .second] [(.long (v0_3 qb qd))])) _
          refine XS.lconst X5.here hx rfl (hb hby at_146) ?_
          show Steps p.tables e below (T5.setTop (mkF m 147 #[.val (.long qa), .second, .val (.long qb), .second, .val (.long qc), .second, .val (.long qd), .second, .val (.long (qa &&& (2305843009213693951 : Int64))), .second, .val (.long (qb &&& (2305843009213693951 : Int64))), .second, .val (.long (qc &&& (2305843009213693951 : Int64))), .second, .val (.long (qd &&& (2305843009213693951 : Int64))), .second, .val (.ref b1), .val (.ref b3), .val (.int (v0_1 qb qd qa qc)), .val (.long (v0_2 qa qc)), .second, .val (.long (v0_3 qb qd)), .second, .val (.long ((v0_2 qa qc) - (v0_3 qb qd))), .second] [(.long (0 : Int64)), (.long (v0_3 qb qd))])) _
          refine XS.lcmp X5.here hx rfl (hb hby at_147) rfl ?_
          show Steps p.tables e below (T5.setTop (mkF m 148 #[.val (.long qa), .second, .val (.long qb), .second, .val (.long qc), .second, .val (.long qd), .second, .val (.long (qa &&& (2305843009213693951 : Int64))), .second, .val (.long (qb &&& (2305843009213693951 : Int64))), .second, .val (.long (qc &&& (2305843009213693951 : Int64))), .second, .val (.long (qd &&& (2305843009213693951 : Int64))), .second, .val (.ref b1), .val (.ref b3), .val (.int (v0_1 qb qd qa qc)), .val (.long (v0_2 qa qc)), .second, .val (.long (v0_3 qb qd)), .second, .val (.long ((v0_2 qa qc) - (v0_3 qb qd))), .second] [(.int (lcmpW (v0_3 qb qd) (0 : Int64)))])) _
          exact k)
        by_cases hc148_15 : (0 : Int32) < (lcmpW (v0_3 qb qd) (0 : Int64))
        · have hv : (f0 qa qb qc qd) = (1 : Int32) := by simp only [f0, if_pos hc101_9, if_pos hc110_11, if_pos hc141_13, if_pos hc148_15]
          obtain ⟨fs, hr, hrun, hended, hW, hsame⟩ := X5.leave (v := some (.int (1 : Int32))) (fun h => by rw [Bd.returns] at h; cases h)
          refine ⟨_, _, pre14 _ ?_, hrun, hended, _, _, rfl, ?_, ⟨_, rfl⟩, hW, hsame.mono (by decide) (by decide)⟩
          · show Steps p.tables e below (T5.setTop (mkF m 148 #[.val (.long qa), .second, .val (.long qb), .second, .val (.long qc), .second, .val (.long qd), .second, .val (.long (qa &&& (2305843009213693951 : Int64))), .second, .val (.long (qb &&& (2305843009213693951 : Int64))), .second, .val (.long (qc &&& (2305843009213693951 : Int64))), .second, .val (.long (qd &&& (2305843009213693951 : Int64))), .second, .val (.ref b1), .val (.ref b3), .val (.int (v0_1 qb qd qa qc)), .val (.long (v0_2 qa qc)), .second, .val (.long (v0_3 qb qd)), .second, .val (.long ((v0_2 qa qc) - (v0_3 qb qd))), .second] [(.int (lcmpW (v0_3 qb qd) (0 : Int64)))])) _
            refine XS.ifYes X5.here hx rfl (pc0 := 148) (pc' := 158) rfl (hb hby at_148) rfl ((if0 _ _).trans (tlt hc148_15).2.2.1) (by decide) (by decide) ?_
            show Steps p.tables e below (T5.setTop (mkF m 158 #[.val (.long qa), .second, .val (.long qb), .second, .val (.long qc), .second, .val (.long qd), .second, .val (.long (qa &&& (2305843009213693951 : Int64))), .second, .val (.long (qb &&& (2305843009213693951 : Int64))), .second, .val (.long (qc &&& (2305843009213693951 : Int64))), .second, .val (.long (qd &&& (2305843009213693951 : Int64))), .second, .val (.ref b1), .val (.ref b3), .val (.int (v0_1 qb qd qa qc)), .val (.long (v0_2 qa qc)), .second, .val (.long (v0_3 qb qd)), .second, .val (.long ((v0_2 qa qc) - (v0_3 qb qd))), .second] [])) _
            refine XS.iconst X5.here hx rfl (hb hby at_158) ?_
            show Steps p.tables e below (T5.setTop (mkF m 159 #[.val (.long qa), .second, .val (.long qb), .second, .val (.long qc), .second, .val (.long qd), .second, .val (.long (qa &&& (2305843009213693951 : Int64))), .second, .val (.long (qb &&& (2305843009213693951 : Int64))), .second, .val (.long (qc &&& (2305843009213693951 : Int64))), .second, .val (.long (qd &&& (2305843009213693951 : Int64))), .second, .val (.ref b1), .val (.ref b3), .val (.int (v0_1 qb qd qa qc)), .val (.long (v0_2 qa qc)), .second, .val (.long (v0_3 qb qd)), .second, .val (.long ((v0_2 qa qc) - (v0_3 qb qd))), .second] [(.int (1 : Int32))])) _
            exact retN X5 hx (t := .boolean) Bd.returns (by simp) (hb hby at_159) hr
          · show Q0 Z qa qb qc qd h0 n0 _ T5.heap _
            rw [e5]
            exact ⟨by rw [hv], N5⟩
        · have pre16 : ∀ t, Steps p.tables e below (T5.setTop (mkF m 153 #[.val (.long qa), .second, .val (.long qb), .second, .val (.long qc), .second, .val (.long qd), .second, .val (.long (qa &&& (2305843009213693951 : Int64))), .second, .val (.long (qb &&& (2305843009213693951 : Int64))), .second, .val (.long (qc &&& (2305843009213693951 : Int64))), .second, .val (.long (qd &&& (2305843009213693951 : Int64))), .second, .val (.ref b1), .val (.ref b3), .val (.int (v0_1 qb qd qa qc)), .val (.long (v0_2 qa qc)), .second, .val (.long (v0_3 qb qd)), .second, .val (.long ((v0_2 qa qc) - (v0_3 qb qd))), .second] [(.int (v0_1 qb qd qa qc))])) t → Steps p.tables e below (s₁.setTop (entryFrame m #[(.long qa), (.long qb), (.long qc), (.long qd)] maxLocals)) t := fun t k => pre14 t (by
            show Steps p.tables e below (T5.setTop (mkF m 148 #[.val (.long qa), .second, .val (.long qb), .second, .val (.long qc), .second, .val (.long qd), .second, .val (.long (qa &&& (2305843009213693951 : Int64))), .second, .val (.long (qb &&& (2305843009213693951 : Int64))), .second, .val (.long (qc &&& (2305843009213693951 : Int64))), .second, .val (.long (qd &&& (2305843009213693951 : Int64))), .second, .val (.ref b1), .val (.ref b3), .val (.int (v0_1 qb qd qa qc)), .val (.long (v0_2 qa qc)), .second, .val (.long (v0_3 qb qd)), .second, .val (.long ((v0_2 qa qc) - (v0_3 qb qd))), .second] [(.int (lcmpW (v0_3 qb qd) (0 : Int64)))])) _
            refine XS.ifNo X5.here hx rfl (hb hby at_148) rfl ((if0 _ _).trans (flt hc148_15).2.2.1) ?_
            show Steps p.tables e below (T5.setTop (mkF m 151 #[.val (.long qa), .second, .val (.long qb), .second, .val (.long qc), .second, .val (.long qd), .second, .val (.long (qa &&& (2305843009213693951 : Int64))), .second, .val (.long (qb &&& (2305843009213693951 : Int64))), .second, .val (.long (qc &&& (2305843009213693951 : Int64))), .second, .val (.long (qd &&& (2305843009213693951 : Int64))), .second, .val (.ref b1), .val (.ref b3), .val (.int (v0_1 qb qd qa qc)), .val (.long (v0_2 qa qc)), .second, .val (.long (v0_3 qb qd)), .second, .val (.long ((v0_2 qa qc) - (v0_3 qb qd))), .second] [])) _
            refine XS.iload X5.here hx rfl (hb hby at_151) rfl ?_
            show Steps p.tables e below (T5.setTop (mkF m 153 #[.val (.long qa), .second, .val (.long qb), .second, .val (.long qc), .second, .val (.long qd), .second, .val (.long (qa &&& (2305843009213693951 : Int64))), .second, .val (.long (qb &&& (2305843009213693951 : Int64))), .second, .val (.long (qc &&& (2305843009213693951 : Int64))), .second, .val (.long (qd &&& (2305843009213693951 : Int64))), .second, .val (.ref b1), .val (.ref b3), .val (.int (v0_1 qb qd qa qc)), .val (.long (v0_2 qa qc)), .second, .val (.long (v0_3 qb qd)), .second, .val (.long ((v0_2 qa qc) - (v0_3 qb qd))), .second] [(.int (v0_1 qb qd qa qc))])) _
            exact k)
          by_cases hc153_17 : (v0_1 qb qd qa qc) = (0 : Int32)
          · have hv : (f0 qa qb qc qd) = (1 : Int32) := by simp only [f0, if_pos hc101_9, if_pos hc110_11, if_pos hc141_13, if_neg hc148_15, if_pos hc153_17]
            obtain ⟨fs, hr, hrun, hended, hW, hsame⟩ := X5.leave (v := some (.int (1 : Int32))) (fun h => by rw [Bd.returns] at h; cases h)
            refine ⟨_, _, pre16 _ ?_, hrun, hended, _, _, rfl, ?_, ⟨_, rfl⟩, hW, hsame.mono (by decide) (by decide)⟩
            · show Steps p.tables e below (T5.setTop (mkF m 153 #[.val (.long qa), .second, .val (.long qb), .second, .val (.long qc), .second, .val (.long qd), .second, .val (.long (qa &&& (2305843009213693951 : Int64))), .second, .val (.long (qb &&& (2305843009213693951 : Int64))), .second, .val (.long (qc &&& (2305843009213693951 : Int64))), .second, .val (.long (qd &&& (2305843009213693951 : Int64))), .second, .val (.ref b1), .val (.ref b3), .val (.int (v0_1 qb qd qa qc)), .val (.long (v0_2 qa qc)), .second, .val (.long (v0_3 qb qd)), .second, .val (.long ((v0_2 qa qc) - (v0_3 qb qd))), .second] [(.int (v0_1 qb qd qa qc))])) _
              refine XS.ifYes X5.here hx rfl (pc0 := 153) (pc' := 158) rfl (hb hby at_153) rfl ((if0 _ _).trans (teq hc153_17).1) (by decide) (by decide) ?_
              show Steps p.tables e below (T5.setTop (mkF m 158 #[.val (.long qa), .second, .val (.long qb), .second, .val (.long qc), .second, .val (.long qd), .second, .val (.long (qa &&& (2305843009213693951 : Int64))), .second, .val (.long (qb &&& (2305843009213693951 : Int64))), .second, .val (.long (qc &&& (2305843009213693951 : Int64))), .second, .val (.long (qd &&& (2305843009213693951 : Int64))), .second, .val (.ref b1), .val (.ref b3), .val (.int (v0_1 qb qd qa qc)), .val (.long (v0_2 qa qc)), .second, .val (.long (v0_3 qb qd)), .second, .val (.long ((v0_2 qa qc) - (v0_3 qb qd))), .second] [])) _
              refine XS.iconst X5.here hx rfl (hb hby at_158) ?_
              show Steps p.tables e below (T5.setTop (mkF m 159 #[.val (.long qa), .second, .val (.long qb), .second, .val (.long qc), .second, .val (.long qd), .second, .val (.long (qa &&& (2305843009213693951 : Int64))), .second, .val (.long (qb &&& (2305843009213693951 : Int64))), .second, .val (.long (qc &&& (2305843009213693951 : Int64))), .second, .val (.long (qd &&& (2305843009213693951 : Int64))), .second, .val (.ref b1), .val (.ref b3), .val (.int (v0_1 qb qd qa qc)), .val (.long (v0_2 qa qc)), .second, .val (.long (v0_3 qb qd)), .second, .val (.long ((v0_2 qa qc) - (v0_3 qb qd))), .second] [(.int (1 : Int32))])) _
              exact retN X5 hx (t := .boolean) Bd.returns (by simp) (hb hby at_159) hr
            · show Q0 Z qa qb qc qd h0 n0 _ T5.heap _
              rw [e5]
              exact ⟨by rw [hv], N5⟩
          · have hv : (f0 qa qb qc qd) = (0 : Int32) := by simp only [f0, if_pos hc101_9, if_pos hc110_11, if_pos hc141_13, if_neg hc148_15, if_neg hc153_17]
            obtain ⟨fs, hr, hrun, hended, hW, hsame⟩ := X5.leave (v := some (.int (0 : Int32))) (fun h => by rw [Bd.returns] at h; cases h)
            refine ⟨_, _, pre16 _ ?_, hrun, hended, _, _, rfl, ?_, ⟨_, rfl⟩, hW, hsame.mono (by decide) (by decide)⟩
            · show Steps p.tables e below (T5.setTop (mkF m 153 #[.val (.long qa), .second, .val (.long qb), .second, .val (.long qc), .second, .val (.long qd), .second, .val (.long (qa &&& (2305843009213693951 : Int64))), .second, .val (.long (qb &&& (2305843009213693951 : Int64))), .second, .val (.long (qc &&& (2305843009213693951 : Int64))), .second, .val (.long (qd &&& (2305843009213693951 : Int64))), .second, .val (.ref b1), .val (.ref b3), .val (.int (v0_1 qb qd qa qc)), .val (.long (v0_2 qa qc)), .second, .val (.long (v0_3 qb qd)), .second, .val (.long ((v0_2 qa qc) - (v0_3 qb qd))), .second] [(.int (v0_1 qb qd qa qc))])) _
              refine XS.ifNo X5.here hx rfl (hb hby at_153) rfl ((if0 _ _).trans (feq hc153_17).1) ?_
              show Steps p.tables e below (T5.setTop (mkF m 156 #[.val (.long qa), .second, .val (.long qb), .second, .val (.long qc), .second, .val (.long qd), .second, .val (.long (qa &&& (2305843009213693951 : Int64))), .second, .val (.long (qb &&& (2305843009213693951 : Int64))), .second, .val (.long (qc &&& (2305843009213693951 : Int64))), .second, .val (.long (qd &&& (2305843009213693951 : Int64))), .second, .val (.ref b1), .val (.ref b3), .val (.int (v0_1 qb qd qa qc)), .val (.long (v0_2 qa qc)), .second, .val (.long (v0_3 qb qd)), .second, .val (.long ((v0_2 qa qc) - (v0_3 qb qd))), .second] [])) _
              refine XS.iconst X5.here hx rfl (hb hby at_156) ?_
              show Steps p.tables e below (T5.setTop (mkF m 157 #[.val (.long qa), .second, .val (.long qb), .second, .val (.long qc), .second, .val (.long qd), .second, .val (.long (qa &&& (2305843009213693951 : Int64))), .second, .val (.long (qb &&& (2305843009213693951 : Int64))), .second, .val (.long (qc &&& (2305843009213693951 : Int64))), .second, .val (.long (qd &&& (2305843009213693951 : Int64))), .second, .val (.ref b1), .val (.ref b3), .val (.int (v0_1 qb qd qa qc)), .val (.long (v0_2 qa qc)), .second, .val (.long (v0_3 qb qd)), .second, .val (.long ((v0_2 qa qc) - (v0_3 qb qd))), .second] [(.int (0 : Int32))])) _
              exact retN X5 hx (t := .boolean) Bd.returns (by simp) (hb hby at_157) hr
            · show Q0 Z qa qb qc qd h0 n0 _ T5.heap _
              rw [e5]
              exact ⟨by rw [hv], N5⟩
      · have hv : (f0 qa qb qc qd) = (1 : Int32) := by simp only [f0, if_pos hc101_9, if_pos hc110_11, if_neg hc141_13]
        obtain ⟨fs, hr, hrun, hended, hW, hsame⟩ := X5.leave (v := some (.int (1 : Int32))) (fun h => by rw [Bd.returns] at h; cases h)
        refine ⟨_, _, pre12 _ ?_, hrun, hended, _, _, rfl, ?_, ⟨_, rfl⟩, hW, hsame.mono (by decide) (by decide)⟩
        · show Steps p.tables e below (T5.setTop (mkF m 141 #[.val (.long qa), .second, .val (.long qb), .second, .val (.long qc), .second, .val (.long qd), .second, .val (.long (qa &&& (2305843009213693951 : Int64))), .second, .val (.long (qb &&& (2305843009213693951 : Int64))), .second, .val (.long (qc &&& (2305843009213693951 : Int64))), .second, .val (.long (qd &&& (2305843009213693951 : Int64))), .second, .val (.ref b1), .val (.ref b3), .val (.int (v0_1 qb qd qa qc)), .val (.long (v0_2 qa qc)), .second, .val (.long (v0_3 qb qd)), .second, .val (.long ((v0_2 qa qc) - (v0_3 qb qd))), .second] [(.int (lcmpW (v0_2 qa qc) (0 : Int64)))])) _
          refine XS.ifYes X5.here hx rfl (pc0 := 141) (pc' := 158) rfl (hb hby at_141) rfl ((if0 _ _).trans (feq hc141_13).2) (by decide) (by decide) ?_
          show Steps p.tables e below (T5.setTop (mkF m 158 #[.val (.long qa), .second, .val (.long qb), .second, .val (.long qc), .second, .val (.long qd), .second, .val (.long (qa &&& (2305843009213693951 : Int64))), .second, .val (.long (qb &&& (2305843009213693951 : Int64))), .second, .val (.long (qc &&& (2305843009213693951 : Int64))), .second, .val (.long (qd &&& (2305843009213693951 : Int64))), .second, .val (.ref b1), .val (.ref b3), .val (.int (v0_1 qb qd qa qc)), .val (.long (v0_2 qa qc)), .second, .val (.long (v0_3 qb qd)), .second, .val (.long ((v0_2 qa qc) - (v0_3 qb qd))), .second] [])) _
          refine XS.iconst X5.here hx rfl (hb hby at_158) ?_
          show Steps p.tables e below (T5.setTop (mkF m 159 #[.val (.long qa), .second, .val (.long qb), .second, .val (.long qc), .second, .val (.long qd), .second, .val (.long (qa &&& (2305843009213693951 : Int64))), .second, .val (.long (qb &&& (2305843009213693951 : Int64))), .second, .val (.long (qc &&& (2305843009213693951 : Int64))), .second, .val (.long (qd &&& (2305843009213693951 : Int64))), .second, .val (.ref b1), .val (.ref b3), .val (.int (v0_1 qb qd qa qc)), .val (.long (v0_2 qa qc)), .second, .val (.long (v0_3 qb qd)), .second, .val (.long ((v0_2 qa qc) - (v0_3 qb qd))), .second] [(.int (1 : Int32))])) _
          exact retN X5 hx (t := .boolean) Bd.returns (by simp) (hb hby at_159) hr
        · show Q0 Z qa qb qc qd h0 n0 _ T5.heap _
          rw [e5]
          exact ⟨by rw [hv], N5⟩
    · have pre18 : ∀ t, Steps p.tables e below (T5.setTop (mkF m 124 #[.val (.long qa), .second, .val (.long qb), .second, .val (.long qc), .second, .val (.long qd), .second, .val (.long (qa &&& (2305843009213693951 : Int64))), .second, .val (.long (qb &&& (2305843009213693951 : Int64))), .second, .val (.long (qc &&& (2305843009213693951 : Int64))), .second, .val (.long (qd &&& (2305843009213693951 : Int64))), .second, .val (.ref b1), .val (.ref b3), .val (.int (v0_1 qb qd qa qc)), .val (.long (v0_2 qa qc)), .second, .val (.long (v0_3 qb qd)), .second, .val (.long ((v0_2 qa qc) - (v0_3 qb qd))), .second] [(.int (lcmpW (v0_3 qb qd) ((v0_2 qa qc) / (2 : Int64)))), (.int (v0_1 qb qd qa qc))])) t → Steps p.tables e below (s₁.setTop (entryFrame m #[(.long qa), (.long qb), (.long qc), (.long qd)] maxLocals)) t := fun t k => pre10 t (by
        show Steps p.tables e below (T5.setTop (mkF m 110 #[.val (.long qa), .second, .val (.long qb), .second, .val (.long qc), .second, .val (.long qd), .second, .val (.long (qa &&& (2305843009213693951 : Int64))), .second, .val (.long (qb &&& (2305843009213693951 : Int64))), .second, .val (.long (qc &&& (2305843009213693951 : Int64))), .second, .val (.long (qd &&& (2305843009213693951 : Int64))), .second, .val (.ref b1), .val (.ref b3), .val (.int (v0_1 qb qd qa qc)), .val (.long (v0_2 qa qc)), .second, .val (.long (v0_3 qb qd)), .second, .val (.long ((v0_2 qa qc) - (v0_3 qb qd))), .second] [(.int (lcmpW (v0_2 qa qc) (0 : Int64)))])) _
        refine XS.ifNo X5.here hx rfl (hb hby at_110) rfl ((if0 _ _).trans (flt hc110_11).1) ?_
        show Steps p.tables e below (T5.setTop (mkF m 113 #[.val (.long qa), .second, .val (.long qb), .second, .val (.long qc), .second, .val (.long qd), .second, .val (.long (qa &&& (2305843009213693951 : Int64))), .second, .val (.long (qb &&& (2305843009213693951 : Int64))), .second, .val (.long (qc &&& (2305843009213693951 : Int64))), .second, .val (.long (qd &&& (2305843009213693951 : Int64))), .second, .val (.ref b1), .val (.ref b3), .val (.int (v0_1 qb qd qa qc)), .val (.long (v0_2 qa qc)), .second, .val (.long (v0_3 qb qd)), .second, .val (.long ((v0_2 qa qc) - (v0_3 qb qd))), .second] [])) _
        refine XS.iload X5.here hx rfl (hb hby at_113) rfl ?_
        show Steps p.tables e below (T5.setTop (mkF m 115 #[.val (.long qa), .second, .val (.long qb), .second, .val (.long qc), .second, .val (.long qd), .second, .val (.long (qa &&& (2305843009213693951 : Int64))), .second, .val (.long (qb &&& (2305843009213693951 : Int64))), .second, .val (.long (qc &&& (2305843009213693951 : Int64))), .second, .val (.long (qd &&& (2305843009213693951 : Int64))), .second, .val (.ref b1), .val (.ref b3), .val (.int (v0_1 qb qd qa qc)), .val (.long (v0_2 qa qc)), .second, .val (.long (v0_3 qb qd)), .second, .val (.long ((v0_2 qa qc) - (v0_3 qb qd))), .second] [(.int (v0_1 qb qd qa qc))])) _
        refine XS.lload X5.here hx rfl (hb hby at_115) rfl ?_
        show Steps p.tables e below (T5.setTop (mkF m 117 #[.val (.long qa), .second, .val (.long qb), .second, .val (.long qc), .second, .val (.long qd), .second, .val (.long (qa &&& (2305843009213693951 : Int64))), .second, .val (.long (qb &&& (2305843009213693951 : Int64))), .second, .val (.long (qc &&& (2305843009213693951 : Int64))), .second, .val (.long (qd &&& (2305843009213693951 : Int64))), .second, .val (.ref b1), .val (.ref b3), .val (.int (v0_1 qb qd qa qc)), .val (.long (v0_2 qa qc)), .second, .val (.long (v0_3 qb qd)), .second, .val (.long ((v0_2 qa qc) - (v0_3 qb qd))), .second] [(.long (v0_3 qb qd)), (.int (v0_1 qb qd qa qc))])) _
        refine XS.lload X5.here hx rfl (hb hby at_117) rfl ?_
        show Steps p.tables e below (T5.setTop (mkF m 119 #[.val (.long qa), .second, .val (.long qb), .second, .val (.long qc), .second, .val (.long qd), .second, .val (.long (qa &&& (2305843009213693951 : Int64))), .second, .val (.long (qb &&& (2305843009213693951 : Int64))), .second, .val (.long (qc &&& (2305843009213693951 : Int64))), .second, .val (.long (qd &&& (2305843009213693951 : Int64))), .second, .val (.ref b1), .val (.ref b3), .val (.int (v0_1 qb qd qa qc)), .val (.long (v0_2 qa qc)), .second, .val (.long (v0_3 qb qd)), .second, .val (.long ((v0_2 qa qc) - (v0_3 qb qd))), .second] [(.long (v0_2 qa qc)), (.long (v0_3 qb qd)), (.int (v0_1 qb qd qa qc))])) _
        refine X5.ldc2Long hx hown (mvT hZ (hw _ (List.mem_of_getElem? (i := 25) rfl))) (g := (mkF m 119 #[.val (.long qa), .second, .val (.long qb), .second, .val (.long qc), .second, .val (.long qd), .second, .val (.long (qa &&& (2305843009213693951 : Int64))), .second, .val (.long (qb &&& (2305843009213693951 : Int64))), .second, .val (.long (qc &&& (2305843009213693951 : Int64))), .second, .val (.long (qd &&& (2305843009213693951 : Int64))), .second, .val (.ref b1), .val (.ref b3), .val (.int (v0_1 qb qd qa qc)), .val (.long (v0_2 qa qc)), .second, .val (.long (v0_3 qb qd)), .second, .val (.long ((v0_2 qa qc) - (v0_3 qb qd))), .second] [(.long (v0_2 qa qc)), (.long (v0_3 qb qd)), (.int (v0_1 qb qd qa qc))])) rfl (hb hby at_119) _ ?_
        show Steps p.tables e below (T5.setTop (mkF m 122 #[.val (.long qa), .second, .val (.long qb), .second, .val (.long qc), .second, .val (.long qd), .second, .val (.long (qa &&& (2305843009213693951 : Int64))), .second, .val (.long (qb &&& (2305843009213693951 : Int64))), .second, .val (.long (qc &&& (2305843009213693951 : Int64))), .second, .val (.long (qd &&& (2305843009213693951 : Int64))), .second, .val (.ref b1), .val (.ref b3), .val (.int (v0_1 qb qd qa qc)), .val (.long (v0_2 qa qc)), .second, .val (.long (v0_3 qb qd)), .second, .val (.long ((v0_2 qa qc) - (v0_3 qb qd))), .second] [(.long (2 : Int64)), (.long (v0_2 qa qc)), (.long (v0_3 qb qd)), (.int (v0_1 qb qd qa qc))])) _
        refine XS.ldiv X5.here hx rfl (hb hby at_122) rfl (by decide) ?_
        show Steps p.tables e below (T5.setTop (mkF m 123 #[.val (.long qa), .second, .val (.long qb), .second, .val (.long qc), .second, .val (.long qd), .second, .val (.long (qa &&& (2305843009213693951 : Int64))), .second, .val (.long (qb &&& (2305843009213693951 : Int64))), .second, .val (.long (qc &&& (2305843009213693951 : Int64))), .second, .val (.long (qd &&& (2305843009213693951 : Int64))), .second, .val (.ref b1), .val (.ref b3), .val (.int (v0_1 qb qd qa qc)), .val (.long (v0_2 qa qc)), .second, .val (.long (v0_3 qb qd)), .second, .val (.long ((v0_2 qa qc) - (v0_3 qb qd))), .second] [(.long ((v0_2 qa qc) / (2 : Int64))), (.long (v0_3 qb qd)), (.int (v0_1 qb qd qa qc))])) _
        refine XS.lcmp X5.here hx rfl (hb hby at_123) rfl ?_
        show Steps p.tables e below (T5.setTop (mkF m 124 #[.val (.long qa), .second, .val (.long qb), .second, .val (.long qc), .second, .val (.long qd), .second, .val (.long (qa &&& (2305843009213693951 : Int64))), .second, .val (.long (qb &&& (2305843009213693951 : Int64))), .second, .val (.long (qc &&& (2305843009213693951 : Int64))), .second, .val (.long (qd &&& (2305843009213693951 : Int64))), .second, .val (.ref b1), .val (.ref b3), .val (.int (v0_1 qb qd qa qc)), .val (.long (v0_2 qa qc)), .second, .val (.long (v0_3 qb qd)), .second, .val (.long ((v0_2 qa qc) - (v0_3 qb qd))), .second] [(.int (lcmpW (v0_3 qb qd) ((v0_2 qa qc) / (2 : Int64)))), (.int (v0_1 qb qd qa qc))])) _
        exact k)
      have pre20 : ∀ t, Steps p.tables e below (T5.setTop (mkF m 132 #[.val (.long qa), .second, .val (.long qb), .second, .val (.long qc), .second, .val (.long qd), .second, .val (.long (qa &&& (2305843009213693951 : Int64))), .second, .val (.long (qb &&& (2305843009213693951 : Int64))), .second, .val (.long (qc &&& (2305843009213693951 : Int64))), .second, .val (.long (qd &&& (2305843009213693951 : Int64))), .second, .val (.ref b1), .val (.ref b3), .val (.int (v0_1 qb qd qa qc)), .val (.long (v0_2 qa qc)), .second, .val (.long (v0_3 qb qd)), .second, .val (.long ((v0_2 qa qc) - (v0_3 qb qd))), .second] [(.int (if (0 : Int32) < (lcmpW (v0_3 qb qd) ((v0_2 qa qc) / (2 : Int64))) then (1 : Int32) else (0 : Int32))), (.int (v0_1 qb qd qa qc))])) t → Steps p.tables e below (s₁.setTop (entryFrame m #[(.long qa), (.long qb), (.long qc), (.long qd)] maxLocals)) t := fun t k => pre18 t (by
        show Steps p.tables e below (T5.setTop (mkF m 124 #[.val (.long qa), .second, .val (.long qb), .second, .val (.long qc), .second, .val (.long qd), .second, .val (.long (qa &&& (2305843009213693951 : Int64))), .second, .val (.long (qb &&& (2305843009213693951 : Int64))), .second, .val (.long (qc &&& (2305843009213693951 : Int64))), .second, .val (.long (qd &&& (2305843009213693951 : Int64))), .second, .val (.ref b1), .val (.ref b3), .val (.int (v0_1 qb qd qa qc)), .val (.long (v0_2 qa qc)), .second, .val (.long (v0_3 qb qd)), .second, .val (.long ((v0_2 qa qc) - (v0_3 qb qd))), .second] [(.int (lcmpW (v0_3 qb qd) ((v0_2 qa qc) / (2 : Int64)))), (.int (v0_1 qb qd qa qc))])) _
        by_cases hd124_19 : (0 : Int32) < (lcmpW (v0_3 qb qd) ((v0_2 qa qc) / (2 : Int64)))
        · try simp only [if_pos hd124_19] at k
          show Steps p.tables e below (T5.setTop (mkF m 124 #[.val (.long qa), .second, .val (.long qb), .second, .val (.long qc), .second, .val (.long qd), .second, .val (.long (qa &&& (2305843009213693951 : Int64))), .second, .val (.long (qb &&& (2305843009213693951 : Int64))), .second, .val (.long (qc &&& (2305843009213693951 : Int64))), .second, .val (.long (qd &&& (2305843009213693951 : Int64))), .second, .val (.ref b1), .val (.ref b3), .val (.int (v0_1 qb qd qa qc)), .val (.long (v0_2 qa qc)), .second, .val (.long (v0_3 qb qd)), .second, .val (.long ((v0_2 qa qc) - (v0_3 qb qd))), .second] [(.int (lcmpW (v0_3 qb qd) ((v0_2 qa qc) / (2 : Int64)))), (.int (v0_1 qb qd qa qc))])) _
          refine XS.ifNo X5.here hx rfl (hb hby at_124) rfl ((if0 _ _).trans (tlt hd124_19).2.2.2) ?_
          show Steps p.tables e below (T5.setTop (mkF m 127 #[.val (.long qa), .second, .val (.long qb), .second, .val (.long qc), .second, .val (.long qd), .second, .val (.long (qa &&& (2305843009213693951 : Int64))), .second, .val (.long (qb &&& (2305843009213693951 : Int64))), .second, .val (.long (qc &&& (2305843009213693951 : Int64))), .second, .val (.long (qd &&& (2305843009213693951 : Int64))), .second, .val (.ref b1), .val (.ref b3), .val (.int (v0_1 qb qd qa qc)), .val (.long (v0_2 qa qc)), .second, .val (.long (v0_3 qb qd)), .second, .val (.long ((v0_2 qa qc) - (v0_3 qb qd))), .second] [(.int (v0_1 qb qd qa qc))])) _
          refine XS.iconst X5.here hx rfl (hb hby at_127) ?_
          show Steps p.tables e below (T5.setTop (mkF m 128 #[.val (.long qa), .second, .val (.long qb), .second, .val (.long qc), .second, .val (.long qd), .second, .val (.long (qa &&& (2305843009213693951 : Int64))), .second, .val (.long (qb &&& (2305843009213693951 : Int64))), .second, .val (.long (qc &&& (2305843009213693951 : Int64))), .second, .val (.long (qd &&& (2305843009213693951 : Int64))), .second, .val (.ref b1), .val (.ref b3), .val (.int (v0_1 qb qd qa qc)), .val (.long (v0_2 qa qc)), .second, .val (.long (v0_3 qb qd)), .second, .val (.long ((v0_2 qa qc) - (v0_3 qb qd))), .second] [(.int (1 : Int32)), (.int (v0_1 qb qd qa qc))])) _
          refine XS.goto X5.here hx rfl (pc0 := 128) (pc' := 132) rfl (hb hby at_128) (by decide) (by decide) ?_
          exact k
        · try simp only [if_neg hd124_19] at k
          show Steps p.tables e below (T5.setTop (mkF m 124 #[.val (.long qa), .second, .val (.long qb), .second, .val (.long qc), .second, .val (.long qd), .second, .val (.long (qa &&& (2305843009213693951 : Int64))), .second, .val (.long (qb &&& (2305843009213693951 : Int64))), .second, .val (.long (qc &&& (2305843009213693951 : Int64))), .second, .val (.long (qd &&& (2305843009213693951 : Int64))), .second, .val (.ref b1), .val (.ref b3), .val (.int (v0_1 qb qd qa qc)), .val (.long (v0_2 qa qc)), .second, .val (.long (v0_3 qb qd)), .second, .val (.long ((v0_2 qa qc) - (v0_3 qb qd))), .second] [(.int (lcmpW (v0_3 qb qd) ((v0_2 qa qc) / (2 : Int64)))), (.int (v0_1 qb qd qa qc))])) _
          refine XS.ifYes X5.here hx rfl (pc0 := 124) (pc' := 131) rfl (hb hby at_124) rfl ((if0 _ _).trans (flt hd124_19).2.2.2) (by decide) (by decide) ?_
          show Steps p.tables e below (T5.setTop (mkF m 131 #[.val (.long qa), .second, .val (.long qb), .second, .val (.long qc), .second, .val (.long qd), .second, .val (.long (qa &&& (2305843009213693951 : Int64))), .second, .val (.long (qb &&& (2305843009213693951 : Int64))), .second, .val (.long (qc &&& (2305843009213693951 : Int64))), .second, .val (.long (qd &&& (2305843009213693951 : Int64))), .second, .val (.ref b1), .val (.ref b3), .val (.int (v0_1 qb qd qa qc)), .val (.long (v0_2 qa qc)), .second, .val (.long (v0_3 qb qd)), .second, .val (.long ((v0_2 qa qc) - (v0_3 qb qd))), .second] [(.int (v0_1 qb qd qa qc))])) _
          refine XS.iconst X5.here hx rfl (hb hby at_131) ?_
          exact k
        )
      by_cases hc132_21 : (v0_1 qb qd qa qc) = (v0_5 qb qd qa qc)
      · have pre22 : ∀ t, Steps p.tables e below (T5.setTop (mkF m 141 #[.val (.long qa), .second, .val (.long qb), .second, .val (.long qc), .second, .val (.long qd), .second, .val (.long (qa &&& (2305843009213693951 : Int64))), .second, .val (.long (qb &&& (2305843009213693951 : Int64))), .second, .val (.long (qc &&& (2305843009213693951 : Int64))), .second, .val (.long (qd &&& (2305843009213693951 : Int64))), .second, .val (.ref b1), .val (.ref b3), .val (.int (v0_1 qb qd qa qc)), .val (.long (v0_2 qa qc)), .second, .val (.long (v0_3 qb qd)), .second, .val (.long ((v0_2 qa qc) - (v0_3 qb qd))), .second] [(.int (lcmpW (v0_2 qa qc) (0 : Int64)))])) t → Steps p.tables e below (s₁.setTop (entryFrame m #[(.long qa), (.long qb), (.long qc), (.long qd)] maxLocals)) t := fun t k => pre20 t (by
          show Steps p.tables e below (T5.setTop (mkF m 132 #[.val (.long qa), .second, .val (.long qb), .second, .val (.long qc), .second, .val (.long qd), .second, .val (.long (qa &&& (2305843009213693951 : Int64))), .second, .val (.long (qb &&& (2305843009213693951 : Int64))), .second, .val (.long (qc &&& (2305843009213693951 : Int64))), .second, .val (.long (qd &&& (2305843009213693951 : Int64))), .second, .val (.ref b1), .val (.ref b3), .val (.int (v0_1 qb qd qa qc)), .val (.long (v0_2 qa qc)), .second, .val (.long (v0_3 qb qd)), .second, .val (.long ((v0_2 qa qc) - (v0_3 qb qd))), .second] [(.int (v0_5 qb qd qa qc)), (.int (v0_1 qb qd qa qc))])) _
          refine XS.icmpYes X5.here hx rfl (pc0 := 132) (pc' := 137) rfl (hb hby at_132) rfl (teq hc132_21).1 (by decide) (by decide) ?_
          show Steps p.tables e below (T5.setTop (mkF m 137 #[.val (.long qa), .second, .val (.long qb), .second, .val (.long qc), .second, .val (.long qd), .second, .val (.long (qa &&& (2305843009213693951 : Int64))), .second, .val (.long (qb &&& (2305843009213693951 : Int64))), .second, .val (.long (qc &&& (2305843009213693951 : Int64))), .second, .val (.long (qd &&& (2305843009213693951 : Int64))), .second, .val (.ref b1), .val (.ref b3), .val (.int (v0_1 qb qd qa qc)), .val (.long (v0_2 qa qc)), .second, .val (.long (v0_3 qb qd)), .second, .val (.long ((v0_2 qa qc) - (v0_3 qb qd))), .second] [])) _
          refine XS.lload X5.here hx rfl (hb hby at_137) rfl ?_
          show Steps p.tables e below (T5.setTop (mkF m 139 #[.val (.long qa), .second, .val (.long qb), .second, .val (.long qc), .second, .val (.long qd), .second, .val (.long (qa &&& (2305843009213693951 : Int64))), .second, .val (.long (qb &&& (2305843009213693951 : Int64))), .second, .val (.long (qc &&& (2305843009213693951 : Int64))), .second, .val (.long (qd &&& (2305843009213693951 : Int64))), .second, .val (.ref b1), .val (.ref b3), .val (.int (v0_1 qb qd qa qc)), .val (.long (v0_2 qa qc)), .second, .val (.long (v0_3 qb qd)), .second, .val (.long ((v0_2 qa qc) - (v0_3 qb qd))), .second] [(.long (v0_2 qa qc))])) _
          refine XS.lconst X5.here hx rfl (hb hby at_139) ?_
          show Steps p.tables e below (T5.setTop (mkF m 140 #[.val (.long qa), .second, .val (.long qb), .second, .val (.long qc), .second, .val (.long qd), .second, .val (.long (qa &&& (2305843009213693951 : Int64))), .second, .val (.long (qb &&& (2305843009213693951 : Int64))), .second, .val (.long (qc &&& (2305843009213693951 : Int64))), .second, .val (.long (qd &&& (2305843009213693951 : Int64))), .second, .val (.ref b1), .val (.ref b3), .val (.int (v0_1 qb qd qa qc)), .val (.long (v0_2 qa qc)), .second, .val (.long (v0_3 qb qd)), .second, .val (.long ((v0_2 qa qc) - (v0_3 qb qd))), .second] [(.long (0 : Int64)), (.long (v0_2 qa qc))])) _
          refine XS.lcmp X5.here hx rfl (hb hby at_140) rfl ?_
          show Steps p.tables e below (T5.setTop (mkF m 141 #[.val (.long qa), .second, .val (.long qb), .second, .val (.long qc), .second, .val (.long qd), .second, .val (.long (qa &&& (2305843009213693951 : Int64))), .second, .val (.long (qb &&& (2305843009213693951 : Int64))), .second, .val (.long (qc &&& (2305843009213693951 : Int64))), .second, .val (.long (qd &&& (2305843009213693951 : Int64))), .second, .val (.ref b1), .val (.ref b3), .val (.int (v0_1 qb qd qa qc)), .val (.long (v0_2 qa qc)), .second, .val (.long (v0_3 qb qd)), .second, .val (.long ((v0_2 qa qc) - (v0_3 qb qd))), .second] [(.int (lcmpW (v0_2 qa qc) (0 : Int64)))])) _
          exact k)
        by_cases hc141_23 : (lcmpW (v0_2 qa qc) (0 : Int64)) = (0 : Int32)
        · have pre24 : ∀ t, Steps p.tables e below (T5.setTop (mkF m 148 #[.val (.long qa), .second, .val (.long qb), .second, .val (.long qc), .second, .val (.long qd), .second, .val (.long (qa &&& (2305843009213693951 : Int64))), .second, .val (.long (qb &&& (2305843009213693951 : Int64))), .second, .val (.long (qc &&& (2305843009213693951 : Int64))), .second, .val (.long (qd &&& (2305843009213693951 : Int64))), .second, .val (.ref b1), .val (.ref b3), .val (.int (v0_1 qb qd qa qc)), .val (.long (v0_2 qa qc)), .second, .val (.long (v0_3 qb qd)), .second, .val (.long ((v0_2 qa qc) - (v0_3 qb qd))), .second] [(.int (lcmpW (v0_3 qb qd) (0 : Int64)))])) t → Steps p.tables e below (s₁.setTop (entryFrame m #[(.long qa), (.long qb), (.long qc), (.long qd)] maxLocals)) t := fun t k => pre22 t (by
            show Steps p.tables e below (T5.setTop (mkF m 141 #[.val (.long qa), .second, .val (.long qb), .second, .val (.long qc), .second, .val (.long qd), .second, .val (.long (qa &&& (2305843009213693951 : Int64))), .second, .val (.long (qb &&& (2305843009213693951 : Int64))), .second, .val (.long (qc &&& (2305843009213693951 : Int64))), .second, .val (.long (qd &&& (2305843009213693951 : Int64))), .second, .val (.ref b1), .val (.ref b3), .val (.int (v0_1 qb qd qa qc)), .val (.long (v0_2 qa qc)), .second, .val (.long (v0_3 qb qd)), .second, .val (.long ((v0_2 qa qc) - (v0_3 qb qd))), .second] [(.int (lcmpW (v0_2 qa qc) (0 : Int64)))])) _
            refine XS.ifNo X5.here hx rfl (hb hby at_141) rfl ((if0 _ _).trans (teq hc141_23).2) ?_
            show Steps p.tables e below (T5.setTop (mkF m 144 #[.val (.long qa), .second, .val (.long qb), .second, .val (.long qc), .second, .val (.long qd), .second, .val (.long (qa &&& (2305843009213693951 : Int64))), .second, .val (.long (qb &&& (2305843009213693951 : Int64))), .second, .val (.long (qc &&& (2305843009213693951 : Int64))), .second, .val (.long (qd &&& (2305843009213693951 : Int64))), .second, .val (.ref b1), .val (.ref b3), .val (.int (v0_1 qb qd qa qc)), .val (.long (v0_2 qa qc)), .second, .val (.long (v0_3 qb qd)), .second, .val (.long ((v0_2 qa qc) - (v0_3 qb qd))), .second] [])) _
            refine XS.lload X5.here hx rfl (hb hby at_144) rfl ?_
            show Steps p.tables e below (T5.setTop (mkF m 146 #[.val (.long qa), .second, .val (.long qb), .second, .val (.long qc), .second, .val (.long qd), .second, .val (.long (qa &&& (2305843009213693951 : Int64))), .second, .val (.long (qb &&& (2305843009213693951 : Int64))), .second, .val (.long (qc &&& (2305843009213693951 : Int64))), .second, .val (.long (qd &&& (2305843009213693951 : Int64))), .second, .val (.ref b1), .val (.ref b3), .val (.int (v0_1 qb qd qa qc)), .val (.long (v0_2 qa qc)), .second, .val (.long (v0_3 qb qd)), .second, .val (.long ((v0_2 qa qc) - (v0_3 qb qd))), .second] [(.long (v0_3 qb qd))])) _
            refine XS.lconst X5.here hx rfl (hb hby at_146) ?_
            show Steps p.tables e below (T5.setTop (mkF m 147 #[.val (.long qa), .second, .val (.long qb), .second, .val (.long qc), .second, .val (.long qd), .second, .val (.long (qa &&& (2305843009213693951 : Int64))), .second, .val (.long (qb &&& (2305843009213693951 : Int64))), .second, .val (.long (qc &&& (2305843009213693951 : Int64))), .second, .val (.long (qd &&& (2305843009213693951 : Int64))), .second, .val (.ref b1), .val (.ref b3), .val (.int (v0_1 qb qd qa qc)), .val (.long (v0_2 qa qc)), .second, .val (.long (v0_3 qb qd)), .second, .val (.long ((v0_2 qa qc) - (v0_3 qb qd))), .second] [(.long (0 : Int64)), (.long (v0_3 qb qd))])) _
            refine XS.lcmp X5.here hx rfl (hb hby at_147) rfl ?_
            show Steps p.tables e below (T5.setTop (mkF m 148 #[.val (.long qa), .second, .val (.long qb), .second, .val (.long qc), .second, .val (.long qd), .second, .val (.long (qa &&& (2305843009213693951 : Int64))), .second, .val (.long (qb &&& (2305843009213693951 : Int64))), .second, .val (.long (qc &&& (2305843009213693951 : Int64))), .second, .val (.long (qd &&& (2305843009213693951 : Int64))), .second, .val (.ref b1), .val (.ref b3), .val (.int (v0_1 qb qd qa qc)), .val (.long (v0_2 qa qc)), .second, .val (.long (v0_3 qb qd)), .second, .val (.long ((v0_2 qa qc) - (v0_3 qb qd))), .second] [(.int (lcmpW (v0_3 qb qd) (0 : Int64)))])) _
            exact k)
          by_cases hc148_25 : (0 : Int32) < (lcmpW (v0_3 qb qd) (0 : Int64))
          · have hv : (f0 qa qb qc qd) = (1 : Int32) := by simp only [f0, if_pos hc101_9, if_neg hc110_11, if_pos hc132_21, if_pos hc141_23, if_pos hc148_25]
            obtain ⟨fs, hr, hrun, hended, hW, hsame⟩ := X5.leave (v := some (.int (1 : Int32))) (fun h => by rw [Bd.returns] at h; cases h)
            refine ⟨_, _, pre24 _ ?_, hrun, hended, _, _, rfl, ?_, ⟨_, rfl⟩, hW, hsame.mono (by decide) (by decide)⟩
            · show Steps p.tables e below (T5.setTop (mkF m 148 #[.val (.long qa), .second, .val (.long qb), .second, .val (.long qc), .second, .val (.long qd), .second, .val (.long (qa &&& (2305843009213693951 : Int64))), .second, .val (.long (qb &&& (2305843009213693951 : Int64))), .second, .val (.long (qc &&& (2305843009213693951 : Int64))), .second, .val (.long (qd &&& (2305843009213693951 : Int64))), .second, .val (.ref b1), .val (.ref b3), .val (.int (v0_1 qb qd qa qc)), .val (.long (v0_2 qa qc)), .second, .val (.long (v0_3 qb qd)), .second, .val (.long ((v0_2 qa qc) - (v0_3 qb qd))), .second] [(.int (lcmpW (v0_3 qb qd) (0 : Int64)))])) _
              refine XS.ifYes X5.here hx rfl (pc0 := 148) (pc' := 158) rfl (hb hby at_148) rfl ((if0 _ _).trans (tlt hc148_25).2.2.1) (by decide) (by decide) ?_
              show Steps p.tables e below (T5.setTop (mkF m 158 #[.val (.long qa), .second, .val (.long qb), .second, .val (.long qc), .second, .val (.long qd), .second, .val (.long (qa &&& (2305843009213693951 : Int64))), .second, .val (.long (qb &&& (2305843009213693951 : Int64))), .second, .val (.long (qc &&& (2305843009213693951 : Int64))), .second, .val (.long (qd &&& (2305843009213693951 : Int64))), .second, .val (.ref b1), .val (.ref b3), .val (.int (v0_1 qb qd qa qc)), .val (.long (v0_2 qa qc)), .second, .val (.long (v0_3 qb qd)), .second, .val (.long ((v0_2 qa qc) - (v0_3 qb qd))), .second] [])) _
              refine XS.iconst X5.here hx rfl (hb hby at_158) ?_
              show Steps p.tables e below (T5.setTop (mkF m 159 #[.val (.long qa), .second, .val (.long qb), .second, .val (.long qc), .second, .val (.long qd), .second, .val (.long (qa &&& (2305843009213693951 : Int64))), .second, .val (.long (qb &&& (2305843009213693951 : Int64))), .second, .val (.long (qc &&& (2305843009213693951 : Int64))), .second, .val (.long (qd &&& (2305843009213693951 : Int64))), .second, .val (.ref b1), .val (.ref b3), .val (.int (v0_1 qb qd qa qc)), .val (.long (v0_2 qa qc)), .second, .val (.long (v0_3 qb qd)), .second, .val (.long ((v0_2 qa qc) - (v0_3 qb qd))), .second] [(.int (1 : Int32))])) _
              exact retN X5 hx (t := .boolean) Bd.returns (by simp) (hb hby at_159) hr
            · show Q0 Z qa qb qc qd h0 n0 _ T5.heap _
              rw [e5]
              exact ⟨by rw [hv], N5⟩
          · have pre26 : ∀ t, Steps p.tables e below (T5.setTop (mkF m 153 #[.val (.long qa), .second, .val (.long qb), .second, .val (.long qc), .second, .val (.long qd), .second, .val (.long (qa &&& (2305843009213693951 : Int64))), .second, .val (.long (qb &&& (2305843009213693951 : Int64))), .second, .val (.long (qc &&& (2305843009213693951 : Int64))), .second, .val (.long (qd &&& (2305843009213693951 : Int64))), .second, .val (.ref b1), .val (.ref b3), .val (.int (v0_1 qb qd qa qc)), .val (.long (v0_2 qa qc)), .second, .val (.long (v0_3 qb qd)), .second, .val (.long ((v0_2 qa qc) - (v0_3 qb qd))), .second] [(.int (v0_1 qb qd qa qc))])) t → Steps p.tables e below (s₁.setTop (entryFrame m #[(.long qa), (.long qb), (.long qc), (.long qd)] maxLocals)) t := fun t k => pre24 t (by
              show Steps p.tables e below (T5.setTop (mkF m 148 #[.val (.long qa), .second, .val (.long qb), .second, .val (.long qc), .second, .val (.long qd), .second, .val (.long (qa &&& (2305843009213693951 : Int64))), .second, .val (.long (qb &&& (2305843009213693951 : Int64))), .second, .val (.long (qc &&& (2305843009213693951 : Int64))), .second, .val (.long (qd &&& (2305843009213693951 : Int64))), .second, .val (.ref b1), .val (.ref b3), .val (.int (v0_1 qb qd qa qc)), .val (.long (v0_2 qa qc)), .second, .val (.long (v0_3 qb qd)), .second, .val (.long ((v0_2 qa qc) - (v0_3 qb qd))), .second] [(.int (lcmpW (v0_3 qb qd) (0 : Int64)))])) _
              refine XS.ifNo X5.here hx rfl (hb hby at_148) rfl ((if0 _ _).trans (flt hc148_25).2.2.1) ?_
              show Steps p.tables e below (T5.setTop (mkF m 151 #[.val (.long qa), .second, .val (.long qb), .second, .val (.long qc), .second, .val (.long qd), .second, .val (.long (qa &&& (2305843009213693951 : Int64))), .second, .val (.long (qb &&& (2305843009213693951 : Int64))), .second, .val (.long (qc &&& (2305843009213693951 : Int64))), .second, .val (.long (qd &&& (2305843009213693951 : Int64))), .second, .val (.ref b1), .val (.ref b3), .val (.int (v0_1 qb qd qa qc)), .val (.long (v0_2 qa qc)), .second, .val (.long (v0_3 qb qd)), .second, .val (.long ((v0_2 qa qc) - (v0_3 qb qd))), .second] [])) _
              refine XS.iload X5.here hx rfl (hb hby at_151) rfl ?_
              show Steps p.tables e below (T5.setTop (mkF m 153 #[.val (.long qa), .second, .val (.long qb), .second, .val (.long qc), .second, .val (.long qd), .second, .val (.long (qa &&& (2305843009213693951 : Int64))), .second, .val (.long (qb &&& (2305843009213693951 : Int64))), .second, .val (.long (qc &&& (2305843009213693951 : Int64))), .second, .val (.long (qd &&& (2305843009213693951 : Int64))), .second, .val (.ref b1), .val (.ref b3), .val (.int (v0_1 qb qd qa qc)), .val (.long (v0_2 qa qc)), .second, .val (.long (v0_3 qb qd)), .second, .val (.long ((v0_2 qa qc) - (v0_3 qb qd))), .second] [(.int (v0_1 qb qd qa qc))])) _
              exact k)
            by_cases hc153_27 : (v0_1 qb qd qa qc) = (0 : Int32)
            · have hv : (f0 qa qb qc qd) = (1 : Int32) := by simp only [f0, if_pos hc101_9, if_neg hc110_11, if_pos hc132_21, if_pos hc141_23, if_neg hc148_25, if_pos hc153_27]
              obtain ⟨fs, hr, hrun, hended, hW, hsame⟩ := X5.leave (v := some (.int (1 : Int32))) (fun h => by rw [Bd.returns] at h; cases h)
              refine ⟨_, _, pre26 _ ?_, hrun, hended, _, _, rfl, ?_, ⟨_, rfl⟩, hW, hsame.mono (by decide) (by decide)⟩
              · show Steps p.tables e below (T5.setTop (mkF m 153 #[.val (.long qa), .second, .val (.long qb), .second, .val (.long qc), .second, .val (.long qd), .second, .val (.long (qa &&& (2305843009213693951 : Int64))), .second, .val (.long (qb &&& (2305843009213693951 : Int64))), .second, .val (.long (qc &&& (2305843009213693951 : Int64))), .second, .val (.long (qd &&& (2305843009213693951 : Int64))), .second, .val (.ref b1), .val (.ref b3), .val (.int (v0_1 qb qd qa qc)), .val (.long (v0_2 qa qc)), .second, .val (.long (v0_3 qb qd)), .second, .val (.long ((v0_2 qa qc) - (v0_3 qb qd))), .second] [(.int (v0_1 qb qd qa qc))])) _
                refine XS.ifYes X5.here hx rfl (pc0 := 153) (pc' := 158) rfl (hb hby at_153) rfl ((if0 _ _).trans (teq hc153_27).1) (by decide) (by decide) ?_
                show Steps p.tables e below (T5.setTop (mkF m 158 #[.val (.long qa), .second, .val (.long qb), .second, .val (.long qc), .second, .val (.long qd), .second, .val (.long (qa &&& (2305843009213693951 : Int64))), .second, .val (.long (qb &&& (2305843009213693951 : Int64))), .second, .val (.long (qc &&& (2305843009213693951 : Int64))), .second, .val (.long (qd &&& (2305843009213693951 : Int64))), .second, .val (.ref b1), .val (.ref b3), .val (.int (v0_1 qb qd qa qc)), .val (.long (v0_2 qa qc)), .second, .val (.long (v0_3 qb qd)), .second, .val (.long ((v0_2 qa qc) - (v0_3 qb qd))), .second] [])) _
                refine XS.iconst X5.here hx rfl (hb hby at_158) ?_
                show Steps p.tables e below (T5.setTop (mkF m 159 #[.val (.long qa), .second, .val (.long qb), .second, .val (.long qc), .second, .val (.long qd), .second, .val (.long (qa &&& (2305843009213693951 : Int64))), .second, .val (.long (qb &&& (2305843009213693951 : Int64))), .second, .val (.long (qc &&& (2305843009213693951 : Int64))), .second, .val (.long (qd &&& (2305843009213693951 : Int64))), .second, .val (.ref b1), .val (.ref b3), .val (.int (v0_1 qb qd qa qc)), .val (.long (v0_2 qa qc)), .second, .val (.long (v0_3 qb qd)), .second, .val (.long ((v0_2 qa qc) - (v0_3 qb qd))), .second] [(.int (1 : Int32))])) _
                exact retN X5 hx (t := .boolean) Bd.returns (by simp) (hb hby at_159) hr
              · show Q0 Z qa qb qc qd h0 n0 _ T5.heap _
                rw [e5]
                exact ⟨by rw [hv], N5⟩
            · have hv : (f0 qa qb qc qd) = (0 : Int32) := by simp only [f0, if_pos hc101_9, if_neg hc110_11, if_pos hc132_21, if_pos hc141_23, if_neg hc148_25, if_neg hc153_27]
              obtain ⟨fs, hr, hrun, hended, hW, hsame⟩ := X5.leave (v := some (.int (0 : Int32))) (fun h => by rw [Bd.returns] at h; cases h)
              refine ⟨_, _, pre26 _ ?_, hrun, hended, _, _, rfl, ?_, ⟨_, rfl⟩, hW, hsame.mono (by decide) (by decide)⟩
              · show Steps p.tables e below (T5.setTop (mkF m 153 #[.val (.long qa), .second, .val (.long qb), .second, .val (.long qc), .second, .val (.long qd), .second, .val (.long (qa &&& (2305843009213693951 : Int64))), .second, .val (.long (qb &&& (2305843009213693951 : Int64))), .second, .val (.long (qc &&& (2305843009213693951 : Int64))), .second, .val (.long (qd &&& (2305843009213693951 : Int64))), .second, .val (.ref b1), .val (.ref b3), .val (.int (v0_1 qb qd qa qc)), .val (.long (v0_2 qa qc)), .second, .val (.long (v0_3 qb qd)), .second, .val (.long ((v0_2 qa qc) - (v0_3 qb qd))), .second] [(.int (v0_1 qb qd qa qc))])) _
                refine XS.ifNo X5.here hx rfl (hb hby at_153) rfl ((if0 _ _).trans (feq hc153_27).1) ?_
                show Steps p.tables e below (T5.setTop (mkF m 156 #[.val (.long qa), .second, .val (.long qb), .second, .val (.long qc), .second, .val (.long qd), .second, .val (.long (qa &&& (2305843009213693951 : Int64))), .second, .val (.long (qb &&& (2305843009213693951 : Int64))), .second, .val (.long (qc &&& (2305843009213693951 : Int64))), .second, .val (.long (qd &&& (2305843009213693951 : Int64))), .second, .val (.ref b1), .val (.ref b3), .val (.int (v0_1 qb qd qa qc)), .val (.long (v0_2 qa qc)), .second, .val (.long (v0_3 qb qd)), .second, .val (.long ((v0_2 qa qc) - (v0_3 qb qd))), .second] [])) _
                refine XS.iconst X5.here hx rfl (hb hby at_156) ?_
                show Steps p.tables e below (T5.setTop (mkF m 157 #[.val (.long qa), .second, .val (.long qb), .second, .val (.long qc), .second, .val (.long qd), .second, .val (.long (qa &&& (2305843009213693951 : Int64))), .second, .val (.long (qb &&& (2305843009213693951 : Int64))), .second, .val (.long (qc &&& (2305843009213693951 : Int64))), .second, .val (.long (qd &&& (2305843009213693951 : Int64))), .second, .val (.ref b1), .val (.ref b3), .val (.int (v0_1 qb qd qa qc)), .val (.long (v0_2 qa qc)), .second, .val (.long (v0_3 qb qd)), .second, .val (.long ((v0_2 qa qc) - (v0_3 qb qd))), .second] [(.int (0 : Int32))])) _
                exact retN X5 hx (t := .boolean) Bd.returns (by simp) (hb hby at_157) hr
              · show Q0 Z qa qb qc qd h0 n0 _ T5.heap _
                rw [e5]
                exact ⟨by rw [hv], N5⟩
        · have hv : (f0 qa qb qc qd) = (1 : Int32) := by simp only [f0, if_pos hc101_9, if_neg hc110_11, if_pos hc132_21, if_neg hc141_23]
          obtain ⟨fs, hr, hrun, hended, hW, hsame⟩ := X5.leave (v := some (.int (1 : Int32))) (fun h => by rw [Bd.returns] at h; cases h)
          refine ⟨_, _, pre22 _ ?_, hrun, hended, _, _, rfl, ?_, ⟨_, rfl⟩, hW, hsame.mono (by decide) (by decide)⟩
          · show Steps p.tables e below (T5.setTop (mkF m 141 #[.val (.long qa), .second, .val (.long qb), .second, .val (.long qc), .second, .val (.long qd), .second, .val (.long (qa &&& (2305843009213693951 : Int64))), .second, .val (.long (qb &&& (2305843009213693951 : Int64))), .second, .val (.long (qc &&& (2305843009213693951 : Int64))), .second, .val (.long (qd &&& (2305843009213693951 : Int64))), .second, .val (.ref b1), .val (.ref b3), .val (.int (v0_1 qb qd qa qc)), .val (.long (v0_2 qa qc)), .second, .val (.long (v0_3 qb qd)), .second, .val (.long ((v0_2 qa qc) - (v0_3 qb qd))), .second] [(.int (lcmpW (v0_2 qa qc) (0 : Int64)))])) _
            refine XS.ifYes X5.here hx rfl (pc0 := 141) (pc' := 158) rfl (hb hby at_141) rfl ((if0 _ _).trans (feq hc141_23).2) (by decide) (by decide) ?_
            show Steps p.tables e below (T5.setTop (mkF m 158 #[.val (.long qa), .second, .val (.long qb), .second, .val (.long qc), .second, .val (.long qd), .second, .val (.long (qa &&& (2305843009213693951 : Int64))), .second, .val (.long (qb &&& (2305843009213693951 : Int64))), .second, .val (.long (qc &&& (2305843009213693951 : Int64))), .second, .val (.long (qd &&& (2305843009213693951 : Int64))), .second, .val (.ref b1), .val (.ref b3), .val (.int (v0_1 qb qd qa qc)), .val (.long (v0_2 qa qc)), .second, .val (.long (v0_3 qb qd)), .second, .val (.long ((v0_2 qa qc) - (v0_3 qb qd))), .second] [])) _
            refine XS.iconst X5.here hx rfl (hb hby at_158) ?_
            show Steps p.tables e below (T5.setTop (mkF m 159 #[.val (.long qa), .second, .val (.long qb), .second, .val (.long qc), .second, .val (.long qd), .second, .val (.long (qa &&& (2305843009213693951 : Int64))), .second, .val (.long (qb &&& (2305843009213693951 : Int64))), .second, .val (.long (qc &&& (2305843009213693951 : Int64))), .second, .val (.long (qd &&& (2305843009213693951 : Int64))), .second, .val (.ref b1), .val (.ref b3), .val (.int (v0_1 qb qd qa qc)), .val (.long (v0_2 qa qc)), .second, .val (.long (v0_3 qb qd)), .second, .val (.long ((v0_2 qa qc) - (v0_3 qb qd))), .second] [(.int (1 : Int32))])) _
            exact retN X5 hx (t := .boolean) Bd.returns (by simp) (hb hby at_159) hr
          · show Q0 Z qa qb qc qd h0 n0 _ T5.heap _
            rw [e5]
            exact ⟨by rw [hv], N5⟩
      · have hv : (f0 qa qb qc qd) = (0 : Int32) := by simp only [f0, if_pos hc101_9, if_neg hc110_11, if_neg hc132_21]
        obtain ⟨fs, hr, hrun, hended, hW, hsame⟩ := X5.leave (v := some (.int (0 : Int32))) (fun h => by rw [Bd.returns] at h; cases h)
        refine ⟨_, _, pre20 _ ?_, hrun, hended, _, _, rfl, ?_, ⟨_, rfl⟩, hW, hsame.mono (by decide) (by decide)⟩
        · show Steps p.tables e below (T5.setTop (mkF m 132 #[.val (.long qa), .second, .val (.long qb), .second, .val (.long qc), .second, .val (.long qd), .second, .val (.long (qa &&& (2305843009213693951 : Int64))), .second, .val (.long (qb &&& (2305843009213693951 : Int64))), .second, .val (.long (qc &&& (2305843009213693951 : Int64))), .second, .val (.long (qd &&& (2305843009213693951 : Int64))), .second, .val (.ref b1), .val (.ref b3), .val (.int (v0_1 qb qd qa qc)), .val (.long (v0_2 qa qc)), .second, .val (.long (v0_3 qb qd)), .second, .val (.long ((v0_2 qa qc) - (v0_3 qb qd))), .second] [(.int (v0_5 qb qd qa qc)), (.int (v0_1 qb qd qa qc))])) _
          refine XS.icmpNo X5.here hx rfl (hb hby at_132) rfl (feq hc132_21).1 ?_
          show Steps p.tables e below (T5.setTop (mkF m 135 #[.val (.long qa), .second, .val (.long qb), .second, .val (.long qc), .second, .val (.long qd), .second, .val (.long (qa &&& (2305843009213693951 : Int64))), .second, .val (.long (qb &&& (2305843009213693951 : Int64))), .second, .val (.long (qc &&& (2305843009213693951 : Int64))), .second, .val (.long (qd &&& (2305843009213693951 : Int64))), .second, .val (.ref b1), .val (.ref b3), .val (.int (v0_1 qb qd qa qc)), .val (.long (v0_2 qa qc)), .second, .val (.long (v0_3 qb qd)), .second, .val (.long ((v0_2 qa qc) - (v0_3 qb qd))), .second] [])) _
          refine XS.iconst X5.here hx rfl (hb hby at_135) ?_
          show Steps p.tables e below (T5.setTop (mkF m 136 #[.val (.long qa), .second, .val (.long qb), .second, .val (.long qc), .second, .val (.long qd), .second, .val (.long (qa &&& (2305843009213693951 : Int64))), .second, .val (.long (qb &&& (2305843009213693951 : Int64))), .second, .val (.long (qc &&& (2305843009213693951 : Int64))), .second, .val (.long (qd &&& (2305843009213693951 : Int64))), .second, .val (.ref b1), .val (.ref b3), .val (.int (v0_1 qb qd qa qc)), .val (.long (v0_2 qa qc)), .second, .val (.long (v0_3 qb qd)), .second, .val (.long ((v0_2 qa qc) - (v0_3 qb qd))), .second] [(.int (0 : Int32))])) _
          exact retN X5 hx (t := .boolean) Bd.returns (by simp) (hb hby at_136) hr
        · show Q0 Z qa qb qc qd h0 n0 _ T5.heap _
          rw [e5]
          exact ⟨by rw [hv], N5⟩
  · have hv : (f0 qa qb qc qd) = (0 : Int32) := by simp only [f0, if_neg hc101_9]
    obtain ⟨fs, hr, hrun, hended, hW, hsame⟩ := X5.leave (v := some (.int (0 : Int32))) (fun h => by rw [Bd.returns] at h; cases h)
    refine ⟨_, _, pre8 _ ?_, hrun, hended, _, _, rfl, ?_, ⟨_, rfl⟩, hW, hsame.mono (by decide) (by decide)⟩
    · show Steps p.tables e below (T5.setTop (mkF m 101 #[.val (.long qa), .second, .val (.long qb), .second, .val (.long qc), .second, .val (.long qd), .second, .val (.long (qa &&& (2305843009213693951 : Int64))), .second, .val (.long (qb &&& (2305843009213693951 : Int64))), .second, .val (.long (qc &&& (2305843009213693951 : Int64))), .second, .val (.long (qd &&& (2305843009213693951 : Int64))), .second, .val (.ref b1), .val (.ref b3), .val (.int (v0_1 qb qd qa qc)), .val (.long (v0_2 qa qc)), .second, .val (.long (v0_3 qb qd)), .second, .val (.long ((v0_2 qa qc) - (v0_3 qb qd))), .second] [(.int (v0_4 qb qd qa qc)), (.int (v0_1 qb qd qa qc))])) _
      refine XS.icmpNo X5.here hx rfl (hb hby at_101) rfl (feq hc101_9).1 ?_
      show Steps p.tables e below (T5.setTop (mkF m 104 #[.val (.long qa), .second, .val (.long qb), .second, .val (.long qc), .second, .val (.long qd), .second, .val (.long (qa &&& (2305843009213693951 : Int64))), .second, .val (.long (qb &&& (2305843009213693951 : Int64))), .second, .val (.long (qc &&& (2305843009213693951 : Int64))), .second, .val (.long (qd &&& (2305843009213693951 : Int64))), .second, .val (.ref b1), .val (.ref b3), .val (.int (v0_1 qb qd qa qc)), .val (.long (v0_2 qa qc)), .second, .val (.long (v0_3 qb qd)), .second, .val (.long ((v0_2 qa qc) - (v0_3 qb qd))), .second] [])) _
      refine XS.iconst X5.here hx rfl (hb hby at_104) ?_
      show Steps p.tables e below (T5.setTop (mkF m 105 #[.val (.long qa), .second, .val (.long qb), .second, .val (.long qc), .second, .val (.long qd), .second, .val (.long (qa &&& (2305843009213693951 : Int64))), .second, .val (.long (qb &&& (2305843009213693951 : Int64))), .second, .val (.long (qc &&& (2305843009213693951 : Int64))), .second, .val (.long (qd &&& (2305843009213693951 : Int64))), .second, .val (.ref b1), .val (.ref b3), .val (.int (v0_1 qb qd qa qc)), .val (.long (v0_2 qa qc)), .second, .val (.long (v0_3 qb qd)), .second, .val (.long ((v0_2 qa qc) - (v0_3 qb qd))), .second] [(.int (0 : Int32))])) _
      exact retN X5 hx (t := .boolean) Bd.returns (by simp) (hb hby at_105) hr
    · show Q0 Z qa qb qc qd h0 n0 _ T5.heap _
      rw [e5]
      exact ⟨by rw [hv], N5⟩
theorem own_gt (x y : Int64) : ((0 : Int32) < lcmpW x y) ↔ y.toInt < x.toInt := by rw [lcW, lc_gt, Int64.lt_iff_toInt_lt]
theorem own_lt (x y : Int64) : (lcmpW x y < (0 : Int32)) ↔ x.toInt < y.toInt := by rw [lcW, lc_lt, Int64.lt_iff_toInt_lt]
theorem own_eq (x y : Int64) : (lcmpW x y = (0 : Int32)) ↔ x.toInt = y.toInt := by rw [lcW, lc_eq, Int64.toInt_inj]
theorem own_m (x : Int64) : 0 ≤ (x &&& (2305843009213693951 : Int64)).toInt ∧ (x &&& (2305843009213693951 : Int64)).toInt < 2305843009213693952 := by
  rw [c_maskL x 2305843009213693951 61 (by decide) (by decide)]
  have : ((2 ^ 61 : Nat) : Int) = 2305843009213693952 := rfl
  rw [this]; omega
theorem own_sub (x y : Int64) (h : -4611686018427387904 ≤ x.toInt - y.toInt) (h' : x.toInt - y.toInt < 4611686018427387904 * 2) : (x - y).toInt = x.toInt - y.toInt := by
  rw [Int64.toInt_sub, Int.bmod_eq_of_le (by omega) (by omega)]
theorem own_two (x : Int64) (h : -4611686018427387904 ≤ x.toInt) (h' : x.toInt < 4611686018427387904) : ((2 : Int64) * x).toInt = 2 * x.toInt := by
  rw [Int64.toInt_mul]
  show Int.bmod (2 * x.toInt) _ = _
  rw [Int.bmod_eq_of_le (by omega) (by omega)]
theorem own_half (x : Int64) : (x / (2 : Int64)).toInt = x.toInt.tdiv 2 := Int64.toInt_div_of_ne_right x 2 (by decide)
theorem own_law (C P : Int64) (hP : -2305843009213693952 < P.toInt ∧ P.toInt < 2305843009213693952) (hC : -2305843009213693952 < C.toInt ∧ C.toInt < 2305843009213693952) :
    (if (if (0 : Int32) < (lcmpW ((2 : Int64) * C) P) then (1 : Int32) else (0 : Int32)) = (if (0 : Int32) < (lcmpW C (P - C)) then (1 : Int32) else (0 : Int32)) then
      (if (lcmpW P (0 : Int64)) < (0 : Int32) then (if (lcmpW P (0 : Int64)) = (0 : Int32) then (if (0 : Int32) < (lcmpW C (0 : Int64)) then (1 : Int32) else (if (if (0 : Int32) < (lcmpW ((2 : Int64) * C) P) then (1 : Int32) else (0 : Int32)) = (0 : Int32) then (1 : Int32) else (0 : Int32))) else (1 : Int32))
       else (if (if (0 : Int32) < (lcmpW ((2 : Int64) * C) P) then (1 : Int32) else (0 : Int32)) = (if (0 : Int32) < (lcmpW C (P / (2 : Int64))) then (1 : Int32) else (0 : Int32)) then (if (lcmpW P (0 : Int64)) = (0 : Int32) then (if (0 : Int32) < (lcmpW C (0 : Int64)) then (1 : Int32) else (if (if (0 : Int32) < (lcmpW ((2 : Int64) * C) P) then (1 : Int32) else (0 : Int32)) = (0 : Int32) then (1 : Int32) else (0 : Int32))) else (1 : Int32)) else (0 : Int32))) else (0 : Int32)) = (1 : Int32) := by
  have z : (0 : Int64).toInt = 0 := rfl
  simp only [own_gt, own_lt, own_eq, own_two C (by omega) (by omega), own_sub P C (by omega) (by omega), own_half, z]
  by_cases h1 : P.toInt < 2 * C.toInt
  · have h2 : P.toInt - C.toInt < C.toInt := by omega
    rw [if_pos h1, if_pos h2, if_pos rfl]
    by_cases h3 : P.toInt < 0
    · rw [if_pos h3, if_neg (by omega)]
    · rw [if_neg h3]
      have h4 : P.toInt.tdiv 2 < C.toInt := by rw [Int.tdiv_eq_ediv_of_nonneg (by omega)]; omega
      rw [if_pos h4, if_pos rfl]
      by_cases h5 : P.toInt = 0
      · rw [if_pos h5, if_pos (by omega)]
      · rw [if_neg h5]
  · have h2 : ¬ P.toInt - C.toInt < C.toInt := by omega
    rw [if_neg h1, if_neg h2, if_pos rfl]
    by_cases h3 : P.toInt < 0
    · rw [if_pos h3, if_neg (by omega)]
    · rw [if_neg h3]
      have h4 : ¬ P.toInt.tdiv 2 < C.toInt := by rw [Int.tdiv_eq_ediv_of_nonneg (by omega)]; omega
      rw [if_neg h4, if_pos rfl]
      by_cases h5 : P.toInt = 0
      · rw [if_pos h5, if_neg (by omega), if_pos rfl]
      · rw [if_neg h5]
theorem law_true (qa qb qc qd : Int64) : f0 qa qb qc qd = 1 := by
  have a := own_m qa; have b := own_m qb; have c := own_m qc; have d := own_m qd
  have e1 : (v0_2 qa qc).toInt = _ := own_sub (qa &&& (2305843009213693951 : Int64)) (qc &&& (2305843009213693951 : Int64)) (by omega) (by omega)
  have e2 : (v0_3 qb qd).toInt = _ := own_sub (qb &&& (2305843009213693951 : Int64)) (qd &&& (2305843009213693951 : Int64)) (by omega) (by omega)
  exact own_law (v0_3 qb qd) (v0_2 qa qc) (by omega) (by omega)

set_option maxRecDepth 65536 in
set_option maxHeartbeats 40000000 in
theorem comes_1 {Post : Tables → Env → Array Value → State → Outcome → State → Prop} (hpost : ∀ tb e args s v u, (limb_1_1.after args s (.returned v) u = true ∧ limb_1_2.after args s (.returned v) u = true ∧ True) → FrameEnd s (.returned v) u (Jvm.fieldLocs frame_1_writes args s ++ Jvm.arrayLocs frame_1_arrays args s ++ Jvm.staticLocs frame_1_statics s) 16 128 → Post tb e args s (.returned v) u) :
    ArmFor flags0 classFile x code maxLocals ret World_1 tables_1 room_1 Calls_1 rest_1 Pre_1 Post := by
  intro l hfl _ _ p e ha hc hk s m args below hf hA hF happ hP
  obtain ⟨hcalls, hrest, hpre⟩ := hP
  obtain ⟨-, -, -, hnamed, -, -, -, hat⟩ := (Spec.applies_iff hf).mp happ
  obtain ⟨hg, hn⟩ := and_e (Cond.before_iff.mp (show (Jvm.Cond.and given_1 narrow_1).before args s = true from hpre))
  obtain ⟨g1, g2⟩ := and_e hg
  obtain ⟨g3, g4⟩ := and_e g2
  obtain ⟨g5, g6⟩ := and_e g4
  obtain ⟨g7, g8⟩ := and_e g6
  obtain ⟨w0, w1, w2, w3, rfl⟩ : ∃ w0 w1 w2 w3 : Value, args = #[w0, w1, w2, w3] := by
    have hs : args.size = 4 := by simpa [Cond.value, given_1] using g1
    obtain ⟨L⟩ := args
    match L, hs with
    | [w0, w1, w2, w3], _ => exact ⟨w0, w1, w2, w3, rfl⟩
  have hw := fun d (hd : d ∈ tables_1) => atoms_spec (ws := Jvm.Cond.code x code maxLocals ret :: tables_1) hat d (List.mem_cons_of_mem _ hd)
  obtain ⟨i0, ei0⟩ := isL_v g3
  obtain rfl : w0 = (.long i0) := Option.some.inj ei0
  obtain ⟨i1, ei1⟩ := isL_v g5
  obtain rfl : w1 = (.long i1) := Option.some.inj ei1
  obtain ⟨i2, ei2⟩ := isL_v g7
  obtain rfl : w2 = (.long i2) := Option.some.inj ei2
  obtain ⟨i3, ei3⟩ := isL_v g8
  obtain rfl : w3 = (.long i3) := Option.some.inj ei3
  obtain ⟨n, o, h1, h2, h3, _, L, rfl, ⟨rfl, N⟩, hq⟩ := rm0 l s _ hw tables_1 i0 i1 i2 i3 s.heap s.heap.size (Nat.le_refl _) p e ha hc hk s m _ below hf ((Spec.applies_iff_loose hf).mp happ).1 ⟨rfl, State.Warmed39.refl s, rfl⟩ trivial
  refine ⟨n, _, h1, h2, h3, hpost _ _ _ _ _ _ ⟨Cond.after_iff.mpr rfl, Cond.after_iff.mpr (eq_i res_at (Term.int_eval (1)) (congrArg Value.int (law_true i0 i1 i2 i3))), trivial⟩ ⟨hq.1, hq.2.1, (hq.2.2.sift fun y hy => Or.inr (N y hy)).mono (by decide) (by decide)⟩⟩
theorem main_1_1 : Claimed_1_1 := comes_1 fun _ _ _ _ _ _ h hF => ⟨h.1, hF⟩
theorem main_1_2 : Claimed_1_2 := comes_1 fun _ _ _ _ _ _ h hF => ⟨h.2.1, hF⟩
end Jvm.Pilot.@@N@@
namespace Jvm.Pilot.@@N@@
open Jvm Jvm.ClassFile Sem Op Lib Jvm.Free Jvm.Stand Jvm.Pilot.@@N@@.Jvm.D
/-! MADE BY PROGRAM (witnessworld.py) out of the Statement's table words and the real class files: 10 classes; the members and pool entries that the words name. The judged class is class 1, her method 1. -/
namespace start1
open Jvm.ClassFile
def u (s : String) : CpInfo := .utf8 (stringToUtf16 s)
/-- a pool by its gaps: so many unusable entries, then the entry; so many at the end -/
def gap : Nat → List CpInfo → List CpInfo
  | 0, r => r
  | n + 1, r => .unusable :: gap n r
def poolList (es : List (Nat × CpInfo)) (last : Nat) : List CpInfo := es.foldr (fun e r => gap e.1 (e.2 :: r)) (gap last [])
def pool (es : List (Nat × CpInfo)) (last : Nat) : Array CpInfo := ⟨poolList es last⟩
def fileOf (pool : Array CpInfo) (this : Nat) (attrs : Array Attribute := #[]) (ms : Array MethodInfo := #[]) (fl : Nat := 33) (sup : Nat := 0) (ifs : Array Nat := #[]) (fds : Array FieldInfo := #[]) : ClassFile where
  minorVersion := 0
  majorVersion := 65
  constantPool := pool
  accessFlags := fl
  thisClass := this
  superClass := sup
  interfaces := ifs
  fields := fds
  methods := ms
  attributes := attrs
def plain (name : String) (sup : Option ClassId) : Class where
  name := name
  kind := .ordinary
  loader := none
  accessFlags := 33
  super := sup
  interfaces := #[]
  cf := none
  fields := #[]
  methods := #[]
  instanceTypes := #[]
  staticTypes := #[]
  resolved := #[]
  callSites := []
  init := .initialized
  statics := none
  mirror := none

def pool0 : Array CpInfo := pool [(5, u "<init>"), (0, u "()V"), (1, .class_ 10), (1, u "java/lang/Object")] 113

def k0c0 : Code := { maxStack := 0, maxLocals := 1, code := object_method_1_code, exceptionTable := #[], attributes := #[] }
def k0m0 : Method := { name := "<init>", desc := "()V", sig := { parameters := [], returnType := none }, accessFlags := 1, code := some k0c0 }
/-- java/lang/Object -/
def k0 : Class := { plain "java/lang/Object" none with
  accessFlags := 33
  interfaces := #[]
  cf := some (fileOf pool0 8 #[] #[{ accessFlags := 1, nameIndex := 5, descriptorIndex := 6, attributes := #[] }] 33 0 #[] #[])
  fields := #[]
  methods := #[k0m0]
  instanceTypes := #[]
  staticTypes := #[]
  resolved := Array.replicate 124 none
  statics := none }

def pool1 : Array CpInfo := pool [(2, .class_ 4), (1, u "java/lang/Object"), (0, u "<init>"), (0, u "()V"), (0, .class_ 8), (0, u "com/example/wattle/wattle/process/CollectorTimeMostlyCollectingSincePinLaw"), (0, .long 2305843009213693951), (1, .class_ 12), (0, u "com/example/wattle/wattle/process/CollectorTime"), (0, .methodref 11 14), (0, .nameAndType 5 15), (0, u "(JJ)V"), (0, .methodref 11 17), (0, .nameAndType 18 19), (0, u "mostlyCollectingSince"), (0, u "(Lcom/example/wattle/wattle/process/CollectorTime;)Z"), (0, .long 2), (1, u "MASK"), (0, u "J"), (3, u "law"), (0, u "(JJJJ)Z")] 3

def k1m0 : Method := { name := "<init>", desc := "()V", sig := { parameters := [], returnType := none }, accessFlags := 1, code := none }
def k1c1 : Code := { maxStack := 7, maxLocals := 25, code := code, exceptionTable := #[], attributes := #[] }
def k1m1 : Method := { name := "law", desc := "(JJJJ)Z", sig := { parameters := [.long, .long, .long, .long], returnType := some .boolean }, accessFlags := 9, code := some k1c1 }
/-- com/example/wattle/wattle/process/CollectorTimeMostlyCollectingSincePinLaw -/
def k1 : Class := { plain "com/example/wattle/wattle/process/CollectorTimeMostlyCollectingSincePinLaw" (some 0) with
  accessFlags := 49
  interfaces := #[]
  cf := some (fileOf pool1 7 #[] #[{ accessFlags := 1, nameIndex := 5, descriptorIndex := 6, attributes := #[] }, { accessFlags := 9, nameIndex := 27, descriptorIndex := 28, attributes := #[] }] 49 2 #[] #[{ accessFlags := 26, nameIndex := 22, descriptorIndex := 23, attributes := #[] }])
  fields := #[{ name := "MASK", type := .long, accessFlags := 26, slot := 0, constantValue := 0 }]
  methods := #[k1m0, k1m1]
  instanceTypes := #[]
  staticTypes := #[.long]
  resolved := Array.replicate 32 none
  statics := none }

def pool2 : Array CpInfo := pool [(1, .methodref 2 3), (0, .class_ 4), (0, .nameAndType 5 6), (0, u "java/lang/Object"), (0, u "<init>"), (0, u "()V"), (0, .class_ 8), (0, u "java/lang/Record")] 13

def k2c0 : Code := { maxStack := 1, maxLocals := 1, code := jdk_30_method_1_code, exceptionTable := #[], attributes := #[] }
def k2m0 : Method := { name := "<init>", desc := "()V", sig := { parameters := [], returnType := none }, accessFlags := 4, code := some k2c0 }
/-- java/lang/Record -/
def k2 : Class := { plain "java/lang/Record" (some 0) with
  accessFlags := 1057
  interfaces := #[]
  cf := some (fileOf pool2 7 #[] #[{ accessFlags := 4, nameIndex := 5, descriptorIndex := 6, attributes := #[] }] 1057 2 #[] #[])
  fields := #[]
  methods := #[k2m0]
  instanceTypes := #[]
  staticTypes := #[]
  resolved := Array.replicate 22 none
  statics := none }

def pool3 : Array CpInfo := pool [(1, .methodref 2 3), (0, .class_ 4), (0, .nameAndType 5 6), (0, u "java/lang/Record"), (0, u "<init>"), (0, u "()V"), (0, .fieldref 8 9), (0, .class_ 10), (0, .nameAndType 11 12), (0, u "com/example/wattle/wattle/process/CollectorTime"), (0, u "processTicks"), (0, u "J"), (0, .fieldref 8 14), (0, .nameAndType 15 12), (0, u "collectorTicks"), (62, u "(JJ)V"), (0, .long 2), (27, u "mostlyCollectingSince"), (0, u "(Lcom/example/wattle/wattle/process/CollectorTime;)Z")] 23

def k3c0 : Code := { maxStack := 3, maxLocals := 5, code := prog_107_method_1_code, exceptionTable := #[], attributes := #[] }
def k3m0 : Method := { name := "<init>", desc := "(JJ)V", sig := { parameters := [.long, .long], returnType := none }, accessFlags := 1, code := some k3c0 }
def k3c1 : Code := { maxStack := 6, maxLocals := 2, code := prog_107_method_3_code, exceptionTable := #[], attributes := #[] }
def k3m1 : Method := { name := "mostlyCollectingSince", desc := "(Lcom/example/wattle/wattle/process/CollectorTime;)Z", sig := { parameters := [(.object "com/example/wattle/wattle/process/CollectorTime")], returnType := some .boolean }, accessFlags := 1, code := some k3c1 }
/-- com/example/wattle/wattle/process/CollectorTime -/
def k3 : Class := { plain "com/example/wattle/wattle/process/CollectorTime" (some 2) with
  accessFlags := 49
  interfaces := #[]
  cf := some (fileOf pool3 8 #[] #[{ accessFlags := 1, nameIndex := 5, descriptorIndex := 78, attributes := #[] }, { accessFlags := 1, nameIndex := 107, descriptorIndex := 108, attributes := #[] }] 49 2 #[] #[{ accessFlags := 18, nameIndex := 11, descriptorIndex := 12, attributes := #[] }, { accessFlags := 18, nameIndex := 15, descriptorIndex := 12, attributes := #[] }])
  fields := #[{ name := "processTicks", type := .long, accessFlags := 18, slot := 0, constantValue := 0 }, { name := "collectorTicks", type := .long, accessFlags := 18, slot := 1, constantValue := 0 }]
  methods := #[k3m0, k3m1]
  instanceTypes := #[.long, .long]
  staticTypes := #[]
  resolved := Array.replicate 132 none
  statics := none }

def pool4 : Array CpInfo := pool [(1, u "java/lang/Cloneable"), (0, .class_ 1), (0, u "java/lang/Object"), (0, .class_ 3)] 3

/-- java/lang/Cloneable -/
def k4 : Class := { plain "java/lang/Cloneable" (some 0) with
  accessFlags := 1537
  interfaces := #[]
  cf := some (fileOf pool4 2 #[] #[] 1537 4 #[] #[])
  fields := #[]
  methods := #[]
  instanceTypes := #[]
  staticTypes := #[]
  resolved := Array.replicate 8 none
  statics := none }

def pool5 : Array CpInfo := pool [(1, u "java/io/Serializable"), (0, .class_ 1), (0, u "java/lang/Object"), (0, .class_ 3)] 3

/-- java/io/Serializable -/
def k5 : Class := { plain "java/io/Serializable" (some 0) with
  accessFlags := 1537
  interfaces := #[]
  cf := some (fileOf pool5 2 #[] #[] 1537 4 #[] #[])
  fields := #[]
  methods := #[]
  instanceTypes := #[]
  staticTypes := #[]
  resolved := Array.replicate 8 none
  statics := none }

/-- the primitive byte -/
def k6 : Class := { plain "byte" none with kind := .primitive 'B', accessFlags := 0x411 }
/-- [B -/
def k7 : Class := { plain "[B" (some 0) with kind := .array 6 .byte, interfaces := #[4, 5], accessFlags := 1041 }

/-- the primitive int -/
def k8 : Class := { plain "int" none with kind := .primitive 'I', accessFlags := 0x411 }
/-- [I -/
def k9 : Class := { plain "[I" (some 0) with kind := .array 8 .int, interfaces := #[4, 5], accessFlags := 1041 }

def heap : Heap := #[]
def classes : Array Class := #[k0, k1, k2, k3, k4, k5, k6, k7, k8, k9]
def interned : List (Array UInt16 × Addr) := []
def slotsUsed : Nat := 0
def theMethod : MethodId := ⟨1, 1⟩
def args0 : Array Value := #[.long 5, .long 7, .long 3, .long 2]
def aboutOver (below : List Frame) : State where
  vm := { classes := classes, interned := interned.toArray }
  heap := heap
  slotsUsed := slotsUsed
  threads := #[{ frames := .invoking theMethod args0 :: below }]
def below0 : List Frame := [.native { method := ⟨0, 0⟩, args := #[] }]
def about1 : State := aboutOver below0
def p0 : Program := .bare "" "" ""
def e0 : Env := launch0.env 0 0 0
theorem w_frames : about1.frames = Frame.invoking theMethod args0 :: below0 := rfl
set_option maxRecDepth 65536 in
theorem w_args : argsFit about1.vm theMethod args0 = true := by decide +kernel
set_option maxRecDepth 65536 in
theorem w_heap : heapFits about1 = true := by decide +kernel
set_option maxRecDepth 65536 in
theorem w_runnable : about1.curStatus? = some .runnable := by decide +kernel
set_option maxRecDepth 65536 in
theorem w_alone : about1.alone = true := by decide +kernel
set_option maxRecDepth 65536 in
theorem w_named : about1.methodNamed? x = some theMethod := by decide +kernel
set_option maxRecDepth 65536 in
theorem w_hears : about1.hears theMethod below0 = true := by decide +kernel
set_option maxRecDepth 65536 in
theorem w_ripe : about1.ripe theMethod args0 below0 = true := by decide +kernel
theorem w_running : about1.status = .running := rfl
set_option maxRecDepth 65536 in
theorem w_room : about1.hasRoom e0.platform room_1 = true :=
  launch0.hasRoom_least _ room_1 (by decide +kernel) (by decide +kernel) (by decide +kernel) (by decide +kernel) (by decide +kernel) (by decide +kernel)
theorem allAtoms_all (ts : List Jvm.Cond) (a : Array Jvm.Value) (st : Jvm.State) : (allAtoms ts).before a st = ts.all (fun c => c.before a st) := by
  induction ts with
  | nil => rfl
  | cons c t ih =>
    show (Jvm.Cond.and c (allAtoms t)).before a st = _
    rw [Jvm.Cond.before_and, ih, List.all_cons]
def words1 : List Jvm.Cond := Jvm.Cond.code x code maxLocals ret :: tables_1
/-- a 'code' word, met by the world's own term for the bytes: nothing is compared byte by byte -/
theorem code_word {y : MethodName} {bytes : ByteArray} {mx : Nat} {rt : Option FieldType} {a : Array Value} {s : State} {m : MethodId} {meth : Method} {c : Code} (h1 : s.methodNamed? y = some m) (h2 : s.vm.method? m = some meth) (h3 : meth.code = some c) (h4 : c.code = bytes)
    (h5 : (c.maxLocals == mx && c.exceptionTable.isEmpty && decide (c.maxStack ≤ mostOperands) && decide (meth.sig.returnType = rt) && !meth.locks && decide (parseMethodDescriptor y.desc = some meth.sig)) = true) : (Jvm.Cond.code y bytes mx rt).before a s = true := by
  simp only [Bool.and_eq_true, beq_iff_eq, Bool.not_eq_true', decide_eq_true_eq] at h5
  obtain ⟨⟨⟨⟨⟨g1, g2⟩, g3⟩, g4⟩, g5⟩, g6⟩ := h5
  simp [Cond.before, Cond.holds, Cond.value, h1, h2, h3, h4, g1, g2, g3, g4, g5, g6]
def isCode : Jvm.Cond → Bool
  | .code _ _ _ _ => true
  | _ => false
theorem all_split {L : List Jvm.Cond} {P : Jvm.Cond → Bool} (h1 : L.all (fun c => isCode c || P c) = true) (h2 : ∀ c ∈ L.filter isCode, P c = true) : L.all P = true := by
  refine List.all_eq_true.mpr fun c hc => ?_
  have h := List.all_eq_true.mp h1 c hc
  rcases Bool.eq_false_or_eq_true (isCode c) with hi | hi
  · exact h2 c (List.mem_filter.mpr ⟨hc, hi⟩)
  · simpa [hi] using h
set_option maxRecDepth 65536 in
theorem w_c0 : (Jvm.Cond.code x code maxLocals ret).before args0 about1 = true := code_word (m := ⟨1, 1⟩) (meth := k1m1) (c := k1c1) (by decide +kernel) rfl rfl rfl (by decide +kernel)
set_option maxRecDepth 65536 in
theorem w_c1 : (Jvm.Cond.code ({ cls := "com/example/wattle/wattle/process/CollectorTime", name := "<init>", desc := "(JJ)V" } : Jvm.MethodName) prog_107_method_1_code (5 : Nat) (Option.none : Option Jvm.ClassFile.FieldType)).before args0 about1 = true := code_word (m := ⟨3, 0⟩) (meth := k3m0) (c := k3c0) (by decide +kernel) rfl rfl rfl (by decide +kernel)
set_option maxRecDepth 65536 in
theorem w_c2 : (Jvm.Cond.code ({ cls := "java/lang/Record", name := "<init>", desc := "()V" } : Jvm.MethodName) jdk_30_method_1_code (1 : Nat) (Option.none : Option Jvm.ClassFile.FieldType)).before args0 about1 = true := code_word (m := ⟨2, 0⟩) (meth := k2m0) (c := k2c0) (by decide +kernel) rfl rfl rfl (by decide +kernel)
set_option maxRecDepth 65536 in
theorem w_c3 : (Jvm.Cond.code ({ cls := "java/lang/Object", name := "<init>", desc := "()V" } : Jvm.MethodName) object_method_1_code (1 : Nat) (Option.none : Option Jvm.ClassFile.FieldType)).before args0 about1 = true := code_word (m := ⟨0, 0⟩) (meth := k0m0) (c := k0c0) (by decide +kernel) rfl rfl rfl (by decide +kernel)
set_option maxRecDepth 65536 in
theorem w_c4 : (Jvm.Cond.code ({ cls := "com/example/wattle/wattle/process/CollectorTime", name := "mostlyCollectingSince", desc := "(Lcom/example/wattle/wattle/process/CollectorTime;)Z" } : Jvm.MethodName) prog_107_method_3_code (2 : Nat) (Option.some Jvm.ClassFile.FieldType.boolean)).before args0 about1 = true := code_word (m := ⟨3, 1⟩) (meth := k3m1) (c := k3c1) (by decide +kernel) rfl rfl rfl (by decide +kernel)
def codes1 : List Jvm.Cond := [Jvm.Cond.code x code maxLocals ret, Jvm.Cond.code ({ cls := "com/example/wattle/wattle/process/CollectorTime", name := "<init>", desc := "(JJ)V" } : Jvm.MethodName) prog_107_method_1_code (5 : Nat) (Option.none : Option Jvm.ClassFile.FieldType), Jvm.Cond.code ({ cls := "java/lang/Record", name := "<init>", desc := "()V" } : Jvm.MethodName) jdk_30_method_1_code (1 : Nat) (Option.none : Option Jvm.ClassFile.FieldType), Jvm.Cond.code ({ cls := "java/lang/Object", name := "<init>", desc := "()V" } : Jvm.MethodName) object_method_1_code (1 : Nat) (Option.none : Option Jvm.ClassFile.FieldType), Jvm.Cond.code ({ cls := "com/example/wattle/wattle/process/CollectorTime", name := "mostlyCollectingSince", desc := "(Lcom/example/wattle/wattle/process/CollectorTime;)Z" } : Jvm.MethodName) prog_107_method_3_code (2 : Nat) (Option.some Jvm.ClassFile.FieldType.boolean)]
set_option maxRecDepth 65536 in
theorem codes_eq : words1.filter isCode = codes1 := rfl
theorem w_codes : ∀ c ∈ words1.filter isCode, c.before args0 about1 = true := by
  rw [codes_eq]
  intro c hc
  simp only [codes1, List.mem_cons, List.not_mem_nil, or_false] at hc
  rcases hc with rfl | rfl | rfl | rfl | rfl
  · exact w_c0
  · exact w_c1
  · exact w_c2
  · exact w_c3
  · exact w_c4
set_option maxRecDepth 65536 in
theorem w_t1 : (words1.take 24).all (fun c => isCode c || c.before args0 about1) = true := by decide +kernel
set_option maxRecDepth 65536 in
theorem w_t2 : (words1.drop 24).all (fun c => isCode c || c.before args0 about1) = true := by decide +kernel
theorem w_tables : (allAtoms (Jvm.Cond.code x code maxLocals ret :: tables_1)).before args0 about1 = true := by
  rw [allAtoms_all]
  show words1.all (fun c => c.before args0 about1) = true
  refine all_split ?_ w_codes
  rw [← List.take_append_drop 24 words1, List.all_append, w_t1, w_t2]
  rfl
set_option maxRecDepth 65536 in
theorem w_case : (Jvm.Cond.and given_1 narrow_1).before args0 about1 = true := by decide +kernel
theorem w_applies : (headSpec (Jvm.Cond.code x code maxLocals ret :: tables_1) room_1).applies x e0.platform about1 = true :=
  (Spec.applies_iff w_frames).mpr ⟨w_running, w_runnable, w_alone, w_named, w_hears, w_ripe, w_room, w_tables⟩
theorem atStart : AtStart classFile x code maxLocals ret World_1 tables_1 room_1 Calls_1 rest_1 Pre_1 launch0 p0 e0 about1 theMethod args0 below0 :=
  ⟨lists_1, trivial, launch0.admits_env _ _ _, launch0.least_env, fairChoices_fair.cas, fairChoices_fair.clock, w_frames, w_args, w_heap, w_applies, trivial, trivial, w_case⟩
end start1
theorem witness_1 : WitnessClaimed_1 := ⟨start1.p0, start1.e0, start1.about1, start1.theMethod, start1.args0, start1.below0, start1.atStart⟩
end Jvm.Pilot.@@N@@
