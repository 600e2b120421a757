import JvmDerived
import JvmDerived.Pilot.@@N@@Statement
import JvmDerived.Pilot.@@N@@Code
set_option linter.unusedVariables false
set_option linter.unusedSimpArgs false
namespace Jvm.RoadKit
open Sem ClassFile Op Lib Jvm.Stand Jvm.Free Jvm.LawKit
section New
variable {p : Program} {l : Launch} {e : Env} {R : Room} {s : State} {m : MethodId} {args : Array Value} {below : List Frame} {meth : Method} {c : Code} {T : State} {locs : List Loc} {cells slots : Nat}
theorem retI (X : Stand p l e R s m args below meth c T locs cells slots) (hx : p.tables.exec = Jvm.exec) {pc : Nat} {Ls : Array Slot} {z : Int32} {rest : List Value} (hret : meth.sig.returnType = some .int) (hd : decode c.code pc = .ok (.ireturn, 1)) {fs : List Frame}
    (hl : ∀ (f : JFrame) (acts : List Action), f.method = m → f.locked = none → f.entered = [] → (doReturn e (T.setTop f) acts (some (.int z))).1 = T.setFrames fs) : Steps p.tables e below (T.setTop (mkF m pc Ls (.int z :: rest))) (T.setFrames fs) := by
  have hm' : T.vm.method? m = some meth := X.method'
  have hn : narrow .int (.int z) = .int z := rfl
  show Steps p.tables e below (T.setTop { method := m, pc := pc, locals := Ls, stack := _ :: rest, locked := none }) _
  jvm_step X.here [X.here.top, hx, hd, hm', hret, hn]
  first | (intro acts; rw [hl _ acts rfl rfl rfl]) | rw [hl _ _ rfl rfl rfl]
  exact Steps.refl _
end New
end Jvm.RoadKit
namespace Jvm.Pilot.@@N@@
open Jvm Jvm.ClassFile Sem Op Lib Jvm.Free Jvm.Stand Jvm.LawKit Jvm.RoadKit Bundle Jvm.Pilot.@@N@@.Jvm.D
theorem pd_0 : parseMethodDescriptor "()V" = some ⟨[], none⟩ := by decide +kernel
theorem pd_1 : parseMethodDescriptor "(JJ)J" = some ⟨[.long, .long], some .long⟩ := by decide +kernel
theorem pd_2 : parseMethodDescriptor "(JJJ)V" = some ⟨[.long, .long, .long], none⟩ := by decide +kernel
theorem pd_3 : parseMethodDescriptor "()J" = some ⟨[], some .long⟩ := by decide +kernel
theorem d1_0 : decode jdk_29_method_70_code 0 = .ok (.lload_n 0, 1) := by decide +kernel
theorem d1_1 : decode jdk_29_method_70_code 1 = .ok (.lload_n 2, 1) := by decide +kernel
theorem d1_2 : decode jdk_29_method_70_code 2 = .ok (.lcmp, 1) := by decide +kernel
theorem d1_3 : decode jdk_29_method_70_code 3 = .ok (.ifCond .gt 7, 3) := by decide +kernel
theorem d1_6 : decode jdk_29_method_70_code 6 = .ok (.lload_n 0, 1) := by decide +kernel
theorem d1_7 : decode jdk_29_method_70_code 7 = .ok (.goto 4, 3) := by decide +kernel
theorem d1_10 : decode jdk_29_method_70_code 10 = .ok (.lload_n 2, 1) := by decide +kernel
theorem d1_11 : decode jdk_29_method_70_code 11 = .ok (.lreturn, 1) := by decide +kernel
theorem ef_1 (m : MethodId) (x0 : Int64) (x1 : Int64) : entryFrame m #[(.long x0), (.long x1)] 4 = mkF m 0 #[.val (.long x0), .second, .val (.long x1), .second] [] := by first | (simp [entryFrame, mkF, argsToLocals, Value.category]; done) | rfl
def f1 (qa : Int64) (qb : Int64) : Int64 := (if (0 : Int32) < (lcmpW qa qb) then qb else qa)
def Q1 (Z : State) (qa : Int64) (qb : Int64) (h0 : Heap) (n0 : Nat) (v : Option Value) (h : Heap) (L : List Loc) : Prop := v = some (.long (f1 qa qb)) ∧ Fr n0 L ∧ h = h0
set_option maxRecDepth 65536 in
set_option maxHeartbeats 40000000 in
theorem rm1 (l : Launch) (Z : State) (a0 : Array Value) (hw : ∀ d ∈ tables_1, d.before a0 Z = true) (ws : List Jvm.Cond) (qa : Int64) (qb : Int64)  (h0 : Heap) (n0 : Nat) (Z0 : n0 ≤ h0.size)  :
    MetFree l (⟨"java/lang/Math", "min", "(JJ)J"⟩ : MethodName) (head1 (Jvm.Cond.code (⟨"java/lang/Math", "min", "(JJ)J"⟩ : MethodName) jdk_29_method_70_code 4 (some .long) :: ws) ({ frames := 0, cells := 0, slots := 0, locals := 0 } : Room)) (fun a U => a = #[(.long qa), (.long qb)] ∧ Z.Warmed39 U.vm ∧ U.heap = h0) (fun _ _ _ _ _ => True) (fun _ U o U' => ∃ v L, o = .returned v ∧ Q1 Z qa qb h0 n0 v U'.heap L ∧ FrameEnd U o U' L ({ frames := 0, cells := 0, slots := 0, locals := 0 } : Room).cells ({ frames := 0, cells := 0, slots := 0, locals := 0 } : Room).slots) := by
  refine MetFree.of_bodySF (Jvm.Free.JP.mathPlain rfl (by decide +kernel)) hisR ?_
  intro p e s m args below meth c s₁ Bd hml0 hP hK
  obtain ⟨rfl, hZ, hh⟩ := hP
  have hx := Bd.exec
  have hby := Bd.bytes
  have hml : c.maxLocals = 4 := hml0
  have hown : s.vm.findClass "java/lang/Math" = some m.cls := findClass_of_methodNamed Bd.named
  have hnm := (name_of_methodNamed Bd.named Bd.method).1
  have X0 : Stand p l e ({ frames := 0, cells := 0, slots := 0, locals := 0 } : Room) s m #[(.long qa), (.long qb)] below meth c s₁ [] 0 0 := Stand.of_body Bd
  have e0 : s₁.heap = h0 := by rw [← hh, Bd.state]; rfl
  have N0 := Fr.nil n0
  have hlk : meth.locks = false := by first | exact BodyLoose.notSynchronized Bd | exact Body.notSynchronized Bd
  have pre0 : ∀ t, Steps p.tables e below (s₁.setTop (mkF m 0 #[.val (.long qa), .second, .val (.long qb), .second] [])) t → Steps p.tables e below (s₁.setTop (entryFrame m #[(.long qa), (.long qb)] 4)) t := fun t k => castTop (ef_1 m qa qb) k
  have pre1 : ∀ t, Steps p.tables e below (s₁.setTop (mkF m 3 #[.val (.long qa), .second, .val (.long qb), .second] [(.int (lcmpW qa qb))])) t → Steps p.tables e below (s₁.setTop (entryFrame m #[(.long qa), (.long qb)] 4)) t := fun t k => pre0 t (by
    show Steps p.tables e below (s₁.setTop (mkF m 0 #[.val (.long qa), .second, .val (.long qb), .second] [])) _
    refine XS.lloadN X0.here hx rfl (hb hby d1_0) rfl ?_
    show Steps p.tables e below (s₁.setTop (mkF m 1 #[.val (.long qa), .second, .val (.long qb), .second] [(.long qa)])) _
    refine XS.lloadN X0.here hx rfl (hb hby d1_1) rfl ?_
    show Steps p.tables e below (s₁.setTop (mkF m 2 #[.val (.long qa), .second, .val (.long qb), .second] [(.long qb), (.long qa)])) _
    refine XS.lcmp X0.here hx rfl (hb hby d1_2) rfl ?_
    show Steps p.tables e below (s₁.setTop (mkF m 3 #[.val (.long qa), .second, .val (.long qb), .second] [(.int (lcmpW qa qb))])) _
    exact k)
  by_cases hc3_2 : (0 : Int32) < (lcmpW qa qb)
  · have hv : (f1 qa qb) = qb := by simp only [f1, if_pos hc3_2]
    obtain ⟨fs, hr, hrun, hended, hW, hsame⟩ := X0.leave (v := some (.long qb)) (fun h => nomatch (Bd.returns.symm.trans h)) hlk
    refine ⟨_, _, pre1 _ ?_, hrun, hended, _, _, rfl, ?_, ⟨_, rfl⟩, hW, hsame.mono (by decide) (by decide)⟩
    · show Steps p.tables e below (s₁.setTop (mkF m 3 #[.val (.long qa), .second, .val (.long qb), .second] [(.int (lcmpW qa qb))])) _
      refine XS.ifYes X0.here hx rfl (pc0 := 3) (pc' := 10) rfl (hb hby d1_3) rfl ((if0 _ _).trans (tlt hc3_2).2.2.1) (by decide) (by decide) ?_
      show Steps p.tables e below (s₁.setTop (mkF m 10 #[.val (.long qa), .second, .val (.long qb), .second] [])) _
      refine XS.lloadN X0.here hx rfl (hb hby d1_10) rfl ?_
      show Steps p.tables e below (s₁.setTop (mkF m 11 #[.val (.long qa), .second, .val (.long qb), .second] [(.long qb)])) _
      exact Jvm.Stand.lreturnOut X0 hx Bd.returns (hb hby d1_11) hr
    · exact ⟨by rw [hv], N0, e0⟩
  · have hv : (f1 qa qb) = qa := by simp only [f1, if_neg hc3_2]
    obtain ⟨fs, hr, hrun, hended, hW, hsame⟩ := X0.leave (v := some (.long qa)) (fun h => nomatch (Bd.returns.symm.trans h)) hlk
    refine ⟨_, _, pre1 _ ?_, hrun, hended, _, _, rfl, ?_, ⟨_, rfl⟩, hW, hsame.mono (by decide) (by decide)⟩
    · show Steps p.tables e below (s₁.setTop (mkF m 3 #[.val (.long qa), .second, .val (.long qb), .second] [(.int (lcmpW qa qb))])) _
      refine XS.ifNo X0.here hx rfl (hb hby d1_3) rfl ((if0 _ _).trans (flt hc3_2).2.2.1) ?_
      show Steps p.tables e below (s₁.setTop (mkF m 6 #[.val (.long qa), .second, .val (.long qb), .second] [])) _
      refine XS.lloadN X0.here hx rfl (hb hby d1_6) rfl ?_
      show Steps p.tables e below (s₁.setTop (mkF m 7 #[.val (.long qa), .second, .val (.long qb), .second] [(.long qa)])) _
      refine XS.goto X0.here hx rfl (pc0 := 7) (pc' := 11) rfl (hb hby d1_7) (by decide) (by decide) ?_
      show Steps p.tables e below (s₁.setTop (mkF m 11 #[.val (.long qa), .second, .val (.long qb), .second] [(.long qa)])) _
      exact Jvm.Stand.lreturnOut X0 hx Bd.returns (hb hby d1_11) hr
    · exact ⟨by rw [hv], N0, e0⟩
theorem d3_0 : decode jdk_30_method_1_code 0 = .ok (.aload_n 0, 1) := by decide +kernel
theorem d3_1 : decode jdk_30_method_1_code 1 = .ok (.invokespecial 1, 3) := by decide +kernel
theorem d3_4 : decode jdk_30_method_1_code 4 = .ok (.return_, 1) := by decide +kernel
theorem pn_3 : plainName "java/lang/Record" = true := by first | (simp [plainName, overriddenIn]; done) | decide +kernel
theorem ef_3 (m : MethodId) (x0 : Addr) : entryFrame m #[(.ref x0)] 1 = mkF m 0 #[.val (.ref x0)] [] := by first | (simp [entryFrame, mkF, argsToLocals, Value.category]; done) | rfl
def Q3 (Z : State) (o0 : Addr)  (h0 : Heap) (n0 : Nat) (v : Option Value) (h : Heap) (L : List Loc) : Prop := v = none ∧ Fr n0 L ∧ h = h0
set_option maxRecDepth 65536 in
set_option maxHeartbeats 40000000 in
theorem rm3 (l : Launch) (Z : State) (a0 : Array Value) (hw : ∀ d ∈ tables_1, d.before a0 Z = true) (ws : List Jvm.Cond) (o0 : Addr)  (h0 : Heap) (n0 : Nat) (Z0 : n0 ≤ h0.size)   :
    MetFree l (⟨"java/lang/Record", "<init>", "()V"⟩ : MethodName) (head1 (Jvm.Cond.code (⟨"java/lang/Record", "<init>", "()V"⟩ : MethodName) jdk_30_method_1_code 1 none :: ws) ({ frames := 1, cells := 0, slots := 0, locals := 12 } : Room)) (fun a U => a = #[(.ref o0)] ∧ Z.Warmed39 U.vm ∧ U.heap = h0) (fun _ _ _ _ _ => True) (fun _ U o U' => ∃ v L, o = .returned v ∧ Q3 Z o0 h0 n0 v U'.heap L ∧ FrameEnd U o U' L ({ frames := 1, cells := 0, slots := 0, locals := 12 } : Room).cells ({ frames := 1, cells := 0, slots := 0, locals := 12 } : Room).slots) := by
  refine MetFree.of_bodySF (plainFor_of_name pn_3) hisR ?_
  intro p e s m args below meth c s₁ Bd hml0 hP hK
  obtain ⟨rfl, hZ, hh⟩ := hP
  have hx := Bd.exec
  have hby := Bd.bytes
  have hml : c.maxLocals = 1 := hml0
  have hown : s.vm.findClass "java/lang/Record" = some m.cls := findClass_of_methodNamed Bd.named
  have hnm := (name_of_methodNamed Bd.named Bd.method).1
  have X0 : Stand p l e ({ frames := 1, cells := 0, slots := 0, locals := 12 } : Room) s m #[(.ref o0)] below meth c s₁ [] 0 0 := Stand.of_body Bd
  have e0 : s₁.heap = h0 := by rw [← hh, Bd.state]; rfl
  have N0 := Fr.nil n0
  have hlk : meth.locks = false := by first | exact BodyLoose.notSynchronized Bd | exact Body.notSynchronized Bd
  have pre0 : ∀ t, Steps p.tables e below (s₁.setTop (mkF m 0 #[.val (.ref o0)] [])) t → Steps p.tables e below (s₁.setTop (entryFrame m #[(.ref o0)] 1)) t := fun t k => castTop (ef_3 m o0) k
  obtain ⟨T1, X1, e1, st1⟩ := initO X0 hx hZ hown (hw _ (List.mem_of_getElem? (i := 16) rfl)) (hw _ (List.mem_of_getElem? (i := 17) rfl)) (hw _ (List.mem_of_getElem? (i := 18) rfl)) e0 (g := (mkF m 1 #[.val (.ref o0)] [(.ref o0)])) rfl (by rw [hml]; rfl) rfl (hb hby d3_1) (by decide) (W := 0) (by show 2 * 0 + _ ≤ _; exact Nat.le_of_eq rfl) (by decide)
  obtain ⟨fs, hr, hrun, hended, hW, hsame⟩ := X1.leave (v := none) (fun _ => rfl) hlk
  refine ⟨_, _, pre0 _ ?_, hrun, hended, _, _, rfl, ?_, ⟨_, rfl⟩, hW, hsame.mono (by decide) (by decide)⟩
  · show Steps p.tables e below (s₁.setTop (mkF m 0 #[.val (.ref o0)] [])) _
    refine XS.aloadN X0.here hx rfl (hb hby d3_0) rfl rfl ?_
    show Steps p.tables e below (s₁.setTop (mkF m 1 #[.val (.ref o0)] [(.ref o0)])) _
    refine st1 _ ?_
    show Steps p.tables e below (T1.setTop (mkF m 4 #[.val (.ref o0)] [])) _
    exact X1.returnOut hx Bd.returns (hb hby d3_4) hr
  · show Q3 Z o0 h0 n0 _ T1.heap _
    rw [e1]
    exact ⟨rfl, N0, rfl⟩
theorem d2_0 : decode prog_35_method_1_code 0 = .ok (.aload_n 0, 1) := by decide +kernel
theorem d2_1 : decode prog_35_method_1_code 1 = .ok (.invokespecial 1, 3) := by decide +kernel
theorem d2_4 : decode prog_35_method_1_code 4 = .ok (.lload 5, 2) := by decide +kernel
theorem d2_6 : decode prog_35_method_1_code 6 = .ok (.lconst 0, 1) := by decide +kernel
theorem d2_7 : decode prog_35_method_1_code 7 = .ok (.lcmp, 1) := by decide +kernel
theorem d2_8 : decode prog_35_method_1_code 8 = .ok (.ifCond .lt 27, 3) := by decide +kernel
theorem d2_11 : decode prog_35_method_1_code 11 = .ok (.lload 5, 2) := by decide +kernel
theorem d2_13 : decode prog_35_method_1_code 13 = .ok (.lload_n 1, 1) := by decide +kernel
theorem d2_14 : decode prog_35_method_1_code 14 = .ok (.lload_n 3, 1) := by decide +kernel
theorem d2_15 : decode prog_35_method_1_code 15 = .ok (.invokestatic 7, 3) := by decide +kernel
theorem d2_18 : decode prog_35_method_1_code 18 = .ok (.lcmp, 1) := by decide +kernel
theorem d2_19 : decode prog_35_method_1_code 19 = .ok (.ifCond .gt 16, 3) := by decide +kernel
theorem d2_22 : decode prog_35_method_1_code 22 = .ok (.lload_n 1, 1) := by decide +kernel
theorem d2_23 : decode prog_35_method_1_code 23 = .ok (.lload 5, 2) := by decide +kernel
theorem d2_25 : decode prog_35_method_1_code 25 = .ok (.lsub, 1) := by decide +kernel
theorem d2_26 : decode prog_35_method_1_code 26 = .ok (.ldc2_w 15, 3) := by decide +kernel
theorem d2_29 : decode prog_35_method_1_code 29 = .ok (.lload_n 3, 1) := by decide +kernel
theorem d2_30 : decode prog_35_method_1_code 30 = .ok (.lsub, 1) := by decide +kernel
theorem d2_31 : decode prog_35_method_1_code 31 = .ok (.lcmp, 1) := by decide +kernel
theorem d2_32 : decode prog_35_method_1_code 32 = .ok (.ifCond .le 42, 3) := by decide +kernel
theorem d2_74 : decode prog_35_method_1_code 74 = .ok (.aload_n 0, 1) := by decide +kernel
theorem d2_75 : decode prog_35_method_1_code 75 = .ok (.lload_n 1, 1) := by decide +kernel
theorem d2_76 : decode prog_35_method_1_code 76 = .ok (.putfield 36, 3) := by decide +kernel
theorem d2_79 : decode prog_35_method_1_code 79 = .ok (.aload_n 0, 1) := by decide +kernel
theorem d2_80 : decode prog_35_method_1_code 80 = .ok (.lload_n 3, 1) := by decide +kernel
theorem d2_81 : decode prog_35_method_1_code 81 = .ok (.putfield 42, 3) := by decide +kernel
theorem d2_84 : decode prog_35_method_1_code 84 = .ok (.aload_n 0, 1) := by decide +kernel
theorem d2_85 : decode prog_35_method_1_code 85 = .ok (.lload 5, 2) := by decide +kernel
theorem d2_87 : decode prog_35_method_1_code 87 = .ok (.putfield 45, 3) := by decide +kernel
theorem d2_90 : decode prog_35_method_1_code 90 = .ok (.return_, 1) := by decide +kernel
theorem pn_2 : plainName "com/example/shingle/shingle/Overlap" = true := by first | (simp [plainName, overriddenIn]; done) | decide +kernel
theorem ef_2 (m : MethodId) (x0 : Addr) (x1 : Int64) (x2 : Int64) (x3 : Int64) : entryFrame m #[(.ref x0), (.long x1), (.long x2), (.long x3)] 7 = mkF m 0 #[.val (.ref x0), .val (.long x1), .second, .val (.long x2), .second, .val (.long x3), .second] [] := by first | (simp [entryFrame, mkF, argsToLocals, Value.category]; done) | rfl
def Q2 (Z : State) (o0 : Addr) (qa : Int64) (qb : Int64) (qc : Int64) (u_sizeA : Value) (u_sizeB : Value) (u_common : Value) (h0 : Heap) (n0 : Nat) (v : Option Value) (h : Heap) (L : List Loc) : Prop := v = none ∧ Fr n0 L ∧ Keep h0 h [o0] ∧ Fld Z h o0 "com/example/shingle/shingle/Overlap" "sizeA" "J" (.long qa) ∧ Fld Z h o0 "com/example/shingle/shingle/Overlap" "sizeB" "J" (.long qb) ∧ Fld Z h o0 "com/example/shingle/shingle/Overlap" "common" "J" (.long qc)
set_option maxRecDepth 65536 in
set_option maxHeartbeats 40000000 in
theorem rm2 (l : Launch) (Z : State) (a0 : Array Value) (hw : ∀ d ∈ tables_1, d.before a0 Z = true) (ws : List Jvm.Cond) (o0 : Addr) (qa : Int64) (qb : Int64) (qc : Int64) (u_sizeA : Value) (u_sizeB : Value) (u_common : Value) (h0 : Heap) (n0 : Nat) (Z0 : n0 ≤ h0.size) (E_o0 : Exa Z h0 o0 "com/example/shingle/shingle/Overlap") (g_o0 : n0 ≤ o0) (F_sizeA_o0 : Fld Z h0 o0 "com/example/shingle/shingle/Overlap" "sizeA" "J" u_sizeA) (F_sizeB_o0 : Fld Z h0 o0 "com/example/shingle/shingle/Overlap" "sizeB" "J" u_sizeB) (F_common_o0 : Fld Z h0 o0 "com/example/shingle/shingle/Overlap" "common" "J" u_common) (hA : ¬ ((lcmpW qc (0 : Int64)) < (0 : Int32))) (hB : ¬ ((0 : Int32) < (lcmpW qc (f1 qa qb)))) (hC : ¬ ((0 : Int32) < (lcmpW (qa - qc) ((9223372036854775807 : Int64) - qb)))) :
    MetFree l (⟨"com/example/shingle/shingle/Overlap", "<init>", "(JJJ)V"⟩ : MethodName) (head1 (Jvm.Cond.code (⟨"com/example/shingle/shingle/Overlap", "<init>", "(JJJ)V"⟩ : MethodName) prog_35_method_1_code 7 none :: ws) ({ frames := 2, cells := 0, slots := 0, locals := 24 } : Room)) (fun a U => a = #[(.ref o0), (.long qa), (.long qb), (.long qc)] ∧ Z.Warmed39 U.vm ∧ U.heap = h0) (fun _ _ _ _ _ => True) (fun _ U o U' => ∃ v L, o = .returned v ∧ Q2 Z o0 qa qb qc u_sizeA u_sizeB u_common h0 n0 v U'.heap L ∧ FrameEnd U o U' L ({ frames := 2, cells := 0, slots := 0, locals := 24 } : Room).cells ({ frames := 2, cells := 0, slots := 0, locals := 24 } : Room).slots) := by
  refine MetFree.of_bodySF (plainFor_of_name pn_2) hisR ?_
  intro p e s m args below meth c s₁ Bd hml0 hP hK
  obtain ⟨rfl, hZ, hh⟩ := hP
  have hx := Bd.exec
  have hby := Bd.bytes
  have hml : c.maxLocals = 7 := hml0
  have hown : s.vm.findClass "com/example/shingle/shingle/Overlap" = some m.cls := findClass_of_methodNamed Bd.named
  have hnm := (name_of_methodNamed Bd.named Bd.method).1
  have X0 : Stand p l e ({ frames := 2, cells := 0, slots := 0, locals := 24 } : Room) s m #[(.ref o0), (.long qa), (.long qb), (.long qc)] below meth c s₁ [] 0 0 := Stand.of_body Bd
  have e0 : s₁.heap = h0 := by rw [← hh, Bd.state]; rfl
  have N0 := Fr.nil n0
  have hlk : meth.locks = false := by first | exact BodyLoose.notSynchronized Bd | exact Body.notSynchronized Bd
  have pre0 : ∀ t, Steps p.tables e below (s₁.setTop (mkF m 0 #[.val (.ref o0), .val (.long qa), .second, .val (.long qb), .second, .val (.long qc), .second] [])) t → Steps p.tables e below (s₁.setTop (entryFrame m #[(.ref o0), (.long qa), (.long qb), (.long qc)] 7)) t := fun t k => castTop (ef_2 m o0 qa qb qc) k
  obtain ⟨_, _, ⟨T1, L1, k1, n1⟩, -, X1, ⟨Lc1, hQ1, l1, y1, z1⟩, st1⟩ := X0.specialBack hx (y := (⟨"java/lang/Record", "<init>", "()V"⟩ : MethodName)) rfl hown (mvT hZ (hw _ (List.mem_of_getElem? (i := 11) rfl))) (mvT hZ (hw _ (List.mem_of_getElem? (i := 12) rfl))) (mvT hZ (hw _ (List.mem_of_getElem? (i := 15) rfl))) (by decide) (backOf (W := 0) (rm3 l Z a0 hw [] o0  h0 n0 Z0 ) hZ (hw _ (List.mem_of_getElem? (i := 15) rfl)) (hw _ (List.mem_of_getElem? (i := 14) rfl)) (by decide) (by decide)) (g := (mkF m 1 #[.val (.ref o0), .val (.long qa), .second, .val (.long qb), .second, .val (.long qc), .second] [(.ref o0)])) rfl (by rw [hml]; rfl) (Steps.refl _) (a := o0) (argsL := []) (rest := []) (lenOf pd_0 rfl) rfl (by show 2 * 0 + _ ≤ _; exact Nat.le_of_eq rfl) (hb hby d2_1) (fun _ _ => ⟨rfl, e0, (by decide : 0 + 0 ≤ _), (by decide : 0 + 0 ≤ _)⟩)
  dsimp only [Pt.U, Pt.locs, Pt.cells, Pt.slots] at X1 l1 y1 z1 st1 hQ1
  subst l1 y1 z1
  obtain ⟨rfl, N1q, e1⟩ := hQ1
  have N1 := Fr.app N0 N1q
  obtain ⟨_, _, ⟨T2, L2, k2, n2⟩, -, X2, ⟨Lc2, hQ2, l2, y2, z2⟩, st2⟩ := Jvm.LawKit.callS X1 hx (y := (⟨"java/lang/Math", "min", "(JJ)J"⟩ : MethodName)) hown (mvT hZ (hw _ (List.mem_of_getElem? (i := 19) rfl))) (mvT hZ (hw _ (List.mem_of_getElem? (i := 2) rfl))) (mvT hZ (hw _ (List.mem_of_getElem? (i := 3) rfl))) (mvT hZ (hw _ (List.mem_of_getElem? (i := 4) rfl))) (by decide) (backOf (W := 2) (rm1 l Z a0 hw [] qa qb h0 n0 Z0) hZ (hw _ (List.mem_of_getElem? (i := 4) rfl)) (hw _ (List.mem_of_getElem? (i := 3) rfl)) (by decide) (by decide)) (g := (mkF m 15 #[.val (.ref o0), .val (.long qa), .second, .val (.long qb), .second, .val (.long qc), .second] [(.long qb), (.long qa), (.long qc)])) rfl (by rw [hml]; rfl) (argsL := [(.long qa), (.long qb)]) (rest := [(.long qc)]) (lenOf pd_1 rfl) rfl (by show 2 * 0 + _ ≤ _; exact Nat.le_of_eq rfl) (hb hby d2_15) (fun _ _ => ⟨rfl, e1, (by decide : 0 + 0 ≤ _), (by decide : 0 + 0 ≤ _)⟩)
  dsimp only [Pt.U, Pt.locs, Pt.cells, Pt.slots] at X2 l2 y2 z2 st2 hQ2
  subst l2 y2 z2
  obtain ⟨rfl, N2q, e2⟩ := hQ2
  have N2 := Fr.app N1 N2q
  obtain ⟨T3, h3, X3, e3, W3, st3⟩ := putF X2 hx hZ hown (host := "") (Or.inl (hw _ (List.mem_of_getElem? (i := 21) rfl))) Via.refl e2 (F_sizeA_o0) (E_o0) (Or.inr ⟨(hw _ (List.mem_of_getElem? (i := 22) rfl)), rfl, hnm⟩) (hw _ (List.mem_of_getElem? (i := 6) rfl)) (ty := .long) (by decide) rfl rfl (g := (mkF m 76 #[.val (.ref o0), .val (.long qa), .second, .val (.long qb), .second, .val (.long qc), .second] [(.long qa), (.ref o0)])) rfl rfl (hb hby d2_76)
  have Fw3 := (F_sizeA_o0).same W3
  have N3 := Fr.snoc X3 N2 g_o0
  have Z3 : n0 ≤ h3.size := Nat.le_trans Z0 (Keep.of_wr W3).1
  have K3 : Keep h0 h3 [o0] := ((Keep.refl h0 [o0])).wr W3 (Or.inl (List.mem_of_getElem? (i := 0) rfl))
  obtain ⟨T4, h4, X4, e4, W4, st4⟩ := putF X3 hx hZ hown (host := "") (Or.inl (hw _ (List.mem_of_getElem? (i := 23) rfl))) Via.refl e3 ((F_sizeB_o0.other W3 (Or.inr (slot_ne (Or.inr (hw _ (List.mem_of_getElem? (i := 24) rfl))) (Or.inr (hw _ (List.mem_of_getElem? (i := 22) rfl))) (by decide) (t := .long) (t' := .long) (by decide) (by decide))))) ((E_o0.wr W3)) (Or.inr ⟨(hw _ (List.mem_of_getElem? (i := 24) rfl)), rfl, hnm⟩) (hw _ (List.mem_of_getElem? (i := 6) rfl)) (ty := .long) (by decide) rfl rfl (g := (mkF m 81 #[.val (.ref o0), .val (.long qa), .second, .val (.long qb), .second, .val (.long qc), .second] [(.long qb), (.ref o0)])) rfl rfl (hb hby d2_81)
  have Fw4 := ((F_sizeB_o0.other W3 (Or.inr (slot_ne (Or.inr (hw _ (List.mem_of_getElem? (i := 24) rfl))) (Or.inr (hw _ (List.mem_of_getElem? (i := 22) rfl))) (by decide) (t := .long) (t' := .long) (by decide) (by decide))))).same W4
  have N4 := Fr.snoc X4 N3 g_o0
  have Z4 : n0 ≤ h4.size := Nat.le_trans Z3 (Keep.of_wr W4).1
  have K4 : Keep h0 h4 [o0] := (K3).wr W4 (Or.inl (List.mem_of_getElem? (i := 0) rfl))
  obtain ⟨T5, h5, X5, e5, W5, st5⟩ := putF X4 hx hZ hown (host := "") (Or.inl (hw _ (List.mem_of_getElem? (i := 25) rfl))) Via.refl e4 (((F_common_o0.other W3 (Or.inr (slot_ne (Or.inr (hw _ (List.mem_of_getElem? (i := 26) rfl))) (Or.inr (hw _ (List.mem_of_getElem? (i := 22) rfl))) (by decide) (t := .long) (t' := .long) (by decide) (by decide)))).other W4 (Or.inr (slot_ne (Or.inr (hw _ (List.mem_of_getElem? (i := 26) rfl))) (Or.inr (hw _ (List.mem_of_getElem? (i := 24) rfl))) (by decide) (t := .long) (t' := .long) (by decide) (by decide))))) (((E_o0.wr W3).wr W4)) (Or.inr ⟨(hw _ (List.mem_of_getElem? (i := 26) rfl)), rfl, hnm⟩) (hw _ (List.mem_of_getElem? (i := 6) rfl)) (ty := .long) (by decide) rfl rfl (g := (mkF m 87 #[.val (.ref o0), .val (.long qa), .second, .val (.long qb), .second, .val (.long qc), .second] [(.long qc), (.ref o0)])) rfl rfl (hb hby d2_87)
  have Fw5 := (((F_common_o0.other W3 (Or.inr (slot_ne (Or.inr (hw _ (List.mem_of_getElem? (i := 26) rfl))) (Or.inr (hw _ (List.mem_of_getElem? (i := 22) rfl))) (by decide) (t := .long) (t' := .long) (by decide) (by decide)))).other W4 (Or.inr (slot_ne (Or.inr (hw _ (List.mem_of_getElem? (i := 26) rfl))) (Or.inr (hw _ (List.mem_of_getElem? (i := 24) rfl))) (by decide) (t := .long) (t' := .long) (by decide) (by decide))))).same W5
  have N5 := Fr.snoc X5 N4 g_o0
  have Z5 : n0 ≤ h5.size := Nat.le_trans Z4 (Keep.of_wr W5).1
  have K5 : Keep h0 h5 [o0] := (K4).wr W5 (Or.inl (List.mem_of_getElem? (i := 0) rfl))
  obtain ⟨fs, hr, hrun, hended, hW, hsame⟩ := X5.leave (v := none) (fun _ => rfl) hlk
  refine ⟨_, _, pre0 _ ?_, hrun, hended, _, _, rfl, ?_, ⟨_, rfl⟩, hW, hsame.mono (by decide) (by decide)⟩
  · show Steps p.tables e below (s₁.setTop (mkF m 0 #[.val (.ref o0), .val (.long qa), .second, .val (.long qb), .second, .val (.long qc), .second] [])) _
    refine XS.aloadN X0.here hx rfl (hb hby d2_0) rfl rfl ?_
    show Steps p.tables e below (s₁.setTop (mkF m 1 #[.val (.ref o0), .val (.long qa), .second, .val (.long qb), .second, .val (.long qc), .second] [(.ref o0)])) _
    refine st1.trans ?_
    show Steps p.tables e below (T1.setTop (mkF m 4 #[.val (.ref o0), .val (.long qa), .second, .val (.long qb), .second, .val (.long qc), .second] [])) _
    refine XS.lload X1.here hx rfl (hb hby d2_4) rfl ?_
    show Steps p.tables e below (T1.setTop (mkF m 6 #[.val (.ref o0), .val (.long qa), .second, .val (.long qb), .second, .val (.long qc), .second] [(.long qc)])) _
    refine XS.lconst X1.here hx rfl (hb hby d2_6) ?_
    show Steps p.tables e below (T1.setTop (mkF m 7 #[.val (.ref o0), .val (.long qa), .second, .val (.long qb), .second, .val (.long qc), .second] [(.long (0 : Int64)), (.long qc)])) _
    refine XS.lcmp X1.here hx rfl (hb hby d2_7) rfl ?_
    show Steps p.tables e below (T1.setTop (mkF m 8 #[.val (.ref o0), .val (.long qa), .second, .val (.long qb), .second, .val (.long qc), .second] [(.int (lcmpW qc (0 : Int64)))])) _
    refine XS.ifNo X1.here hx rfl (hb hby d2_8) rfl ((if0 _ _).trans (flt (hA : ¬ ((lcmpW qc (0 : Int64)) < (0 : Int32)))).1) ?_
    show Steps p.tables e below (T1.setTop (mkF m 11 #[.val (.ref o0), .val (.long qa), .second, .val (.long qb), .second, .val (.long qc), .second] [])) _
    refine XS.lload X1.here hx rfl (hb hby d2_11) rfl ?_
    show Steps p.tables e below (T1.setTop (mkF m 13 #[.val (.ref o0), .val (.long qa), .second, .val (.long qb), .second, .val (.long qc), .second] [(.long qc)])) _
    refine XS.lloadN X1.here hx rfl (hb hby d2_13) rfl ?_
    show Steps p.tables e below (T1.setTop (mkF m 14 #[.val (.ref o0), .val (.long qa), .second, .val (.long qb), .second, .val (.long qc), .second] [(.long qa), (.long qc)])) _
    refine XS.lloadN X1.here hx rfl (hb hby d2_14) rfl ?_
    show Steps p.tables e below (T1.setTop (mkF m 15 #[.val (.ref o0), .val (.long qa), .second, .val (.long qb), .second, .val (.long qc), .second] [(.long qb), (.long qa), (.long qc)])) _
    refine st2 _ ?_
    show Steps p.tables e below (T2.setTop (mkF m 18 #[.val (.ref o0), .val (.long qa), .second, .val (.long qb), .second, .val (.long qc), .second] [(.long (f1 qa qb)), (.long qc)])) _
    refine XS.lcmp X2.here hx rfl (hb hby d2_18) rfl ?_
    show Steps p.tables e below (T2.setTop (mkF m 19 #[.val (.ref o0), .val (.long qa), .second, .val (.long qb), .second, .val (.long qc), .second] [(.int (lcmpW qc (f1 qa qb)))])) _
    refine XS.ifNo X2.here hx rfl (hb hby d2_19) rfl ((if0 _ _).trans (flt (hB : ¬ ((0 : Int32) < (lcmpW qc (f1 qa qb))))).2.2.1) ?_
    show Steps p.tables e below (T2.setTop (mkF m 22 #[.val (.ref o0), .val (.long qa), .second, .val (.long qb), .second, .val (.long qc), .second] [])) _
    refine XS.lloadN X2.here hx rfl (hb hby d2_22) rfl ?_
    show Steps p.tables e below (T2.setTop (mkF m 23 #[.val (.ref o0), .val (.long qa), .second, .val (.long qb), .second, .val (.long qc), .second] [(.long qa)])) _
    refine XS.lload X2.here hx rfl (hb hby d2_23) rfl ?_
    show Steps p.tables e below (T2.setTop (mkF m 25 #[.val (.ref o0), .val (.long qa), .second, .val (.long qb), .second, .val (.long qc), .second] [(.long qc), (.long qa)])) _
    refine XS.lsub X2.here hx rfl (hb hby d2_25) rfl ?_
    show Steps p.tables e below (T2.setTop (mkF m 26 #[.val (.ref o0), .val (.long qa), .second, .val (.long qb), .second, .val (.long qc), .second] [(.long (qa - qc))])) _
    refine X2.ldc2Long hx hown (mvT hZ (hw _ (List.mem_of_getElem? (i := 20) rfl))) (g := (mkF m 26 #[.val (.ref o0), .val (.long qa), .second, .val (.long qb), .second, .val (.long qc), .second] [(.long (qa - qc))])) rfl (hb hby d2_26) _ ?_
    show Steps p.tables e below (T2.setTop (mkF m 29 #[.val (.ref o0), .val (.long qa), .second, .val (.long qb), .second, .val (.long qc), .second] [(.long (9223372036854775807 : Int64)), (.long (qa - qc))])) _
    refine XS.lloadN X2.here hx rfl (hb hby d2_29) rfl ?_
    show Steps p.tables e below (T2.setTop (mkF m 30 #[.val (.ref o0), .val (.long qa), .second, .val (.long qb), .second, .val (.long qc), .second] [(.long qb), (.long (9223372036854775807 : Int64)), (.long (qa - qc))])) _
    refine XS.lsub X2.here hx rfl (hb hby d2_30) rfl ?_
    show Steps p.tables e below (T2.setTop (mkF m 31 #[.val (.ref o0), .val (.long qa), .second, .val (.long qb), .second, .val (.long qc), .second] [(.long ((9223372036854775807 : Int64) - qb)), (.long (qa - qc))])) _
    refine XS.lcmp X2.here hx rfl (hb hby d2_31) rfl ?_
    show Steps p.tables e below (T2.setTop (mkF m 32 #[.val (.ref o0), .val (.long qa), .second, .val (.long qb), .second, .val (.long qc), .second] [(.int (lcmpW (qa - qc) ((9223372036854775807 : Int64) - qb)))])) _
    refine XS.ifYes X2.here hx rfl (pc0 := 32) (pc' := 74) rfl (hb hby d2_32) rfl ((if0 _ _).trans (flt (hC : ¬ ((0 : Int32) < (lcmpW (qa - qc) ((9223372036854775807 : Int64) - qb))))).2.2.2) (by decide) (by decide) ?_
    show Steps p.tables e below (T2.setTop (mkF m 74 #[.val (.ref o0), .val (.long qa), .second, .val (.long qb), .second, .val (.long qc), .second] [])) _
    refine XS.aloadN X2.here hx rfl (hb hby d2_74) rfl rfl ?_
    show Steps p.tables e below (T2.setTop (mkF m 75 #[.val (.ref o0), .val (.long qa), .second, .val (.long qb), .second, .val (.long qc), .second] [(.ref o0)])) _
    refine XS.lloadN X2.here hx rfl (hb hby d2_75) rfl ?_
    show Steps p.tables e below (T2.setTop (mkF m 76 #[.val (.ref o0), .val (.long qa), .second, .val (.long qb), .second, .val (.long qc), .second] [(.long qa), (.ref o0)])) _
    refine st3 _ ?_
    show Steps p.tables e below (T3.setTop (mkF m 79 #[.val (.ref o0), .val (.long qa), .second, .val (.long qb), .second, .val (.long qc), .second] [])) _
    refine XS.aloadN X3.here hx rfl (hb hby d2_79) rfl rfl ?_
    show Steps p.tables e below (T3.setTop (mkF m 80 #[.val (.ref o0), .val (.long qa), .second, .val (.long qb), .second, .val (.long qc), .second] [(.ref o0)])) _
    refine XS.lloadN X3.here hx rfl (hb hby d2_80) rfl ?_
    show Steps p.tables e below (T3.setTop (mkF m 81 #[.val (.ref o0), .val (.long qa), .second, .val (.long qb), .second, .val (.long qc), .second] [(.long qb), (.ref o0)])) _
    refine st4 _ ?_
    show Steps p.tables e below (T4.setTop (mkF m 84 #[.val (.ref o0), .val (.long qa), .second, .val (.long qb), .second, .val (.long qc), .second] [])) _
    refine XS.aloadN X4.here hx rfl (hb hby d2_84) rfl rfl ?_
    show Steps p.tables e below (T4.setTop (mkF m 85 #[.val (.ref o0), .val (.long qa), .second, .val (.long qb), .second, .val (.long qc), .second] [(.ref o0)])) _
    refine XS.lload X4.here hx rfl (hb hby d2_85) rfl ?_
    show Steps p.tables e below (T4.setTop (mkF m 87 #[.val (.ref o0), .val (.long qa), .second, .val (.long qb), .second, .val (.long qc), .second] [(.long qc), (.ref o0)])) _
    refine st5 _ ?_
    show Steps p.tables e below (T5.setTop (mkF m 90 #[.val (.ref o0), .val (.long qa), .second, .val (.long qb), .second, .val (.long qc), .second] [])) _
    exact X5.returnOut hx Bd.returns (hb hby d2_90) hr
  · show Q2 Z o0 qa qb qc u_sizeA u_sizeB u_common h0 n0 _ T5.heap _
    rw [e5]
    exact ⟨rfl, N5, K5, ((Fw3.other W4 (Or.inr (slot_ne (Or.inr (hw _ (List.mem_of_getElem? (i := 22) rfl))) (Or.inr (hw _ (List.mem_of_getElem? (i := 24) rfl))) (by decide) (t := .long) (t' := .long) (by decide) (by decide)))).other W5 (Or.inr (slot_ne (Or.inr (hw _ (List.mem_of_getElem? (i := 22) rfl))) (Or.inr (hw _ (List.mem_of_getElem? (i := 26) rfl))) (by decide) (t := .long) (t' := .long) (by decide) (by decide)))), (Fw4.other W5 (Or.inr (slot_ne (Or.inr (hw _ (List.mem_of_getElem? (i := 24) rfl))) (Or.inr (hw _ (List.mem_of_getElem? (i := 26) rfl))) (by decide) (t := .long) (t' := .long) (by decide) (by decide)))), Fw5⟩
theorem d5_0 : decode prog_35_method_2_code 0 = .ok (.aload_n 0, 1) := by decide +kernel
theorem d5_1 : decode prog_35_method_2_code 1 = .ok (.getfield 36, 3) := by decide +kernel
theorem d5_4 : decode prog_35_method_2_code 4 = .ok (.aload_n 0, 1) := by decide +kernel
theorem d5_5 : decode prog_35_method_2_code 5 = .ok (.getfield 42, 3) := by decide +kernel
theorem d5_8 : decode prog_35_method_2_code 8 = .ok (.ladd, 1) := by decide +kernel
theorem d5_9 : decode prog_35_method_2_code 9 = .ok (.aload_n 0, 1) := by decide +kernel
theorem d5_10 : decode prog_35_method_2_code 10 = .ok (.getfield 45, 3) := by decide +kernel
theorem d5_13 : decode prog_35_method_2_code 13 = .ok (.lsub, 1) := by decide +kernel
theorem d5_14 : decode prog_35_method_2_code 14 = .ok (.lreturn, 1) := by decide +kernel
theorem pn_5 : plainName "com/example/shingle/shingle/Overlap" = true := by first | (simp [plainName, overriddenIn]; done) | decide +kernel
theorem ef_5 (m : MethodId) (x0 : Addr) : entryFrame m #[(.ref x0)] 1 = mkF m 0 #[.val (.ref x0)] [] := by first | (simp [entryFrame, mkF, argsToLocals, Value.category]; done) | rfl
def f5 (sa : Int64) (sb : Int64) (co : Int64) : Int64 := ((sa + sb) - co)
def Q5 (Z : State) (o0 : Addr) (sa : Int64) (sb : Int64) (co : Int64) (h0 : Heap) (n0 : Nat) (v : Option Value) (h : Heap) (L : List Loc) : Prop := v = some (.long (f5 sa sb co)) ∧ Fr n0 L ∧ h = h0
set_option maxRecDepth 65536 in
set_option maxHeartbeats 40000000 in
theorem rm5 (l : Launch) (Z : State) (a0 : Array Value) (hw : ∀ d ∈ tables_1, d.before a0 Z = true) (ws : List Jvm.Cond) (o0 : Addr) (sa : Int64) (sb : Int64) (co : Int64) (h0 : Heap) (n0 : Nat) (Z0 : n0 ≤ h0.size) (E_o0 : Exa Z h0 o0 "com/example/shingle/shingle/Overlap") (F_sizeA_o0 : Fld Z h0 o0 "com/example/shingle/shingle/Overlap" "sizeA" "J" (.long sa)) (F_sizeB_o0 : Fld Z h0 o0 "com/example/shingle/shingle/Overlap" "sizeB" "J" (.long sb)) (F_common_o0 : Fld Z h0 o0 "com/example/shingle/shingle/Overlap" "common" "J" (.long co))  :
    MetFree l (⟨"com/example/shingle/shingle/Overlap", "union", "()J"⟩ : MethodName) (head1 (Jvm.Cond.code (⟨"com/example/shingle/shingle/Overlap", "union", "()J"⟩ : MethodName) prog_35_method_2_code 1 (some .long) :: ws) ({ frames := 0, cells := 0, slots := 0, locals := 0 } : Room)) (fun a U => a = #[(.ref o0)] ∧ Z.Warmed39 U.vm ∧ U.heap = h0) (fun _ _ _ _ _ => True) (fun _ U o U' => ∃ v L, o = .returned v ∧ Q5 Z o0 sa sb co h0 n0 v U'.heap L ∧ FrameEnd U o U' L ({ frames := 0, cells := 0, slots := 0, locals := 0 } : Room).cells ({ frames := 0, cells := 0, slots := 0, locals := 0 } : Room).slots) := by
  refine MetFree.of_bodySF (plainFor_of_name pn_5) hisR ?_
  intro p e s m args below meth c s₁ Bd hml0 hP hK
  obtain ⟨rfl, hZ, hh⟩ := hP
  have hx := Bd.exec
  have hby := Bd.bytes
  have hml : c.maxLocals = 1 := hml0
  have hown : s.vm.findClass "com/example/shingle/shingle/Overlap" = some m.cls := findClass_of_methodNamed Bd.named
  have hnm := (name_of_methodNamed Bd.named Bd.method).1
  have X0 : Stand p l e ({ frames := 0, cells := 0, slots := 0, locals := 0 } : Room) s m #[(.ref o0)] below meth c s₁ [] 0 0 := Stand.of_body Bd
  have e0 : s₁.heap = h0 := by rw [← hh, Bd.state]; rfl
  have N0 := Fr.nil n0
  have hlk : meth.locks = false := by first | exact BodyLoose.notSynchronized Bd | exact Body.notSynchronized Bd
  have pre0 : ∀ t, Steps p.tables e below (s₁.setTop (mkF m 0 #[.val (.ref o0)] [])) t → Steps p.tables e below (s₁.setTop (entryFrame m #[(.ref o0)] 1)) t := fun t k => castTop (ef_5 m o0) k
  obtain ⟨T1, X1, e1, st1⟩ := getF X0 hx hZ hown (host := "") (Or.inl (hw _ (List.mem_of_getElem? (i := 21) rfl))) Via.refl e0 (F_sizeA_o0) (g := (mkF m 1 #[.val (.ref o0)] [(.ref o0)])) rfl rfl (hb hby d5_1)
  obtain ⟨T2, X2, e2, st2⟩ := getF X1 hx hZ hown (host := "") (Or.inl (hw _ (List.mem_of_getElem? (i := 23) rfl))) Via.refl e1 (F_sizeB_o0) (g := (mkF m 5 #[.val (.ref o0)] [(.ref o0), (.long sa)])) rfl rfl (hb hby d5_5)
  obtain ⟨T3, X3, e3, st3⟩ := getF X2 hx hZ hown (host := "") (Or.inl (hw _ (List.mem_of_getElem? (i := 25) rfl))) Via.refl e2 (F_common_o0) (g := (mkF m 10 #[.val (.ref o0)] [(.ref o0), (.long (sa + sb))])) rfl rfl (hb hby d5_10)
  have hv : (f5 sa sb co) = ((sa + sb) - co) := rfl
  obtain ⟨fs, hr, hrun, hended, hW, hsame⟩ := X3.leave (v := some (.long ((sa + sb) - co))) (fun h => nomatch (Bd.returns.symm.trans h)) hlk
  refine ⟨_, _, pre0 _ ?_, hrun, hended, _, _, rfl, ?_, ⟨_, rfl⟩, hW, hsame.mono (by decide) (by decide)⟩
  · show Steps p.tables e below (s₁.setTop (mkF m 0 #[.val (.ref o0)] [])) _
    refine XS.aloadN X0.here hx rfl (hb hby d5_0) rfl rfl ?_
    show Steps p.tables e below (s₁.setTop (mkF m 1 #[.val (.ref o0)] [(.ref o0)])) _
    refine st1 _ ?_
    show Steps p.tables e below (T1.setTop (mkF m 4 #[.val (.ref o0)] [(.long sa)])) _
    refine XS.aloadN X1.here hx rfl (hb hby d5_4) rfl rfl ?_
    show Steps p.tables e below (T1.setTop (mkF m 5 #[.val (.ref o0)] [(.ref o0), (.long sa)])) _
    refine st2 _ ?_
    show Steps p.tables e below (T2.setTop (mkF m 8 #[.val (.ref o0)] [(.long sb), (.long sa)])) _
    refine XS.ladd X2.here hx rfl (hb hby d5_8) rfl ?_
    show Steps p.tables e below (T2.setTop (mkF m 9 #[.val (.ref o0)] [(.long (sa + sb))])) _
    refine XS.aloadN X2.here hx rfl (hb hby d5_9) rfl rfl ?_
    show Steps p.tables e below (T2.setTop (mkF m 10 #[.val (.ref o0)] [(.ref o0), (.long (sa + sb))])) _
    refine st3 _ ?_
    show Steps p.tables e below (T3.setTop (mkF m 13 #[.val (.ref o0)] [(.long co), (.long (sa + sb))])) _
    refine XS.lsub X3.here hx rfl (hb hby d5_13) rfl ?_
    show Steps p.tables e below (T3.setTop (mkF m 14 #[.val (.ref o0)] [(.long ((sa + sb) - co))])) _
    exact Jvm.Stand.lreturnOut X3 hx Bd.returns (hb hby d5_14) hr
  · show Q5 Z o0 sa sb co h0 n0 _ T3.heap _
    rw [e3]
    exact ⟨by rw [hv], N0, rfl⟩
theorem pn_0 : plainName "com/example/shingle/shingle/OverlapUnionPinLaw" = true := by first | (simp [plainName, overriddenIn]; done) | decide +kernel
theorem ef_0 (m : MethodId) (x0 : Int64) (x1 : Int64) (x2 : Int64) : entryFrame m #[(.long x0), (.long x1), (.long x2)] maxLocals = mkF m 0 #[.val (.long x0), .second, .val (.long x1), .second, .val (.long x2), .second, .unset, .unset, .unset, .unset, .unset, .unset, .unset, .unset, .unset] [] := by first | (simp [entryFrame, mkF, argsToLocals, Value.category, maxLocals]; done) | rfl
def v0_1 (qx : Int64) : Int64 := ((9223372036854775807 : Int64) - (qx &&& (9223372036854775807 : Int64)))
def v0_2 (qy : Int64) (qx : Int64) : Int64 := (f1 (qy &&& (9223372036854775807 : Int64)) (v0_1 qx))
def v0_3 (qz : Int64) (qx : Int64) (qy : Int64) : Int64 := (f1 (qz &&& (9223372036854775807 : Int64)) ((v0_1 qx) - (v0_2 qy qx)))
def v0_4 (qx : Int64) (qy : Int64) (qz : Int64) : Int64 := (f5 ((qx &&& (9223372036854775807 : Int64)) + (v0_2 qy qx)) ((qx &&& (9223372036854775807 : Int64)) + (v0_3 qz qx qy)) (qx &&& (9223372036854775807 : Int64)))

theorem own_gt (x y : Int64) : ((0 : Int32) < lcmpW x y) ↔ y.toInt < x.toInt := by rw [lcW, lc_gt, Int64.lt_iff_toInt_lt]
theorem own_lt (x y : Int64) : (lcmpW x y < (0 : Int32)) ↔ x.toInt < y.toInt := by rw [lcW, lc_lt, Int64.lt_iff_toInt_lt]
theorem own_m (x : Int64) : 0 ≤ (x &&& (9223372036854775807 : Int64)).toInt := by
  rw [c_maskL x 9223372036854775807 63 (by decide) (by decide)]; exact Int.emod_nonneg _ (by decide)
theorem own_min (x y : Int64) : (f1 x y).toInt = min x.toInt y.toInt := by
  unfold f1
  simp only [own_gt]
  split <;> omega
theorem own_sub (x y : Int64) (h : -9223372036854775808 ≤ x.toInt - y.toInt) (h' : x.toInt - y.toInt ≤ 9223372036854775807) : (x - y).toInt = x.toInt - y.toInt := by
  rw [Int64.toInt_sub, Int.bmod_eq_of_le (by omega) (by omega)]
theorem own_add (x y : Int64) (h : -9223372036854775808 ≤ x.toInt + y.toInt) (h' : x.toInt + y.toInt ≤ 9223372036854775807) : (x + y).toInt = x.toInt + y.toInt := by
  rw [Int64.toInt_add, Int.bmod_eq_of_le (by omega) (by omega)]
theorem own_max : (9223372036854775807 : Int64).toInt = 9223372036854775807 := rfl
theorem own_v1 (x : Int64) : (v0_1 x).toInt = 9223372036854775807 - (x &&& (9223372036854775807 : Int64)).toInt := by
  have a := own_m x; have b := (x &&& (9223372036854775807 : Int64)).toInt_lt
  unfold v0_1
  rw [own_sub _ _ (by rw [own_max]; omega) (by rw [own_max]; omega), own_max]
theorem own_v2 (y x : Int64) : 0 ≤ (v0_2 y x).toInt ∧ (v0_2 y x).toInt ≤ (v0_1 x).toInt := by
  have a := own_m y; have b := own_v1 x; have c := own_m x; have d := (x &&& (9223372036854775807 : Int64)).toInt_lt
  unfold v0_2; rw [own_min]; omega
theorem own_v3 (z x y : Int64) : 0 ≤ (v0_3 z x y).toInt ∧ (v0_3 z x y).toInt ≤ (v0_1 x).toInt - (v0_2 y x).toInt := by
  have a := own_m z; have b := own_v1 x; have c := own_m x; have d := own_v2 y x
  have e := (v0_1 x).toInt_lt
  unfold v0_3; rw [own_min, own_sub _ _ (by omega) (by omega)]; omega
theorem own_s1 (x y : Int64) : ((x &&& (9223372036854775807 : Int64)) + (v0_2 y x)).toInt = (x &&& (9223372036854775807 : Int64)).toInt + (v0_2 y x).toInt := by
  have b := own_v1 x; have c := own_m x; have d := own_v2 y x
  exact own_add _ _ (by omega) (by omega)
theorem own_s2 (x y z : Int64) : ((x &&& (9223372036854775807 : Int64)) + (v0_3 z x y)).toInt = (x &&& (9223372036854775807 : Int64)).toInt + (v0_3 z x y).toInt := by
  have b := own_v1 x; have c := own_m x; have d := own_v2 y x; have e := own_v3 z x y
  exact own_add _ _ (by omega) (by omega)
theorem own_A (x y z : Int64) : ¬ ((lcmpW (x &&& (9223372036854775807 : Int64)) (0 : Int64)) < (0 : Int32)) := by
  have a := own_m x
  rw [own_lt]; show ¬ _ < (0 : Int); omega
theorem own_B (x y z : Int64) : ¬ ((0 : Int32) < (lcmpW (x &&& (9223372036854775807 : Int64)) (f1 ((x &&& (9223372036854775807 : Int64)) + (v0_2 y x)) ((x &&& (9223372036854775807 : Int64)) + (v0_3 z x y))))) := by
  have a := own_s1 x y; have b := own_s2 x y z; have d := own_v2 y x; have e := own_v3 z x y
  rw [own_gt, own_min]; omega
theorem own_C (x y z : Int64) : ¬ ((0 : Int32) < (lcmpW (((x &&& (9223372036854775807 : Int64)) + (v0_2 y x)) - (x &&& (9223372036854775807 : Int64))) ((9223372036854775807 : Int64) - ((x &&& (9223372036854775807 : Int64)) + (v0_3 z x y))))) := by
  have a := own_s1 x y; have b := own_s2 x y z; have d := own_v2 y x; have e := own_v3 z x y; have f := own_v1 x; have g := own_m x; have i := own_max
  rw [own_gt, own_sub _ _ (by omega) (by omega), own_sub _ _ (by omega) (by omega)]; omega

def f0 (qx : Int64) (qy : Int64) (qz : Int64) : Int32 := (if (lcmpW (v0_4 qx qy qz) (((v0_2 qy qx) + (v0_3 qz qx qy)) + (qx &&& (9223372036854775807 : Int64)))) = (0 : Int32) then (1 : Int32) else (0 : Int32))
def Q0 (Z : State) (qx : Int64) (qy : Int64) (qz : Int64)  (h0 : Heap) (n0 : Nat) (v : Option Value) (h : Heap) (L : List Loc) : Prop := v = some (.int (f0 qx qy qz)) ∧ Fr n0 L
set_option maxRecDepth 65536 in
set_option maxHeartbeats 40000000 in
theorem rm0 (l : Launch) (Z : State) (a0 : Array Value) (hw : ∀ d ∈ tables_1, d.before a0 Z = true) (ws : List Jvm.Cond) (qx : Int64) (qy : Int64) (qz : Int64)  (h0 : Heap) (n0 : Nat) (Z0 : n0 ≤ h0.size)   :
    MetFree l x (head1 (Jvm.Cond.code x code maxLocals ret :: ws) room_1) (fun a U => a = #[(.long qx), (.long qy), (.long qz)] ∧ Z.Warmed39 U.vm ∧ U.heap = h0) (fun _ _ _ _ _ => True) (fun _ U o U' => ∃ v L, o = .returned v ∧ Q0 Z qx qy qz h0 n0 v U'.heap L ∧ FrameEnd U o U' L room_1.cells room_1.slots) := by
  refine MetFree.of_bodySF (plainFor_of_name pn_0) hisR ?_
  intro p e s m args below meth c s₁ Bd hml0 hP hK
  obtain ⟨rfl, hZ, hh⟩ := hP
  have hx := Bd.exec
  have hby := Bd.bytes
  have hml : c.maxLocals = 15 := hml0
  have hown : s.vm.findClass "com/example/shingle/shingle/OverlapUnionPinLaw" = some m.cls := findClass_of_methodNamed Bd.named
  have hnm := (name_of_methodNamed Bd.named Bd.method).1
  have X0 : Stand p l e room_1 s m #[(.long qx), (.long qy), (.long qz)] below meth c s₁ [] 0 0 := Stand.of_body Bd
  have e0 : s₁.heap = h0 := by rw [← hh, Bd.state]; rfl
  have N0 := Fr.nil n0
  have hlk : meth.locks = false := by first | exact BodyLoose.notSynchronized Bd | exact Body.notSynchronized Bd
  have pre0 : ∀ t, Steps p.tables e below (s₁.setTop (mkF m 0 #[.val (.long qx), .second, .val (.long qy), .second, .val (.long qz), .second, .unset, .unset, .unset, .unset, .unset, .unset, .unset, .unset, .unset] [])) t → Steps p.tables e below (s₁.setTop (entryFrame m #[(.long qx), (.long qy), (.long qz)] maxLocals)) t := fun t k => castTop (ef_0 m qx qy qz) k
  obtain ⟨_, _, ⟨T1, L1, k1, n1⟩, -, X1, ⟨Lc1, hQ1, l1, y1, z1⟩, st1⟩ := Jvm.LawKit.callS X0 hx (y := (⟨"java/lang/Math", "min", "(JJ)J"⟩ : MethodName)) hown (mvT hZ (hw _ (List.mem_of_getElem? (i := 1) rfl))) (mvT hZ (hw _ (List.mem_of_getElem? (i := 2) rfl))) (mvT hZ (hw _ (List.mem_of_getElem? (i := 3) rfl))) (mvT hZ (hw _ (List.mem_of_getElem? (i := 4) rfl))) (by decide) (backOf (W := 0) (rm1 l Z a0 hw [] (qy &&& (9223372036854775807 : Int64)) (v0_1 qx) h0 n0 Z0) hZ (hw _ (List.mem_of_getElem? (i := 4) rfl)) (hw _ (List.mem_of_getElem? (i := 3) rfl)) (by decide) (by decide)) (g := (mkF m 22 #[.val (.long qx), .second, .val (.long qy), .second, .val (.long qz), .second, .val (.long (qx &&& (9223372036854775807 : Int64))), .second, .val (.long (v0_1 qx)), .second, .unset, .unset, .unset, .unset, .unset] [(.long (v0_1 qx)), (.long (qy &&& (9223372036854775807 : Int64)))])) rfl (by rw [hml]; rfl) (argsL := [(.long (qy &&& (9223372036854775807 : Int64))), (.long (v0_1 qx))]) (rest := []) (lenOf pd_1 rfl) rfl (by show 2 * 0 + _ ≤ _; exact Nat.le_of_eq rfl) (hb hby at_22) (fun _ _ => ⟨rfl, e0, (by decide : 0 + 0 ≤ _), (by decide : 0 + 0 ≤ _)⟩)
  dsimp only [Pt.U, Pt.locs, Pt.cells, Pt.slots] at X1 l1 y1 z1 st1 hQ1
  subst l1 y1 z1
  obtain ⟨rfl, N1q, e1⟩ := hQ1
  have N1 := Fr.app N0 N1q
  obtain ⟨_, _, ⟨T2, L2, k2, n2⟩, -, X2, ⟨Lc2, hQ2, l2, y2, z2⟩, st2⟩ := Jvm.LawKit.callS X1 hx (y := (⟨"java/lang/Math", "min", "(JJ)J"⟩ : MethodName)) hown (mvT hZ (hw _ (List.mem_of_getElem? (i := 1) rfl))) (mvT hZ (hw _ (List.mem_of_getElem? (i := 2) rfl))) (mvT hZ (hw _ (List.mem_of_getElem? (i := 3) rfl))) (mvT hZ (hw _ (List.mem_of_getElem? (i := 4) rfl))) (by decide) (backOf (W := 0) (rm1 l Z a0 hw [] (qz &&& (9223372036854775807 : Int64)) ((v0_1 qx) - (v0_2 qy qx)) h0 n0 Z0) hZ (hw _ (List.mem_of_getElem? (i := 4) rfl)) (hw _ (List.mem_of_getElem? (i := 3) rfl)) (by decide) (by decide)) (g := (mkF m 38 #[.val (.long qx), .second, .val (.long qy), .second, .val (.long qz), .second, .val (.long (qx &&& (9223372036854775807 : Int64))), .second, .val (.long (v0_1 qx)), .second, .val (.long (v0_2 qy qx)), .second, .unset, .unset, .unset] [(.long ((v0_1 qx) - (v0_2 qy qx))), (.long (qz &&& (9223372036854775807 : Int64)))])) rfl (by rw [hml]; rfl) (argsL := [(.long (qz &&& (9223372036854775807 : Int64))), (.long ((v0_1 qx) - (v0_2 qy qx)))]) (rest := []) (lenOf pd_1 rfl) rfl (by show 2 * 0 + _ ≤ _; exact Nat.le_of_eq rfl) (hb hby at_38) (fun _ _ => ⟨rfl, e1, (by decide : 0 + 0 ≤ _), (by decide : 0 + 0 ≤ _)⟩)
  dsimp only [Pt.U, Pt.locs, Pt.cells, Pt.slots] at X2 l2 y2 z2 st2 hQ2
  subst l2 y2 z2
  obtain ⟨rfl, N2q, e2⟩ := hQ2
  have N2 := Fr.app N1 N2q
  obtain ⟨T3, h3, X3, e3, E3, A3, D3, -, st3⟩ := newO X2 hx hZ hown (hw _ (List.mem_of_getElem? (i := 5) rfl)) (hw _ (List.mem_of_getElem? (i := 6) rfl)) (hw _ (List.mem_of_getElem? (i := 7) rfl)) e2 (g := (mkF m 43 #[.val (.long qx), .second, .val (.long qy), .second, .val (.long qz), .second, .val (.long (qx &&& (9223372036854775807 : Int64))), .second, .val (.long (v0_1 qx)), .second, .val (.long (v0_2 qy qx)), .second, .val (.long (v0_3 qz qx qy)), .second, .unset] [])) rfl (hb hby at_43) (by decide) (by decide)
  obtain ⟨b3, g3⟩ : ∃ z, z = h0.size := ⟨_, rfl⟩
  rw [← g3] at A3 D3 st3
  have g_b3 : n0 ≤ b3 := Nat.le_trans Z0 (Nat.le_of_eq g3.symm)
  have sz_b3 : h0.size ≤ b3 := Nat.le_trans ((Keep.refl h0 [])).1 (Nat.le_of_eq g3.symm)
  have Z3 : n0 ≤ h3.size := Nat.le_trans Z0 E3.1
  have K3 : Keep h0 h3 [] := ((Keep.refl h0 [])).ext E3
  have F_sizeA_b3 : Fld Z h3 b3 "com/example/shingle/shingle/Overlap" "sizeA" "J" (.long (0 : Int64)) := D3 (Or.inr (hw _ (List.mem_of_getElem? (i := 22) rfl))) (ty := .long) (by decide)
  have F_sizeB_b3 : Fld Z h3 b3 "com/example/shingle/shingle/Overlap" "sizeB" "J" (.long (0 : Int64)) := D3 (Or.inr (hw _ (List.mem_of_getElem? (i := 24) rfl))) (ty := .long) (by decide)
  have F_common_b3 : Fld Z h3 b3 "com/example/shingle/shingle/Overlap" "common" "J" (.long (0 : Int64)) := D3 (Or.inr (hw _ (List.mem_of_getElem? (i := 26) rfl))) (ty := .long) (by decide)
  obtain ⟨_, _, ⟨T4, L4, k4, n4⟩, -, X4, ⟨Lc4, hQ4, l4, y4, z4⟩, st4⟩ := X3.specialBack hx (y := (⟨"com/example/shingle/shingle/Overlap", "<init>", "(JJJ)V"⟩ : MethodName)) rfl hown (mvT hZ (hw _ (List.mem_of_getElem? (i := 8) rfl))) (mvT hZ (hw _ (List.mem_of_getElem? (i := 9) rfl))) (mvT hZ (hw _ (List.mem_of_getElem? (i := 10) rfl))) (by decide) (backOf (W := 1) (rm2 l Z a0 hw [] b3 ((qx &&& (9223372036854775807 : Int64)) + (v0_2 qy qx)) ((qx &&& (9223372036854775807 : Int64)) + (v0_3 qz qx qy)) (qx &&& (9223372036854775807 : Int64)) (.long (0 : Int64)) (.long (0 : Int64)) (.long (0 : Int64)) h3 n0 Z3 (A3) g_b3 (F_sizeA_b3) (F_sizeB_b3) (F_common_b3) (own_A qx qy qz) (own_B qx qy qz) (own_C qx qy qz)) hZ (hw _ (List.mem_of_getElem? (i := 10) rfl)) (hw _ (List.mem_of_getElem? (i := 7) rfl)) (by decide) (by decide)) (g := (mkF m 59 #[.val (.long qx), .second, .val (.long qy), .second, .val (.long qz), .second, .val (.long (qx &&& (9223372036854775807 : Int64))), .second, .val (.long (v0_1 qx)), .second, .val (.long (v0_2 qy qx)), .second, .val (.long (v0_3 qz qx qy)), .second, .unset] [(.long (qx &&& (9223372036854775807 : Int64))), (.long ((qx &&& (9223372036854775807 : Int64)) + (v0_3 qz qx qy))), (.long ((qx &&& (9223372036854775807 : Int64)) + (v0_2 qy qx))), (.ref b3), (.ref b3)])) rfl (by rw [hml]; rfl) (Steps.refl _) (a := b3) (argsL := [(.long ((qx &&& (9223372036854775807 : Int64)) + (v0_2 qy qx))), (.long ((qx &&& (9223372036854775807 : Int64)) + (v0_3 qz qx qy))), (.long (qx &&& (9223372036854775807 : Int64)))]) (rest := [(.ref b3)]) (lenOf pd_2 rfl) rfl (by show 2 * 0 + _ ≤ _; exact Nat.le_of_eq rfl) (hb hby at_59) (fun _ _ => ⟨rfl, e3, (by decide : 1 + 0 ≤ _), (by decide : 3 + 0 ≤ _)⟩)
  dsimp only [Pt.U, Pt.locs, Pt.cells, Pt.slots] at X4 l4 y4 z4 st4 hQ4
  subst l4 y4 z4
  obtain ⟨rfl, N4q, Kq4, Fq4_0, Fq4_1, Fq4_2⟩ := hQ4
  have N4 := Fr.app N2 N4q
  have Z4 : n0 ≤ T4.heap.size := Nat.le_trans Z3 Kq4.1
  have K4 : Keep h0 T4.heap [] := (K3).trans Kq4 (allS (Or.inr sz_b3) all0)
  obtain ⟨cq5, kq5, q5a, q5b, q5c⟩ := isOf hZ rfl ((A3.keep Kq4))
  obtain ⟨_, _, ⟨T5, L5, k5, n5⟩, -, X5, ⟨Lc5, hQ5, l5, y5, z5⟩, st5⟩ := X4.virtualBack hx (y := (⟨"com/example/shingle/shingle/Overlap", "union", "()J"⟩ : MethodName)) (z := (⟨"com/example/shingle/shingle/Overlap", "union", "()J"⟩ : MethodName)) hown (mvT hZ (hw _ (List.mem_of_getElem? (i := 27) rfl))) (mvT hZ (hw _ (List.mem_of_getElem? (i := 28) rfl))) (notFace_of_selects (args := #[]) (mvT hZ (hw _ (List.mem_of_getElem? (i := 30) rfl)))) (mvT hZ (hw _ (List.mem_of_getElem? (i := 30) rfl))) (mvT hZ (hw _ (List.mem_of_getElem? (i := 29) rfl))) (by decide) (backOf (W := 0) (rm5 l Z a0 hw [] b3 ((qx &&& (9223372036854775807 : Int64)) + (v0_2 qy qx)) ((qx &&& (9223372036854775807 : Int64)) + (v0_3 qz qx qy)) (qx &&& (9223372036854775807 : Int64)) T4.heap n0 Z4 ((A3.keep Kq4)) (Fq4_0) (Fq4_1) (Fq4_2)) hZ (hw _ (List.mem_of_getElem? (i := 31) rfl)) (hw _ (List.mem_of_getElem? (i := 7) rfl)) (by decide) (by decide)) q5a q5c (g := (mkF m 66 #[.val (.long qx), .second, .val (.long qy), .second, .val (.long qz), .second, .val (.long (qx &&& (9223372036854775807 : Int64))), .second, .val (.long (v0_1 qx)), .second, .val (.long (v0_2 qy qx)), .second, .val (.long (v0_3 qz qx qy)), .second, .val (.ref b3)] [(.ref b3)])) rfl (by rw [hml]; rfl) (Steps.refl _) (argsL := []) (rest := []) (lenOf pd_3 rfl) rfl (by show 2 * 0 + _ ≤ _; exact Nat.le_of_eq rfl) (hb hby at_66) (fun _ _ => ⟨rfl, rfl, (by decide : 1 + 0 ≤ _), (by decide : 3 + 0 ≤ _)⟩)
  dsimp only [Pt.U, Pt.locs, Pt.cells, Pt.slots] at X5 l5 y5 z5 st5 hQ5
  subst l5 y5 z5
  obtain ⟨rfl, N5q, e5⟩ := hQ5
  have N5 := Fr.app N4 N5q
  have pre6 : ∀ t, Steps p.tables e below (T5.setTop (mkF m 78 #[.val (.long qx), .second, .val (.long qy), .second, .val (.long qz), .second, .val (.long (qx &&& (9223372036854775807 : Int64))), .second, .val (.long (v0_1 qx)), .second, .val (.long (v0_2 qy qx)), .second, .val (.long (v0_3 qz qx qy)), .second, .val (.ref b3)] [(.int (lcmpW (v0_4 qx qy qz) (((v0_2 qy qx) + (v0_3 qz qx qy)) + (qx &&& (9223372036854775807 : Int64)))))])) t → Steps p.tables e below (s₁.setTop (entryFrame m #[(.long qx), (.long qy), (.long qz)] maxLocals)) t := fun t k => pre0 t (by
    show Steps p.tables e below (s₁.setTop (mkF m 0 #[.val (.long qx), .second, .val (.long qy), .second, .val (.long qz), .second, .unset, .unset, .unset, .unset, .unset, .unset, .unset, .unset, .unset] [])) _
    refine XS.lloadN X0.here hx rfl (hb hby at_0) rfl ?_
    show Steps p.tables e below (s₁.setTop (mkF m 1 #[.val (.long qx), .second, .val (.long qy), .second, .val (.long qz), .second, .unset, .unset, .unset, .unset, .unset, .unset, .unset, .unset, .unset] [(.long qx)])) _
    refine X0.ldc2Long hx hown (mvT hZ (hw _ (List.mem_of_getElem? (i := 0) rfl))) (g := (mkF m 1 #[.val (.long qx), .second, .val (.long qy), .second, .val (.long qz), .second, .unset, .unset, .unset, .unset, .unset, .unset, .unset, .unset, .unset] [(.long qx)])) rfl (hb hby at_1) _ ?_
    show Steps p.tables e below (s₁.setTop (mkF m 4 #[.val (.long qx), .second, .val (.long qy), .second, .val (.long qz), .second, .unset, .unset, .unset, .unset, .unset, .unset, .unset, .unset, .unset] [(.long (9223372036854775807 : Int64)), (.long qx)])) _
    refine XS.land X0.here hx rfl (hb hby at_4) rfl ?_
    show Steps p.tables e below (s₁.setTop (mkF m 5 #[.val (.long qx), .second, .val (.long qy), .second, .val (.long qz), .second, .unset, .unset, .unset, .unset, .unset, .unset, .unset, .unset, .unset] [(.long (qx &&& (9223372036854775807 : Int64)))])) _
    refine XS.lstore X0.here hx rfl (hb hby at_5) rfl (l' := #[.val (.long qx), .second, .val (.long qy), .second, .val (.long qz), .second, .val (.long (qx &&& (9223372036854775807 : Int64))), .second, .unset, .unset, .unset, .unset, .unset, .unset, .unset]) rfl ?_
    show Steps p.tables e below (s₁.setTop (mkF m 7 #[.val (.long qx), .second, .val (.long qy), .second, .val (.long qz), .second, .val (.long (qx &&& (9223372036854775807 : Int64))), .second, .unset, .unset, .unset, .unset, .unset, .unset, .unset] [])) _
    refine X0.ldc2Long hx hown (mvT hZ (hw _ (List.mem_of_getElem? (i := 0) rfl))) (g := (mkF m 7 #[.val (.long qx), .second, .val (.long qy), .second, .val (.long qz), .second, .val (.long (qx &&& (9223372036854775807 : Int64))), .second, .unset, .unset, .unset, .unset, .unset, .unset, .unset] [])) rfl (hb hby at_7) _ ?_
    show Steps p.tables e below (s₁.setTop (mkF m 10 #[.val (.long qx), .second, .val (.long qy), .second, .val (.long qz), .second, .val (.long (qx &&& (9223372036854775807 : Int64))), .second, .unset, .unset, .unset, .unset, .unset, .unset, .unset] [(.long (9223372036854775807 : Int64))])) _
    refine XS.lload X0.here hx rfl (hb hby at_10) rfl ?_
    show Steps p.tables e below (s₁.setTop (mkF m 12 #[.val (.long qx), .second, .val (.long qy), .second, .val (.long qz), .second, .val (.long (qx &&& (9223372036854775807 : Int64))), .second, .unset, .unset, .unset, .unset, .unset, .unset, .unset] [(.long (qx &&& (9223372036854775807 : Int64))), (.long (9223372036854775807 : Int64))])) _
    refine XS.lsub X0.here hx rfl (hb hby at_12) rfl ?_
    show Steps p.tables e below (s₁.setTop (mkF m 13 #[.val (.long qx), .second, .val (.long qy), .second, .val (.long qz), .second, .val (.long (qx &&& (9223372036854775807 : Int64))), .second, .unset, .unset, .unset, .unset, .unset, .unset, .unset] [(.long ((9223372036854775807 : Int64) - (qx &&& (9223372036854775807 : Int64))))])) _
    refine XS.lstore X0.here hx rfl (hb hby at_13) rfl (l' := #[.val (.long qx), .second, .val (.long qy), .second, .val (.long qz), .second, .val (.long (qx &&& (9223372036854775807 : Int64))), .second, .val (.long ((9223372036854775807 : Int64) - (qx &&& (9223372036854775807 : Int64)))), .second, .unset, .unset, .unset, .unset, .unset]) rfl ?_
    show Steps p.tables e below (s₁.setTop (mkF m 15 #[.val (.long qx), .second, .val (.long qy), .second, .val (.long qz), .second, .val (.long (qx &&& (9223372036854775807 : Int64))), .second, .val (.long (v0_1 qx)), .second, .unset, .unset, .unset, .unset, .unset] [])) _
    refine XS.lloadN X0.here hx rfl (hb hby at_15) rfl ?_
    show Steps p.tables e below (s₁.setTop (mkF m 16 #[.val (.long qx), .second, .val (.long qy), .second, .val (.long qz), .second, .val (.long (qx &&& (9223372036854775807 : Int64))), .second, .val (.long (v0_1 qx)), .second, .unset, .unset, .unset, .unset, .unset] [(.long qy)])) _
    refine X0.ldc2Long hx hown (mvT hZ (hw _ (List.mem_of_getElem? (i := 0) rfl))) (g := (mkF m 16 #[.val (.long qx), .second, .val (.long qy), .second, .val (.long qz), .second, .val (.long (qx &&& (9223372036854775807 : Int64))), .second, .val (.long (v0_1 qx)), .second, .unset, .unset, .unset, .unset, .unset] [(.long qy)])) rfl (hb hby at_16) _ ?_
    show Steps p.tables e below (s₁.setTop (mkF m 19 #[.val (.long qx), .second, .val (.long qy), .second, .val (.long qz), .second, .val (.long (qx &&& (9223372036854775807 : Int64))), .second, .val (.long (v0_1 qx)), .second, .unset, .unset, .unset, .unset, .unset] [(.long (9223372036854775807 : Int64)), (.long qy)])) _
    refine XS.land X0.here hx rfl (hb hby at_19) rfl ?_
    show Steps p.tables e below (s₁.setTop (mkF m 20 #[.val (.long qx), .second, .val (.long qy), .second, .val (.long qz), .second, .val (.long (qx &&& (9223372036854775807 : Int64))), .second, .val (.long (v0_1 qx)), .second, .unset, .unset, .unset, .unset, .unset] [(.long (qy &&& (9223372036854775807 : Int64)))])) _
    refine XS.lload X0.here hx rfl (hb hby at_20) rfl ?_
    show Steps p.tables e below (s₁.setTop (mkF m 22 #[.val (.long qx), .second, .val (.long qy), .second, .val (.long qz), .second, .val (.long (qx &&& (9223372036854775807 : Int64))), .second, .val (.long (v0_1 qx)), .second, .unset, .unset, .unset, .unset, .unset] [(.long (v0_1 qx)), (.long (qy &&& (9223372036854775807 : Int64)))])) _
    refine st1 _ ?_
    show Steps p.tables e below (T1.setTop (mkF m 25 #[.val (.long qx), .second, .val (.long qy), .second, .val (.long qz), .second, .val (.long (qx &&& (9223372036854775807 : Int64))), .second, .val (.long (v0_1 qx)), .second, .unset, .unset, .unset, .unset, .unset] [(.long (v0_2 qy qx))])) _
    refine XS.lstore X1.here hx rfl (hb hby at_25) rfl (l' := #[.val (.long qx), .second, .val (.long qy), .second, .val (.long qz), .second, .val (.long (qx &&& (9223372036854775807 : Int64))), .second, .val (.long (v0_1 qx)), .second, .val (.long (v0_2 qy qx)), .second, .unset, .unset, .unset]) rfl ?_
    show Steps p.tables e below (T1.setTop (mkF m 27 #[.val (.long qx), .second, .val (.long qy), .second, .val (.long qz), .second, .val (.long (qx &&& (9223372036854775807 : Int64))), .second, .val (.long (v0_1 qx)), .second, .val (.long (v0_2 qy qx)), .second, .unset, .unset, .unset] [])) _
    refine XS.lload X1.here hx rfl (hb hby at_27) rfl ?_
    show Steps p.tables e below (T1.setTop (mkF m 29 #[.val (.long qx), .second, .val (.long qy), .second, .val (.long qz), .second, .val (.long (qx &&& (9223372036854775807 : Int64))), .second, .val (.long (v0_1 qx)), .second, .val (.long (v0_2 qy qx)), .second, .unset, .unset, .unset] [(.long qz)])) _
    refine X1.ldc2Long hx hown (mvT hZ (hw _ (List.mem_of_getElem? (i := 0) rfl))) (g := (mkF m 29 #[.val (.long qx), .second, .val (.long qy), .second, .val (.long qz), .second, .val (.long (qx &&& (9223372036854775807 : Int64))), .second, .val (.long (v0_1 qx)), .second, .val (.long (v0_2 qy qx)), .second, .unset, .unset, .unset] [(.long qz)])) rfl (hb hby at_29) _ ?_
    show Steps p.tables e below (T1.setTop (mkF m 32 #[.val (.long qx), .second, .val (.long qy), .second, .val (.long qz), .second, .val (.long (qx &&& (9223372036854775807 : Int64))), .second, .val (.long (v0_1 qx)), .second, .val (.long (v0_2 qy qx)), .second, .unset, .unset, .unset] [(.long (9223372036854775807 : Int64)), (.long qz)])) _
    refine XS.land X1.here hx rfl (hb hby at_32) rfl ?_
    show Steps p.tables e below (T1.setTop (mkF m 33 #[.val (.long qx), .second, .val (.long qy), .second, .val (.long qz), .second, .val (.long (qx &&& (9223372036854775807 : Int64))), .second, .val (.long (v0_1 qx)), .second, .val (.long (v0_2 qy qx)), .second, .unset, .unset, .unset] [(.long (qz &&& (9223372036854775807 : Int64)))])) _
    refine XS.lload X1.here hx rfl (hb hby at_33) rfl ?_
    show Steps p.tables e below (T1.setTop (mkF m 35 #[.val (.long qx), .second, .val (.long qy), .second, .val (.long qz), .second, .val (.long (qx &&& (9223372036854775807 : Int64))), .second, .val (.long (v0_1 qx)), .second, .val (.long (v0_2 qy qx)), .second, .unset, .unset, .unset] [(.long (v0_1 qx)), (.long (qz &&& (9223372036854775807 : Int64)))])) _
    refine XS.lload X1.here hx rfl (hb hby at_35) rfl ?_
    show Steps p.tables e below (T1.setTop (mkF m 37 #[.val (.long qx), .second, .val (.long qy), .second, .val (.long qz), .second, .val (.long (qx &&& (9223372036854775807 : Int64))), .second, .val (.long (v0_1 qx)), .second, .val (.long (v0_2 qy qx)), .second, .unset, .unset, .unset] [(.long (v0_2 qy qx)), (.long (v0_1 qx)), (.long (qz &&& (9223372036854775807 : Int64)))])) _
    refine XS.lsub X1.here hx rfl (hb hby at_37) rfl ?_
    show Steps p.tables e below (T1.setTop (mkF m 38 #[.val (.long qx), .second, .val (.long qy), .second, .val (.long qz), .second, .val (.long (qx &&& (9223372036854775807 : Int64))), .second, .val (.long (v0_1 qx)), .second, .val (.long (v0_2 qy qx)), .second, .unset, .unset, .unset] [(.long ((v0_1 qx) - (v0_2 qy qx))), (.long (qz &&& (9223372036854775807 : Int64)))])) _
    refine st2 _ ?_
    show Steps p.tables e below (T2.setTop (mkF m 41 #[.val (.long qx), .second, .val (.long qy), .second, .val (.long qz), .second, .val (.long (qx &&& (9223372036854775807 : Int64))), .second, .val (.long (v0_1 qx)), .second, .val (.long (v0_2 qy qx)), .second, .unset, .unset, .unset] [(.long (v0_3 qz qx qy))])) _
    refine XS.lstore X2.here hx rfl (hb hby at_41) rfl (l' := #[.val (.long qx), .second, .val (.long qy), .second, .val (.long qz), .second, .val (.long (qx &&& (9223372036854775807 : Int64))), .second, .val (.long (v0_1 qx)), .second, .val (.long (v0_2 qy qx)), .second, .val (.long (v0_3 qz qx qy)), .second, .unset]) rfl ?_
    show Steps p.tables e below (T2.setTop (mkF m 43 #[.val (.long qx), .second, .val (.long qy), .second, .val (.long qz), .second, .val (.long (qx &&& (9223372036854775807 : Int64))), .second, .val (.long (v0_1 qx)), .second, .val (.long (v0_2 qy qx)), .second, .val (.long (v0_3 qz qx qy)), .second, .unset] [])) _
    refine st3 _ ?_
    show Steps p.tables e below (T3.setTop (mkF m 46 #[.val (.long qx), .second, .val (.long qy), .second, .val (.long qz), .second, .val (.long (qx &&& (9223372036854775807 : Int64))), .second, .val (.long (v0_1 qx)), .second, .val (.long (v0_2 qy qx)), .second, .val (.long (v0_3 qz qx qy)), .second, .unset] [(.ref b3)])) _
    refine XS.dup X3.here hx rfl (hb hby at_46) rfl rfl ?_
    show Steps p.tables e below (T3.setTop (mkF m 47 #[.val (.long qx), .second, .val (.long qy), .second, .val (.long qz), .second, .val (.long (qx &&& (9223372036854775807 : Int64))), .second, .val (.long (v0_1 qx)), .second, .val (.long (v0_2 qy qx)), .second, .val (.long (v0_3 qz qx qy)), .second, .unset] [(.ref b3), (.ref b3)])) _
    refine XS.lload X3.here hx rfl (hb hby at_47) rfl ?_
    show Steps p.tables e below (T3.setTop (mkF m 49 #[.val (.long qx), .second, .val (.long qy), .second, .val (.long qz), .second, .val (.long (qx &&& (9223372036854775807 : Int64))), .second, .val (.long (v0_1 qx)), .second, .val (.long (v0_2 qy qx)), .second, .val (.long (v0_3 qz qx qy)), .second, .unset] [(.long (qx &&& (9223372036854775807 : Int64))), (.ref b3), (.ref b3)])) _
    refine XS.lload X3.here hx rfl (hb hby at_49) rfl ?_
    show Steps p.tables e below (T3.setTop (mkF m 51 #[.val (.long qx), .second, .val (.long qy), .second, .val (.long qz), .second, .val (.long (qx &&& (9223372036854775807 : Int64))), .second, .val (.long (v0_1 qx)), .second, .val (.long (v0_2 qy qx)), .second, .val (.long (v0_3 qz qx qy)), .second, .unset] [(.long (v0_2 qy qx)), (.long (qx &&& (9223372036854775807 : Int64))), (.ref b3), (.ref b3)])) _
    refine XS.ladd X3.here hx rfl (hb hby at_51) rfl ?_
    show Steps p.tables e below (T3.setTop (mkF m 52 #[.val (.long qx), .second, .val (.long qy), .second, .val (.long qz), .second, .val (.long (qx &&& (9223372036854775807 : Int64))), .second, .val (.long (v0_1 qx)), .second, .val (.long (v0_2 qy qx)), .second, .val (.long (v0_3 qz qx qy)), .second, .unset] [(.long ((qx &&& (9223372036854775807 : Int64)) + (v0_2 qy qx))), (.ref b3), (.ref b3)])) _
    refine XS.lload X3.here hx rfl (hb hby at_52) rfl ?_
    show Steps p.tables e below (T3.setTop (mkF m 54 #[.val (.long qx), .second, .val (.long qy), .second, .val (.long qz), .second, .val (.long (qx &&& (9223372036854775807 : Int64))), .second, .val (.long (v0_1 qx)), .second, .val (.long (v0_2 qy qx)), .second, .val (.long (v0_3 qz qx qy)), .second, .unset] [(.long (qx &&& (9223372036854775807 : Int64))), (.long ((qx &&& (9223372036854775807 : Int64)) + (v0_2 qy qx))), (.ref b3), (.ref b3)])) _
    refine XS.lload X3.here hx rfl (hb hby at_54) rfl ?_
    show Steps p.tables e below (T3.setTop (mkF m 56 #[.val (.long qx), .second, .val (.long qy), .second, .val (.long qz), .second, .val (.long (qx &&& (9223372036854775807 : Int64))), .second, .val (.long (v0_1 qx)), .second, .val (.long (v0_2 qy qx)), .second, .val (.long (v0_3 qz qx qy)), .second, .unset] [(.long (v0_3 qz qx qy)), (.long (qx &&& (9223372036854775807 : Int64))), (.long ((qx &&& (9223372036854775807 : Int64)) + (v0_2 qy qx))), (.ref b3), (.ref b3)])) _
    refine XS.ladd X3.here hx rfl (hb hby at_56) rfl ?_
    show Steps p.tables e below (T3.setTop (mkF m 57 #[.val (.long qx), .second, .val (.long qy), .second, .val (.long qz), .second, .val (.long (qx &&& (9223372036854775807 : Int64))), .second, .val (.long (v0_1 qx)), .second, .val (.long (v0_2 qy qx)), .second, .val (.long (v0_3 qz qx qy)), .second, .unset] [(.long ((qx &&& (9223372036854775807 : Int64)) + (v0_3 qz qx qy))), (.long ((qx &&& (9223372036854775807 : Int64)) + (v0_2 qy qx))), (.ref b3), (.ref b3)])) _
    refine XS.lload X3.here hx rfl (hb hby at_57) rfl ?_
    show Steps p.tables e below (T3.setTop (mkF m 59 #[.val (.long qx), .second, .val (.long qy), .second, .val (.long qz), .second, .val (.long (qx &&& (9223372036854775807 : Int64))), .second, .val (.long (v0_1 qx)), .second, .val (.long (v0_2 qy qx)), .second, .val (.long (v0_3 qz qx qy)), .second, .unset] [(.long (qx &&& (9223372036854775807 : Int64))), (.long ((qx &&& (9223372036854775807 : Int64)) + (v0_3 qz qx qy))), (.long ((qx &&& (9223372036854775807 : Int64)) + (v0_2 qy qx))), (.ref b3), (.ref b3)])) _
    refine st4.trans ?_
    show Steps p.tables e below (T4.setTop (mkF m 62 #[.val (.long qx), .second, .val (.long qy), .second, .val (.long qz), .second, .val (.long (qx &&& (9223372036854775807 : Int64))), .second, .val (.long (v0_1 qx)), .second, .val (.long (v0_2 qy qx)), .second, .val (.long (v0_3 qz qx qy)), .second, .unset] [(.ref b3)])) _
    refine XS.astore X4.here hx rfl (hb hby at_62) rfl rfl (l' := #[.val (.long qx), .second, .val (.long qy), .second, .val (.long qz), .second, .val (.long (qx &&& (9223372036854775807 : Int64))), .second, .val (.long (v0_1 qx)), .second, .val (.long (v0_2 qy qx)), .second, .val (.long (v0_3 qz qx qy)), .second, .val (.ref b3)]) rfl ?_
    show Steps p.tables e below (T4.setTop (mkF m 64 #[.val (.long qx), .second, .val (.long qy), .second, .val (.long qz), .second, .val (.long (qx &&& (9223372036854775807 : Int64))), .second, .val (.long (v0_1 qx)), .second, .val (.long (v0_2 qy qx)), .second, .val (.long (v0_3 qz qx qy)), .second, .val (.ref b3)] [])) _
    refine XS.aload X4.here hx rfl (hb hby at_64) rfl rfl ?_
    show Steps p.tables e below (T4.setTop (mkF m 66 #[.val (.long qx), .second, .val (.long qy), .second, .val (.long qz), .second, .val (.long (qx &&& (9223372036854775807 : Int64))), .second, .val (.long (v0_1 qx)), .second, .val (.long (v0_2 qy qx)), .second, .val (.long (v0_3 qz qx qy)), .second, .val (.ref b3)] [(.ref b3)])) _
    refine st5.trans ?_
    show Steps p.tables e below (T5.setTop (mkF m 69 #[.val (.long qx), .second, .val (.long qy), .second, .val (.long qz), .second, .val (.long (qx &&& (9223372036854775807 : Int64))), .second, .val (.long (v0_1 qx)), .second, .val (.long (v0_2 qy qx)), .second, .val (.long (v0_3 qz qx qy)), .second, .val (.ref b3)] [(.long (v0_4 qx qy qz))])) _
    refine XS.lload X5.here hx rfl (hb hby at_69) rfl ?_
    show Steps p.tables e below (T5.setTop (mkF m 71 #[.val (.long qx), .second, .val (.long qy), .second, .val (.long qz), .second, .val (.long (qx &&& (9223372036854775807 : Int64))), .second, .val (.long (v0_1 qx)), .second, .val (.long (v0_2 qy qx)), .second, .val (.long (v0_3 qz qx qy)), .second, .val (.ref b3)] [(.long (v0_2 qy qx)), (.long (v0_4 qx qy qz))])) _
    refine XS.lload X5.here hx rfl (hb hby at_71) rfl ?_
    show Steps p.tables e below (T5.setTop (mkF m 73 #[.val (.long qx), .second, .val (.long qy), .second, .val (.long qz), .second, .val (.long (qx &&& (9223372036854775807 : Int64))), .second, .val (.long (v0_1 qx)), .second, .val (.long (v0_2 qy qx)), .second, .val (.long (v0_3 qz qx qy)), .second, .val (.ref b3)] [(.long (v0_3 qz qx qy)), (.long (v0_2 qy qx)), (.long (v0_4 qx qy qz))])) _
    refine XS.ladd X5.here hx rfl (hb hby at_73) rfl ?_
    show Steps p.tables e below (T5.setTop (mkF m 74 #[.val (.long qx), .second, .val (.long qy), .second, .val (.long qz), .second, .val (.long (qx &&& (9223372036854775807 : Int64))), .second, .val (.long (v0_1 qx)), .second, .val (.long (v0_2 qy qx)), .second, .val (.long (v0_3 qz qx qy)), .second, .val (.ref b3)] [(.long ((v0_2 qy qx) + (v0_3 qz qx qy))), (.long (v0_4 qx qy qz))])) _
    refine XS.lload X5.here hx rfl (hb hby at_74) rfl ?_
    show Steps p.tables e below (T5.setTop (mkF m 76 #[.val (.long qx), .second, .val (.long qy), .second, .val (.long qz), .second, .val (.long (qx &&& (9223372036854775807 : Int64))), .second, .val (.long (v0_1 qx)), .second, .val (.long (v0_2 qy qx)), .second, .val (.long (v0_3 qz qx qy)), .second, .val (.ref b3)] [(.long (qx &&& (9223372036854775807 : Int64))), (.long ((v0_2 qy qx) + (v0_3 qz qx qy))), (.long (v0_4 qx qy qz))])) _
    refine XS.ladd X5.here hx rfl (hb hby at_76) rfl ?_
    show Steps p.tables e below (T5.setTop (mkF m 77 #[.val (.long qx), .second, .val (.long qy), .second, .val (.long qz), .second, .val (.long (qx &&& (9223372036854775807 : Int64))), .second, .val (.long (v0_1 qx)), .second, .val (.long (v0_2 qy qx)), .second, .val (.long (v0_3 qz qx qy)), .second, .val (.ref b3)] [(.long (((v0_2 qy qx) + (v0_3 qz qx qy)) + (qx &&& (9223372036854775807 : Int64)))), (.long (v0_4 qx qy qz))])) _
    refine XS.lcmp X5.here hx rfl (hb hby at_77) rfl ?_
    show Steps p.tables e below (T5.setTop (mkF m 78 #[.val (.long qx), .second, .val (.long qy), .second, .val (.long qz), .second, .val (.long (qx &&& (9223372036854775807 : Int64))), .second, .val (.long (v0_1 qx)), .second, .val (.long (v0_2 qy qx)), .second, .val (.long (v0_3 qz qx qy)), .second, .val (.ref b3)] [(.int (lcmpW (v0_4 qx qy qz) (((v0_2 qy qx) + (v0_3 qz qx qy)) + (qx &&& (9223372036854775807 : Int64)))))])) _
    exact k)
  by_cases hc78_7 : (lcmpW (v0_4 qx qy qz) (((v0_2 qy qx) + (v0_3 qz qx qy)) + (qx &&& (9223372036854775807 : Int64)))) = (0 : Int32)
  · have hv : (f0 qx qy qz) = (1 : Int32) := by simp only [f0, if_pos hc78_7]
    obtain ⟨fs, hr, hrun, hended, hW, hsame⟩ := X5.leave (v := some (.int (1 : Int32))) (fun h => nomatch (Bd.returns.symm.trans h)) hlk
    refine ⟨_, _, pre6 _ ?_, hrun, hended, _, _, rfl, ?_, ⟨_, rfl⟩, hW, hsame.mono (by decide) (by decide)⟩
    · show Steps p.tables e below (T5.setTop (mkF m 78 #[.val (.long qx), .second, .val (.long qy), .second, .val (.long qz), .second, .val (.long (qx &&& (9223372036854775807 : Int64))), .second, .val (.long (v0_1 qx)), .second, .val (.long (v0_2 qy qx)), .second, .val (.long (v0_3 qz qx qy)), .second, .val (.ref b3)] [(.int (lcmpW (v0_4 qx qy qz) (((v0_2 qy qx) + (v0_3 qz qx qy)) + (qx &&& (9223372036854775807 : Int64)))))])) _
      refine XS.ifNo X5.here hx rfl (hb hby at_78) rfl ((if0 _ _).trans (teq hc78_7).2) ?_
      show Steps p.tables e below (T5.setTop (mkF m 81 #[.val (.long qx), .second, .val (.long qy), .second, .val (.long qz), .second, .val (.long (qx &&& (9223372036854775807 : Int64))), .second, .val (.long (v0_1 qx)), .second, .val (.long (v0_2 qy qx)), .second, .val (.long (v0_3 qz qx qy)), .second, .val (.ref b3)] [])) _
      refine XS.iconst X5.here hx rfl (hb hby at_81) ?_
      show Steps p.tables e below (T5.setTop (mkF m 82 #[.val (.long qx), .second, .val (.long qy), .second, .val (.long qz), .second, .val (.long (qx &&& (9223372036854775807 : Int64))), .second, .val (.long (v0_1 qx)), .second, .val (.long (v0_2 qy qx)), .second, .val (.long (v0_3 qz qx qy)), .second, .val (.ref b3)] [(.int (1 : Int32))])) _
      refine XS.goto X5.here hx rfl (pc0 := 82) (pc' := 86) rfl (hb hby at_82) (by decide) (by decide) ?_
      show Steps p.tables e below (T5.setTop (mkF m 86 #[.val (.long qx), .second, .val (.long qy), .second, .val (.long qz), .second, .val (.long (qx &&& (9223372036854775807 : Int64))), .second, .val (.long (v0_1 qx)), .second, .val (.long (v0_2 qy qx)), .second, .val (.long (v0_3 qz qx qy)), .second, .val (.ref b3)] [(.int (1 : Int32))])) _
      exact retN X5 hx (t := .boolean) Bd.returns (by simp) (hb hby at_86) hr
    · show Q0 Z qx qy qz h0 n0 _ T5.heap _
      rw [e5]
      exact ⟨by rw [hv], N5⟩
  · have hv : (f0 qx qy qz) = (0 : Int32) := by simp only [f0, if_neg hc78_7]
    obtain ⟨fs, hr, hrun, hended, hW, hsame⟩ := X5.leave (v := some (.int (0 : Int32))) (fun h => nomatch (Bd.returns.symm.trans h)) hlk
    refine ⟨_, _, pre6 _ ?_, hrun, hended, _, _, rfl, ?_, ⟨_, rfl⟩, hW, hsame.mono (by decide) (by decide)⟩
    · show Steps p.tables e below (T5.setTop (mkF m 78 #[.val (.long qx), .second, .val (.long qy), .second, .val (.long qz), .second, .val (.long (qx &&& (9223372036854775807 : Int64))), .second, .val (.long (v0_1 qx)), .second, .val (.long (v0_2 qy qx)), .second, .val (.long (v0_3 qz qx qy)), .second, .val (.ref b3)] [(.int (lcmpW (v0_4 qx qy qz) (((v0_2 qy qx) + (v0_3 qz qx qy)) + (qx &&& (9223372036854775807 : Int64)))))])) _
      refine XS.ifYes X5.here hx rfl (pc0 := 78) (pc' := 85) rfl (hb hby at_78) rfl ((if0 _ _).trans (feq hc78_7).2) (by decide) (by decide) ?_
      show Steps p.tables e below (T5.setTop (mkF m 85 #[.val (.long qx), .second, .val (.long qy), .second, .val (.long qz), .second, .val (.long (qx &&& (9223372036854775807 : Int64))), .second, .val (.long (v0_1 qx)), .second, .val (.long (v0_2 qy qx)), .second, .val (.long (v0_3 qz qx qy)), .second, .val (.ref b3)] [])) _
      refine XS.iconst X5.here hx rfl (hb hby at_85) ?_
      show Steps p.tables e below (T5.setTop (mkF m 86 #[.val (.long qx), .second, .val (.long qy), .second, .val (.long qz), .second, .val (.long (qx &&& (9223372036854775807 : Int64))), .second, .val (.long (v0_1 qx)), .second, .val (.long (v0_2 qy qx)), .second, .val (.long (v0_3 qz qx qy)), .second, .val (.ref b3)] [(.int (0 : Int32))])) _
      exact retN X5 hx (t := .boolean) Bd.returns (by simp) (hb hby at_86) hr
    · show Q0 Z qx qy qz h0 n0 _ T5.heap _
      rw [e5]
      exact ⟨by rw [hv], N5⟩

theorem law_true (x y z : Int64) : f0 x y z = 1 := by
  unfold f0
  rw [if_pos]
  rw [lcW, lc_eq]
  unfold v0_4 f5
  generalize x &&& (9223372036854775807 : Int64) = c
  generalize v0_2 y x = a
  generalize v0_3 z x y = b
  apply Int64.toBitVec_inj.mp
  simp only [Int64.toBitVec_add, Int64.toBitVec_sub]
  apply BitVec.eq_of_toNat_eq
  simp only [BitVec.toNat_add, BitVec.toNat_sub]
  omega

set_option maxRecDepth 65536 in
set_option maxHeartbeats 40000000 in
theorem comes_1 {Post : Tables → Env → Array Value → State → Outcome → State → Prop} (hpost : ∀ tb e args s v u, (limb_1_1.after args s (.returned v) u = true ∧ limb_1_2.after args s (.returned v) u = true ∧ True) → FrameEnd s (.returned v) u (Jvm.fieldLocs frame_1_writes args s ++ Jvm.arrayLocs frame_1_arrays args s ++ Jvm.staticLocs frame_1_statics s) 16 128 → Post tb e args s (.returned v) u) :
    ArmFor flags0 classFile x code maxLocals ret World_1 tables_1 room_1 Calls_1 rest_1 Pre_1 Post := by
  intro l hfl _ _ p e ha hc hk s m args below hf hA hF happ hP
  obtain ⟨hcalls, hrest, hpre⟩ := hP
  obtain ⟨-, -, -, hnamed, -, -, -, hat⟩ := (Spec.applies_iff hf).mp happ
  obtain ⟨hg, hn⟩ := and_e (Cond.before_iff.mp (show (Jvm.Cond.and given_1 narrow_1).before args s = true from hpre))
  obtain ⟨g1, g2⟩ := and_e hg
  obtain ⟨g3, g4⟩ := and_e g2
  obtain ⟨g5, g6⟩ := and_e g4
  obtain ⟨w0, w1, w2, rfl⟩ : ∃ w0 w1 w2 : Value, args = #[w0, w1, w2] := by
    have hs : args.size = 3 := by simpa [Cond.value, given_1] using g1
    obtain ⟨L⟩ := args
    match L, hs with
    | [w0, w1, w2], _ => exact ⟨w0, w1, w2, rfl⟩
  have hw := fun d (hd : d ∈ tables_1) => atoms_spec (ws := Jvm.Cond.code x code maxLocals ret :: tables_1) hat d (List.mem_cons_of_mem _ hd)
  obtain ⟨i0, ei0⟩ := isL_v g3
  obtain rfl : w0 = (.long i0) := Option.some.inj ei0
  obtain ⟨i1, ei1⟩ := isL_v g5
  obtain rfl : w1 = (.long i1) := Option.some.inj ei1
  obtain ⟨i2, ei2⟩ := isL_v g6
  obtain rfl : w2 = (.long i2) := Option.some.inj ei2
  obtain ⟨n, o, h1, h2, h3, _, L, rfl, ⟨rfl, N⟩, hq⟩ := rm0 l s _ hw tables_1 i0 i1 i2 s.heap s.heap.size (Nat.le_refl _) p e ha hc hk s m _ below hf ((Spec.applies_iff_loose hf).mp happ).1 ⟨rfl, State.Warmed39.refl s, rfl⟩ trivial
  refine ⟨n, _, h1, h2, h3, hpost _ _ _ _ _ _ ⟨Cond.after_iff.mpr rfl, Cond.after_iff.mpr (eq_i res_at (Term.int_eval (1)) (congrArg Value.int (law_true i0 i1 i2))), trivial⟩ ⟨hq.1, hq.2.1, (hq.2.2.sift fun y hy => Or.inr (N y hy)).mono (by decide) (by decide)⟩⟩
theorem main_1_1 : Claimed_1_1 := comes_1 fun _ _ _ _ _ _ h hF => ⟨h.1, hF⟩
theorem main_1_2 : Claimed_1_2 := comes_1 fun _ _ _ _ _ _ h hF => ⟨h.2.1, hF⟩
end Jvm.Pilot.@@N@@
namespace Jvm.Pilot.@@N@@
open Jvm Jvm.ClassFile Sem Op Lib Jvm.Free Jvm.Stand Jvm.Pilot.@@N@@.Jvm.D
/-! MADE BY PROGRAM (witnessworld.py) out of the Statement's table words and the real class files: 11 classes; the members and pool entries that the words name. The judged class is class 1, her method 1. -/
namespace start1
open Jvm.ClassFile
def u (s : String) : CpInfo := .utf8 (stringToUtf16 s)
/-- a pool by its gaps: so many unusable entries, then the entry; so many at the end -/
def gap : Nat → List CpInfo → List CpInfo
  | 0, r => r
  | n + 1, r => .unusable :: gap n r
def poolList (es : List (Nat × CpInfo)) (last : Nat) : List CpInfo := es.foldr (fun e r => gap e.1 (e.2 :: r)) (gap last [])
def pool (es : List (Nat × CpInfo)) (last : Nat) : Array CpInfo := ⟨poolList es last⟩
def fileOf (pool : Array CpInfo) (this : Nat) (attrs : Array Attribute := #[]) (ms : Array MethodInfo := #[]) (fl : Nat := 33) (sup : Nat := 0) (ifs : Array Nat := #[]) (fds : Array FieldInfo := #[]) : ClassFile where
  minorVersion := 0
  majorVersion := 65
  constantPool := pool
  accessFlags := fl
  thisClass := this
  superClass := sup
  interfaces := ifs
  fields := fds
  methods := ms
  attributes := attrs
def plain (name : String) (sup : Option ClassId) : Class where
  name := name
  kind := .ordinary
  loader := none
  accessFlags := 33
  super := sup
  interfaces := #[]
  cf := none
  fields := #[]
  methods := #[]
  instanceTypes := #[]
  staticTypes := #[]
  resolved := #[]
  callSites := []
  init := .initialized
  statics := none
  mirror := none

def pool0 : Array CpInfo := pool [(5, u "<init>"), (0, u "()V"), (1, .class_ 10), (1, u "java/lang/Object")] 113

def k0c0 : Code := { maxStack := 0, maxLocals := 1, code := object_method_1_code, exceptionTable := #[], attributes := #[] }
def k0m0 : Method := { name := "<init>", desc := "()V", sig := { parameters := [], returnType := none }, accessFlags := 1, code := some k0c0 }
/-- java/lang/Object -/
def k0 : Class := { plain "java/lang/Object" none with
  accessFlags := 33
  interfaces := #[]
  cf := some (fileOf pool0 8 #[] #[{ accessFlags := 1, nameIndex := 5, descriptorIndex := 6, attributes := #[] }] 33 0 #[] #[])
  fields := #[]
  methods := #[k0m0]
  instanceTypes := #[]
  staticTypes := #[]
  resolved := Array.replicate 124 none
  statics := none }

def pool1 : Array CpInfo := pool [(2, .class_ 4), (1, u "java/lang/Object"), (0, u "<init>"), (0, u "()V"), (2, .long 9223372036854775807), (1, .methodref 12 13), (0, .class_ 14), (0, .nameAndType 15 16), (0, u "java/lang/Math"), (0, u "min"), (0, u "(JJ)J"), (0, .class_ 18), (0, u "com/example/shingle/shingle/Overlap"), (0, .methodref 17 20), (0, .nameAndType 5 21), (0, u "(JJJ)V"), (0, .methodref 17 23), (0, .nameAndType 24 25), (0, u "union"), (0, u "()J"), (0, .class_ 27), (0, u "com/example/shingle/shingle/OverlapUnionPinLaw"), (2, u "law"), (0, u "(JJJ)Z")] 3

def k1m0 : Method := { name := "<init>", desc := "()V", sig := { parameters := [], returnType := none }, accessFlags := 1, code := none }
def k1c1 : Code := { maxStack := 8, maxLocals := 15, code := code, exceptionTable := #[], attributes := #[] }
def k1m1 : Method := { name := "law", desc := "(JJJ)Z", sig := { parameters := [.long, .long, .long], returnType := some .boolean }, accessFlags := 9, code := some k1c1 }
/-- com/example/shingle/shingle/OverlapUnionPinLaw -/
def k1 : Class := { plain "com/example/shingle/shingle/OverlapUnionPinLaw" (some 0) with
  accessFlags := 49
  interfaces := #[]
  cf := some (fileOf pool1 26 #[] #[{ accessFlags := 1, nameIndex := 5, descriptorIndex := 6, attributes := #[] }, { accessFlags := 9, nameIndex := 30, descriptorIndex := 31, attributes := #[] }] 49 2 #[] #[])
  fields := #[]
  methods := #[k1m0, k1m1]
  instanceTypes := #[]
  staticTypes := #[]
  resolved := Array.replicate 35 none
  statics := none }

def pool2 : Array CpInfo := pool [(1, .class_ 2), (0, u "java/lang/Math"), (1, .class_ 6), (1, u "java/lang/Object"), (0, u "<init>"), (0, u "()V"), (89, .class_ 100), (1, u "java/lang/Math$RandomNumberGeneratorHolder"), (20, u "(JJ)J"), (50, u "negativeZeroFloatBits"), (0, u "J"), (2, u "negativeZeroDoubleBits"), (24, u "min"), (43, u "$assertionsDisabled"), (0, u "Z"), (91, u "twoToTheDoubleScaleDown"), (0, u "D"), (4, u "twoToTheDoubleScaleUp"), (9, u "E"), (3, u "PI"), (2, u "TAU"), (2, u "DEGREES_TO_RADIANS"), (0, u "RADIANS_TO_DEGREES")] 94

def k2m0 : Method := { name := "<init>", desc := "()V", sig := { parameters := [], returnType := none }, accessFlags := 2, code := none }
def k2c1 : Code := { maxStack := 4, maxLocals := 4, code := jdk_29_method_70_code, exceptionTable := #[], attributes := #[] }
def k2m1 : Method := { name := "min", desc := "(JJ)J", sig := { parameters := [.long, .long], returnType := some .long }, accessFlags := 9, code := some k2c1 }
/-- java/lang/Math -/
def k2 : Class := { plain "java/lang/Math" (some 0) with
  accessFlags := 49
  interfaces := #[]
  cf := some (fileOf pool2 1 #[.nestMembers #[98]] #[{ accessFlags := 2, nameIndex := 7, descriptorIndex := 8, attributes := #[] }, { accessFlags := 9, nameIndex := 201, descriptorIndex := 121, attributes := #[] }] 49 4 #[] #[{ accessFlags := 25, nameIndex := 354, descriptorIndex := 339, attributes := #[] }, { accessFlags := 25, nameIndex := 358, descriptorIndex := 339, attributes := #[] }, { accessFlags := 25, nameIndex := 361, descriptorIndex := 339, attributes := #[] }, { accessFlags := 26, nameIndex := 364, descriptorIndex := 339, attributes := #[] }, { accessFlags := 26, nameIndex := 365, descriptorIndex := 339, attributes := #[] }, { accessFlags := 26, nameIndex := 172, descriptorIndex := 173, attributes := #[] }, { accessFlags := 26, nameIndex := 176, descriptorIndex := 173, attributes := #[] }, { accessFlags := 8, nameIndex := 344, descriptorIndex := 339, attributes := #[] }, { accessFlags := 8, nameIndex := 338, descriptorIndex := 339, attributes := #[] }, { accessFlags := 4120, nameIndex := 245, descriptorIndex := 246, attributes := #[] }])
  fields := #[{ name := "E", type := .double, accessFlags := 25, slot := 0, constantValue := 0 }, { name := "PI", type := .double, accessFlags := 25, slot := 1, constantValue := 0 }, { name := "TAU", type := .double, accessFlags := 25, slot := 2, constantValue := 0 }, { name := "DEGREES_TO_RADIANS", type := .double, accessFlags := 26, slot := 3, constantValue := 0 }, { name := "RADIANS_TO_DEGREES", type := .double, accessFlags := 26, slot := 4, constantValue := 0 }, { name := "negativeZeroFloatBits", type := .long, accessFlags := 26, slot := 5, constantValue := 0 }, { name := "negativeZeroDoubleBits", type := .long, accessFlags := 26, slot := 6, constantValue := 0 }, { name := "twoToTheDoubleScaleUp", type := .double, accessFlags := 8, slot := 7, constantValue := 0 }, { name := "twoToTheDoubleScaleDown", type := .double, accessFlags := 8, slot := 8, constantValue := 0 }, { name := "$assertionsDisabled", type := .boolean, accessFlags := 4120, slot := 9, constantValue := 0 }]
  methods := #[k2m0, k2m1]
  instanceTypes := #[]
  staticTypes := #[.double, .double, .double, .double, .double, .long, .long, .double, .double, .boolean]
  resolved := Array.replicate 460 none
  statics := none }

def pool3 : Array CpInfo := pool [(1, .methodref 2 3), (0, .class_ 4), (0, .nameAndType 5 6), (0, u "java/lang/Object"), (0, u "<init>"), (0, u "()V"), (0, .class_ 8), (0, u "java/lang/Record")] 13

def k3c0 : Code := { maxStack := 1, maxLocals := 1, code := jdk_30_method_1_code, exceptionTable := #[], attributes := #[] }
def k3m0 : Method := { name := "<init>", desc := "()V", sig := { parameters := [], returnType := none }, accessFlags := 4, code := some k3c0 }
/-- java/lang/Record -/
def k3 : Class := { plain "java/lang/Record" (some 0) with
  accessFlags := 1057
  interfaces := #[]
  cf := some (fileOf pool3 7 #[] #[{ accessFlags := 4, nameIndex := 5, descriptorIndex := 6, attributes := #[] }] 1057 2 #[] #[])
  fields := #[]
  methods := #[k3m0]
  instanceTypes := #[]
  staticTypes := #[]
  resolved := Array.replicate 22 none
  statics := none }

def pool4 : Array CpInfo := pool [(1, .methodref 2 3), (0, .class_ 4), (0, .nameAndType 5 6), (0, u "java/lang/Record"), (0, u "<init>"), (0, u "()V"), (0, .methodref 8 9), (0, .class_ 10), (0, .nameAndType 11 12), (0, u "java/lang/Math"), (0, u "min"), (0, u "(JJ)J"), (2, .long 9223372036854775807), (20, .fieldref 37 38), (0, .class_ 39), (0, .nameAndType 40 41), (0, u "com/example/shingle/shingle/Overlap"), (0, u "sizeA"), (0, u "J"), (0, .fieldref 37 43), (0, .nameAndType 44 41), (0, u "sizeB"), (0, .fieldref 37 46), (0, .nameAndType 47 41), (0, u "common"), (18, u "union"), (0, u "()J"), (19, u "(JJJ)V")] 32

def k4c0 : Code := { maxStack := 8, maxLocals := 7, code := prog_35_method_1_code, exceptionTable := #[], attributes := #[] }
def k4m0 : Method := { name := "<init>", desc := "(JJJ)V", sig := { parameters := [.long, .long, .long], returnType := none }, accessFlags := 1, code := some k4c0 }
def k4c1 : Code := { maxStack := 4, maxLocals := 1, code := prog_35_method_2_code, exceptionTable := #[], attributes := #[] }
def k4m1 : Method := { name := "union", desc := "()J", sig := { parameters := [], returnType := some .long }, accessFlags := 1, code := some k4c1 }
/-- com/example/shingle/shingle/Overlap -/
def k4 : Class := { plain "com/example/shingle/shingle/Overlap" (some 3) with
  accessFlags := 49
  interfaces := #[]
  cf := some (fileOf pool4 37 #[] #[{ accessFlags := 1, nameIndex := 5, descriptorIndex := 87, attributes := #[] }, { accessFlags := 1, nameIndex := 66, descriptorIndex := 67, attributes := #[] }] 49 2 #[] #[{ accessFlags := 18, nameIndex := 40, descriptorIndex := 41, attributes := #[] }, { accessFlags := 18, nameIndex := 44, descriptorIndex := 41, attributes := #[] }, { accessFlags := 18, nameIndex := 47, descriptorIndex := 41, attributes := #[] }])
  fields := #[{ name := "sizeA", type := .long, accessFlags := 18, slot := 0, constantValue := 0 }, { name := "sizeB", type := .long, accessFlags := 18, slot := 1, constantValue := 0 }, { name := "common", type := .long, accessFlags := 18, slot := 2, constantValue := 0 }]
  methods := #[k4m0, k4m1]
  instanceTypes := #[.long, .long, .long]
  staticTypes := #[]
  resolved := Array.replicate 120 none
  statics := none }

def pool5 : Array CpInfo := pool [(1, u "java/lang/Cloneable"), (0, .class_ 1), (0, u "java/lang/Object"), (0, .class_ 3)] 3

/-- java/lang/Cloneable -/
def k5 : Class := { plain "java/lang/Cloneable" (some 0) with
  accessFlags := 1537
  interfaces := #[]
  cf := some (fileOf pool5 2 #[] #[] 1537 4 #[] #[])
  fields := #[]
  methods := #[]
  instanceTypes := #[]
  staticTypes := #[]
  resolved := Array.replicate 8 none
  statics := none }

def pool6 : Array CpInfo := pool [(1, u "java/io/Serializable"), (0, .class_ 1), (0, u "java/lang/Object"), (0, .class_ 3)] 3

/-- java/io/Serializable -/
def k6 : Class := { plain "java/io/Serializable" (some 0) with
  accessFlags := 1537
  interfaces := #[]
  cf := some (fileOf pool6 2 #[] #[] 1537 4 #[] #[])
  fields := #[]
  methods := #[]
  instanceTypes := #[]
  staticTypes := #[]
  resolved := Array.replicate 8 none
  statics := none }

/-- the primitive byte -/
def k7 : Class := { plain "byte" none with kind := .primitive 'B', accessFlags := 0x411 }
/-- [B -/
def k8 : Class := { plain "[B" (some 0) with kind := .array 7 .byte, interfaces := #[5, 6], accessFlags := 1041 }

/-- the primitive int -/
def k9 : Class := { plain "int" none with kind := .primitive 'I', accessFlags := 0x411 }
/-- [I -/
def k10 : Class := { plain "[I" (some 0) with kind := .array 9 .int, interfaces := #[5, 6], accessFlags := 1041 }

def heap : Heap := #[]
def classes : Array Class := #[k0, k1, k2, k3, k4, k5, k6, k7, k8, k9, k10]
def interned : List (Array UInt16 × Addr) := []
def slotsUsed : Nat := 0
def theMethod : MethodId := ⟨1, 1⟩
def args0 : Array Value := #[.long 5, .long 7, .long 3]
def aboutOver (below : List Frame) : State where
  vm := { classes := classes, interned := interned.toArray }
  heap := heap
  slotsUsed := slotsUsed
  threads := #[{ frames := .invoking theMethod args0 :: below }]
def below0 : List Frame := [.native { method := ⟨0, 0⟩, args := #[] }]
def about1 : State := aboutOver below0
def p0 : Program := .bare "" "" ""
def e0 : Env := launch0.env 0 0 0
theorem w_frames : about1.frames = Frame.invoking theMethod args0 :: below0 := rfl
set_option maxRecDepth 65536 in
theorem w_args : argsFit about1.vm theMethod args0 = true := by decide +kernel
set_option maxRecDepth 65536 in
theorem w_heap : heapFits about1 = true := by decide +kernel
set_option maxRecDepth 65536 in
theorem w_runnable : about1.curStatus? = some .runnable := by decide +kernel
set_option maxRecDepth 65536 in
theorem w_alone : about1.alone = true := by decide +kernel
set_option maxRecDepth 65536 in
theorem w_named : about1.methodNamed? x = some theMethod := by decide +kernel
set_option maxRecDepth 65536 in
theorem w_hears : about1.hears theMethod below0 = true := by decide +kernel
set_option maxRecDepth 65536 in
theorem w_ripe : about1.ripe theMethod args0 below0 = true := by decide +kernel
theorem w_running : about1.status = .running := rfl
set_option maxRecDepth 65536 in
theorem w_room : about1.hasRoom e0.platform room_1 = true :=
  launch0.hasRoom_least _ room_1 (by decide +kernel) (by decide +kernel) (by decide +kernel) (by decide +kernel) (by decide +kernel) (by decide +kernel)
theorem allAtoms_all (ts : List Jvm.Cond) (a : Array Jvm.Value) (st : Jvm.State) : (allAtoms ts).before a st = ts.all (fun c => c.before a st) := by
  induction ts with
  | nil => rfl
  | cons c t ih =>
    show (Jvm.Cond.and c (allAtoms t)).before a st = _
    rw [Jvm.Cond.before_and, ih, List.all_cons]
def words1 : List Jvm.Cond := Jvm.Cond.code x code maxLocals ret :: tables_1
/-- a 'code' word, met by the world's own term for the bytes: nothing is compared byte by byte -/
theorem code_word {y : MethodName} {bytes : ByteArray} {mx : Nat} {rt : Option FieldType} {a : Array Value} {s : State} {m : MethodId} {meth : Method} {c : Code} (h1 : s.methodNamed? y = some m) (h2 : s.vm.method? m = some meth) (h3 : meth.code = some c) (h4 : c.code = bytes)
    (h5 : (c.maxLocals == mx && c.exceptionTable.isEmpty && decide (c.maxStack ≤ mostOperands) && decide (meth.sig.returnType = rt) && !meth.locks && decide (parseMethodDescriptor y.desc = some meth.sig)) = true) : (Jvm.Cond.code y bytes mx rt).before a s = true := by
  simp only [Bool.and_eq_true, beq_iff_eq, Bool.not_eq_true', decide_eq_true_eq] at h5
  obtain ⟨⟨⟨⟨⟨g1, g2⟩, g3⟩, g4⟩, g5⟩, g6⟩ := h5
  simp [Cond.before, Cond.holds, Cond.value, h1, h2, h3, h4, g1, g2, g3, g4, g5, g6]
def isCode : Jvm.Cond → Bool
  | .code _ _ _ _ => true
  | _ => false
theorem all_split {L : List Jvm.Cond} {P : Jvm.Cond → Bool} (h1 : L.all (fun c => isCode c || P c) = true) (h2 : ∀ c ∈ L.filter isCode, P c = true) : L.all P = true := by
  refine List.all_eq_true.mpr fun c hc => ?_
  have h := List.all_eq_true.mp h1 c hc
  rcases Bool.eq_false_or_eq_true (isCode c) with hi | hi
  · exact h2 c (List.mem_filter.mpr ⟨hc, hi⟩)
  · simpa [hi] using h
set_option maxRecDepth 65536 in
theorem w_c0 : (Jvm.Cond.code x code maxLocals ret).before args0 about1 = true := code_word (m := ⟨1, 1⟩) (meth := k1m1) (c := k1c1) (by decide +kernel) rfl rfl rfl (by decide +kernel)
set_option maxRecDepth 65536 in
theorem w_c1 : (Jvm.Cond.code ({ cls := "java/lang/Math", name := "min", desc := "(JJ)J" } : Jvm.MethodName) jdk_29_method_70_code (4 : Nat) (Option.some Jvm.ClassFile.FieldType.long)).before args0 about1 = true := code_word (m := ⟨2, 1⟩) (meth := k2m1) (c := k2c1) (by decide +kernel) rfl rfl rfl (by decide +kernel)
set_option maxRecDepth 65536 in
theorem w_c2 : (Jvm.Cond.code ({ cls := "com/example/shingle/shingle/Overlap", name := "<init>", desc := "(JJJ)V" } : Jvm.MethodName) prog_35_method_1_code (7 : Nat) (Option.none : Option Jvm.ClassFile.FieldType)).before args0 about1 = true := code_word (m := ⟨4, 0⟩) (meth := k4m0) (c := k4c0) (by decide +kernel) rfl rfl rfl (by decide +kernel)
set_option maxRecDepth 65536 in
theorem w_c3 : (Jvm.Cond.code ({ cls := "java/lang/Record", name := "<init>", desc := "()V" } : Jvm.MethodName) jdk_30_method_1_code (1 : Nat) (Option.none : Option Jvm.ClassFile.FieldType)).before args0 about1 = true := code_word (m := ⟨3, 0⟩) (meth := k3m0) (c := k3c0) (by decide +kernel) rfl rfl rfl (by decide +kernel)
set_option maxRecDepth 65536 in
theorem w_c4 : (Jvm.Cond.code ({ cls := "java/lang/Object", name := "<init>", desc := "()V" } : Jvm.MethodName) object_method_1_code (1 : Nat) (Option.none : Option Jvm.ClassFile.FieldType)).before args0 about1 = true := code_word (m := ⟨0, 0⟩) (meth := k0m0) (c := k0c0) (by decide +kernel) rfl rfl rfl (by decide +kernel)
set_option maxRecDepth 65536 in
theorem w_c5 : (Jvm.Cond.code ({ cls := "com/example/shingle/shingle/Overlap", name := "union", desc := "()J" } : Jvm.MethodName) prog_35_method_2_code (1 : Nat) (Option.some Jvm.ClassFile.FieldType.long)).before args0 about1 = true := code_word (m := ⟨4, 1⟩) (meth := k4m1) (c := k4c1) (by decide +kernel) rfl rfl rfl (by decide +kernel)
def codes1 : List Jvm.Cond := [Jvm.Cond.code x code maxLocals ret, Jvm.Cond.code ({ cls := "java/lang/Math", name := "min", desc := "(JJ)J" } : Jvm.MethodName) jdk_29_method_70_code (4 : Nat) (Option.some Jvm.ClassFile.FieldType.long), Jvm.Cond.code ({ cls := "com/example/shingle/shingle/Overlap", name := "<init>", desc := "(JJJ)V" } : Jvm.MethodName) prog_35_method_1_code (7 : Nat) (Option.none : Option Jvm.ClassFile.FieldType), Jvm.Cond.code ({ cls := "java/lang/Record", name := "<init>", desc := "()V" } : Jvm.MethodName) jdk_30_method_1_code (1 : Nat) (Option.none : Option Jvm.ClassFile.FieldType), Jvm.Cond.code ({ cls := "java/lang/Object", name := "<init>", desc := "()V" } : Jvm.MethodName) object_method_1_code (1 : Nat) (Option.none : Option Jvm.ClassFile.FieldType), Jvm.Cond.code ({ cls := "com/example/shingle/shingle/Overlap", name := "union", desc := "()J" } : Jvm.MethodName) prog_35_method_2_code (1 : Nat) (Option.some Jvm.ClassFile.FieldType.long)]
set_option maxRecDepth 65536 in
theorem codes_eq : words1.filter isCode = codes1 := rfl
theorem w_codes : ∀ c ∈ words1.filter isCode, c.before args0 about1 = true := by
  rw [codes_eq]
  intro c hc
  simp only [codes1, List.mem_cons, List.not_mem_nil, or_false] at hc
  rcases hc with rfl | rfl | rfl | rfl | rfl | rfl
  · exact w_c0
  · exact w_c1
  · exact w_c2
  · exact w_c3
  · exact w_c4
  · exact w_c5
set_option maxRecDepth 65536 in
theorem w_t1 : (words1.take 24).all (fun c => isCode c || c.before args0 about1) = true := by decide +kernel
set_option maxRecDepth 65536 in
theorem w_t2 : (words1.drop 24).all (fun c => isCode c || c.before args0 about1) = true := by decide +kernel
theorem w_tables : (allAtoms (Jvm.Cond.code x code maxLocals ret :: tables_1)).before args0 about1 = true := by
  rw [allAtoms_all]
  show words1.all (fun c => c.before args0 about1) = true
  refine all_split ?_ w_codes
  rw [← List.take_append_drop 24 words1, List.all_append, w_t1, w_t2]
  rfl
set_option maxRecDepth 65536 in
theorem w_case : (Jvm.Cond.and given_1 narrow_1).before args0 about1 = true := by decide +kernel
theorem w_applies : (headSpec (Jvm.Cond.code x code maxLocals ret :: tables_1) room_1).applies x e0.platform about1 = true :=
  (Spec.applies_iff w_frames).mpr ⟨w_running, w_runnable, w_alone, w_named, w_hears, w_ripe, w_room, w_tables⟩
theorem atStart : AtStart classFile x code maxLocals ret World_1 tables_1 room_1 Calls_1 rest_1 Pre_1 launch0 p0 e0 about1 theMethod args0 below0 :=
  ⟨lists_1, trivial, launch0.admits_env _ _ _, launch0.least_env, fairChoices_fair.cas, fairChoices_fair.clock, w_frames, w_args, w_heap, w_applies, trivial, trivial, w_case⟩
end start1
theorem witness_1 : WitnessClaimed_1 := ⟨start1.p0, start1.e0, start1.about1, start1.theMethod, start1.args0, start1.below0, start1.atStart⟩
end Jvm.Pilot.@@N@@
