import JvmDerived
import JvmDerived.Pilot.@@N@@Statement
import JvmDerived.Pilot.@@N@@Code
set_option linter.unusedVariables false
set_option linter.unusedSimpArgs false
namespace Jvm.RoadKit
open Sem ClassFile Op Lib Jvm.Stand Jvm.Free Jvm.LawKit
section New
variable {p : Program} {l : Launch} {e : Env} {R : Room} {s : State} {m : MethodId} {args : Array Value} {below : List Frame} {meth : Method} {c : Code} {T : State} {locs : List Loc} {cells slots : Nat}
theorem retI (X : Stand p l e R s m args below meth c T locs cells slots) (hx : p.tables.exec = Jvm.exec) {pc : Nat} {Ls : Array Slot} {z : Int32} {rest : List Value} (hret : meth.sig.returnType = some .int) (hd : decode c.code pc = .ok (.ireturn, 1)) {fs : List Frame}
    (hl : ∀ (f : JFrame) (acts : List Action), f.method = m → f.locked = none → f.entered = [] → (doReturn e (T.setTop f) acts (some (.int z))).1 = T.setFrames fs) : Steps p.tables e below (T.setTop (mkF m pc Ls (.int z :: rest))) (T.setFrames fs) := by
  have hm' : T.vm.method? m = some meth := X.method'
  have hn : narrow .int (.int z) = .int z := rfl
  show Steps p.tables e below (T.setTop { method := m, pc := pc, locals := Ls, stack := _ :: rest, locked := none }) _
  jvm_step X.here [X.here.top, hx, hd, hm', hret, hn]
  first | (intro acts; rw [hl _ acts rfl rfl rfl]) | rw [hl _ _ rfl rfl rfl]
  exact Steps.refl _
end New
end Jvm.RoadKit
namespace Jvm.Pilot.@@N@@
open Jvm Jvm.ClassFile Sem Op Lib Jvm.Free Jvm.Stand Jvm.LawKit Jvm.RoadKit Bundle Jvm.Pilot.@@N@@.Jvm.D
theorem pd_0 : parseMethodDescriptor "(II)I" = some ⟨[.int, .int], some .int⟩ := by decide +kernel
theorem pd_1 : parseMethodDescriptor "(II)Z" = some ⟨[.int, .int], some .boolean⟩ := by decide +kernel
theorem d1_0 : decode method_2_code 0 = .ok (.iload_n 1, 1) := by decide +kernel
theorem d1_1 : decode method_2_code 1 = .ok (.iconst 3, 1) := by decide +kernel
theorem d1_2 : decode method_2_code 2 = .ok (.iand, 1) := by decide +kernel
theorem d1_3 : decode method_2_code 3 = .ok (.istore_n 2, 1) := by decide +kernel
theorem d1_4 : decode method_2_code 4 = .ok (.iload_n 2, 1) := by decide +kernel
theorem d1_5 : decode method_2_code 5 = .ok (.iconst 1, 1) := by decide +kernel
theorem d1_6 : decode method_2_code 6 = .ok (.if_icmp .ne 9, 3) := by decide +kernel
theorem d1_9 : decode method_2_code 9 = .ok (.iconst (-1), 1) := by decide +kernel
theorem d1_10 : decode method_2_code 10 = .ok (.iload_n 0, 1) := by decide +kernel
theorem d1_11 : decode method_2_code 11 = .ok (.iconst 3, 1) := by decide +kernel
theorem d1_12 : decode method_2_code 12 = .ok (.iand, 1) := by decide +kernel
theorem d1_13 : decode method_2_code 13 = .ok (.iadd, 1) := by decide +kernel
theorem d1_14 : decode method_2_code 14 = .ok (.ireturn, 1) := by decide +kernel
theorem d1_15 : decode method_2_code 15 = .ok (.iload_n 2, 1) := by decide +kernel
theorem d1_16 : decode method_2_code 16 = .ok (.iconst 2, 1) := by decide +kernel
theorem d1_17 : decode method_2_code 17 = .ok (.if_icmp .ne 11, 3) := by decide +kernel
theorem d1_20 : decode method_2_code 20 = .ok (.sipush 998, 3) := by decide +kernel
theorem d1_23 : decode method_2_code 23 = .ok (.iload_n 0, 1) := by decide +kernel
theorem d1_24 : decode method_2_code 24 = .ok (.iconst 3, 1) := by decide +kernel
theorem d1_25 : decode method_2_code 25 = .ok (.iand, 1) := by decide +kernel
theorem d1_26 : decode method_2_code 26 = .ok (.iadd, 1) := by decide +kernel
theorem d1_27 : decode method_2_code 27 = .ok (.ireturn, 1) := by decide +kernel
theorem d1_28 : decode method_2_code 28 = .ok (.iload_n 0, 1) := by decide +kernel
theorem d1_29 : decode method_2_code 29 = .ok (.ireturn, 1) := by decide +kernel
theorem pn_1 : plainName "com/example/glowcursor/glowcursor/screen/ScreenIsValidSizePinLaw" = true := by first | (simp [plainName, overriddenIn]; done) | decide +kernel
theorem ef_1 (m : MethodId) (x0 : Int32) (x1 : Int32) : entryFrame m #[(.int x0), (.int x1)] 3 = mkF m 0 #[.val (.int x0), .val (.int x1), .unset] [] := by first | (simp [entryFrame, mkF, argsToLocals, Value.category]; done) | rfl
def f1 (x0 : Int32) (m0 : Int32) : Int32 := (if (m0 &&& (3 : Int32)) = (1 : Int32) then ((-1 : Int32) + (x0 &&& (3 : Int32))) else (if (m0 &&& (3 : Int32)) = (2 : Int32) then ((998 : Int32) + (x0 &&& (3 : Int32))) else x0))
def Q1 (Z : State) (x0 : Int32) (m0 : Int32) (h0 : Heap) (n0 : Nat) (v : Option Value) (h : Heap) (L : List Loc) : Prop := v = some (.int (f1 x0 m0)) ∧ Fr n0 L ∧ h = h0
set_option maxRecDepth 65536 in
set_option maxHeartbeats 40000000 in
theorem rm1 (l : Launch) (Z : State) (a0 : Array Value) (hw : ∀ d ∈ tables_1, d.before a0 Z = true) (ws : List Jvm.Cond) (x0 : Int32) (m0 : Int32)  (h0 : Heap) (n0 : Nat) (Z0 : n0 ≤ h0.size)  :
    MetFree l (⟨"com/example/glowcursor/glowcursor/screen/ScreenIsValidSizePinLaw", "pick", "(II)I"⟩ : MethodName) (head1 (Jvm.Cond.code (⟨"com/example/glowcursor/glowcursor/screen/ScreenIsValidSizePinLaw", "pick", "(II)I"⟩ : MethodName) method_2_code 3 (some .int) :: ws) ({ frames := 0, cells := 0, slots := 0, locals := 0 } : Room)) (fun a U => a = #[(.int x0), (.int m0)] ∧ Z.Warmed39 U.vm ∧ U.heap = h0) (fun _ _ _ _ _ => True) (fun _ U o U' => ∃ v L, o = .returned v ∧ Q1 Z x0 m0 h0 n0 v U'.heap L ∧ FrameEnd U o U' L ({ frames := 0, cells := 0, slots := 0, locals := 0 } : Room).cells ({ frames := 0, cells := 0, slots := 0, locals := 0 } : Room).slots) := by
  refine MetFree.of_bodySF (plainFor_of_name pn_1) hisR ?_
  intro p e s m args below meth c s₁ Bd hml0 hP hK
  obtain ⟨rfl, hZ, hh⟩ := hP
  have hx := Bd.exec
  have hby := Bd.bytes
  have hml : c.maxLocals = 3 := hml0
  have hown : s.vm.findClass "com/example/glowcursor/glowcursor/screen/ScreenIsValidSizePinLaw" = some m.cls := findClass_of_methodNamed Bd.named
  have hnm := (name_of_methodNamed Bd.named Bd.method).1
  have X0 : Stand p l e ({ frames := 0, cells := 0, slots := 0, locals := 0 } : Room) s m #[(.int x0), (.int m0)] below meth c s₁ [] 0 0 := Stand.of_body Bd
  have e0 : s₁.heap = h0 := by rw [← hh, Bd.state]; rfl
  have N0 := Fr.nil n0
  have hlk : meth.locks = false := by first | exact BodyLoose.notSynchronized Bd | exact Body.notSynchronized Bd
  have pre0 : ∀ t, Steps p.tables e below (s₁.setTop (mkF m 0 #[.val (.int x0), .val (.int m0), .unset] [])) t → Steps p.tables e below (s₁.setTop (entryFrame m #[(.int x0), (.int m0)] 3)) t := fun t k => castTop (ef_1 m x0 m0) k
  have pre1 : ∀ t, Steps p.tables e below (s₁.setTop (mkF m 6 #[.val (.int x0), .val (.int m0), .val (.int (m0 &&& (3 : Int32)))] [(.int (1 : Int32)), (.int (m0 &&& (3 : Int32)))])) t → Steps p.tables e below (s₁.setTop (entryFrame m #[(.int x0), (.int m0)] 3)) t := fun t k => pre0 t (by
    show Steps p.tables e below (s₁.setTop (mkF m 0 #[.val (.int x0), .val (.int m0), .unset] [])) _
    refine XS.iloadN X0.here hx rfl (hb hby d1_0) rfl ?_
    show Steps p.tables e below (s₁.setTop (mkF m 1 #[.val (.int x0), .val (.int m0), .unset] [(.int m0)])) _
    refine XS.iconst X0.here hx rfl (hb hby d1_1) ?_
    show Steps p.tables e below (s₁.setTop (mkF m 2 #[.val (.int x0), .val (.int m0), .unset] [(.int (3 : Int32)), (.int m0)])) _
    refine XS.iand X0.here hx rfl (hb hby d1_2) rfl ?_
    show Steps p.tables e below (s₁.setTop (mkF m 3 #[.val (.int x0), .val (.int m0), .unset] [(.int (m0 &&& (3 : Int32)))])) _
    refine XS.istoreN X0.here hx rfl (hb hby d1_3) rfl (l' := #[.val (.int x0), .val (.int m0), .val (.int (m0 &&& (3 : Int32)))]) rfl ?_
    show Steps p.tables e below (s₁.setTop (mkF m 4 #[.val (.int x0), .val (.int m0), .val (.int (m0 &&& (3 : Int32)))] [])) _
    refine XS.iloadN X0.here hx rfl (hb hby d1_4) rfl ?_
    show Steps p.tables e below (s₁.setTop (mkF m 5 #[.val (.int x0), .val (.int m0), .val (.int (m0 &&& (3 : Int32)))] [(.int (m0 &&& (3 : Int32)))])) _
    refine XS.iconst X0.here hx rfl (hb hby d1_5) ?_
    show Steps p.tables e below (s₁.setTop (mkF m 6 #[.val (.int x0), .val (.int m0), .val (.int (m0 &&& (3 : Int32)))] [(.int (1 : Int32)), (.int (m0 &&& (3 : Int32)))])) _
    exact k)
  by_cases hc6_2 : (m0 &&& (3 : Int32)) = (1 : Int32)
  · have hv : (f1 x0 m0) = ((-1 : Int32) + (x0 &&& (3 : Int32))) := by simp only [f1, if_pos hc6_2]
    obtain ⟨fs, hr, hrun, hended, hW, hsame⟩ := X0.leave (v := some (.int ((-1 : Int32) + (x0 &&& (3 : Int32))))) (fun h => nomatch (Bd.returns.symm.trans h)) hlk
    refine ⟨_, _, pre1 _ ?_, hrun, hended, _, _, rfl, ?_, ⟨_, rfl⟩, hW, hsame.mono (by decide) (by decide)⟩
    · show Steps p.tables e below (s₁.setTop (mkF m 6 #[.val (.int x0), .val (.int m0), .val (.int (m0 &&& (3 : Int32)))] [(.int (1 : Int32)), (.int (m0 &&& (3 : Int32)))])) _
      refine XS.icmpNo X0.here hx rfl (hb hby d1_6) rfl (teq hc6_2).2 ?_
      show Steps p.tables e below (s₁.setTop (mkF m 9 #[.val (.int x0), .val (.int m0), .val (.int (m0 &&& (3 : Int32)))] [])) _
      refine XS.iconst X0.here hx rfl (hb hby d1_9) ?_
      show Steps p.tables e below (s₁.setTop (mkF m 10 #[.val (.int x0), .val (.int m0), .val (.int (m0 &&& (3 : Int32)))] [(.int (-1 : Int32))])) _
      refine XS.iloadN X0.here hx rfl (hb hby d1_10) rfl ?_
      show Steps p.tables e below (s₁.setTop (mkF m 11 #[.val (.int x0), .val (.int m0), .val (.int (m0 &&& (3 : Int32)))] [(.int x0), (.int (-1 : Int32))])) _
      refine XS.iconst X0.here hx rfl (hb hby d1_11) ?_
      show Steps p.tables e below (s₁.setTop (mkF m 12 #[.val (.int x0), .val (.int m0), .val (.int (m0 &&& (3 : Int32)))] [(.int (3 : Int32)), (.int x0), (.int (-1 : Int32))])) _
      refine XS.iand X0.here hx rfl (hb hby d1_12) rfl ?_
      show Steps p.tables e below (s₁.setTop (mkF m 13 #[.val (.int x0), .val (.int m0), .val (.int (m0 &&& (3 : Int32)))] [(.int (x0 &&& (3 : Int32))), (.int (-1 : Int32))])) _
      refine XS.iadd X0.here hx rfl (hb hby d1_13) rfl ?_
      show Steps p.tables e below (s₁.setTop (mkF m 14 #[.val (.int x0), .val (.int m0), .val (.int (m0 &&& (3 : Int32)))] [(.int ((-1 : Int32) + (x0 &&& (3 : Int32))))])) _
      exact retI X0 hx Bd.returns (hb hby d1_14) hr
    · exact ⟨by rw [hv], N0, e0⟩
  · have pre3 : ∀ t, Steps p.tables e below (s₁.setTop (mkF m 17 #[.val (.int x0), .val (.int m0), .val (.int (m0 &&& (3 : Int32)))] [(.int (2 : Int32)), (.int (m0 &&& (3 : Int32)))])) t → Steps p.tables e below (s₁.setTop (entryFrame m #[(.int x0), (.int m0)] 3)) t := fun t k => pre1 t (by
      show Steps p.tables e below (s₁.setTop (mkF m 6 #[.val (.int x0), .val (.int m0), .val (.int (m0 &&& (3 : Int32)))] [(.int (1 : Int32)), (.int (m0 &&& (3 : Int32)))])) _
      refine XS.icmpYes X0.here hx rfl (pc0 := 6) (pc' := 15) rfl (hb hby d1_6) rfl (feq hc6_2).2 (by decide) (by decide) ?_
      show Steps p.tables e below (s₁.setTop (mkF m 15 #[.val (.int x0), .val (.int m0), .val (.int (m0 &&& (3 : Int32)))] [])) _
      refine XS.iloadN X0.here hx rfl (hb hby d1_15) rfl ?_
      show Steps p.tables e below (s₁.setTop (mkF m 16 #[.val (.int x0), .val (.int m0), .val (.int (m0 &&& (3 : Int32)))] [(.int (m0 &&& (3 : Int32)))])) _
      refine XS.iconst X0.here hx rfl (hb hby d1_16) ?_
      show Steps p.tables e below (s₁.setTop (mkF m 17 #[.val (.int x0), .val (.int m0), .val (.int (m0 &&& (3 : Int32)))] [(.int (2 : Int32)), (.int (m0 &&& (3 : Int32)))])) _
      exact k)
    by_cases hc17_4 : (m0 &&& (3 : Int32)) = (2 : Int32)
    · have hv : (f1 x0 m0) = ((998 : Int32) + (x0 &&& (3 : Int32))) := by simp only [f1, if_neg hc6_2, if_pos hc17_4]
      obtain ⟨fs, hr, hrun, hended, hW, hsame⟩ := X0.leave (v := some (.int ((998 : Int32) + (x0 &&& (3 : Int32))))) (fun h => nomatch (Bd.returns.symm.trans h)) hlk
      refine ⟨_, _, pre3 _ ?_, hrun, hended, _, _, rfl, ?_, ⟨_, rfl⟩, hW, hsame.mono (by decide) (by decide)⟩
      · show Steps p.tables e below (s₁.setTop (mkF m 17 #[.val (.int x0), .val (.int m0), .val (.int (m0 &&& (3 : Int32)))] [(.int (2 : Int32)), (.int (m0 &&& (3 : Int32)))])) _
        refine XS.icmpNo X0.here hx rfl (hb hby d1_17) rfl (teq hc17_4).2 ?_
        show Steps p.tables e below (s₁.setTop (mkF m 20 #[.val (.int x0), .val (.int m0), .val (.int (m0 &&& (3 : Int32)))] [])) _
        refine XS.sipush X0.here hx rfl (hb hby d1_20) ?_
        show Steps p.tables e below (s₁.setTop (mkF m 23 #[.val (.int x0), .val (.int m0), .val (.int (m0 &&& (3 : Int32)))] [(.int (998 : Int32))])) _
        refine XS.iloadN X0.here hx rfl (hb hby d1_23) rfl ?_
        show Steps p.tables e below (s₁.setTop (mkF m 24 #[.val (.int x0), .val (.int m0), .val (.int (m0 &&& (3 : Int32)))] [(.int x0), (.int (998 : Int32))])) _
        refine XS.iconst X0.here hx rfl (hb hby d1_24) ?_
        show Steps p.tables e below (s₁.setTop (mkF m 25 #[.val (.int x0), .val (.int m0), .val (.int (m0 &&& (3 : Int32)))] [(.int (3 : Int32)), (.int x0), (.int (998 : Int32))])) _
        refine XS.iand X0.here hx rfl (hb hby d1_25) rfl ?_
        show Steps p.tables e below (s₁.setTop (mkF m 26 #[.val (.int x0), .val (.int m0), .val (.int (m0 &&& (3 : Int32)))] [(.int (x0 &&& (3 : Int32))), (.int (998 : Int32))])) _
        refine XS.iadd X0.here hx rfl (hb hby d1_26) rfl ?_
        show Steps p.tables e below (s₁.setTop (mkF m 27 #[.val (.int x0), .val (.int m0), .val (.int (m0 &&& (3 : Int32)))] [(.int ((998 : Int32) + (x0 &&& (3 : Int32))))])) _
        exact retI X0 hx Bd.returns (hb hby d1_27) hr
      · exact ⟨by rw [hv], N0, e0⟩
    · have hv : (f1 x0 m0) = x0 := by simp only [f1, if_neg hc6_2, if_neg hc17_4]
      obtain ⟨fs, hr, hrun, hended, hW, hsame⟩ := X0.leave (v := some (.int x0)) (fun h => nomatch (Bd.returns.symm.trans h)) hlk
      refine ⟨_, _, pre3 _ ?_, hrun, hended, _, _, rfl, ?_, ⟨_, rfl⟩, hW, hsame.mono (by decide) (by decide)⟩
      · show Steps p.tables e below (s₁.setTop (mkF m 17 #[.val (.int x0), .val (.int m0), .val (.int (m0 &&& (3 : Int32)))] [(.int (2 : Int32)), (.int (m0 &&& (3 : Int32)))])) _
        refine XS.icmpYes X0.here hx rfl (pc0 := 17) (pc' := 28) rfl (hb hby d1_17) rfl (feq hc17_4).2 (by decide) (by decide) ?_
        show Steps p.tables e below (s₁.setTop (mkF m 28 #[.val (.int x0), .val (.int m0), .val (.int (m0 &&& (3 : Int32)))] [])) _
        refine XS.iloadN X0.here hx rfl (hb hby d1_28) rfl ?_
        show Steps p.tables e below (s₁.setTop (mkF m 29 #[.val (.int x0), .val (.int m0), .val (.int (m0 &&& (3 : Int32)))] [(.int x0)])) _
        exact retI X0 hx Bd.returns (hb hby d1_29) hr
      · exact ⟨by rw [hv], N0, e0⟩
theorem d3_0 : decode jdk_29_method_69_code 0 = .ok (.iload_n 0, 1) := by decide +kernel
theorem d3_1 : decode jdk_29_method_69_code 1 = .ok (.iload_n 1, 1) := by decide +kernel
theorem d3_2 : decode jdk_29_method_69_code 2 = .ok (.if_icmp .gt 7, 3) := by decide +kernel
theorem d3_5 : decode jdk_29_method_69_code 5 = .ok (.iload_n 0, 1) := by decide +kernel
theorem d3_6 : decode jdk_29_method_69_code 6 = .ok (.goto 4, 3) := by decide +kernel
theorem d3_9 : decode jdk_29_method_69_code 9 = .ok (.iload_n 1, 1) := by decide +kernel
theorem d3_10 : decode jdk_29_method_69_code 10 = .ok (.ireturn, 1) := by decide +kernel
theorem ef_3 (m : MethodId) (x0 : Int32) (x1 : Int32) : entryFrame m #[(.int x0), (.int x1)] 2 = mkF m 0 #[.val (.int x0), .val (.int x1)] [] := by first | (simp [entryFrame, mkF, argsToLocals, Value.category]; done) | rfl
def f3 (x0 : Int32) (y0 : Int32) : Int32 := (if y0 < x0 then y0 else x0)
def Q3 (Z : State) (x0 : Int32) (y0 : Int32) (h0 : Heap) (n0 : Nat) (v : Option Value) (h : Heap) (L : List Loc) : Prop := v = some (.int (f3 x0 y0)) ∧ Fr n0 L ∧ h = h0
set_option maxRecDepth 65536 in
set_option maxHeartbeats 40000000 in
theorem rm3 (l : Launch) (Z : State) (a0 : Array Value) (hw : ∀ d ∈ tables_1, d.before a0 Z = true) (ws : List Jvm.Cond) (x0 : Int32) (y0 : Int32)  (h0 : Heap) (n0 : Nat) (Z0 : n0 ≤ h0.size)  :
    MetFree l (⟨"java/lang/Math", "min", "(II)I"⟩ : MethodName) (head1 (Jvm.Cond.code (⟨"java/lang/Math", "min", "(II)I"⟩ : MethodName) jdk_29_method_69_code 2 (some .int) :: ws) ({ frames := 0, cells := 0, slots := 0, locals := 0 } : Room)) (fun a U => a = #[(.int x0), (.int y0)] ∧ Z.Warmed39 U.vm ∧ U.heap = h0) (fun _ _ _ _ _ => True) (fun _ U o U' => ∃ v L, o = .returned v ∧ Q3 Z x0 y0 h0 n0 v U'.heap L ∧ FrameEnd U o U' L ({ frames := 0, cells := 0, slots := 0, locals := 0 } : Room).cells ({ frames := 0, cells := 0, slots := 0, locals := 0 } : Room).slots) := by
  refine MetFree.of_bodySF (Jvm.Free.JP.mathPlain rfl (by decide +kernel)) hisR ?_
  intro p e s m args below meth c s₁ Bd hml0 hP hK
  obtain ⟨rfl, hZ, hh⟩ := hP
  have hx := Bd.exec
  have hby := Bd.bytes
  have hml : c.maxLocals = 2 := hml0
  have hown : s.vm.findClass "java/lang/Math" = some m.cls := findClass_of_methodNamed Bd.named
  have hnm := (name_of_methodNamed Bd.named Bd.method).1
  have X0 : Stand p l e ({ frames := 0, cells := 0, slots := 0, locals := 0 } : Room) s m #[(.int x0), (.int y0)] below meth c s₁ [] 0 0 := Stand.of_body Bd
  have e0 : s₁.heap = h0 := by rw [← hh, Bd.state]; rfl
  have N0 := Fr.nil n0
  have hlk : meth.locks = false := by first | exact BodyLoose.notSynchronized Bd | exact Body.notSynchronized Bd
  have pre0 : ∀ t, Steps p.tables e below (s₁.setTop (mkF m 0 #[.val (.int x0), .val (.int y0)] [])) t → Steps p.tables e below (s₁.setTop (entryFrame m #[(.int x0), (.int y0)] 2)) t := fun t k => castTop (ef_3 m x0 y0) k
  have pre1 : ∀ t, Steps p.tables e below (s₁.setTop (mkF m 2 #[.val (.int x0), .val (.int y0)] [(.int y0), (.int x0)])) t → Steps p.tables e below (s₁.setTop (entryFrame m #[(.int x0), (.int y0)] 2)) t := fun t k => pre0 t (by
    show Steps p.tables e below (s₁.setTop (mkF m 0 #[.val (.int x0), .val (.int y0)] [])) _
    refine XS.iloadN X0.here hx rfl (hb hby d3_0) rfl ?_
    show Steps p.tables e below (s₁.setTop (mkF m 1 #[.val (.int x0), .val (.int y0)] [(.int x0)])) _
    refine XS.iloadN X0.here hx rfl (hb hby d3_1) rfl ?_
    show Steps p.tables e below (s₁.setTop (mkF m 2 #[.val (.int x0), .val (.int y0)] [(.int y0), (.int x0)])) _
    exact k)
  by_cases hc2_2 : y0 < x0
  · have hv : (f3 x0 y0) = y0 := by simp only [f3, if_pos hc2_2]
    obtain ⟨fs, hr, hrun, hended, hW, hsame⟩ := X0.leave (v := some (.int y0)) (fun h => nomatch (Bd.returns.symm.trans h)) hlk
    refine ⟨_, _, pre1 _ ?_, hrun, hended, _, _, rfl, ?_, ⟨_, rfl⟩, hW, hsame.mono (by decide) (by decide)⟩
    · show Steps p.tables e below (s₁.setTop (mkF m 2 #[.val (.int x0), .val (.int y0)] [(.int y0), (.int x0)])) _
      refine XS.icmpYes X0.here hx rfl (pc0 := 2) (pc' := 9) rfl (hb hby d3_2) rfl (tlt hc2_2).2.2.1 (by decide) (by decide) ?_
      show Steps p.tables e below (s₁.setTop (mkF m 9 #[.val (.int x0), .val (.int y0)] [])) _
      refine XS.iloadN X0.here hx rfl (hb hby d3_9) rfl ?_
      show Steps p.tables e below (s₁.setTop (mkF m 10 #[.val (.int x0), .val (.int y0)] [(.int y0)])) _
      exact retI X0 hx Bd.returns (hb hby d3_10) hr
    · exact ⟨by rw [hv], N0, e0⟩
  · have hv : (f3 x0 y0) = x0 := by simp only [f3, if_neg hc2_2]
    obtain ⟨fs, hr, hrun, hended, hW, hsame⟩ := X0.leave (v := some (.int x0)) (fun h => nomatch (Bd.returns.symm.trans h)) hlk
    refine ⟨_, _, pre1 _ ?_, hrun, hended, _, _, rfl, ?_, ⟨_, rfl⟩, hW, hsame.mono (by decide) (by decide)⟩
    · show Steps p.tables e below (s₁.setTop (mkF m 2 #[.val (.int x0), .val (.int y0)] [(.int y0), (.int x0)])) _
      refine XS.icmpNo X0.here hx rfl (hb hby d3_2) rfl (flt hc2_2).2.2.1 ?_
      show Steps p.tables e below (s₁.setTop (mkF m 5 #[.val (.int x0), .val (.int y0)] [])) _
      refine XS.iloadN X0.here hx rfl (hb hby d3_5) rfl ?_
      show Steps p.tables e below (s₁.setTop (mkF m 6 #[.val (.int x0), .val (.int y0)] [(.int x0)])) _
      refine XS.goto X0.here hx rfl (pc0 := 6) (pc' := 10) rfl (hb hby d3_6) (by decide) (by decide) ?_
      show Steps p.tables e below (s₁.setTop (mkF m 10 #[.val (.int x0), .val (.int y0)] [(.int x0)])) _
      exact retI X0 hx Bd.returns (hb hby d3_10) hr
    · exact ⟨by rw [hv], N0, e0⟩
theorem d4_0 : decode jdk_29_method_65_code 0 = .ok (.iload_n 0, 1) := by decide +kernel
theorem d4_1 : decode jdk_29_method_65_code 1 = .ok (.iload_n 1, 1) := by decide +kernel
theorem d4_2 : decode jdk_29_method_65_code 2 = .ok (.if_icmp .lt 7, 3) := by decide +kernel
theorem d4_5 : decode jdk_29_method_65_code 5 = .ok (.iload_n 0, 1) := by decide +kernel
theorem d4_6 : decode jdk_29_method_65_code 6 = .ok (.goto 4, 3) := by decide +kernel
theorem d4_9 : decode jdk_29_method_65_code 9 = .ok (.iload_n 1, 1) := by decide +kernel
theorem d4_10 : decode jdk_29_method_65_code 10 = .ok (.ireturn, 1) := by decide +kernel
theorem ef_4 (m : MethodId) (x0 : Int32) (x1 : Int32) : entryFrame m #[(.int x0), (.int x1)] 2 = mkF m 0 #[.val (.int x0), .val (.int x1)] [] := by first | (simp [entryFrame, mkF, argsToLocals, Value.category]; done) | rfl
def f4 (x0 : Int32) (y0 : Int32) : Int32 := (if x0 < y0 then y0 else x0)
def Q4 (Z : State) (x0 : Int32) (y0 : Int32) (h0 : Heap) (n0 : Nat) (v : Option Value) (h : Heap) (L : List Loc) : Prop := v = some (.int (f4 x0 y0)) ∧ Fr n0 L ∧ h = h0
set_option maxRecDepth 65536 in
set_option maxHeartbeats 40000000 in
theorem rm4 (l : Launch) (Z : State) (a0 : Array Value) (hw : ∀ d ∈ tables_1, d.before a0 Z = true) (ws : List Jvm.Cond) (x0 : Int32) (y0 : Int32)  (h0 : Heap) (n0 : Nat) (Z0 : n0 ≤ h0.size)  :
    MetFree l (⟨"java/lang/Math", "max", "(II)I"⟩ : MethodName) (head1 (Jvm.Cond.code (⟨"java/lang/Math", "max", "(II)I"⟩ : MethodName) jdk_29_method_65_code 2 (some .int) :: ws) ({ frames := 0, cells := 0, slots := 0, locals := 0 } : Room)) (fun a U => a = #[(.int x0), (.int y0)] ∧ Z.Warmed39 U.vm ∧ U.heap = h0) (fun _ _ _ _ _ => True) (fun _ U o U' => ∃ v L, o = .returned v ∧ Q4 Z x0 y0 h0 n0 v U'.heap L ∧ FrameEnd U o U' L ({ frames := 0, cells := 0, slots := 0, locals := 0 } : Room).cells ({ frames := 0, cells := 0, slots := 0, locals := 0 } : Room).slots) := by
  refine MetFree.of_bodySF (Jvm.Free.JP.mathPlain rfl (by decide +kernel)) hisR ?_
  intro p e s m args below meth c s₁ Bd hml0 hP hK
  obtain ⟨rfl, hZ, hh⟩ := hP
  have hx := Bd.exec
  have hby := Bd.bytes
  have hml : c.maxLocals = 2 := hml0
  have hown : s.vm.findClass "java/lang/Math" = some m.cls := findClass_of_methodNamed Bd.named
  have hnm := (name_of_methodNamed Bd.named Bd.method).1
  have X0 : Stand p l e ({ frames := 0, cells := 0, slots := 0, locals := 0 } : Room) s m #[(.int x0), (.int y0)] below meth c s₁ [] 0 0 := Stand.of_body Bd
  have e0 : s₁.heap = h0 := by rw [← hh, Bd.state]; rfl
  have N0 := Fr.nil n0
  have hlk : meth.locks = false := by first | exact BodyLoose.notSynchronized Bd | exact Body.notSynchronized Bd
  have pre0 : ∀ t, Steps p.tables e below (s₁.setTop (mkF m 0 #[.val (.int x0), .val (.int y0)] [])) t → Steps p.tables e below (s₁.setTop (entryFrame m #[(.int x0), (.int y0)] 2)) t := fun t k => castTop (ef_4 m x0 y0) k
  have pre1 : ∀ t, Steps p.tables e below (s₁.setTop (mkF m 2 #[.val (.int x0), .val (.int y0)] [(.int y0), (.int x0)])) t → Steps p.tables e below (s₁.setTop (entryFrame m #[(.int x0), (.int y0)] 2)) t := fun t k => pre0 t (by
    show Steps p.tables e below (s₁.setTop (mkF m 0 #[.val (.int x0), .val (.int y0)] [])) _
    refine XS.iloadN X0.here hx rfl (hb hby d4_0) rfl ?_
    show Steps p.tables e below (s₁.setTop (mkF m 1 #[.val (.int x0), .val (.int y0)] [(.int x0)])) _
    refine XS.iloadN X0.here hx rfl (hb hby d4_1) rfl ?_
    show Steps p.tables e below (s₁.setTop (mkF m 2 #[.val (.int x0), .val (.int y0)] [(.int y0), (.int x0)])) _
    exact k)
  by_cases hc2_2 : x0 < y0
  · have hv : (f4 x0 y0) = y0 := by simp only [f4, if_pos hc2_2]
    obtain ⟨fs, hr, hrun, hended, hW, hsame⟩ := X0.leave (v := some (.int y0)) (fun h => nomatch (Bd.returns.symm.trans h)) hlk
    refine ⟨_, _, pre1 _ ?_, hrun, hended, _, _, rfl, ?_, ⟨_, rfl⟩, hW, hsame.mono (by decide) (by decide)⟩
    · show Steps p.tables e below (s₁.setTop (mkF m 2 #[.val (.int x0), .val (.int y0)] [(.int y0), (.int x0)])) _
      refine XS.icmpYes X0.here hx rfl (pc0 := 2) (pc' := 9) rfl (hb hby d4_2) rfl (tlt hc2_2).1 (by decide) (by decide) ?_
      show Steps p.tables e below (s₁.setTop (mkF m 9 #[.val (.int x0), .val (.int y0)] [])) _
      refine XS.iloadN X0.here hx rfl (hb hby d4_9) rfl ?_
      show Steps p.tables e below (s₁.setTop (mkF m 10 #[.val (.int x0), .val (.int y0)] [(.int y0)])) _
      exact retI X0 hx Bd.returns (hb hby d4_10) hr
    · exact ⟨by rw [hv], N0, e0⟩
  · have hv : (f4 x0 y0) = x0 := by simp only [f4, if_neg hc2_2]
    obtain ⟨fs, hr, hrun, hended, hW, hsame⟩ := X0.leave (v := some (.int x0)) (fun h => nomatch (Bd.returns.symm.trans h)) hlk
    refine ⟨_, _, pre1 _ ?_, hrun, hended, _, _, rfl, ?_, ⟨_, rfl⟩, hW, hsame.mono (by decide) (by decide)⟩
    · show Steps p.tables e below (s₁.setTop (mkF m 2 #[.val (.int x0), .val (.int y0)] [(.int y0), (.int x0)])) _
      refine XS.icmpNo X0.here hx rfl (hb hby d4_2) rfl (flt hc2_2).1 ?_
      show Steps p.tables e below (s₁.setTop (mkF m 5 #[.val (.int x0), .val (.int y0)] [])) _
      refine XS.iloadN X0.here hx rfl (hb hby d4_5) rfl ?_
      show Steps p.tables e below (s₁.setTop (mkF m 6 #[.val (.int x0), .val (.int y0)] [(.int x0)])) _
      refine XS.goto X0.here hx rfl (pc0 := 6) (pc' := 10) rfl (hb hby d4_6) (by decide) (by decide) ?_
      show Steps p.tables e below (s₁.setTop (mkF m 10 #[.val (.int x0), .val (.int y0)] [(.int x0)])) _
      exact retI X0 hx Bd.returns (hb hby d4_10) hr
    · exact ⟨by rw [hv], N0, e0⟩
theorem d2_0 : decode method_3_code 0 = .ok (.iconst 1, 1) := by decide +kernel
theorem d2_1 : decode method_3_code 1 = .ok (.iload_n 0, 1) := by decide +kernel
theorem d2_2 : decode method_3_code 2 = .ok (.iload_n 1, 1) := by decide +kernel
theorem d2_3 : decode method_3_code 3 = .ok (.invokestatic 7, 3) := by decide +kernel
theorem d2_6 : decode method_3_code 6 = .ok (.invokestatic 13, 3) := by decide +kernel
theorem d2_9 : decode method_3_code 9 = .ok (.iload_n 0, 1) := by decide +kernel
theorem d2_10 : decode method_3_code 10 = .ok (.if_icmp .ne 7, 3) := by decide +kernel
theorem d2_13 : decode method_3_code 13 = .ok (.iconst 1, 1) := by decide +kernel
theorem d2_14 : decode method_3_code 14 = .ok (.goto 4, 3) := by decide +kernel
theorem d2_17 : decode method_3_code 17 = .ok (.iconst 0, 1) := by decide +kernel
theorem d2_18 : decode method_3_code 18 = .ok (.ireturn, 1) := by decide +kernel
theorem pn_2 : plainName "com/example/glowcursor/glowcursor/screen/ScreenIsValidSizePinLaw" = true := by first | (simp [plainName, overriddenIn]; done) | decide +kernel
theorem ef_2 (m : MethodId) (x0 : Int32) (x1 : Int32) : entryFrame m #[(.int x0), (.int x1)] 2 = mkF m 0 #[.val (.int x0), .val (.int x1)] [] := by first | (simp [entryFrame, mkF, argsToLocals, Value.category]; done) | rfl
def f2 (x0 : Int32) (y0 : Int32) : Int32 := (if (f4 (1 : Int32) (f3 x0 y0)) = x0 then (1 : Int32) else (0 : Int32))
def Q2 (Z : State) (x0 : Int32) (y0 : Int32) (h0 : Heap) (n0 : Nat) (v : Option Value) (h : Heap) (L : List Loc) : Prop := v = some (.int (f2 x0 y0)) ∧ Fr n0 L ∧ h = h0
set_option maxRecDepth 65536 in
set_option maxHeartbeats 40000000 in
theorem rm2 (l : Launch) (Z : State) (a0 : Array Value) (hw : ∀ d ∈ tables_1, d.before a0 Z = true) (ws : List Jvm.Cond) (x0 : Int32) (y0 : Int32)  (h0 : Heap) (n0 : Nat) (Z0 : n0 ≤ h0.size)  :
    MetFree l (⟨"com/example/glowcursor/glowcursor/screen/ScreenIsValidSizePinLaw", "inRange", "(II)Z"⟩ : MethodName) (head1 (Jvm.Cond.code (⟨"com/example/glowcursor/glowcursor/screen/ScreenIsValidSizePinLaw", "inRange", "(II)Z"⟩ : MethodName) method_3_code 2 (some .boolean) :: ws) ({ frames := 1, cells := 0, slots := 0, locals := 14 } : Room)) (fun a U => a = #[(.int x0), (.int y0)] ∧ Z.Warmed39 U.vm ∧ U.heap = h0) (fun _ _ _ _ _ => True) (fun _ U o U' => ∃ v L, o = .returned v ∧ Q2 Z x0 y0 h0 n0 v U'.heap L ∧ FrameEnd U o U' L ({ frames := 1, cells := 0, slots := 0, locals := 14 } : Room).cells ({ frames := 1, cells := 0, slots := 0, locals := 14 } : Room).slots) := by
  refine MetFree.of_bodySF (plainFor_of_name pn_2) hisR ?_
  intro p e s m args below meth c s₁ Bd hml0 hP hK
  obtain ⟨rfl, hZ, hh⟩ := hP
  have hx := Bd.exec
  have hby := Bd.bytes
  have hml : c.maxLocals = 2 := hml0
  have hown : s.vm.findClass "com/example/glowcursor/glowcursor/screen/ScreenIsValidSizePinLaw" = some m.cls := findClass_of_methodNamed Bd.named
  have hnm := (name_of_methodNamed Bd.named Bd.method).1
  have X0 : Stand p l e ({ frames := 1, cells := 0, slots := 0, locals := 14 } : Room) s m #[(.int x0), (.int y0)] below meth c s₁ [] 0 0 := Stand.of_body Bd
  have e0 : s₁.heap = h0 := by rw [← hh, Bd.state]; rfl
  have N0 := Fr.nil n0
  have hlk : meth.locks = false := by first | exact BodyLoose.notSynchronized Bd | exact Body.notSynchronized Bd
  have pre0 : ∀ t, Steps p.tables e below (s₁.setTop (mkF m 0 #[.val (.int x0), .val (.int y0)] [])) t → Steps p.tables e below (s₁.setTop (entryFrame m #[(.int x0), (.int y0)] 2)) t := fun t k => castTop (ef_2 m x0 y0) k
  obtain ⟨_, _, ⟨T1, L1, k1, n1⟩, -, X1, ⟨Lc1, hQ1, l1, y1, z1⟩, st1⟩ := Jvm.LawKit.callS X0 hx (y := (⟨"java/lang/Math", "min", "(II)I"⟩ : MethodName)) hown (mvT hZ (hw _ (List.mem_of_getElem? (i := 7) rfl))) (mvT hZ (hw _ (List.mem_of_getElem? (i := 8) rfl))) (mvT hZ (hw _ (List.mem_of_getElem? (i := 9) rfl))) (mvT hZ (hw _ (List.mem_of_getElem? (i := 10) rfl))) (by decide) (backOf (W := 1) (rm3 l Z a0 hw [] x0 y0 h0 n0 Z0) hZ (hw _ (List.mem_of_getElem? (i := 10) rfl)) (hw _ (List.mem_of_getElem? (i := 9) rfl)) (by decide) (by decide)) (g := (mkF m 3 #[.val (.int x0), .val (.int y0)] [(.int y0), (.int x0), (.int (1 : Int32))])) rfl (by rw [hml]; rfl) (argsL := [(.int x0), (.int y0)]) (rest := [(.int (1 : Int32))]) (lenOf pd_0 rfl) rfl (by show 2 * 0 + _ ≤ _; exact Nat.le_of_eq rfl) (hb hby d2_3) (fun _ _ => ⟨rfl, e0, (by decide : 0 + 0 ≤ _), (by decide : 0 + 0 ≤ _)⟩)
  dsimp only [Pt.U, Pt.locs, Pt.cells, Pt.slots] at X1 l1 y1 z1 st1 hQ1
  subst l1 y1 z1
  obtain ⟨rfl, N1q, e1⟩ := hQ1
  have N1 := Fr.app N0 N1q
  obtain ⟨_, _, ⟨T2, L2, k2, n2⟩, -, X2, ⟨Lc2, hQ2, l2, y2, z2⟩, st2⟩ := Jvm.LawKit.callS X1 hx (y := (⟨"java/lang/Math", "max", "(II)I"⟩ : MethodName)) hown (mvT hZ (hw _ (List.mem_of_getElem? (i := 11) rfl))) (mvT hZ (hw _ (List.mem_of_getElem? (i := 12) rfl))) (mvT hZ (hw _ (List.mem_of_getElem? (i := 9) rfl))) (mvT hZ (hw _ (List.mem_of_getElem? (i := 13) rfl))) (by decide) (backOf (W := 0) (rm4 l Z a0 hw [] (1 : Int32) (f3 x0 y0) h0 n0 Z0) hZ (hw _ (List.mem_of_getElem? (i := 13) rfl)) (hw _ (List.mem_of_getElem? (i := 9) rfl)) (by decide) (by decide)) (g := (mkF m 6 #[.val (.int x0), .val (.int y0)] [(.int (f3 x0 y0)), (.int (1 : Int32))])) rfl (by rw [hml]; rfl) (argsL := [(.int (1 : Int32)), (.int (f3 x0 y0))]) (rest := []) (lenOf pd_0 rfl) rfl (by show 2 * 0 + _ ≤ _; exact Nat.le_of_eq rfl) (hb hby d2_6) (fun _ _ => ⟨rfl, e1, (by decide : 0 + 0 ≤ _), (by decide : 0 + 0 ≤ _)⟩)
  dsimp only [Pt.U, Pt.locs, Pt.cells, Pt.slots] at X2 l2 y2 z2 st2 hQ2
  subst l2 y2 z2
  obtain ⟨rfl, N2q, e2⟩ := hQ2
  have N2 := Fr.app N1 N2q
  have pre3 : ∀ t, Steps p.tables e below (T2.setTop (mkF m 10 #[.val (.int x0), .val (.int y0)] [(.int x0), (.int (f4 (1 : Int32) (f3 x0 y0)))])) t → Steps p.tables e below (s₁.setTop (entryFrame m #[(.int x0), (.int y0)] 2)) t := fun t k => pre0 t (by
    show Steps p.tables e below (s₁.setTop (mkF m 0 #[.val (.int x0), .val (.int y0)] [])) _
    refine XS.iconst X0.here hx rfl (hb hby d2_0) ?_
    show Steps p.tables e below (s₁.setTop (mkF m 1 #[.val (.int x0), .val (.int y0)] [(.int (1 : Int32))])) _
    refine XS.iloadN X0.here hx rfl (hb hby d2_1) rfl ?_
    show Steps p.tables e below (s₁.setTop (mkF m 2 #[.val (.int x0), .val (.int y0)] [(.int x0), (.int (1 : Int32))])) _
    refine XS.iloadN X0.here hx rfl (hb hby d2_2) rfl ?_
    show Steps p.tables e below (s₁.setTop (mkF m 3 #[.val (.int x0), .val (.int y0)] [(.int y0), (.int x0), (.int (1 : Int32))])) _
    refine st1 _ ?_
    show Steps p.tables e below (T1.setTop (mkF m 6 #[.val (.int x0), .val (.int y0)] [(.int (f3 x0 y0)), (.int (1 : Int32))])) _
    refine st2 _ ?_
    show Steps p.tables e below (T2.setTop (mkF m 9 #[.val (.int x0), .val (.int y0)] [(.int (f4 (1 : Int32) (f3 x0 y0)))])) _
    refine XS.iloadN X2.here hx rfl (hb hby d2_9) rfl ?_
    show Steps p.tables e below (T2.setTop (mkF m 10 #[.val (.int x0), .val (.int y0)] [(.int x0), (.int (f4 (1 : Int32) (f3 x0 y0)))])) _
    exact k)
  by_cases hc10_4 : (f4 (1 : Int32) (f3 x0 y0)) = x0
  · have hv : (f2 x0 y0) = (1 : Int32) := by simp only [f2, if_pos hc10_4]
    obtain ⟨fs, hr, hrun, hended, hW, hsame⟩ := X2.leave (v := some (.int (1 : Int32))) (fun h => nomatch (Bd.returns.symm.trans h)) hlk
    refine ⟨_, _, pre3 _ ?_, hrun, hended, _, _, rfl, ?_, ⟨_, rfl⟩, hW, hsame.mono (by decide) (by decide)⟩
    · show Steps p.tables e below (T2.setTop (mkF m 10 #[.val (.int x0), .val (.int y0)] [(.int x0), (.int (f4 (1 : Int32) (f3 x0 y0)))])) _
      refine XS.icmpNo X2.here hx rfl (hb hby d2_10) rfl (teq hc10_4).2 ?_
      show Steps p.tables e below (T2.setTop (mkF m 13 #[.val (.int x0), .val (.int y0)] [])) _
      refine XS.iconst X2.here hx rfl (hb hby d2_13) ?_
      show Steps p.tables e below (T2.setTop (mkF m 14 #[.val (.int x0), .val (.int y0)] [(.int (1 : Int32))])) _
      refine XS.goto X2.here hx rfl (pc0 := 14) (pc' := 18) rfl (hb hby d2_14) (by decide) (by decide) ?_
      show Steps p.tables e below (T2.setTop (mkF m 18 #[.val (.int x0), .val (.int y0)] [(.int (1 : Int32))])) _
      exact retN X2 hx (t := .boolean) Bd.returns (by simp) (hb hby d2_18) hr
    · exact ⟨by rw [hv], N2, e2⟩
  · have hv : (f2 x0 y0) = (0 : Int32) := by simp only [f2, if_neg hc10_4]
    obtain ⟨fs, hr, hrun, hended, hW, hsame⟩ := X2.leave (v := some (.int (0 : Int32))) (fun h => nomatch (Bd.returns.symm.trans h)) hlk
    refine ⟨_, _, pre3 _ ?_, hrun, hended, _, _, rfl, ?_, ⟨_, rfl⟩, hW, hsame.mono (by decide) (by decide)⟩
    · show Steps p.tables e below (T2.setTop (mkF m 10 #[.val (.int x0), .val (.int y0)] [(.int x0), (.int (f4 (1 : Int32) (f3 x0 y0)))])) _
      refine XS.icmpYes X2.here hx rfl (pc0 := 10) (pc' := 17) rfl (hb hby d2_10) rfl (feq hc10_4).2 (by decide) (by decide) ?_
      show Steps p.tables e below (T2.setTop (mkF m 17 #[.val (.int x0), .val (.int y0)] [])) _
      refine XS.iconst X2.here hx rfl (hb hby d2_17) ?_
      show Steps p.tables e below (T2.setTop (mkF m 18 #[.val (.int x0), .val (.int y0)] [(.int (0 : Int32))])) _
      exact retN X2 hx (t := .boolean) Bd.returns (by simp) (hb hby d2_18) hr
    · exact ⟨by rw [hv], N2, e2⟩
theorem d5_0 : decode prog_51_method_3_code 0 = .ok (.iload_n 0, 1) := by decide +kernel
theorem d5_1 : decode prog_51_method_3_code 1 = .ok (.iconst 1, 1) := by decide +kernel
theorem d5_2 : decode prog_51_method_3_code 2 = .ok (.if_icmp .lt 26, 3) := by decide +kernel
theorem d5_5 : decode prog_51_method_3_code 5 = .ok (.iload_n 0, 1) := by decide +kernel
theorem d5_6 : decode prog_51_method_3_code 6 = .ok (.sipush 1000, 3) := by decide +kernel
theorem d5_9 : decode prog_51_method_3_code 9 = .ok (.if_icmp .gt 19, 3) := by decide +kernel
theorem d5_12 : decode prog_51_method_3_code 12 = .ok (.iload_n 1, 1) := by decide +kernel
theorem d5_13 : decode prog_51_method_3_code 13 = .ok (.iconst 1, 1) := by decide +kernel
theorem d5_14 : decode prog_51_method_3_code 14 = .ok (.if_icmp .lt 14, 3) := by decide +kernel
theorem d5_17 : decode prog_51_method_3_code 17 = .ok (.iload_n 1, 1) := by decide +kernel
theorem d5_18 : decode prog_51_method_3_code 18 = .ok (.sipush 1000, 3) := by decide +kernel
theorem d5_21 : decode prog_51_method_3_code 21 = .ok (.if_icmp .gt 7, 3) := by decide +kernel
theorem d5_24 : decode prog_51_method_3_code 24 = .ok (.iconst 1, 1) := by decide +kernel
theorem d5_25 : decode prog_51_method_3_code 25 = .ok (.goto 4, 3) := by decide +kernel
theorem d5_28 : decode prog_51_method_3_code 28 = .ok (.iconst 0, 1) := by decide +kernel
theorem d5_29 : decode prog_51_method_3_code 29 = .ok (.ireturn, 1) := by decide +kernel
theorem pn_5 : plainName "com/example/glowcursor/glowcursor/screen/Screen" = true := by first | (simp [plainName, overriddenIn]; done) | decide +kernel
theorem ef_5 (m : MethodId) (x0 : Int32) (x1 : Int32) : entryFrame m #[(.int x0), (.int x1)] 2 = mkF m 0 #[.val (.int x0), .val (.int x1)] [] := by first | (simp [entryFrame, mkF, argsToLocals, Value.category]; done) | rfl
def f5 (x0 : Int32) (y0 : Int32) : Int32 := (if x0 < (1 : Int32) then (0 : Int32) else (if (1000 : Int32) < x0 then (0 : Int32) else (if y0 < (1 : Int32) then (0 : Int32) else (if (1000 : Int32) < y0 then (0 : Int32) else (1 : Int32)))))
def Q5 (Z : State) (x0 : Int32) (y0 : Int32) (h0 : Heap) (n0 : Nat) (v : Option Value) (h : Heap) (L : List Loc) : Prop := v = some (.int (f5 x0 y0)) ∧ Fr n0 L ∧ h = h0
set_option maxRecDepth 65536 in
set_option maxHeartbeats 40000000 in
theorem rm5 (l : Launch) (Z : State) (a0 : Array Value) (hw : ∀ d ∈ tables_1, d.before a0 Z = true) (ws : List Jvm.Cond) (x0 : Int32) (y0 : Int32)  (h0 : Heap) (n0 : Nat) (Z0 : n0 ≤ h0.size)  :
    MetFree l (⟨"com/example/glowcursor/glowcursor/screen/Screen", "isValidSize", "(II)Z"⟩ : MethodName) (head1 (Jvm.Cond.code (⟨"com/example/glowcursor/glowcursor/screen/Screen", "isValidSize", "(II)Z"⟩ : MethodName) prog_51_method_3_code 2 (some .boolean) :: ws) ({ frames := 0, cells := 0, slots := 0, locals := 0 } : Room)) (fun a U => a = #[(.int x0), (.int y0)] ∧ Z.Warmed39 U.vm ∧ U.heap = h0) (fun _ _ _ _ _ => True) (fun _ U o U' => ∃ v L, o = .returned v ∧ Q5 Z x0 y0 h0 n0 v U'.heap L ∧ FrameEnd U o U' L ({ frames := 0, cells := 0, slots := 0, locals := 0 } : Room).cells ({ frames := 0, cells := 0, slots := 0, locals := 0 } : Room).slots) := by
  refine MetFree.of_bodySF (plainFor_of_name pn_5) hisR ?_
  intro p e s m args below meth c s₁ Bd hml0 hP hK
  obtain ⟨rfl, hZ, hh⟩ := hP
  have hx := Bd.exec
  have hby := Bd.bytes
  have hml : c.maxLocals = 2 := hml0
  have hown : s.vm.findClass "com/example/glowcursor/glowcursor/screen/Screen" = some m.cls := findClass_of_methodNamed Bd.named
  have hnm := (name_of_methodNamed Bd.named Bd.method).1
  have X0 : Stand p l e ({ frames := 0, cells := 0, slots := 0, locals := 0 } : Room) s m #[(.int x0), (.int y0)] below meth c s₁ [] 0 0 := Stand.of_body Bd
  have e0 : s₁.heap = h0 := by rw [← hh, Bd.state]; rfl
  have N0 := Fr.nil n0
  have hlk : meth.locks = false := by first | exact BodyLoose.notSynchronized Bd | exact Body.notSynchronized Bd
  have pre0 : ∀ t, Steps p.tables e below (s₁.setTop (mkF m 0 #[.val (.int x0), .val (.int y0)] [])) t → Steps p.tables e below (s₁.setTop (entryFrame m #[(.int x0), (.int y0)] 2)) t := fun t k => castTop (ef_5 m x0 y0) k
  have pre1 : ∀ t, Steps p.tables e below (s₁.setTop (mkF m 2 #[.val (.int x0), .val (.int y0)] [(.int (1 : Int32)), (.int x0)])) t → Steps p.tables e below (s₁.setTop (entryFrame m #[(.int x0), (.int y0)] 2)) t := fun t k => pre0 t (by
    show Steps p.tables e below (s₁.setTop (mkF m 0 #[.val (.int x0), .val (.int y0)] [])) _
    refine XS.iloadN X0.here hx rfl (hb hby d5_0) rfl ?_
    show Steps p.tables e below (s₁.setTop (mkF m 1 #[.val (.int x0), .val (.int y0)] [(.int x0)])) _
    refine XS.iconst X0.here hx rfl (hb hby d5_1) ?_
    show Steps p.tables e below (s₁.setTop (mkF m 2 #[.val (.int x0), .val (.int y0)] [(.int (1 : Int32)), (.int x0)])) _
    exact k)
  by_cases hc2_2 : x0 < (1 : Int32)
  · have hv : (f5 x0 y0) = (0 : Int32) := by simp only [f5, if_pos hc2_2]
    obtain ⟨fs, hr, hrun, hended, hW, hsame⟩ := X0.leave (v := some (.int (0 : Int32))) (fun h => nomatch (Bd.returns.symm.trans h)) hlk
    refine ⟨_, _, pre1 _ ?_, hrun, hended, _, _, rfl, ?_, ⟨_, rfl⟩, hW, hsame.mono (by decide) (by decide)⟩
    · show Steps p.tables e below (s₁.setTop (mkF m 2 #[.val (.int x0), .val (.int y0)] [(.int (1 : Int32)), (.int x0)])) _
      refine XS.icmpYes X0.here hx rfl (pc0 := 2) (pc' := 28) rfl (hb hby d5_2) rfl (tlt hc2_2).1 (by decide) (by decide) ?_
      show Steps p.tables e below (s₁.setTop (mkF m 28 #[.val (.int x0), .val (.int y0)] [])) _
      refine XS.iconst X0.here hx rfl (hb hby d5_28) ?_
      show Steps p.tables e below (s₁.setTop (mkF m 29 #[.val (.int x0), .val (.int y0)] [(.int (0 : Int32))])) _
      exact retN X0 hx (t := .boolean) Bd.returns (by simp) (hb hby d5_29) hr
    · exact ⟨by rw [hv], N0, e0⟩
  · have pre3 : ∀ t, Steps p.tables e below (s₁.setTop (mkF m 9 #[.val (.int x0), .val (.int y0)] [(.int (1000 : Int32)), (.int x0)])) t → Steps p.tables e below (s₁.setTop (entryFrame m #[(.int x0), (.int y0)] 2)) t := fun t k => pre1 t (by
      show Steps p.tables e below (s₁.setTop (mkF m 2 #[.val (.int x0), .val (.int y0)] [(.int (1 : Int32)), (.int x0)])) _
      refine XS.icmpNo X0.here hx rfl (hb hby d5_2) rfl (flt hc2_2).1 ?_
      show Steps p.tables e below (s₁.setTop (mkF m 5 #[.val (.int x0), .val (.int y0)] [])) _
      refine XS.iloadN X0.here hx rfl (hb hby d5_5) rfl ?_
      show Steps p.tables e below (s₁.setTop (mkF m 6 #[.val (.int x0), .val (.int y0)] [(.int x0)])) _
      refine XS.sipush X0.here hx rfl (hb hby d5_6) ?_
      show Steps p.tables e below (s₁.setTop (mkF m 9 #[.val (.int x0), .val (.int y0)] [(.int (1000 : Int32)), (.int x0)])) _
      exact k)
    by_cases hc9_4 : (1000 : Int32) < x0
    · have hv : (f5 x0 y0) = (0 : Int32) := by simp only [f5, if_neg hc2_2, if_pos hc9_4]
      obtain ⟨fs, hr, hrun, hended, hW, hsame⟩ := X0.leave (v := some (.int (0 : Int32))) (fun h => nomatch (Bd.returns.symm.trans h)) hlk
      refine ⟨_, _, pre3 _ ?_, hrun, hended, _, _, rfl, ?_, ⟨_, rfl⟩, hW, hsame.mono (by decide) (by decide)⟩
      · show Steps p.tables e below (s₁.setTop (mkF m 9 #[.val (.int x0), .val (.int y0)] [(.int (1000 : Int32)), (.int x0)])) _
        refine XS.icmpYes X0.here hx rfl (pc0 := 9) (pc' := 28) rfl (hb hby d5_9) rfl (tlt hc9_4).2.2.1 (by decide) (by decide) ?_
        show Steps p.tables e below (s₁.setTop (mkF m 28 #[.val (.int x0), .val (.int y0)] [])) _
        refine XS.iconst X0.here hx rfl (hb hby d5_28) ?_
        show Steps p.tables e below (s₁.setTop (mkF m 29 #[.val (.int x0), .val (.int y0)] [(.int (0 : Int32))])) _
        exact retN X0 hx (t := .boolean) Bd.returns (by simp) (hb hby d5_29) hr
      · exact ⟨by rw [hv], N0, e0⟩
    · have pre5 : ∀ t, Steps p.tables e below (s₁.setTop (mkF m 14 #[.val (.int x0), .val (.int y0)] [(.int (1 : Int32)), (.int y0)])) t → Steps p.tables e below (s₁.setTop (entryFrame m #[(.int x0), (.int y0)] 2)) t := fun t k => pre3 t (by
        show Steps p.tables e below (s₁.setTop (mkF m 9 #[.val (.int x0), .val (.int y0)] [(.int (1000 : Int32)), (.int x0)])) _
        refine XS.icmpNo X0.here hx rfl (hb hby d5_9) rfl (flt hc9_4).2.2.1 ?_
        show Steps p.tables e below (s₁.setTop (mkF m 12 #[.val (.int x0), .val (.int y0)] [])) _
        refine XS.iloadN X0.here hx rfl (hb hby d5_12) rfl ?_
        show Steps p.tables e below (s₁.setTop (mkF m 13 #[.val (.int x0), .val (.int y0)] [(.int y0)])) _
        refine XS.iconst X0.here hx rfl (hb hby d5_13) ?_
        show Steps p.tables e below (s₁.setTop (mkF m 14 #[.val (.int x0), .val (.int y0)] [(.int (1 : Int32)), (.int y0)])) _
        exact k)
      by_cases hc14_6 : y0 < (1 : Int32)
      · have hv : (f5 x0 y0) = (0 : Int32) := by simp only [f5, if_neg hc2_2, if_neg hc9_4, if_pos hc14_6]
        obtain ⟨fs, hr, hrun, hended, hW, hsame⟩ := X0.leave (v := some (.int (0 : Int32))) (fun h => nomatch (Bd.returns.symm.trans h)) hlk
        refine ⟨_, _, pre5 _ ?_, hrun, hended, _, _, rfl, ?_, ⟨_, rfl⟩, hW, hsame.mono (by decide) (by decide)⟩
        · show Steps p.tables e below (s₁.setTop (mkF m 14 #[.val (.int x0), .val (.int y0)] [(.int (1 : Int32)), (.int y0)])) _
          refine XS.icmpYes X0.here hx rfl (pc0 := 14) (pc' := 28) rfl (hb hby d5_14) rfl (tlt hc14_6).1 (by decide) (by decide) ?_
          show Steps p.tables e below (s₁.setTop (mkF m 28 #[.val (.int x0), .val (.int y0)] [])) _
          refine XS.iconst X0.here hx rfl (hb hby d5_28) ?_
          show Steps p.tables e below (s₁.setTop (mkF m 29 #[.val (.int x0), .val (.int y0)] [(.int (0 : Int32))])) _
          exact retN X0 hx (t := .boolean) Bd.returns (by simp) (hb hby d5_29) hr
        · exact ⟨by rw [hv], N0, e0⟩
      · have pre7 : ∀ t, Steps p.tables e below (s₁.setTop (mkF m 21 #[.val (.int x0), .val (.int y0)] [(.int (1000 : Int32)), (.int y0)])) t → Steps p.tables e below (s₁.setTop (entryFrame m #[(.int x0), (.int y0)] 2)) t := fun t k => pre5 t (by
          show Steps p.tables e below (s₁.setTop (mkF m 14 #[.val (.int x0), .val (.int y0)] [(.int (1 : Int32)), (.int y0)])) _
          refine XS.icmpNo X0.here hx rfl (hb hby d5_14) rfl (flt hc14_6).1 ?_
          show Steps p.tables e below (s₁.setTop (mkF m 17 #[.val (.int x0), .val (.int y0)] [])) _
          refine XS.iloadN X0.here hx rfl (hb hby d5_17) rfl ?_
          show Steps p.tables e below (s₁.setTop (mkF m 18 #[.val (.int x0), .val (.int y0)] [(.int y0)])) _
          refine XS.sipush X0.here hx rfl (hb hby d5_18) ?_
          show Steps p.tables e below (s₁.setTop (mkF m 21 #[.val (.int x0), .val (.int y0)] [(.int (1000 : Int32)), (.int y0)])) _
          exact k)
        by_cases hc21_8 : (1000 : Int32) < y0
        · have hv : (f5 x0 y0) = (0 : Int32) := by simp only [f5, if_neg hc2_2, if_neg hc9_4, if_neg hc14_6, if_pos hc21_8]
          obtain ⟨fs, hr, hrun, hended, hW, hsame⟩ := X0.leave (v := some (.int (0 : Int32))) (fun h => nomatch (Bd.returns.symm.trans h)) hlk
          refine ⟨_, _, pre7 _ ?_, hrun, hended, _, _, rfl, ?_, ⟨_, rfl⟩, hW, hsame.mono (by decide) (by decide)⟩
          · show Steps p.tables e below (s₁.setTop (mkF m 21 #[.val (.int x0), .val (.int y0)] [(.int (1000 : Int32)), (.int y0)])) _
            refine XS.icmpYes X0.here hx rfl (pc0 := 21) (pc' := 28) rfl (hb hby d5_21) rfl (tlt hc21_8).2.2.1 (by decide) (by decide) ?_
            show Steps p.tables e below (s₁.setTop (mkF m 28 #[.val (.int x0), .val (.int y0)] [])) _
            refine XS.iconst X0.here hx rfl (hb hby d5_28) ?_
            show Steps p.tables e below (s₁.setTop (mkF m 29 #[.val (.int x0), .val (.int y0)] [(.int (0 : Int32))])) _
            exact retN X0 hx (t := .boolean) Bd.returns (by simp) (hb hby d5_29) hr
          · exact ⟨by rw [hv], N0, e0⟩
        · have hv : (f5 x0 y0) = (1 : Int32) := by simp only [f5, if_neg hc2_2, if_neg hc9_4, if_neg hc14_6, if_neg hc21_8]
          obtain ⟨fs, hr, hrun, hended, hW, hsame⟩ := X0.leave (v := some (.int (1 : Int32))) (fun h => nomatch (Bd.returns.symm.trans h)) hlk
          refine ⟨_, _, pre7 _ ?_, hrun, hended, _, _, rfl, ?_, ⟨_, rfl⟩, hW, hsame.mono (by decide) (by decide)⟩
          · show Steps p.tables e below (s₁.setTop (mkF m 21 #[.val (.int x0), .val (.int y0)] [(.int (1000 : Int32)), (.int y0)])) _
            refine XS.icmpNo X0.here hx rfl (hb hby d5_21) rfl (flt hc21_8).2.2.1 ?_
            show Steps p.tables e below (s₁.setTop (mkF m 24 #[.val (.int x0), .val (.int y0)] [])) _
            refine XS.iconst X0.here hx rfl (hb hby d5_24) ?_
            show Steps p.tables e below (s₁.setTop (mkF m 25 #[.val (.int x0), .val (.int y0)] [(.int (1 : Int32))])) _
            refine XS.goto X0.here hx rfl (pc0 := 25) (pc' := 29) rfl (hb hby d5_25) (by decide) (by decide) ?_
            show Steps p.tables e below (s₁.setTop (mkF m 29 #[.val (.int x0), .val (.int y0)] [(.int (1 : Int32))])) _
            exact retN X0 hx (t := .boolean) Bd.returns (by simp) (hb hby d5_29) hr
          · exact ⟨by rw [hv], N0, e0⟩
theorem pn_0 : plainName "com/example/glowcursor/glowcursor/screen/ScreenIsValidSizePinLaw" = true := by first | (simp [plainName, overriddenIn]; done) | decide +kernel
theorem ef_0 (m : MethodId) (x0 : Int32) (x1 : Int32) (x2 : Int32) : entryFrame m #[(.int x0), (.int x1), (.int x2)] maxLocals = mkF m 0 #[.val (.int x0), .val (.int x1), .val (.int x2), .unset, .unset, .unset] [] := by first | (simp [entryFrame, mkF, argsToLocals, Value.category, maxLocals]; done) | rfl
def v0_1 (r0 : Int32) (s0 : Int32) : Int32 := (f1 r0 ((s0.toUInt32 >>> ((2 : Int32) &&& 31).toUInt32).toInt32))
def v0_2 (r0 : Int32) (s0 : Int32) : Int32 := (if (f2 (v0_1 r0 s0) (1000 : Int32)) = (0 : Int32) then (0 : Int32) else (1 : Int32))
def f0 (c0 : Int32) (r0 : Int32) (s0 : Int32) : Int32 := (if (f2 (f1 c0 s0) (1000 : Int32)) = (0 : Int32) then (if (f5 (f1 c0 s0) (v0_1 r0 s0)) = (0 : Int32) then (1 : Int32) else (0 : Int32)) else (if (f5 (f1 c0 s0) (v0_1 r0 s0)) = (v0_2 r0 s0) then (1 : Int32) else (0 : Int32)))
def Q0 (Z : State) (c0 : Int32) (r0 : Int32) (s0 : Int32) (h0 : Heap) (n0 : Nat) (v : Option Value) (h : Heap) (L : List Loc) : Prop := v = some (.int (f0 c0 r0 s0)) ∧ Fr n0 L
set_option maxRecDepth 65536 in
set_option maxHeartbeats 40000000 in
theorem rm0 (l : Launch) (Z : State) (a0 : Array Value) (hw : ∀ d ∈ tables_1, d.before a0 Z = true) (ws : List Jvm.Cond) (c0 : Int32) (r0 : Int32) (s0 : Int32)  (h0 : Heap) (n0 : Nat) (Z0 : n0 ≤ h0.size)  :
    MetFree l x (head1 (Jvm.Cond.code x code maxLocals ret :: ws) room_1) (fun a U => a = #[(.int c0), (.int r0), (.int s0)] ∧ Z.Warmed39 U.vm ∧ U.heap = h0) (fun _ _ _ _ _ => True) (fun _ U o U' => ∃ v L, o = .returned v ∧ Q0 Z c0 r0 s0 h0 n0 v U'.heap L ∧ FrameEnd U o U' L room_1.cells room_1.slots) := by
  refine MetFree.of_bodySF (plainFor_of_name pn_0) hisR ?_
  intro p e s m args below meth c s₁ Bd hml0 hP hK
  obtain ⟨rfl, hZ, hh⟩ := hP
  have hx := Bd.exec
  have hby := Bd.bytes
  have hml : c.maxLocals = 6 := hml0
  have hown : s.vm.findClass "com/example/glowcursor/glowcursor/screen/ScreenIsValidSizePinLaw" = some m.cls := findClass_of_methodNamed Bd.named
  have hnm := (name_of_methodNamed Bd.named Bd.method).1
  have X0 : Stand p l e room_1 s m #[(.int c0), (.int r0), (.int s0)] below meth c s₁ [] 0 0 := Stand.of_body Bd
  have e0 : s₁.heap = h0 := by rw [← hh, Bd.state]; rfl
  have N0 := Fr.nil n0
  have hlk : meth.locks = false := by first | exact BodyLoose.notSynchronized Bd | exact Body.notSynchronized Bd
  have pre0 : ∀ t, Steps p.tables e below (s₁.setTop (mkF m 0 #[.val (.int c0), .val (.int r0), .val (.int s0), .unset, .unset, .unset] [])) t → Steps p.tables e below (s₁.setTop (entryFrame m #[(.int c0), (.int r0), (.int s0)] maxLocals)) t := fun t k => castTop (ef_0 m c0 r0 s0) k
  obtain ⟨_, _, ⟨T1, L1, k1, n1⟩, -, X1, ⟨Lc1, hQ1, l1, y1, z1⟩, st1⟩ := Jvm.LawKit.callS X0 hx (y := (⟨"com/example/glowcursor/glowcursor/screen/ScreenIsValidSizePinLaw", "pick", "(II)I"⟩ : MethodName)) hown (mvT hZ (hw _ (List.mem_of_getElem? (i := 0) rfl))) (mvT hZ (hw _ (List.mem_of_getElem? (i := 1) rfl))) (mvT hZ (hw _ (List.mem_of_getElem? (i := 2) rfl))) (mvT hZ (hw _ (List.mem_of_getElem? (i := 3) rfl))) (by decide) (backOf (W := 0) (rm1 l Z a0 hw [] c0 s0 h0 n0 Z0) hZ (hw _ (List.mem_of_getElem? (i := 3) rfl)) (hw _ (List.mem_of_getElem? (i := 2) rfl)) (by decide) (by decide)) (g := (mkF m 2 #[.val (.int c0), .val (.int r0), .val (.int s0), .unset, .unset, .unset] [(.int s0), (.int c0)])) rfl (by rw [hml]; rfl) (argsL := [(.int c0), (.int s0)]) (rest := []) (lenOf pd_0 rfl) rfl (by show 2 * 0 + _ ≤ _; exact Nat.le_of_eq rfl) (hb hby at_2) (fun _ _ => ⟨rfl, e0, (by decide : 0 + 0 ≤ _), (by decide : 0 + 0 ≤ _)⟩)
  dsimp only [Pt.U, Pt.locs, Pt.cells, Pt.slots] at X1 l1 y1 z1 st1 hQ1
  subst l1 y1 z1
  obtain ⟨rfl, N1q, e1⟩ := hQ1
  have N1 := Fr.app N0 N1q
  obtain ⟨_, _, ⟨T2, L2, k2, n2⟩, -, X2, ⟨Lc2, hQ2, l2, y2, z2⟩, st2⟩ := Jvm.LawKit.callS X1 hx (y := (⟨"com/example/glowcursor/glowcursor/screen/ScreenIsValidSizePinLaw", "pick", "(II)I"⟩ : MethodName)) hown (mvT hZ (hw _ (List.mem_of_getElem? (i := 0) rfl))) (mvT hZ (hw _ (List.mem_of_getElem? (i := 1) rfl))) (mvT hZ (hw _ (List.mem_of_getElem? (i := 2) rfl))) (mvT hZ (hw _ (List.mem_of_getElem? (i := 3) rfl))) (by decide) (backOf (W := 0) (rm1 l Z a0 hw [] r0 ((s0.toUInt32 >>> ((2 : Int32) &&& 31).toUInt32).toInt32) h0 n0 Z0) hZ (hw _ (List.mem_of_getElem? (i := 3) rfl)) (hw _ (List.mem_of_getElem? (i := 2) rfl)) (by decide) (by decide)) (g := (mkF m 10 #[.val (.int c0), .val (.int r0), .val (.int s0), .val (.int (f1 c0 s0)), .unset, .unset] [(.int ((s0.toUInt32 >>> ((2 : Int32) &&& 31).toUInt32).toInt32)), (.int r0)])) rfl (by rw [hml]; rfl) (argsL := [(.int r0), (.int ((s0.toUInt32 >>> ((2 : Int32) &&& 31).toUInt32).toInt32))]) (rest := []) (lenOf pd_0 rfl) rfl (by show 2 * 0 + _ ≤ _; exact Nat.le_of_eq rfl) (hb hby at_10) (fun _ _ => ⟨rfl, e1, (by decide : 0 + 0 ≤ _), (by decide : 0 + 0 ≤ _)⟩)
  dsimp only [Pt.U, Pt.locs, Pt.cells, Pt.slots] at X2 l2 y2 z2 st2 hQ2
  subst l2 y2 z2
  obtain ⟨rfl, N2q, e2⟩ := hQ2
  have N2 := Fr.app N1 N2q
  obtain ⟨_, _, ⟨T3, L3, k3, n3⟩, -, X3, ⟨Lc3, hQ3, l3, y3, z3⟩, st3⟩ := Jvm.LawKit.callS X2 hx (y := (⟨"com/example/glowcursor/glowcursor/screen/ScreenIsValidSizePinLaw", "inRange", "(II)Z"⟩ : MethodName)) hown (mvT hZ (hw _ (List.mem_of_getElem? (i := 4) rfl))) (mvT hZ (hw _ (List.mem_of_getElem? (i := 5) rfl))) (mvT hZ (hw _ (List.mem_of_getElem? (i := 2) rfl))) (mvT hZ (hw _ (List.mem_of_getElem? (i := 6) rfl))) (by decide) (backOf (W := 0) (rm2 l Z a0 hw [] (f1 c0 s0) (1000 : Int32) h0 n0 Z0) hZ (hw _ (List.mem_of_getElem? (i := 6) rfl)) (hw _ (List.mem_of_getElem? (i := 2) rfl)) (by decide) (by decide)) (g := (mkF m 19 #[.val (.int c0), .val (.int r0), .val (.int s0), .val (.int (f1 c0 s0)), .val (.int (v0_1 r0 s0)), .unset] [(.int (1000 : Int32)), (.int (f1 c0 s0))])) rfl (by rw [hml]; rfl) (argsL := [(.int (f1 c0 s0)), (.int (1000 : Int32))]) (rest := []) (lenOf pd_1 rfl) rfl (by show 2 * 0 + _ ≤ _; exact Nat.le_of_eq rfl) (hb hby at_19) (fun _ _ => ⟨rfl, e2, (by decide : 0 + 0 ≤ _), (by decide : 0 + 0 ≤ _)⟩)
  dsimp only [Pt.U, Pt.locs, Pt.cells, Pt.slots] at X3 l3 y3 z3 st3 hQ3
  subst l3 y3 z3
  obtain ⟨rfl, N3q, e3⟩ := hQ3
  have N3 := Fr.app N2 N3q
  have pre4 : ∀ t, Steps p.tables e below (T3.setTop (mkF m 22 #[.val (.int c0), .val (.int r0), .val (.int s0), .val (.int (f1 c0 s0)), .val (.int (v0_1 r0 s0)), .unset] [(.int (f2 (f1 c0 s0) (1000 : Int32)))])) t → Steps p.tables e below (s₁.setTop (entryFrame m #[(.int c0), (.int r0), (.int s0)] maxLocals)) t := fun t k => pre0 t (by
    show Steps p.tables e below (s₁.setTop (mkF m 0 #[.val (.int c0), .val (.int r0), .val (.int s0), .unset, .unset, .unset] [])) _
    refine XS.iloadN X0.here hx rfl (hb hby at_0) rfl ?_
    show Steps p.tables e below (s₁.setTop (mkF m 1 #[.val (.int c0), .val (.int r0), .val (.int s0), .unset, .unset, .unset] [(.int c0)])) _
    refine XS.iloadN X0.here hx rfl (hb hby at_1) rfl ?_
    show Steps p.tables e below (s₁.setTop (mkF m 2 #[.val (.int c0), .val (.int r0), .val (.int s0), .unset, .unset, .unset] [(.int s0), (.int c0)])) _
    refine st1 _ ?_
    show Steps p.tables e below (T1.setTop (mkF m 5 #[.val (.int c0), .val (.int r0), .val (.int s0), .unset, .unset, .unset] [(.int (f1 c0 s0))])) _
    refine XS.istoreN X1.here hx rfl (hb hby at_5) rfl (l' := #[.val (.int c0), .val (.int r0), .val (.int s0), .val (.int (f1 c0 s0)), .unset, .unset]) rfl ?_
    show Steps p.tables e below (T1.setTop (mkF m 6 #[.val (.int c0), .val (.int r0), .val (.int s0), .val (.int (f1 c0 s0)), .unset, .unset] [])) _
    refine XS.iloadN X1.here hx rfl (hb hby at_6) rfl ?_
    show Steps p.tables e below (T1.setTop (mkF m 7 #[.val (.int c0), .val (.int r0), .val (.int s0), .val (.int (f1 c0 s0)), .unset, .unset] [(.int r0)])) _
    refine XS.iloadN X1.here hx rfl (hb hby at_7) rfl ?_
    show Steps p.tables e below (T1.setTop (mkF m 8 #[.val (.int c0), .val (.int r0), .val (.int s0), .val (.int (f1 c0 s0)), .unset, .unset] [(.int s0), (.int r0)])) _
    refine XS.iconst X1.here hx rfl (hb hby at_8) ?_
    show Steps p.tables e below (T1.setTop (mkF m 9 #[.val (.int c0), .val (.int r0), .val (.int s0), .val (.int (f1 c0 s0)), .unset, .unset] [(.int (2 : Int32)), (.int s0), (.int r0)])) _
    refine XS.iushr X1.here hx rfl (hb hby at_9) rfl ?_
    show Steps p.tables e below (T1.setTop (mkF m 10 #[.val (.int c0), .val (.int r0), .val (.int s0), .val (.int (f1 c0 s0)), .unset, .unset] [(.int ((s0.toUInt32 >>> ((2 : Int32) &&& 31).toUInt32).toInt32)), (.int r0)])) _
    refine st2 _ ?_
    show Steps p.tables e below (T2.setTop (mkF m 13 #[.val (.int c0), .val (.int r0), .val (.int s0), .val (.int (f1 c0 s0)), .unset, .unset] [(.int (v0_1 r0 s0))])) _
    refine XS.istore X2.here hx rfl (hb hby at_13) rfl (l' := #[.val (.int c0), .val (.int r0), .val (.int s0), .val (.int (f1 c0 s0)), .val (.int (v0_1 r0 s0)), .unset]) rfl ?_
    show Steps p.tables e below (T2.setTop (mkF m 15 #[.val (.int c0), .val (.int r0), .val (.int s0), .val (.int (f1 c0 s0)), .val (.int (v0_1 r0 s0)), .unset] [])) _
    refine XS.iloadN X2.here hx rfl (hb hby at_15) rfl ?_
    show Steps p.tables e below (T2.setTop (mkF m 16 #[.val (.int c0), .val (.int r0), .val (.int s0), .val (.int (f1 c0 s0)), .val (.int (v0_1 r0 s0)), .unset] [(.int (f1 c0 s0))])) _
    refine XS.sipush X2.here hx rfl (hb hby at_16) ?_
    show Steps p.tables e below (T2.setTop (mkF m 19 #[.val (.int c0), .val (.int r0), .val (.int s0), .val (.int (f1 c0 s0)), .val (.int (v0_1 r0 s0)), .unset] [(.int (1000 : Int32)), (.int (f1 c0 s0))])) _
    refine st3 _ ?_
    show Steps p.tables e below (T3.setTop (mkF m 22 #[.val (.int c0), .val (.int r0), .val (.int s0), .val (.int (f1 c0 s0)), .val (.int (v0_1 r0 s0)), .unset] [(.int (f2 (f1 c0 s0) (1000 : Int32)))])) _
    exact k)
  by_cases hc22_5 : (f2 (f1 c0 s0) (1000 : Int32)) = (0 : Int32)
  · obtain ⟨_, _, ⟨T6, L6, k6, n6⟩, -, X6, ⟨Lc6, hQ6, l6, y6, z6⟩, st6⟩ := Jvm.LawKit.callS X3 hx (y := (⟨"com/example/glowcursor/glowcursor/screen/Screen", "isValidSize", "(II)Z"⟩ : MethodName)) hown (mvT hZ (hw _ (List.mem_of_getElem? (i := 14) rfl))) (mvT hZ (hw _ (List.mem_of_getElem? (i := 15) rfl))) (mvT hZ (hw _ (List.mem_of_getElem? (i := 16) rfl))) (mvT hZ (hw _ (List.mem_of_getElem? (i := 17) rfl))) (by decide) (backOf (W := 0) (rm5 l Z a0 hw [] (f1 c0 s0) (v0_1 r0 s0) h0 n0 Z0) hZ (hw _ (List.mem_of_getElem? (i := 17) rfl)) (hw _ (List.mem_of_getElem? (i := 16) rfl)) (by decide) (by decide)) (g := (mkF m 46 #[.val (.int c0), .val (.int r0), .val (.int s0), .val (.int (f1 c0 s0)), .val (.int (v0_1 r0 s0)), .val (.int (0 : Int32))] [(.int (v0_1 r0 s0)), (.int (f1 c0 s0))])) rfl (by rw [hml]; rfl) (argsL := [(.int (f1 c0 s0)), (.int (v0_1 r0 s0))]) (rest := []) (lenOf pd_1 rfl) rfl (by show 2 * 0 + _ ≤ _; exact Nat.le_of_eq rfl) (hb hby at_46) (fun _ _ => ⟨rfl, e3, (by decide : 0 + 0 ≤ _), (by decide : 0 + 0 ≤ _)⟩)
    dsimp only [Pt.U, Pt.locs, Pt.cells, Pt.slots] at X6 l6 y6 z6 st6 hQ6
    subst l6 y6 z6
    obtain ⟨rfl, N6q, e6⟩ := hQ6
    have N6 := Fr.app N3 N6q
    have pre7 : ∀ t, Steps p.tables e below (T6.setTop (mkF m 51 #[.val (.int c0), .val (.int r0), .val (.int s0), .val (.int (f1 c0 s0)), .val (.int (v0_1 r0 s0)), .val (.int (0 : Int32))] [(.int (0 : Int32)), (.int (f5 (f1 c0 s0) (v0_1 r0 s0)))])) t → Steps p.tables e below (s₁.setTop (entryFrame m #[(.int c0), (.int r0), (.int s0)] maxLocals)) t := fun t k => pre4 t (by
      show Steps p.tables e below (T3.setTop (mkF m 22 #[.val (.int c0), .val (.int r0), .val (.int s0), .val (.int (f1 c0 s0)), .val (.int (v0_1 r0 s0)), .unset] [(.int (f2 (f1 c0 s0) (1000 : Int32)))])) _
      refine XS.ifYes X3.here hx rfl (pc0 := 22) (pc' := 40) rfl (hb hby at_22) rfl ((if0 _ _).trans (teq hc22_5).1) (by decide) (by decide) ?_
      show Steps p.tables e below (T3.setTop (mkF m 40 #[.val (.int c0), .val (.int r0), .val (.int s0), .val (.int (f1 c0 s0)), .val (.int (v0_1 r0 s0)), .unset] [])) _
      refine XS.iconst X3.here hx rfl (hb hby at_40) ?_
      show Steps p.tables e below (T3.setTop (mkF m 41 #[.val (.int c0), .val (.int r0), .val (.int s0), .val (.int (f1 c0 s0)), .val (.int (v0_1 r0 s0)), .unset] [(.int (0 : Int32))])) _
      refine XS.istore X3.here hx rfl (hb hby at_41) rfl (l' := #[.val (.int c0), .val (.int r0), .val (.int s0), .val (.int (f1 c0 s0)), .val (.int (v0_1 r0 s0)), .val (.int (0 : Int32))]) rfl ?_
      show Steps p.tables e below (T3.setTop (mkF m 43 #[.val (.int c0), .val (.int r0), .val (.int s0), .val (.int (f1 c0 s0)), .val (.int (v0_1 r0 s0)), .val (.int (0 : Int32))] [])) _
      refine XS.iloadN X3.here hx rfl (hb hby at_43) rfl ?_
      show Steps p.tables e below (T3.setTop (mkF m 44 #[.val (.int c0), .val (.int r0), .val (.int s0), .val (.int (f1 c0 s0)), .val (.int (v0_1 r0 s0)), .val (.int (0 : Int32))] [(.int (f1 c0 s0))])) _
      refine XS.iload X3.here hx rfl (hb hby at_44) rfl ?_
      show Steps p.tables e below (T3.setTop (mkF m 46 #[.val (.int c0), .val (.int r0), .val (.int s0), .val (.int (f1 c0 s0)), .val (.int (v0_1 r0 s0)), .val (.int (0 : Int32))] [(.int (v0_1 r0 s0)), (.int (f1 c0 s0))])) _
      refine st6 _ ?_
      show Steps p.tables e below (T6.setTop (mkF m 49 #[.val (.int c0), .val (.int r0), .val (.int s0), .val (.int (f1 c0 s0)), .val (.int (v0_1 r0 s0)), .val (.int (0 : Int32))] [(.int (f5 (f1 c0 s0) (v0_1 r0 s0)))])) _
      refine XS.iload X6.here hx rfl (hb hby at_49) rfl ?_
      show Steps p.tables e below (T6.setTop (mkF m 51 #[.val (.int c0), .val (.int r0), .val (.int s0), .val (.int (f1 c0 s0)), .val (.int (v0_1 r0 s0)), .val (.int (0 : Int32))] [(.int (0 : Int32)), (.int (f5 (f1 c0 s0) (v0_1 r0 s0)))])) _
      exact k)
    by_cases hc51_8 : (f5 (f1 c0 s0) (v0_1 r0 s0)) = (0 : Int32)
    · have hv : (f0 c0 r0 s0) = (1 : Int32) := by simp only [f0, if_pos hc22_5, if_pos hc51_8]
      obtain ⟨fs, hr, hrun, hended, hW, hsame⟩ := X6.leave (v := some (.int (1 : Int32))) (fun h => nomatch (Bd.returns.symm.trans h)) hlk
      refine ⟨_, _, pre7 _ ?_, hrun, hended, _, _, rfl, ?_, ⟨_, rfl⟩, hW, hsame.mono (by decide) (by decide)⟩
      · show Steps p.tables e below (T6.setTop (mkF m 51 #[.val (.int c0), .val (.int r0), .val (.int s0), .val (.int (f1 c0 s0)), .val (.int (v0_1 r0 s0)), .val (.int (0 : Int32))] [(.int (0 : Int32)), (.int (f5 (f1 c0 s0) (v0_1 r0 s0)))])) _
        refine XS.icmpNo X6.here hx rfl (hb hby at_51) rfl (teq hc51_8).2 ?_
        show Steps p.tables e below (T6.setTop (mkF m 54 #[.val (.int c0), .val (.int r0), .val (.int s0), .val (.int (f1 c0 s0)), .val (.int (v0_1 r0 s0)), .val (.int (0 : Int32))] [])) _
        refine XS.iconst X6.here hx rfl (hb hby at_54) ?_
        show Steps p.tables e below (T6.setTop (mkF m 55 #[.val (.int c0), .val (.int r0), .val (.int s0), .val (.int (f1 c0 s0)), .val (.int (v0_1 r0 s0)), .val (.int (0 : Int32))] [(.int (1 : Int32))])) _
        refine XS.goto X6.here hx rfl (pc0 := 55) (pc' := 59) rfl (hb hby at_55) (by decide) (by decide) ?_
        show Steps p.tables e below (T6.setTop (mkF m 59 #[.val (.int c0), .val (.int r0), .val (.int s0), .val (.int (f1 c0 s0)), .val (.int (v0_1 r0 s0)), .val (.int (0 : Int32))] [(.int (1 : Int32))])) _
        exact retN X6 hx (t := .boolean) Bd.returns (by simp) (hb hby at_59) hr
      · exact ⟨by rw [hv], N6⟩
    · have hv : (f0 c0 r0 s0) = (0 : Int32) := by simp only [f0, if_pos hc22_5, if_neg hc51_8]
      obtain ⟨fs, hr, hrun, hended, hW, hsame⟩ := X6.leave (v := some (.int (0 : Int32))) (fun h => nomatch (Bd.returns.symm.trans h)) hlk
      refine ⟨_, _, pre7 _ ?_, hrun, hended, _, _, rfl, ?_, ⟨_, rfl⟩, hW, hsame.mono (by decide) (by decide)⟩
      · show Steps p.tables e below (T6.setTop (mkF m 51 #[.val (.int c0), .val (.int r0), .val (.int s0), .val (.int (f1 c0 s0)), .val (.int (v0_1 r0 s0)), .val (.int (0 : Int32))] [(.int (0 : Int32)), (.int (f5 (f1 c0 s0) (v0_1 r0 s0)))])) _
        refine XS.icmpYes X6.here hx rfl (pc0 := 51) (pc' := 58) rfl (hb hby at_51) rfl (feq hc51_8).2 (by decide) (by decide) ?_
        show Steps p.tables e below (T6.setTop (mkF m 58 #[.val (.int c0), .val (.int r0), .val (.int s0), .val (.int (f1 c0 s0)), .val (.int (v0_1 r0 s0)), .val (.int (0 : Int32))] [])) _
        refine XS.iconst X6.here hx rfl (hb hby at_58) ?_
        show Steps p.tables e below (T6.setTop (mkF m 59 #[.val (.int c0), .val (.int r0), .val (.int s0), .val (.int (f1 c0 s0)), .val (.int (v0_1 r0 s0)), .val (.int (0 : Int32))] [(.int (0 : Int32))])) _
        exact retN X6 hx (t := .boolean) Bd.returns (by simp) (hb hby at_59) hr
      · exact ⟨by rw [hv], N6⟩
  · obtain ⟨_, _, ⟨T9, L9, k9, n9⟩, -, X9, ⟨Lc9, hQ9, l9, y9, z9⟩, st9⟩ := Jvm.LawKit.callS X3 hx (y := (⟨"com/example/glowcursor/glowcursor/screen/ScreenIsValidSizePinLaw", "inRange", "(II)Z"⟩ : MethodName)) hown (mvT hZ (hw _ (List.mem_of_getElem? (i := 4) rfl))) (mvT hZ (hw _ (List.mem_of_getElem? (i := 5) rfl))) (mvT hZ (hw _ (List.mem_of_getElem? (i := 2) rfl))) (mvT hZ (hw _ (List.mem_of_getElem? (i := 6) rfl))) (by decide) (backOf (W := 0) (rm2 l Z a0 hw [] (v0_1 r0 s0) (1000 : Int32) h0 n0 Z0) hZ (hw _ (List.mem_of_getElem? (i := 6) rfl)) (hw _ (List.mem_of_getElem? (i := 2) rfl)) (by decide) (by decide)) (g := (mkF m 30 #[.val (.int c0), .val (.int r0), .val (.int s0), .val (.int (f1 c0 s0)), .val (.int (v0_1 r0 s0)), .unset] [(.int (1000 : Int32)), (.int (v0_1 r0 s0))])) rfl (by rw [hml]; rfl) (argsL := [(.int (v0_1 r0 s0)), (.int (1000 : Int32))]) (rest := []) (lenOf pd_1 rfl) rfl (by show 2 * 0 + _ ≤ _; exact Nat.le_of_eq rfl) (hb hby at_30) (fun _ _ => ⟨rfl, e3, (by decide : 0 + 0 ≤ _), (by decide : 0 + 0 ≤ _)⟩)
    dsimp only [Pt.U, Pt.locs, Pt.cells, Pt.slots] at X9 l9 y9 z9 st9 hQ9
    subst l9 y9 z9
    obtain ⟨rfl, N9q, e9⟩ := hQ9
    have N9 := Fr.app N3 N9q
    have pre10 : ∀ t, Steps p.tables e below (T9.setTop (mkF m 33 #[.val (.int c0), .val (.int r0), .val (.int s0), .val (.int (f1 c0 s0)), .val (.int (v0_1 r0 s0)), .unset] [(.int (f2 (v0_1 r0 s0) (1000 : Int32)))])) t → Steps p.tables e below (s₁.setTop (entryFrame m #[(.int c0), (.int r0), (.int s0)] maxLocals)) t := fun t k => pre4 t (by
      show Steps p.tables e below (T3.setTop (mkF m 22 #[.val (.int c0), .val (.int r0), .val (.int s0), .val (.int (f1 c0 s0)), .val (.int (v0_1 r0 s0)), .unset] [(.int (f2 (f1 c0 s0) (1000 : Int32)))])) _
      refine XS.ifNo X3.here hx rfl (hb hby at_22) rfl ((if0 _ _).trans (feq hc22_5).1) ?_
      show Steps p.tables e below (T3.setTop (mkF m 25 #[.val (.int c0), .val (.int r0), .val (.int s0), .val (.int (f1 c0 s0)), .val (.int (v0_1 r0 s0)), .unset] [])) _
      refine XS.iload X3.here hx rfl (hb hby at_25) rfl ?_
      show Steps p.tables e below (T3.setTop (mkF m 27 #[.val (.int c0), .val (.int r0), .val (.int s0), .val (.int (f1 c0 s0)), .val (.int (v0_1 r0 s0)), .unset] [(.int (v0_1 r0 s0))])) _
      refine XS.sipush X3.here hx rfl (hb hby at_27) ?_
      show Steps p.tables e below (T3.setTop (mkF m 30 #[.val (.int c0), .val (.int r0), .val (.int s0), .val (.int (f1 c0 s0)), .val (.int (v0_1 r0 s0)), .unset] [(.int (1000 : Int32)), (.int (v0_1 r0 s0))])) _
      refine st9 _ ?_
      show Steps p.tables e below (T9.setTop (mkF m 33 #[.val (.int c0), .val (.int r0), .val (.int s0), .val (.int (f1 c0 s0)), .val (.int (v0_1 r0 s0)), .unset] [(.int (f2 (v0_1 r0 s0) (1000 : Int32)))])) _
      exact k)
    have pre12 : ∀ t, Steps p.tables e below (T9.setTop (mkF m 41 #[.val (.int c0), .val (.int r0), .val (.int s0), .val (.int (f1 c0 s0)), .val (.int (v0_1 r0 s0)), .unset] [(.int (if (f2 (v0_1 r0 s0) (1000 : Int32)) = (0 : Int32) then (0 : Int32) else (1 : Int32)))])) t → Steps p.tables e below (s₁.setTop (entryFrame m #[(.int c0), (.int r0), (.int s0)] maxLocals)) t := fun t k => pre10 t (by
      show Steps p.tables e below (T9.setTop (mkF m 33 #[.val (.int c0), .val (.int r0), .val (.int s0), .val (.int (f1 c0 s0)), .val (.int (v0_1 r0 s0)), .unset] [(.int (f2 (v0_1 r0 s0) (1000 : Int32)))])) _
      by_cases hd33_11 : (f2 (v0_1 r0 s0) (1000 : Int32)) = (0 : Int32)
      · try simp only [if_pos hd33_11] at k
        show Steps p.tables e below (T9.setTop (mkF m 33 #[.val (.int c0), .val (.int r0), .val (.int s0), .val (.int (f1 c0 s0)), .val (.int (v0_1 r0 s0)), .unset] [(.int (f2 (v0_1 r0 s0) (1000 : Int32)))])) _
        refine XS.ifYes X9.here hx rfl (pc0 := 33) (pc' := 40) rfl (hb hby at_33) rfl ((if0 _ _).trans (teq hd33_11).1) (by decide) (by decide) ?_
        show Steps p.tables e below (T9.setTop (mkF m 40 #[.val (.int c0), .val (.int r0), .val (.int s0), .val (.int (f1 c0 s0)), .val (.int (v0_1 r0 s0)), .unset] [])) _
        refine XS.iconst X9.here hx rfl (hb hby at_40) ?_
        exact k
      · try simp only [if_neg hd33_11] at k
        show Steps p.tables e below (T9.setTop (mkF m 33 #[.val (.int c0), .val (.int r0), .val (.int s0), .val (.int (f1 c0 s0)), .val (.int (v0_1 r0 s0)), .unset] [(.int (f2 (v0_1 r0 s0) (1000 : Int32)))])) _
        refine XS.ifNo X9.here hx rfl (hb hby at_33) rfl ((if0 _ _).trans (feq hd33_11).1) ?_
        show Steps p.tables e below (T9.setTop (mkF m 36 #[.val (.int c0), .val (.int r0), .val (.int s0), .val (.int (f1 c0 s0)), .val (.int (v0_1 r0 s0)), .unset] [])) _
        refine XS.iconst X9.here hx rfl (hb hby at_36) ?_
        show Steps p.tables e below (T9.setTop (mkF m 37 #[.val (.int c0), .val (.int r0), .val (.int s0), .val (.int (f1 c0 s0)), .val (.int (v0_1 r0 s0)), .unset] [(.int (1 : Int32))])) _
        refine XS.goto X9.here hx rfl (pc0 := 37) (pc' := 41) rfl (hb hby at_37) (by decide) (by decide) ?_
        exact k
      )
    obtain ⟨_, _, ⟨T13, L13, k13, n13⟩, -, X13, ⟨Lc13, hQ13, l13, y13, z13⟩, st13⟩ := Jvm.LawKit.callS X9 hx (y := (⟨"com/example/glowcursor/glowcursor/screen/Screen", "isValidSize", "(II)Z"⟩ : MethodName)) hown (mvT hZ (hw _ (List.mem_of_getElem? (i := 14) rfl))) (mvT hZ (hw _ (List.mem_of_getElem? (i := 15) rfl))) (mvT hZ (hw _ (List.mem_of_getElem? (i := 16) rfl))) (mvT hZ (hw _ (List.mem_of_getElem? (i := 17) rfl))) (by decide) (backOf (W := 0) (rm5 l Z a0 hw [] (f1 c0 s0) (v0_1 r0 s0) h0 n0 Z0) hZ (hw _ (List.mem_of_getElem? (i := 17) rfl)) (hw _ (List.mem_of_getElem? (i := 16) rfl)) (by decide) (by decide)) (g := (mkF m 46 #[.val (.int c0), .val (.int r0), .val (.int s0), .val (.int (f1 c0 s0)), .val (.int (v0_1 r0 s0)), .val (.int (v0_2 r0 s0))] [(.int (v0_1 r0 s0)), (.int (f1 c0 s0))])) rfl (by rw [hml]; rfl) (argsL := [(.int (f1 c0 s0)), (.int (v0_1 r0 s0))]) (rest := []) (lenOf pd_1 rfl) rfl (by show 2 * 0 + _ ≤ _; exact Nat.le_of_eq rfl) (hb hby at_46) (fun _ _ => ⟨rfl, e9, (by decide : 0 + 0 ≤ _), (by decide : 0 + 0 ≤ _)⟩)
    dsimp only [Pt.U, Pt.locs, Pt.cells, Pt.slots] at X13 l13 y13 z13 st13 hQ13
    subst l13 y13 z13
    obtain ⟨rfl, N13q, e13⟩ := hQ13
    have N13 := Fr.app N9 N13q
    have pre14 : ∀ t, Steps p.tables e below (T13.setTop (mkF m 51 #[.val (.int c0), .val (.int r0), .val (.int s0), .val (.int (f1 c0 s0)), .val (.int (v0_1 r0 s0)), .val (.int (v0_2 r0 s0))] [(.int (v0_2 r0 s0)), (.int (f5 (f1 c0 s0) (v0_1 r0 s0)))])) t → Steps p.tables e below (s₁.setTop (entryFrame m #[(.int c0), (.int r0), (.int s0)] maxLocals)) t := fun t k => pre12 t (by
      show Steps p.tables e below (T9.setTop (mkF m 41 #[.val (.int c0), .val (.int r0), .val (.int s0), .val (.int (f1 c0 s0)), .val (.int (v0_1 r0 s0)), .unset] [(.int (v0_2 r0 s0))])) _
      refine XS.istore X9.here hx rfl (hb hby at_41) rfl (l' := #[.val (.int c0), .val (.int r0), .val (.int s0), .val (.int (f1 c0 s0)), .val (.int (v0_1 r0 s0)), .val (.int (v0_2 r0 s0))]) rfl ?_
      show Steps p.tables e below (T9.setTop (mkF m 43 #[.val (.int c0), .val (.int r0), .val (.int s0), .val (.int (f1 c0 s0)), .val (.int (v0_1 r0 s0)), .val (.int (v0_2 r0 s0))] [])) _
      refine XS.iloadN X9.here hx rfl (hb hby at_43) rfl ?_
      show Steps p.tables e below (T9.setTop (mkF m 44 #[.val (.int c0), .val (.int r0), .val (.int s0), .val (.int (f1 c0 s0)), .val (.int (v0_1 r0 s0)), .val (.int (v0_2 r0 s0))] [(.int (f1 c0 s0))])) _
      refine XS.iload X9.here hx rfl (hb hby at_44) rfl ?_
      show Steps p.tables e below (T9.setTop (mkF m 46 #[.val (.int c0), .val (.int r0), .val (.int s0), .val (.int (f1 c0 s0)), .val (.int (v0_1 r0 s0)), .val (.int (v0_2 r0 s0))] [(.int (v0_1 r0 s0)), (.int (f1 c0 s0))])) _
      refine st13 _ ?_
      show Steps p.tables e below (T13.setTop (mkF m 49 #[.val (.int c0), .val (.int r0), .val (.int s0), .val (.int (f1 c0 s0)), .val (.int (v0_1 r0 s0)), .val (.int (v0_2 r0 s0))] [(.int (f5 (f1 c0 s0) (v0_1 r0 s0)))])) _
      refine XS.iload X13.here hx rfl (hb hby at_49) rfl ?_
      show Steps p.tables e below (T13.setTop (mkF m 51 #[.val (.int c0), .val (.int r0), .val (.int s0), .val (.int (f1 c0 s0)), .val (.int (v0_1 r0 s0)), .val (.int (v0_2 r0 s0))] [(.int (v0_2 r0 s0)), (.int (f5 (f1 c0 s0) (v0_1 r0 s0)))])) _
      exact k)
    by_cases hc51_15 : (f5 (f1 c0 s0) (v0_1 r0 s0)) = (v0_2 r0 s0)
    · have hv : (f0 c0 r0 s0) = (1 : Int32) := by simp only [f0, if_neg hc22_5, if_pos hc51_15]
      obtain ⟨fs, hr, hrun, hended, hW, hsame⟩ := X13.leave (v := some (.int (1 : Int32))) (fun h => nomatch (Bd.returns.symm.trans h)) hlk
      refine ⟨_, _, pre14 _ ?_, hrun, hended, _, _, rfl, ?_, ⟨_, rfl⟩, hW, hsame.mono (by decide) (by decide)⟩
      · show Steps p.tables e below (T13.setTop (mkF m 51 #[.val (.int c0), .val (.int r0), .val (.int s0), .val (.int (f1 c0 s0)), .val (.int (v0_1 r0 s0)), .val (.int (v0_2 r0 s0))] [(.int (v0_2 r0 s0)), (.int (f5 (f1 c0 s0) (v0_1 r0 s0)))])) _
        refine XS.icmpNo X13.here hx rfl (hb hby at_51) rfl (teq hc51_15).2 ?_
        show Steps p.tables e below (T13.setTop (mkF m 54 #[.val (.int c0), .val (.int r0), .val (.int s0), .val (.int (f1 c0 s0)), .val (.int (v0_1 r0 s0)), .val (.int (v0_2 r0 s0))] [])) _
        refine XS.iconst X13.here hx rfl (hb hby at_54) ?_
        show Steps p.tables e below (T13.setTop (mkF m 55 #[.val (.int c0), .val (.int r0), .val (.int s0), .val (.int (f1 c0 s0)), .val (.int (v0_1 r0 s0)), .val (.int (v0_2 r0 s0))] [(.int (1 : Int32))])) _
        refine XS.goto X13.here hx rfl (pc0 := 55) (pc' := 59) rfl (hb hby at_55) (by decide) (by decide) ?_
        show Steps p.tables e below (T13.setTop (mkF m 59 #[.val (.int c0), .val (.int r0), .val (.int s0), .val (.int (f1 c0 s0)), .val (.int (v0_1 r0 s0)), .val (.int (v0_2 r0 s0))] [(.int (1 : Int32))])) _
        exact retN X13 hx (t := .boolean) Bd.returns (by simp) (hb hby at_59) hr
      · exact ⟨by rw [hv], N13⟩
    · have hv : (f0 c0 r0 s0) = (0 : Int32) := by simp only [f0, if_neg hc22_5, if_neg hc51_15]
      obtain ⟨fs, hr, hrun, hended, hW, hsame⟩ := X13.leave (v := some (.int (0 : Int32))) (fun h => nomatch (Bd.returns.symm.trans h)) hlk
      refine ⟨_, _, pre14 _ ?_, hrun, hended, _, _, rfl, ?_, ⟨_, rfl⟩, hW, hsame.mono (by decide) (by decide)⟩
      · show Steps p.tables e below (T13.setTop (mkF m 51 #[.val (.int c0), .val (.int r0), .val (.int s0), .val (.int (f1 c0 s0)), .val (.int (v0_1 r0 s0)), .val (.int (v0_2 r0 s0))] [(.int (v0_2 r0 s0)), (.int (f5 (f1 c0 s0) (v0_1 r0 s0)))])) _
        refine XS.icmpYes X13.here hx rfl (pc0 := 51) (pc' := 58) rfl (hb hby at_51) rfl (feq hc51_15).2 (by decide) (by decide) ?_
        show Steps p.tables e below (T13.setTop (mkF m 58 #[.val (.int c0), .val (.int r0), .val (.int s0), .val (.int (f1 c0 s0)), .val (.int (v0_1 r0 s0)), .val (.int (v0_2 r0 s0))] [])) _
        refine XS.iconst X13.here hx rfl (hb hby at_58) ?_
        show Steps p.tables e below (T13.setTop (mkF m 59 #[.val (.int c0), .val (.int r0), .val (.int s0), .val (.int (f1 c0 s0)), .val (.int (v0_1 r0 s0)), .val (.int (v0_2 r0 s0))] [(.int (0 : Int32))])) _
        exact retN X13 hx (t := .boolean) Bd.returns (by simp) (hb hby at_59) hr
      · exact ⟨by rw [hv], N13⟩
theorem own_in (x : Int32) : f2 x 1000 = (if x < (1 : Int32) then (0 : Int32) else (if (1000 : Int32) < x then (0 : Int32) else (1 : Int32))) := by
  have e1 : (1 : Int32).toInt = 1 := rfl
  have e2 : (1000 : Int32).toInt = 1000 := rfl
  by_cases h1 : x < (1 : Int32)
  · rw [if_pos h1]
    unfold f2 f4 f3
    have h2 : ¬ (1000 : Int32) < x := by rw [Int32.lt_iff_toInt_lt] at *; omega
    have h3 : ¬ (1 : Int32) < x := by rw [Int32.lt_iff_toInt_lt] at *; omega
    rw [if_neg h2, if_neg h3, if_neg]
    rw [← Int32.toInt_inj]; rw [Int32.lt_iff_toInt_lt] at h1; omega
  · rw [if_neg h1]
    unfold f2 f4 f3
    by_cases h2 : (1000 : Int32) < x
    · rw [if_pos h2, if_pos h2, if_pos (show (1 : Int32) < 1000 by decide), if_neg]
      rw [← Int32.toInt_inj]; rw [Int32.lt_iff_toInt_lt] at h2; omega
    · rw [if_neg h2, if_neg h2]
      by_cases h3 : (1 : Int32) < x
      · rw [if_pos h3, if_pos rfl]
      · rw [if_neg h3, if_pos]
        rw [← Int32.toInt_inj]; rw [Int32.lt_iff_toInt_lt] at h1 h3; omega
theorem law_true (c r s : Int32) : f0 c r s = 1 := by
  unfold f0 v0_2 f5
  generalize f1 c s = a
  generalize v0_1 r s = b
  rw [own_in, own_in]
  by_cases h1 : a < (1 : Int32)
  · simp [h1]
  · by_cases h2 : (1000 : Int32) < a
    · simp [h1, h2]
    · by_cases h3 : b < (1 : Int32)
      · simp [h1, h2, h3]
      · by_cases h4 : (1000 : Int32) < b
        · simp [h1, h2, h3, h4]
        · simp [h1, h2, h3, h4]

set_option maxRecDepth 65536 in
set_option maxHeartbeats 40000000 in
theorem comes_1 {Post : Tables → Env → Array Value → State → Outcome → State → Prop} (hpost : ∀ tb e args s v u, (limb_1_1.after args s (.returned v) u = true ∧ limb_1_2.after args s (.returned v) u = true ∧ True) → FrameEnd s (.returned v) u (Jvm.fieldLocs frame_1_writes args s ++ Jvm.arrayLocs frame_1_arrays args s ++ Jvm.staticLocs frame_1_statics s) 0 0 → Post tb e args s (.returned v) u) :
    ArmFor flags0 classFile x code maxLocals ret World_1 tables_1 room_1 Calls_1 rest_1 Pre_1 Post := by
  intro l hfl _ _ p e ha hc hk s m args below hf hA hF happ hP
  obtain ⟨hcalls, hrest, hpre⟩ := hP
  obtain ⟨-, -, -, hnamed, -, -, -, hat⟩ := (Spec.applies_iff hf).mp happ
  obtain ⟨hg, hn⟩ := and_e (Cond.before_iff.mp (show (Jvm.Cond.and given_1 narrow_1).before args s = true from hpre))
  obtain ⟨g1, g2⟩ := and_e hg
  obtain ⟨g3, g4⟩ := and_e g2
  obtain ⟨g5, g6⟩ := and_e g4
  obtain ⟨w0, w1, w2, rfl⟩ : ∃ w0 w1 w2 : Value, args = #[w0, w1, w2] := by
    have hs : args.size = 3 := by simpa [Cond.value, given_1] using g1
    obtain ⟨L⟩ := args
    match L, hs with
    | [w0, w1, w2], _ => exact ⟨w0, w1, w2, rfl⟩
  have hw := fun d (hd : d ∈ tables_1) => atoms_spec (ws := Jvm.Cond.code x code maxLocals ret :: tables_1) hat d (List.mem_cons_of_mem _ hd)
  obtain ⟨i0, ei0⟩ := is_v g3
  obtain rfl : w0 = (.int i0) := Option.some.inj ei0
  obtain ⟨i1, ei1⟩ := is_v g5
  obtain rfl : w1 = (.int i1) := Option.some.inj ei1
  obtain ⟨i2, ei2⟩ := is_v g6
  obtain rfl : w2 = (.int i2) := Option.some.inj ei2
  obtain ⟨n, o, h1, h2, h3, _, L, rfl, ⟨rfl, N⟩, hq⟩ := rm0 l s _ hw tables_1 i0 i1 i2 s.heap s.heap.size (Nat.le_refl _) p e ha hc hk s m _ below hf ((Spec.applies_iff_loose hf).mp happ).1 ⟨rfl, State.Warmed39.refl s, rfl⟩ trivial
  refine ⟨n, _, h1, h2, h3, hpost _ _ _ _ _ _ ⟨Cond.after_iff.mpr rfl, Cond.after_iff.mpr (eq_i res_at (Term.int_eval (1)) (congrArg Value.int (law_true i0 i1 i2))), trivial⟩ ⟨hq.1, hq.2.1, (hq.2.2.sift fun y hy => Or.inr (N y hy)).mono (by decide) (by decide)⟩⟩
theorem main_1_1 : Claimed_1_1 := comes_1 fun _ _ _ _ _ _ h hF => ⟨h.1, hF⟩
theorem main_1_2 : Claimed_1_2 := comes_1 fun _ _ _ _ _ _ h hF => ⟨h.2.1, hF⟩
end Jvm.Pilot.@@N@@
namespace Jvm.Pilot.@@N@@
open Jvm Jvm.ClassFile Sem Op Lib Jvm.Free Jvm.Stand Jvm.Pilot.@@N@@.Jvm.D
/-! MADE BY PROGRAM (witnessworld.py) out of the Statement's table words and the real class files: 10 classes; the members and pool entries that the words name. The judged class is class 1, her method 3. -/
namespace start1
open Jvm.ClassFile
def u (s : String) : CpInfo := .utf8 (stringToUtf16 s)
/-- a pool by its gaps: so many unusable entries, then the entry; so many at the end -/
def gap : Nat → List CpInfo → List CpInfo
  | 0, r => r
  | n + 1, r => .unusable :: gap n r
def poolList (es : List (Nat × CpInfo)) (last : Nat) : List CpInfo := es.foldr (fun e r => gap e.1 (e.2 :: r)) (gap last [])
def pool (es : List (Nat × CpInfo)) (last : Nat) : Array CpInfo := ⟨poolList es last⟩
def fileOf (pool : Array CpInfo) (this : Nat) (attrs : Array Attribute := #[]) (ms : Array MethodInfo := #[]) (fl : Nat := 33) (sup : Nat := 0) (ifs : Array Nat := #[]) (fds : Array FieldInfo := #[]) : ClassFile where
  minorVersion := 0
  majorVersion := 65
  constantPool := pool
  accessFlags := fl
  thisClass := this
  superClass := sup
  interfaces := ifs
  fields := fds
  methods := ms
  attributes := attrs
def plain (name : String) (sup : Option ClassId) : Class where
  name := name
  kind := .ordinary
  loader := none
  accessFlags := 33
  super := sup
  interfaces := #[]
  cf := none
  fields := #[]
  methods := #[]
  instanceTypes := #[]
  staticTypes := #[]
  resolved := #[]
  callSites := []
  init := .initialized
  statics := none
  mirror := none

def pool0 : Array CpInfo := pool [(5, u "<init>"), (0, u "()V"), (1, .class_ 10), (1, u "java/lang/Object")] 113

def k0m0 : Method := { name := "<init>", desc := "()V", sig := { parameters := [], returnType := none }, accessFlags := 1, code := none }
/-- java/lang/Object -/
def k0 : Class := { plain "java/lang/Object" none with
  accessFlags := 33
  interfaces := #[]
  cf := some (fileOf pool0 8 #[] #[{ accessFlags := 1, nameIndex := 5, descriptorIndex := 6, attributes := #[] }] 33 0 #[] #[])
  fields := #[]
  methods := #[k0m0]
  instanceTypes := #[]
  staticTypes := #[]
  resolved := Array.replicate 124 none
  statics := none }

def pool1 : Array CpInfo := pool [(2, .class_ 4), (1, u "java/lang/Object"), (0, u "<init>"), (0, u "()V"), (0, .methodref 8 9), (0, .class_ 10), (0, .nameAndType 11 12), (0, u "java/lang/Math"), (0, u "min"), (0, u "(II)I"), (0, .methodref 8 14), (0, .nameAndType 15 12), (0, u "max"), (0, .methodref 17 18), (0, .class_ 19), (0, .nameAndType 20 12), (0, u "com/example/glowcursor/glowcursor/screen/ScreenIsValidSizePinLaw"), (0, u "pick"), (0, .methodref 17 22), (0, .nameAndType 23 24), (0, u "inRange"), (0, u "(II)Z"), (0, .methodref 26 27), (0, .class_ 28), (0, .nameAndType 29 24), (0, u "com/example/glowcursor/glowcursor/screen/Screen"), (0, u "isValidSize"), (3, u "law"), (0, u "(III)Z")] 2

def k1m0 : Method := { name := "<init>", desc := "()V", sig := { parameters := [], returnType := none }, accessFlags := 1, code := none }
def k1c1 : Code := { maxStack := 3, maxLocals := 3, code := method_2_code, exceptionTable := #[], attributes := #[] }
def k1m1 : Method := { name := "pick", desc := "(II)I", sig := { parameters := [.int, .int], returnType := some .int }, accessFlags := 10, code := some k1c1 }
def k1c2 : Code := { maxStack := 3, maxLocals := 2, code := method_3_code, exceptionTable := #[], attributes := #[] }
def k1m2 : Method := { name := "inRange", desc := "(II)Z", sig := { parameters := [.int, .int], returnType := some .boolean }, accessFlags := 10, code := some k1c2 }
def k1c3 : Code := { maxStack := 3, maxLocals := 6, code := code, exceptionTable := #[], attributes := #[] }
def k1m3 : Method := { name := "law", desc := "(III)Z", sig := { parameters := [.int, .int, .int], returnType := some .boolean }, accessFlags := 9, code := some k1c3 }
/-- com/example/glowcursor/glowcursor/screen/ScreenIsValidSizePinLaw -/
def k1 : Class := { plain "com/example/glowcursor/glowcursor/screen/ScreenIsValidSizePinLaw" (some 0) with
  accessFlags := 49
  interfaces := #[]
  cf := some (fileOf pool1 17 #[] #[{ accessFlags := 1, nameIndex := 5, descriptorIndex := 6, attributes := #[] }, { accessFlags := 10, nameIndex := 20, descriptorIndex := 12, attributes := #[] }, { accessFlags := 10, nameIndex := 23, descriptorIndex := 24, attributes := #[] }, { accessFlags := 9, nameIndex := 33, descriptorIndex := 34, attributes := #[] }] 49 2 #[] #[])
  fields := #[]
  methods := #[k1m0, k1m1, k1m2, k1m3]
  instanceTypes := #[]
  staticTypes := #[]
  resolved := Array.replicate 37 none
  statics := none }

def pool2 : Array CpInfo := pool [(1, .class_ 2), (0, u "java/lang/Math"), (1, .class_ 6), (1, u "java/lang/Object"), (0, u "<init>"), (0, u "()V"), (89, .class_ 100), (1, u "java/lang/Math$RandomNumberGeneratorHolder"), (71, u "negativeZeroFloatBits"), (0, u "J"), (2, u "negativeZeroDoubleBits"), (21, u "max"), (2, u "min"), (43, u "$assertionsDisabled"), (0, u "Z"), (88, u "(II)I"), (2, u "twoToTheDoubleScaleDown"), (0, u "D"), (4, u "twoToTheDoubleScaleUp"), (9, u "E"), (3, u "PI"), (2, u "TAU"), (2, u "DEGREES_TO_RADIANS"), (0, u "RADIANS_TO_DEGREES")] 94

def k2m0 : Method := { name := "<init>", desc := "()V", sig := { parameters := [], returnType := none }, accessFlags := 2, code := none }
def k2c1 : Code := { maxStack := 2, maxLocals := 2, code := jdk_29_method_65_code, exceptionTable := #[], attributes := #[] }
def k2m1 : Method := { name := "max", desc := "(II)I", sig := { parameters := [.int, .int], returnType := some .int }, accessFlags := 9, code := some k2c1 }
def k2c2 : Code := { maxStack := 2, maxLocals := 2, code := jdk_29_method_69_code, exceptionTable := #[], attributes := #[] }
def k2m2 : Method := { name := "min", desc := "(II)I", sig := { parameters := [.int, .int], returnType := some .int }, accessFlags := 9, code := some k2c2 }
/-- java/lang/Math -/
def k2 : Class := { plain "java/lang/Math" (some 0) with
  accessFlags := 49
  interfaces := #[]
  cf := some (fileOf pool2 1 #[.nestMembers #[98]] #[{ accessFlags := 2, nameIndex := 7, descriptorIndex := 8, attributes := #[] }, { accessFlags := 9, nameIndex := 198, descriptorIndex := 335, attributes := #[] }, { accessFlags := 9, nameIndex := 201, descriptorIndex := 335, attributes := #[] }] 49 4 #[] #[{ accessFlags := 25, nameIndex := 354, descriptorIndex := 339, attributes := #[] }, { accessFlags := 25, nameIndex := 358, descriptorIndex := 339, attributes := #[] }, { accessFlags := 25, nameIndex := 361, descriptorIndex := 339, attributes := #[] }, { accessFlags := 26, nameIndex := 364, descriptorIndex := 339, attributes := #[] }, { accessFlags := 26, nameIndex := 365, descriptorIndex := 339, attributes := #[] }, { accessFlags := 26, nameIndex := 172, descriptorIndex := 173, attributes := #[] }, { accessFlags := 26, nameIndex := 176, descriptorIndex := 173, attributes := #[] }, { accessFlags := 8, nameIndex := 344, descriptorIndex := 339, attributes := #[] }, { accessFlags := 8, nameIndex := 338, descriptorIndex := 339, attributes := #[] }, { accessFlags := 4120, nameIndex := 245, descriptorIndex := 246, attributes := #[] }])
  fields := #[{ name := "E", type := .double, accessFlags := 25, slot := 0, constantValue := 0 }, { name := "PI", type := .double, accessFlags := 25, slot := 1, constantValue := 0 }, { name := "TAU", type := .double, accessFlags := 25, slot := 2, constantValue := 0 }, { name := "DEGREES_TO_RADIANS", type := .double, accessFlags := 26, slot := 3, constantValue := 0 }, { name := "RADIANS_TO_DEGREES", type := .double, accessFlags := 26, slot := 4, constantValue := 0 }, { name := "negativeZeroFloatBits", type := .long, accessFlags := 26, slot := 5, constantValue := 0 }, { name := "negativeZeroDoubleBits", type := .long, accessFlags := 26, slot := 6, constantValue := 0 }, { name := "twoToTheDoubleScaleUp", type := .double, accessFlags := 8, slot := 7, constantValue := 0 }, { name := "twoToTheDoubleScaleDown", type := .double, accessFlags := 8, slot := 8, constantValue := 0 }, { name := "$assertionsDisabled", type := .boolean, accessFlags := 4120, slot := 9, constantValue := 0 }]
  methods := #[k2m0, k2m1, k2m2]
  instanceTypes := #[]
  staticTypes := #[.double, .double, .double, .double, .double, .long, .long, .double, .double, .boolean]
  resolved := Array.replicate 460 none
  statics := none }

def pool3 : Array CpInfo := pool [(2, .class_ 4), (1, u "com/example/glowcursor/glowcursor/screen/Screen"), (3, .class_ 10), (1, u "java/lang/Object"), (3, u "autowrap"), (0, u "Z"), (2, u "cursorVisible"), (5, u "Lcom/example/glowcursor/glowcursor/screen/Rendition;"), (2, u "rendition"), (2, u "isValidSize"), (0, u "(II)Z"), (11, u "columns"), (0, u "I"), (2, u "rows"), (7, u "history"), (0, u "Lcom/example/glowcursor/glowcursor/screen/History;"), (2, u "bottom"), (0, .class_ 61), (0, u "com/example/glowcursor/glowcursor/screen/Screen$Buffer"), (5, u "normal"), (0, u "Lcom/example/glowcursor/glowcursor/screen/Screen$Buffer;"), (2, u "shown"), (2, u "tabStops"), (0, u "[Z"), (2, u "row"), (2, u "column"), (2, u "originMode"), (2, u "top"), (29, u "wrapPending"), (5, u "insertMode"), (60, .class_ 185), (0, u "com/example/glowcursor/glowcursor/screen/Screen$SavedCursor"), (21, u "alternate"), (11, u "MAX_COLUMNS"), (2, u "MAX_ROWS"), (0, u "BLANK"), (1, u "TAB_WIDTH")] 55

def k3c0 : Code := { maxStack := 2, maxLocals := 2, code := prog_51_method_3_code, exceptionTable := #[], attributes := #[] }
def k3m0 : Method := { name := "isValidSize", desc := "(II)Z", sig := { parameters := [.int, .int], returnType := some .boolean }, accessFlags := 9, code := some k3c0 }
/-- com/example/glowcursor/glowcursor/screen/Screen -/
def k3 : Class := { plain "com/example/glowcursor/glowcursor/screen/Screen" (some 0) with
  accessFlags := 49
  interfaces := #[]
  cf := some (fileOf pool3 2 #[.nestMembers #[184, 60]] #[{ accessFlags := 9, nameIndex := 30, descriptorIndex := 31, attributes := #[] }] 49 8 #[] #[{ accessFlags := 25, nameIndex := 219, descriptorIndex := 44, attributes := #[] }, { accessFlags := 25, nameIndex := 222, descriptorIndex := 44, attributes := #[] }, { accessFlags := 26, nameIndex := 223, descriptorIndex := 44, attributes := #[] }, { accessFlags := 26, nameIndex := 225, descriptorIndex := 44, attributes := #[] }, { accessFlags := 18, nameIndex := 43, descriptorIndex := 44, attributes := #[] }, { accessFlags := 18, nameIndex := 47, descriptorIndex := 44, attributes := #[] }, { accessFlags := 18, nameIndex := 67, descriptorIndex := 68, attributes := #[] }, { accessFlags := 18, nameIndex := 74, descriptorIndex := 75, attributes := #[] }, { accessFlags := 18, nameIndex := 55, descriptorIndex := 56, attributes := #[] }, { accessFlags := 2, nameIndex := 207, descriptorIndex := 68, attributes := #[] }, { accessFlags := 2, nameIndex := 71, descriptorIndex := 68, attributes := #[] }, { accessFlags := 2, nameIndex := 78, descriptorIndex := 44, attributes := #[] }, { accessFlags := 2, nameIndex := 81, descriptorIndex := 44, attributes := #[] }, { accessFlags := 2, nameIndex := 117, descriptorIndex := 15, attributes := #[] }, { accessFlags := 2, nameIndex := 87, descriptorIndex := 44, attributes := #[] }, { accessFlags := 2, nameIndex := 59, descriptorIndex := 44, attributes := #[] }, { accessFlags := 2, nameIndex := 14, descriptorIndex := 15, attributes := #[] }, { accessFlags := 2, nameIndex := 84, descriptorIndex := 15, attributes := #[] }, { accessFlags := 2, nameIndex := 123, descriptorIndex := 15, attributes := #[] }, { accessFlags := 2, nameIndex := 18, descriptorIndex := 15, attributes := #[] }, { accessFlags := 2, nameIndex := 27, descriptorIndex := 24, attributes := #[] }])
  fields := #[{ name := "MAX_COLUMNS", type := .int, accessFlags := 25, slot := 0, constantValue := 0 }, { name := "MAX_ROWS", type := .int, accessFlags := 25, slot := 1, constantValue := 0 }, { name := "BLANK", type := .int, accessFlags := 26, slot := 2, constantValue := 0 }, { name := "TAB_WIDTH", type := .int, accessFlags := 26, slot := 3, constantValue := 0 }, { name := "columns", type := .int, accessFlags := 18, slot := 0, constantValue := 0 }, { name := "rows", type := .int, accessFlags := 18, slot := 1, constantValue := 0 }, { name := "normal", type := (.object "com/example/glowcursor/glowcursor/screen/Screen$Buffer"), accessFlags := 18, slot := 2, constantValue := 0 }, { name := "tabStops", type := (.array .boolean), accessFlags := 18, slot := 3, constantValue := 0 }, { name := "history", type := (.object "com/example/glowcursor/glowcursor/screen/History"), accessFlags := 18, slot := 4, constantValue := 0 }, { name := "alternate", type := (.object "com/example/glowcursor/glowcursor/screen/Screen$Buffer"), accessFlags := 2, slot := 5, constantValue := 0 }, { name := "shown", type := (.object "com/example/glowcursor/glowcursor/screen/Screen$Buffer"), accessFlags := 2, slot := 6, constantValue := 0 }, { name := "row", type := .int, accessFlags := 2, slot := 7, constantValue := 0 }, { name := "column", type := .int, accessFlags := 2, slot := 8, constantValue := 0 }, { name := "wrapPending", type := .boolean, accessFlags := 2, slot := 9, constantValue := 0 }, { name := "top", type := .int, accessFlags := 2, slot := 10, constantValue := 0 }, { name := "bottom", type := .int, accessFlags := 2, slot := 11, constantValue := 0 }, { name := "autowrap", type := .boolean, accessFlags := 2, slot := 12, constantValue := 0 }, { name := "originMode", type := .boolean, accessFlags := 2, slot := 13, constantValue := 0 }, { name := "insertMode", type := .boolean, accessFlags := 2, slot := 14, constantValue := 0 }, { name := "cursorVisible", type := .boolean, accessFlags := 2, slot := 15, constantValue := 0 }, { name := "rendition", type := (.object "com/example/glowcursor/glowcursor/screen/Rendition"), accessFlags := 2, slot := 16, constantValue := 0 }]
  methods := #[k3m0]
  instanceTypes := #[.int, .int, (.object "com/example/glowcursor/glowcursor/screen/Screen$Buffer"), (.array .boolean), (.object "com/example/glowcursor/glowcursor/screen/History"), (.object "com/example/glowcursor/glowcursor/screen/Screen$Buffer"), (.object "com/example/glowcursor/glowcursor/screen/Screen$Buffer"), .int, .int, .boolean, .int, .int, .boolean, .boolean, .boolean, .boolean, (.object "com/example/glowcursor/glowcursor/screen/Rendition")]
  staticTypes := #[.int, .int, .int, .int]
  resolved := Array.replicate 281 none
  statics := none }

def pool4 : Array CpInfo := pool [(1, u "java/lang/Cloneable"), (0, .class_ 1), (0, u "java/lang/Object"), (0, .class_ 3)] 3

/-- java/lang/Cloneable -/
def k4 : Class := { plain "java/lang/Cloneable" (some 0) with
  accessFlags := 1537
  interfaces := #[]
  cf := some (fileOf pool4 2 #[] #[] 1537 4 #[] #[])
  fields := #[]
  methods := #[]
  instanceTypes := #[]
  staticTypes := #[]
  resolved := Array.replicate 8 none
  statics := none }

def pool5 : Array CpInfo := pool [(1, u "java/io/Serializable"), (0, .class_ 1), (0, u "java/lang/Object"), (0, .class_ 3)] 3

/-- java/io/Serializable -/
def k5 : Class := { plain "java/io/Serializable" (some 0) with
  accessFlags := 1537
  interfaces := #[]
  cf := some (fileOf pool5 2 #[] #[] 1537 4 #[] #[])
  fields := #[]
  methods := #[]
  instanceTypes := #[]
  staticTypes := #[]
  resolved := Array.replicate 8 none
  statics := none }

/-- the primitive byte -/
def k6 : Class := { plain "byte" none with kind := .primitive 'B', accessFlags := 0x411 }
/-- [B -/
def k7 : Class := { plain "[B" (some 0) with kind := .array 6 .byte, interfaces := #[4, 5], accessFlags := 1041 }

/-- the primitive int -/
def k8 : Class := { plain "int" none with kind := .primitive 'I', accessFlags := 0x411 }
/-- [I -/
def k9 : Class := { plain "[I" (some 0) with kind := .array 8 .int, interfaces := #[4, 5], accessFlags := 1041 }

def heap : Heap := #[]
def classes : Array Class := #[k0, k1, k2, k3, k4, k5, k6, k7, k8, k9]
def interned : List (Array UInt16 × Addr) := []
def slotsUsed : Nat := 0
def theMethod : MethodId := ⟨1, 3⟩
def args0 : Array Value := #[.int 5, .int 7, .int 0]
def aboutOver (below : List Frame) : State where
  vm := { classes := classes, interned := interned.toArray }
  heap := heap
  slotsUsed := slotsUsed
  threads := #[{ frames := .invoking theMethod args0 :: below }]
def below0 : List Frame := [.native { method := ⟨0, 0⟩, args := #[] }]
def about1 : State := aboutOver below0
def p0 : Program := .bare "" "" ""
def e0 : Env := launch0.env 0 0 0
theorem w_frames : about1.frames = Frame.invoking theMethod args0 :: below0 := rfl
set_option maxRecDepth 65536 in
theorem w_args : argsFit about1.vm theMethod args0 = true := by decide +kernel
set_option maxRecDepth 65536 in
theorem w_heap : heapFits about1 = true := by decide +kernel
set_option maxRecDepth 65536 in
theorem w_runnable : about1.curStatus? = some .runnable := by decide +kernel
set_option maxRecDepth 65536 in
theorem w_alone : about1.alone = true := by decide +kernel
set_option maxRecDepth 65536 in
theorem w_named : about1.methodNamed? x = some theMethod := by decide +kernel
set_option maxRecDepth 65536 in
theorem w_hears : about1.hears theMethod below0 = true := by decide +kernel
set_option maxRecDepth 65536 in
theorem w_ripe : about1.ripe theMethod args0 below0 = true := by decide +kernel
theorem w_running : about1.status = .running := rfl
set_option maxRecDepth 65536 in
theorem w_room : about1.hasRoom e0.platform room_1 = true :=
  launch0.hasRoom_least _ room_1 (by decide +kernel) (by decide +kernel) (by decide +kernel) (by decide +kernel) (by decide +kernel) (by decide +kernel)
theorem allAtoms_all (ts : List Jvm.Cond) (a : Array Jvm.Value) (st : Jvm.State) : (allAtoms ts).before a st = ts.all (fun c => c.before a st) := by
  induction ts with
  | nil => rfl
  | cons c t ih =>
    show (Jvm.Cond.and c (allAtoms t)).before a st = _
    rw [Jvm.Cond.before_and, ih, List.all_cons]
def words1 : List Jvm.Cond := Jvm.Cond.code x code maxLocals ret :: tables_1
/-- a 'code' word, met by the world's own term for the bytes: nothing is compared byte by byte -/
theorem code_word {y : MethodName} {bytes : ByteArray} {mx : Nat} {rt : Option FieldType} {a : Array Value} {s : State} {m : MethodId} {meth : Method} {c : Code} (h1 : s.methodNamed? y = some m) (h2 : s.vm.method? m = some meth) (h3 : meth.code = some c) (h4 : c.code = bytes)
    (h5 : (c.maxLocals == mx && c.exceptionTable.isEmpty && decide (c.maxStack ≤ mostOperands) && decide (meth.sig.returnType = rt) && !meth.locks && decide (parseMethodDescriptor y.desc = some meth.sig)) = true) : (Jvm.Cond.code y bytes mx rt).before a s = true := by
  simp only [Bool.and_eq_true, beq_iff_eq, Bool.not_eq_true', decide_eq_true_eq] at h5
  obtain ⟨⟨⟨⟨⟨g1, g2⟩, g3⟩, g4⟩, g5⟩, g6⟩ := h5
  simp [Cond.before, Cond.holds, Cond.value, h1, h2, h3, h4, g1, g2, g3, g4, g5, g6]
def isCode : Jvm.Cond → Bool
  | .code _ _ _ _ => true
  | _ => false
theorem all_split {L : List Jvm.Cond} {P : Jvm.Cond → Bool} (h1 : L.all (fun c => isCode c || P c) = true) (h2 : ∀ c ∈ L.filter isCode, P c = true) : L.all P = true := by
  refine List.all_eq_true.mpr fun c hc => ?_
  have h := List.all_eq_true.mp h1 c hc
  rcases Bool.eq_false_or_eq_true (isCode c) with hi | hi
  · exact h2 c (List.mem_filter.mpr ⟨hc, hi⟩)
  · simpa [hi] using h
set_option maxRecDepth 65536 in
theorem w_c0 : (Jvm.Cond.code x code maxLocals ret).before args0 about1 = true := code_word (m := ⟨1, 3⟩) (meth := k1m3) (c := k1c3) (by decide +kernel) rfl rfl rfl (by decide +kernel)
set_option maxRecDepth 65536 in
theorem w_c1 : (Jvm.Cond.code ({ cls := "com/example/glowcursor/glowcursor/screen/ScreenIsValidSizePinLaw", name := "pick", desc := "(II)I" } : Jvm.MethodName) method_2_code (3 : Nat) (Option.some Jvm.ClassFile.FieldType.int)).before args0 about1 = true := code_word (m := ⟨1, 1⟩) (meth := k1m1) (c := k1c1) (by decide +kernel) rfl rfl rfl (by decide +kernel)
set_option maxRecDepth 65536 in
theorem w_c2 : (Jvm.Cond.code ({ cls := "com/example/glowcursor/glowcursor/screen/ScreenIsValidSizePinLaw", name := "inRange", desc := "(II)Z" } : Jvm.MethodName) method_3_code (2 : Nat) (Option.some Jvm.ClassFile.FieldType.boolean)).before args0 about1 = true := code_word (m := ⟨1, 2⟩) (meth := k1m2) (c := k1c2) (by decide +kernel) rfl rfl rfl (by decide +kernel)
set_option maxRecDepth 65536 in
theorem w_c3 : (Jvm.Cond.code ({ cls := "java/lang/Math", name := "min", desc := "(II)I" } : Jvm.MethodName) jdk_29_method_69_code (2 : Nat) (Option.some Jvm.ClassFile.FieldType.int)).before args0 about1 = true := code_word (m := ⟨2, 2⟩) (meth := k2m2) (c := k2c2) (by decide +kernel) rfl rfl rfl (by decide +kernel)
set_option maxRecDepth 65536 in
theorem w_c4 : (Jvm.Cond.code ({ cls := "java/lang/Math", name := "max", desc := "(II)I" } : Jvm.MethodName) jdk_29_method_65_code (2 : Nat) (Option.some Jvm.ClassFile.FieldType.int)).before args0 about1 = true := code_word (m := ⟨2, 1⟩) (meth := k2m1) (c := k2c1) (by decide +kernel) rfl rfl rfl (by decide +kernel)
set_option maxRecDepth 65536 in
theorem w_c5 : (Jvm.Cond.code ({ cls := "com/example/glowcursor/glowcursor/screen/Screen", name := "isValidSize", desc := "(II)Z" } : Jvm.MethodName) prog_51_method_3_code (2 : Nat) (Option.some Jvm.ClassFile.FieldType.boolean)).before args0 about1 = true := code_word (m := ⟨3, 0⟩) (meth := k3m0) (c := k3c0) (by decide +kernel) rfl rfl rfl (by decide +kernel)
def codes1 : List Jvm.Cond := [Jvm.Cond.code x code maxLocals ret, Jvm.Cond.code ({ cls := "com/example/glowcursor/glowcursor/screen/ScreenIsValidSizePinLaw", name := "pick", desc := "(II)I" } : Jvm.MethodName) method_2_code (3 : Nat) (Option.some Jvm.ClassFile.FieldType.int), Jvm.Cond.code ({ cls := "com/example/glowcursor/glowcursor/screen/ScreenIsValidSizePinLaw", name := "inRange", desc := "(II)Z" } : Jvm.MethodName) method_3_code (2 : Nat) (Option.some Jvm.ClassFile.FieldType.boolean), Jvm.Cond.code ({ cls := "java/lang/Math", name := "min", desc := "(II)I" } : Jvm.MethodName) jdk_29_method_69_code (2 : Nat) (Option.some Jvm.ClassFile.FieldType.int), Jvm.Cond.code ({ cls := "java/lang/Math", name := "max", desc := "(II)I" } : Jvm.MethodName) jdk_29_method_65_code (2 : Nat) (Option.some Jvm.ClassFile.FieldType.int), Jvm.Cond.code ({ cls := "com/example/glowcursor/glowcursor/screen/Screen", name := "isValidSize", desc := "(II)Z" } : Jvm.MethodName) prog_51_method_3_code (2 : Nat) (Option.some Jvm.ClassFile.FieldType.boolean)]
set_option maxRecDepth 65536 in
theorem codes_eq : words1.filter isCode = codes1 := rfl
theorem w_codes : ∀ c ∈ words1.filter isCode, c.before args0 about1 = true := by
  rw [codes_eq]
  intro c hc
  simp only [codes1, List.mem_cons, List.not_mem_nil, or_false] at hc
  rcases hc with rfl | rfl | rfl | rfl | rfl | rfl
  · exact w_c0
  · exact w_c1
  · exact w_c2
  · exact w_c3
  · exact w_c4
  · exact w_c5
set_option maxRecDepth 65536 in
theorem w_t1 : words1.all (fun c => isCode c || c.before args0 about1) = true := by decide +kernel
theorem w_tables : (allAtoms (Jvm.Cond.code x code maxLocals ret :: tables_1)).before args0 about1 = true := by
  rw [allAtoms_all]
  show words1.all (fun c => c.before args0 about1) = true
  refine all_split ?_ w_codes
  rw [w_t1]
set_option maxRecDepth 65536 in
theorem w_case : (Jvm.Cond.and given_1 narrow_1).before args0 about1 = true := by decide +kernel
theorem w_applies : (headSpec (Jvm.Cond.code x code maxLocals ret :: tables_1) room_1).applies x e0.platform about1 = true :=
  (Spec.applies_iff w_frames).mpr ⟨w_running, w_runnable, w_alone, w_named, w_hears, w_ripe, w_room, w_tables⟩
theorem atStart : AtStart classFile x code maxLocals ret World_1 tables_1 room_1 Calls_1 rest_1 Pre_1 launch0 p0 e0 about1 theMethod args0 below0 :=
  ⟨lists_1, trivial, launch0.admits_env _ _ _, launch0.least_env, fairChoices_fair.cas, fairChoices_fair.clock, w_frames, w_args, w_heap, w_applies, trivial, trivial, w_case⟩
end start1
theorem witness_1 : WitnessClaimed_1 := ⟨start1.p0, start1.e0, start1.about1, start1.theMethod, start1.args0, start1.below0, start1.atStart⟩
end Jvm.Pilot.@@N@@
