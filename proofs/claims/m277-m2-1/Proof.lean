import JvmDerived
import JvmDerived.Pilot.@@N@@Statement
import JvmDerived.Pilot.@@N@@Code
set_option linter.unusedVariables false
set_option linter.unusedSimpArgs false
namespace Jvm.RoadKit
open Sem ClassFile Op Lib Jvm.Stand Jvm.Free Jvm.LawKit
section New
variable {p : Program} {l : Launch} {e : Env} {R : Room} {s : State} {m : MethodId} {args : Array Value} {below : List Frame} {meth : Method} {c : Code} {T : State} {locs : List Loc} {cells slots : Nat}
theorem retI (X : Stand p l e R s m args below meth c T locs cells slots) (hx : p.tables.exec = Jvm.exec) {pc : Nat} {Ls : Array Slot} {z : Int32} {rest : List Value} (hret : meth.sig.returnType = some .int) (hd : decode c.code pc = .ok (.ireturn, 1)) {fs : List Frame}
    (hl : ∀ (f : JFrame) (acts : List Action), f.method = m → f.locked = none → f.entered = [] → (doReturn e (T.setTop f) acts (some (.int z))).1 = T.setFrames fs) : Steps p.tables e below (T.setTop (mkF m pc Ls (.int z :: rest))) (T.setFrames fs) := by
  have hm' : T.vm.method? m = some meth := X.method'
  have hn : narrow .int (.int z) = .int z := rfl
  show Steps p.tables e below (T.setTop { method := m, pc := pc, locals := Ls, stack := _ :: rest, locked := none }) _
  jvm_step X.here [X.here.top, hx, hd, hm', hret, hn]
  first | (intro acts; rw [hl _ acts rfl rfl rfl]) | rw [hl _ _ rfl rfl rfl]
  exact Steps.refl _
end New
end Jvm.RoadKit
namespace Jvm.Pilot.@@N@@
open Jvm Jvm.ClassFile Sem Op Lib Jvm.Free Jvm.Stand Jvm.LawKit Jvm.RoadKit Bundle Jvm.Pilot.@@N@@.Jvm.D
theorem pd_0 : parseMethodDescriptor "(J)J" = some ⟨[.long], some .long⟩ := by decide +kernel
theorem d1_0 : decode prog_9_method_4_code 0 = .ok (.lload_n 0, 1) := by decide +kernel
theorem d1_1 : decode prog_9_method_4_code 1 = .ok (.lstore_n 2, 1) := by decide +kernel
theorem d1_2 : decode prog_9_method_4_code 2 = .ok (.lload_n 2, 1) := by decide +kernel
theorem d1_3 : decode prog_9_method_4_code 3 = .ok (.lload_n 2, 1) := by decide +kernel
theorem d1_4 : decode prog_9_method_4_code 4 = .ok (.bipush 30, 2) := by decide +kernel
theorem d1_6 : decode prog_9_method_4_code 6 = .ok (.lushr, 1) := by decide +kernel
theorem d1_7 : decode prog_9_method_4_code 7 = .ok (.lxor, 1) := by decide +kernel
theorem d1_8 : decode prog_9_method_4_code 8 = .ok (.ldc2_w 31, 3) := by decide +kernel
theorem d1_11 : decode prog_9_method_4_code 11 = .ok (.lmul, 1) := by decide +kernel
theorem d1_12 : decode prog_9_method_4_code 12 = .ok (.lstore_n 2, 1) := by decide +kernel
theorem d1_13 : decode prog_9_method_4_code 13 = .ok (.lload_n 2, 1) := by decide +kernel
theorem d1_14 : decode prog_9_method_4_code 14 = .ok (.lload_n 2, 1) := by decide +kernel
theorem d1_15 : decode prog_9_method_4_code 15 = .ok (.bipush 27, 2) := by decide +kernel
theorem d1_17 : decode prog_9_method_4_code 17 = .ok (.lushr, 1) := by decide +kernel
theorem d1_18 : decode prog_9_method_4_code 18 = .ok (.lxor, 1) := by decide +kernel
theorem d1_19 : decode prog_9_method_4_code 19 = .ok (.ldc2_w 33, 3) := by decide +kernel
theorem d1_22 : decode prog_9_method_4_code 22 = .ok (.lmul, 1) := by decide +kernel
theorem d1_23 : decode prog_9_method_4_code 23 = .ok (.lstore_n 2, 1) := by decide +kernel
theorem d1_24 : decode prog_9_method_4_code 24 = .ok (.lload_n 2, 1) := by decide +kernel
theorem d1_25 : decode prog_9_method_4_code 25 = .ok (.lload_n 2, 1) := by decide +kernel
theorem d1_26 : decode prog_9_method_4_code 26 = .ok (.bipush 31, 2) := by decide +kernel
theorem d1_28 : decode prog_9_method_4_code 28 = .ok (.lushr, 1) := by decide +kernel
theorem d1_29 : decode prog_9_method_4_code 29 = .ok (.lxor, 1) := by decide +kernel
theorem d1_30 : decode prog_9_method_4_code 30 = .ok (.lreturn, 1) := by decide +kernel
theorem pn_1 : plainName "com/example/shingle/shingle/Fingerprint" = true := by first | (simp [plainName, overriddenIn]; done) | decide +kernel
theorem ef_1 (m : MethodId) (x0 : Int64) : entryFrame m #[(.long x0)] 4 = mkF m 0 #[.val (.long x0), .second, .unset, .unset] [] := by first | (simp [entryFrame, mkF, argsToLocals, Value.category]; done) | rfl
def v1_1 (q1 : Int64) : Int64 := ((q1 ^^^ ((q1.toUInt64 >>> ((30 : Int32) &&& 0x3f).toInt64.toUInt64).toInt64)) * (-4658895280553007687 : Int64))
def v1_2 (q1 : Int64) : Int64 := (((v1_1 q1) ^^^ (((v1_1 q1).toUInt64 >>> ((27 : Int32) &&& 0x3f).toInt64.toUInt64).toInt64)) * (-7723592293110705685 : Int64))
def f1 (q1 : Int64) : Int64 := ((v1_2 q1) ^^^ (((v1_2 q1).toUInt64 >>> ((31 : Int32) &&& 0x3f).toInt64.toUInt64).toInt64))
def Q1 (Z : State) (q1 : Int64) (h0 : Heap) (n0 : Nat) (v : Option Value) (h : Heap) (L : List Loc) : Prop := v = some (.long (f1 q1)) ∧ Fr n0 L ∧ h = h0
set_option maxRecDepth 65536 in
set_option maxHeartbeats 40000000 in
theorem rm1 (l : Launch) (Z : State) (a0 : Array Value) (hw : ∀ d ∈ tables_1, d.before a0 Z = true) (ws : List Jvm.Cond) (q1 : Int64)  (h0 : Heap) (n0 : Nat) (Z0 : n0 ≤ h0.size)  :
    MetFree l (⟨"com/example/shingle/shingle/Fingerprint", "of", "(J)J"⟩ : MethodName) (head1 (Jvm.Cond.code (⟨"com/example/shingle/shingle/Fingerprint", "of", "(J)J"⟩ : MethodName) prog_9_method_4_code 4 (some .long) :: ws) ({ frames := 0, cells := 0, slots := 0, locals := 0 } : Room)) (fun a U => a = #[(.long q1)] ∧ Z.Warmed39 U.vm ∧ U.heap = h0) (fun _ _ _ _ _ => True) (fun _ U o U' => ∃ v L, o = .returned v ∧ Q1 Z q1 h0 n0 v U'.heap L ∧ FrameEnd U o U' L ({ frames := 0, cells := 0, slots := 0, locals := 0 } : Room).cells ({ frames := 0, cells := 0, slots := 0, locals := 0 } : Room).slots) := by
  refine MetFree.of_bodySF (plainFor_of_name pn_1) hisR ?_
  intro p e s m args below meth c s₁ Bd hml0 hP hK
  obtain ⟨rfl, hZ, hh⟩ := hP
  have hx := Bd.exec
  have hby := Bd.bytes
  have hml : c.maxLocals = 4 := hml0
  have hown : s.vm.findClass "com/example/shingle/shingle/Fingerprint" = some m.cls := findClass_of_methodNamed Bd.named
  have hnm := (name_of_methodNamed Bd.named Bd.method).1
  have X0 : Stand p l e ({ frames := 0, cells := 0, slots := 0, locals := 0 } : Room) s m #[(.long q1)] below meth c s₁ [] 0 0 := Stand.of_body Bd
  have e0 : s₁.heap = h0 := by rw [← hh, Bd.state]; rfl
  have N0 := Fr.nil n0
  have pre0 : ∀ t, Steps p.tables e below (s₁.setTop (mkF m 0 #[.val (.long q1), .second, .unset, .unset] [])) t → Steps p.tables e below (s₁.setTop (entryFrame m #[(.long q1)] 4)) t := fun t k => castTop (ef_1 m q1) k
  have hv : (f1 q1) = ((v1_2 q1) ^^^ (((v1_2 q1).toUInt64 >>> ((31 : Int32) &&& 0x3f).toInt64.toUInt64).toInt64)) := rfl
  obtain ⟨fs, hr, hrun, hended, hW, hsame⟩ := X0.leave (v := some (.long ((v1_2 q1) ^^^ (((v1_2 q1).toUInt64 >>> ((31 : Int32) &&& 0x3f).toInt64.toUInt64).toInt64)))) (fun h => by rw [Bd.returns] at h; cases h)
  refine ⟨_, _, pre0 _ ?_, hrun, hended, _, _, rfl, ?_, ⟨_, rfl⟩, hW, hsame.mono (by decide) (by decide)⟩
  · show Steps p.tables e below (s₁.setTop (mkF m 0 #[.val (.long q1), .second, .unset, .unset] [])) _
    refine XS.lloadN X0.here hx rfl (hb hby d1_0) rfl ?_
    show Steps p.tables e below (s₁.setTop (mkF m 1 #[.val (.long q1), .second, .unset, .unset] [(.long q1)])) _
    refine XS.lstoreN X0.here hx rfl (hb hby d1_1) rfl (l' := #[.val (.long q1), .second, .val (.long q1), .second]) rfl ?_
    show Steps p.tables e below (s₁.setTop (mkF m 2 #[.val (.long q1), .second, .val (.long q1), .second] [])) _
    refine XS.lloadN X0.here hx rfl (hb hby d1_2) rfl ?_
    show Steps p.tables e below (s₁.setTop (mkF m 3 #[.val (.long q1), .second, .val (.long q1), .second] [(.long q1)])) _
    refine XS.lloadN X0.here hx rfl (hb hby d1_3) rfl ?_
    show Steps p.tables e below (s₁.setTop (mkF m 4 #[.val (.long q1), .second, .val (.long q1), .second] [(.long q1), (.long q1)])) _
    refine XS.bipush X0.here hx rfl (hb hby d1_4) ?_
    show Steps p.tables e below (s₁.setTop (mkF m 6 #[.val (.long q1), .second, .val (.long q1), .second] [(.int (30 : Int32)), (.long q1), (.long q1)])) _
    refine XS.lushr X0.here hx rfl (hb hby d1_6) rfl ?_
    show Steps p.tables e below (s₁.setTop (mkF m 7 #[.val (.long q1), .second, .val (.long q1), .second] [(.long ((q1.toUInt64 >>> ((30 : Int32) &&& 0x3f).toInt64.toUInt64).toInt64)), (.long q1)])) _
    refine XS.lxor X0.here hx rfl (hb hby d1_7) rfl ?_
    show Steps p.tables e below (s₁.setTop (mkF m 8 #[.val (.long q1), .second, .val (.long q1), .second] [(.long (q1 ^^^ ((q1.toUInt64 >>> ((30 : Int32) &&& 0x3f).toInt64.toUInt64).toInt64)))])) _
    refine X0.ldc2Long hx hown (mvT hZ (hw _ (List.mem_of_getElem? (i := 4) rfl))) (g := (mkF m 8 #[.val (.long q1), .second, .val (.long q1), .second] [(.long (q1 ^^^ ((q1.toUInt64 >>> ((30 : Int32) &&& 0x3f).toInt64.toUInt64).toInt64)))])) rfl (hb hby d1_8) _ ?_
    show Steps p.tables e below (s₁.setTop (mkF m 11 #[.val (.long q1), .second, .val (.long q1), .second] [(.long (-4658895280553007687 : Int64)), (.long (q1 ^^^ ((q1.toUInt64 >>> ((30 : Int32) &&& 0x3f).toInt64.toUInt64).toInt64)))])) _
    refine XS.lmul X0.here hx rfl (hb hby d1_11) rfl ?_
    show Steps p.tables e below (s₁.setTop (mkF m 12 #[.val (.long q1), .second, .val (.long q1), .second] [(.long ((q1 ^^^ ((q1.toUInt64 >>> ((30 : Int32) &&& 0x3f).toInt64.toUInt64).toInt64)) * (-4658895280553007687 : Int64)))])) _
    refine XS.lstoreN X0.here hx rfl (hb hby d1_12) rfl (l' := #[.val (.long q1), .second, .val (.long ((q1 ^^^ ((q1.toUInt64 >>> ((30 : Int32) &&& 0x3f).toInt64.toUInt64).toInt64)) * (-4658895280553007687 : Int64))), .second]) rfl ?_
    show Steps p.tables e below (s₁.setTop (mkF m 13 #[.val (.long q1), .second, .val (.long (v1_1 q1)), .second] [])) _
    refine XS.lloadN X0.here hx rfl (hb hby d1_13) rfl ?_
    show Steps p.tables e below (s₁.setTop (mkF m 14 #[.val (.long q1), .second, .val (.long (v1_1 q1)), .second] [(.long (v1_1 q1))])) _
    refine XS.lloadN X0.here hx rfl (hb hby d1_14) rfl ?_
    show Steps p.tables e below (s₁.setTop (mkF m 15 #[.val (.long q1), .second, .val (.long (v1_1 q1)), .second] [(.long (v1_1 q1)), (.long (v1_1 q1))])) _
    refine XS.bipush X0.here hx rfl (hb hby d1_15) ?_
    show Steps p.tables e below (s₁.setTop (mkF m 17 #[.val (.long q1), .second, .val (.long (v1_1 q1)), .second] [(.int (27 : Int32)), (.long (v1_1 q1)), (.long (v1_1 q1))])) _
    refine XS.lushr X0.here hx rfl (hb hby d1_17) rfl ?_
    show Steps p.tables e below (s₁.setTop (mkF m 18 #[.val (.long q1), .second, .val (.long (v1_1 q1)), .second] [(.long (((v1_1 q1).toUInt64 >>> ((27 : Int32) &&& 0x3f).toInt64.toUInt64).toInt64)), (.long (v1_1 q1))])) _
    refine XS.lxor X0.here hx rfl (hb hby d1_18) rfl ?_
    show Steps p.tables e below (s₁.setTop (mkF m 19 #[.val (.long q1), .second, .val (.long (v1_1 q1)), .second] [(.long ((v1_1 q1) ^^^ (((v1_1 q1).toUInt64 >>> ((27 : Int32) &&& 0x3f).toInt64.toUInt64).toInt64)))])) _
    refine X0.ldc2Long hx hown (mvT hZ (hw _ (List.mem_of_getElem? (i := 5) rfl))) (g := (mkF m 19 #[.val (.long q1), .second, .val (.long (v1_1 q1)), .second] [(.long ((v1_1 q1) ^^^ (((v1_1 q1).toUInt64 >>> ((27 : Int32) &&& 0x3f).toInt64.toUInt64).toInt64)))])) rfl (hb hby d1_19) _ ?_
    show Steps p.tables e below (s₁.setTop (mkF m 22 #[.val (.long q1), .second, .val (.long (v1_1 q1)), .second] [(.long (-7723592293110705685 : Int64)), (.long ((v1_1 q1) ^^^ (((v1_1 q1).toUInt64 >>> ((27 : Int32) &&& 0x3f).toInt64.toUInt64).toInt64)))])) _
    refine XS.lmul X0.here hx rfl (hb hby d1_22) rfl ?_
    show Steps p.tables e below (s₁.setTop (mkF m 23 #[.val (.long q1), .second, .val (.long (v1_1 q1)), .second] [(.long (((v1_1 q1) ^^^ (((v1_1 q1).toUInt64 >>> ((27 : Int32) &&& 0x3f).toInt64.toUInt64).toInt64)) * (-7723592293110705685 : Int64)))])) _
    refine XS.lstoreN X0.here hx rfl (hb hby d1_23) rfl (l' := #[.val (.long q1), .second, .val (.long (((v1_1 q1) ^^^ (((v1_1 q1).toUInt64 >>> ((27 : Int32) &&& 0x3f).toInt64.toUInt64).toInt64)) * (-7723592293110705685 : Int64))), .second]) rfl ?_
    show Steps p.tables e below (s₁.setTop (mkF m 24 #[.val (.long q1), .second, .val (.long (v1_2 q1)), .second] [])) _
    refine XS.lloadN X0.here hx rfl (hb hby d1_24) rfl ?_
    show Steps p.tables e below (s₁.setTop (mkF m 25 #[.val (.long q1), .second, .val (.long (v1_2 q1)), .second] [(.long (v1_2 q1))])) _
    refine XS.lloadN X0.here hx rfl (hb hby d1_25) rfl ?_
    show Steps p.tables e below (s₁.setTop (mkF m 26 #[.val (.long q1), .second, .val (.long (v1_2 q1)), .second] [(.long (v1_2 q1)), (.long (v1_2 q1))])) _
    refine XS.bipush X0.here hx rfl (hb hby d1_26) ?_
    show Steps p.tables e below (s₁.setTop (mkF m 28 #[.val (.long q1), .second, .val (.long (v1_2 q1)), .second] [(.int (31 : Int32)), (.long (v1_2 q1)), (.long (v1_2 q1))])) _
    refine XS.lushr X0.here hx rfl (hb hby d1_28) rfl ?_
    show Steps p.tables e below (s₁.setTop (mkF m 29 #[.val (.long q1), .second, .val (.long (v1_2 q1)), .second] [(.long (((v1_2 q1).toUInt64 >>> ((31 : Int32) &&& 0x3f).toInt64.toUInt64).toInt64)), (.long (v1_2 q1))])) _
    refine XS.lxor X0.here hx rfl (hb hby d1_29) rfl ?_
    show Steps p.tables e below (s₁.setTop (mkF m 30 #[.val (.long q1), .second, .val (.long (v1_2 q1)), .second] [(.long ((v1_2 q1) ^^^ (((v1_2 q1).toUInt64 >>> ((31 : Int32) &&& 0x3f).toInt64.toUInt64).toInt64)))])) _
    exact Jvm.Stand.lreturnOut X0 hx Bd.returns (hb hby d1_30) hr
  · exact ⟨by rw [hv], N0, e0⟩
theorem pn_0 : plainName "com/example/shingle/shingle/FingerprintOfPinLaw" = true := by first | (simp [plainName, overriddenIn]; done) | decide +kernel
theorem ef_0 (m : MethodId) (x0 : Int64) : entryFrame m #[(.long x0)] maxLocals = mkF m 0 #[.val (.long x0), .second, .unset, .unset, .unset, .unset] [] := by first | (simp [entryFrame, mkF, argsToLocals, Value.category, maxLocals]; done) | rfl
def v0_1 (q1 : Int64) : Int64 := (((f1 q1) ^^^ (((f1 q1).toUInt64 >>> ((31 : Int32) &&& 0x3f).toInt64.toUInt64).toInt64)) ^^^ (((f1 q1).toUInt64 >>> ((62 : Int32) &&& 0x3f).toInt64.toUInt64).toInt64))
def v0_2 (q1 : Int64) : Int64 := ((v0_1 q1) * (3573116690164977347 : Int64))
def v0_3 (q1 : Int64) : Int64 := (((v0_2 q1) ^^^ (((v0_2 q1).toUInt64 >>> ((27 : Int32) &&& 0x3f).toInt64.toUInt64).toInt64)) ^^^ (((v0_2 q1).toUInt64 >>> ((54 : Int32) &&& 0x3f).toInt64.toUInt64).toInt64))
def v0_4 (q1 : Int64) : Int64 := ((v0_3 q1) * (-7575587736534282103 : Int64))
def v0_5 (q1 : Int64) : Int64 := (((v0_4 q1) ^^^ (((v0_4 q1).toUInt64 >>> ((30 : Int32) &&& 0x3f).toInt64.toUInt64).toInt64)) ^^^ (((v0_4 q1).toUInt64 >>> ((60 : Int32) &&& 0x3f).toInt64.toUInt64).toInt64))
def f0 (q1 : Int64) : Int32 := (if (lcmpW (v0_5 q1) q1) = (0 : Int32) then (1 : Int32) else (0 : Int32))
def Q0 (Z : State) (q1 : Int64) (h0 : Heap) (n0 : Nat) (v : Option Value) (h : Heap) (L : List Loc) : Prop := v = some (.int (f0 q1)) ∧ Fr n0 L
set_option maxRecDepth 65536 in
set_option maxHeartbeats 40000000 in
theorem rm0 (l : Launch) (Z : State) (a0 : Array Value) (hw : ∀ d ∈ tables_1, d.before a0 Z = true) (ws : List Jvm.Cond) (q1 : Int64)  (h0 : Heap) (n0 : Nat) (Z0 : n0 ≤ h0.size)  :
    MetFree l x (head1 (Jvm.Cond.code x code maxLocals ret :: ws) room_1) (fun a U => a = #[(.long q1)] ∧ Z.Warmed39 U.vm ∧ U.heap = h0) (fun _ _ _ _ _ => True) (fun _ U o U' => ∃ v L, o = .returned v ∧ Q0 Z q1 h0 n0 v U'.heap L ∧ FrameEnd U o U' L room_1.cells room_1.slots) := by
  refine MetFree.of_bodySF (plainFor_of_name pn_0) hisR ?_
  intro p e s m args below meth c s₁ Bd hml0 hP hK
  obtain ⟨rfl, hZ, hh⟩ := hP
  have hx := Bd.exec
  have hby := Bd.bytes
  have hml : c.maxLocals = 6 := hml0
  have hown : s.vm.findClass "com/example/shingle/shingle/FingerprintOfPinLaw" = some m.cls := findClass_of_methodNamed Bd.named
  have hnm := (name_of_methodNamed Bd.named Bd.method).1
  have X0 : Stand p l e room_1 s m #[(.long q1)] below meth c s₁ [] 0 0 := Stand.of_body Bd
  have e0 : s₁.heap = h0 := by rw [← hh, Bd.state]; rfl
  have N0 := Fr.nil n0
  have pre0 : ∀ t, Steps p.tables e below (s₁.setTop (mkF m 0 #[.val (.long q1), .second, .unset, .unset, .unset, .unset] [])) t → Steps p.tables e below (s₁.setTop (entryFrame m #[(.long q1)] maxLocals)) t := fun t k => castTop (ef_0 m q1) k
  obtain ⟨_, _, ⟨T1, L1, k1, n1⟩, -, X1, ⟨Lc1, hQ1, l1, y1, z1⟩, st1⟩ := Jvm.LawKit.callS X0 hx (y := (⟨"com/example/shingle/shingle/Fingerprint", "of", "(J)J"⟩ : MethodName)) hown (mvT hZ (hw _ (List.mem_of_getElem? (i := 0) rfl))) (mvT hZ (hw _ (List.mem_of_getElem? (i := 1) rfl))) (mvT hZ (hw _ (List.mem_of_getElem? (i := 2) rfl))) (mvT hZ (hw _ (List.mem_of_getElem? (i := 3) rfl))) (by decide) (backOf (W := 0) (rm1 l Z a0 hw [] q1 h0 n0 Z0) hZ (hw _ (List.mem_of_getElem? (i := 3) rfl)) (hw _ (List.mem_of_getElem? (i := 2) rfl)) (by decide) (by decide)) (g := (mkF m 1 #[.val (.long q1), .second, .unset, .unset, .unset, .unset] [(.long q1)])) rfl (by rw [hml]; rfl) (argsL := [(.long q1)]) (rest := []) (lenOf pd_0 rfl) rfl (by show 2 * 0 + _ ≤ _; exact Nat.le_of_eq rfl) (hb hby at_1) (fun _ _ => ⟨rfl, e0, (by decide : 0 + 0 ≤ _), (by decide : 0 + 0 ≤ _)⟩)
  dsimp only [Pt.U, Pt.locs, Pt.cells, Pt.slots] at X1 l1 y1 z1 st1 hQ1
  subst l1 y1 z1
  obtain ⟨rfl, N1q, e1⟩ := hQ1
  have N1 := Fr.app N0 N1q
  have pre2 : ∀ t, Steps p.tables e below (T1.setTop (mkF m 70 #[.val (.long q1), .second, .val (.long (f1 q1)), .second, .val (.long (v0_5 q1)), .second] [(.int (lcmpW (v0_5 q1) q1))])) t → Steps p.tables e below (s₁.setTop (entryFrame m #[(.long q1)] maxLocals)) t := fun t k => pre0 t (by
    show Steps p.tables e below (s₁.setTop (mkF m 0 #[.val (.long q1), .second, .unset, .unset, .unset, .unset] [])) _
    refine XS.lloadN X0.here hx rfl (hb hby at_0) rfl ?_
    show Steps p.tables e below (s₁.setTop (mkF m 1 #[.val (.long q1), .second, .unset, .unset, .unset, .unset] [(.long q1)])) _
    refine st1 _ ?_
    show Steps p.tables e below (T1.setTop (mkF m 4 #[.val (.long q1), .second, .unset, .unset, .unset, .unset] [(.long (f1 q1))])) _
    refine XS.lstoreN X1.here hx rfl (hb hby at_4) rfl (l' := #[.val (.long q1), .second, .val (.long (f1 q1)), .second, .unset, .unset]) rfl ?_
    show Steps p.tables e below (T1.setTop (mkF m 5 #[.val (.long q1), .second, .val (.long (f1 q1)), .second, .unset, .unset] [])) _
    refine XS.lloadN X1.here hx rfl (hb hby at_5) rfl ?_
    show Steps p.tables e below (T1.setTop (mkF m 6 #[.val (.long q1), .second, .val (.long (f1 q1)), .second, .unset, .unset] [(.long (f1 q1))])) _
    refine XS.lloadN X1.here hx rfl (hb hby at_6) rfl ?_
    show Steps p.tables e below (T1.setTop (mkF m 7 #[.val (.long q1), .second, .val (.long (f1 q1)), .second, .unset, .unset] [(.long (f1 q1)), (.long (f1 q1))])) _
    refine XS.bipush X1.here hx rfl (hb hby at_7) ?_
    show Steps p.tables e below (T1.setTop (mkF m 9 #[.val (.long q1), .second, .val (.long (f1 q1)), .second, .unset, .unset] [(.int (31 : Int32)), (.long (f1 q1)), (.long (f1 q1))])) _
    refine XS.lushr X1.here hx rfl (hb hby at_9) rfl ?_
    show Steps p.tables e below (T1.setTop (mkF m 10 #[.val (.long q1), .second, .val (.long (f1 q1)), .second, .unset, .unset] [(.long (((f1 q1).toUInt64 >>> ((31 : Int32) &&& 0x3f).toInt64.toUInt64).toInt64)), (.long (f1 q1))])) _
    refine XS.lxor X1.here hx rfl (hb hby at_10) rfl ?_
    show Steps p.tables e below (T1.setTop (mkF m 11 #[.val (.long q1), .second, .val (.long (f1 q1)), .second, .unset, .unset] [(.long ((f1 q1) ^^^ (((f1 q1).toUInt64 >>> ((31 : Int32) &&& 0x3f).toInt64.toUInt64).toInt64)))])) _
    refine XS.lloadN X1.here hx rfl (hb hby at_11) rfl ?_
    show Steps p.tables e below (T1.setTop (mkF m 12 #[.val (.long q1), .second, .val (.long (f1 q1)), .second, .unset, .unset] [(.long (f1 q1)), (.long ((f1 q1) ^^^ (((f1 q1).toUInt64 >>> ((31 : Int32) &&& 0x3f).toInt64.toUInt64).toInt64)))])) _
    refine XS.bipush X1.here hx rfl (hb hby at_12) ?_
    show Steps p.tables e below (T1.setTop (mkF m 14 #[.val (.long q1), .second, .val (.long (f1 q1)), .second, .unset, .unset] [(.int (62 : Int32)), (.long (f1 q1)), (.long ((f1 q1) ^^^ (((f1 q1).toUInt64 >>> ((31 : Int32) &&& 0x3f).toInt64.toUInt64).toInt64)))])) _
    refine XS.lushr X1.here hx rfl (hb hby at_14) rfl ?_
    show Steps p.tables e below (T1.setTop (mkF m 15 #[.val (.long q1), .second, .val (.long (f1 q1)), .second, .unset, .unset] [(.long (((f1 q1).toUInt64 >>> ((62 : Int32) &&& 0x3f).toInt64.toUInt64).toInt64)), (.long ((f1 q1) ^^^ (((f1 q1).toUInt64 >>> ((31 : Int32) &&& 0x3f).toInt64.toUInt64).toInt64)))])) _
    refine XS.lxor X1.here hx rfl (hb hby at_15) rfl ?_
    show Steps p.tables e below (T1.setTop (mkF m 16 #[.val (.long q1), .second, .val (.long (f1 q1)), .second, .unset, .unset] [(.long (((f1 q1) ^^^ (((f1 q1).toUInt64 >>> ((31 : Int32) &&& 0x3f).toInt64.toUInt64).toInt64)) ^^^ (((f1 q1).toUInt64 >>> ((62 : Int32) &&& 0x3f).toInt64.toUInt64).toInt64)))])) _
    refine XS.lstore X1.here hx rfl (hb hby at_16) rfl (l' := #[.val (.long q1), .second, .val (.long (f1 q1)), .second, .val (.long (((f1 q1) ^^^ (((f1 q1).toUInt64 >>> ((31 : Int32) &&& 0x3f).toInt64.toUInt64).toInt64)) ^^^ (((f1 q1).toUInt64 >>> ((62 : Int32) &&& 0x3f).toInt64.toUInt64).toInt64))), .second]) rfl ?_
    show Steps p.tables e below (T1.setTop (mkF m 18 #[.val (.long q1), .second, .val (.long (f1 q1)), .second, .val (.long (v0_1 q1)), .second] [])) _
    refine XS.lload X1.here hx rfl (hb hby at_18) rfl ?_
    show Steps p.tables e below (T1.setTop (mkF m 20 #[.val (.long q1), .second, .val (.long (f1 q1)), .second, .val (.long (v0_1 q1)), .second] [(.long (v0_1 q1))])) _
    refine X1.ldc2Long hx hown (mvT hZ (hw _ (List.mem_of_getElem? (i := 6) rfl))) (g := (mkF m 20 #[.val (.long q1), .second, .val (.long (f1 q1)), .second, .val (.long (v0_1 q1)), .second] [(.long (v0_1 q1))])) rfl (hb hby at_20) _ ?_
    show Steps p.tables e below (T1.setTop (mkF m 23 #[.val (.long q1), .second, .val (.long (f1 q1)), .second, .val (.long (v0_1 q1)), .second] [(.long (3573116690164977347 : Int64)), (.long (v0_1 q1))])) _
    refine XS.lmul X1.here hx rfl (hb hby at_23) rfl ?_
    show Steps p.tables e below (T1.setTop (mkF m 24 #[.val (.long q1), .second, .val (.long (f1 q1)), .second, .val (.long (v0_1 q1)), .second] [(.long ((v0_1 q1) * (3573116690164977347 : Int64)))])) _
    refine XS.lstore X1.here hx rfl (hb hby at_24) rfl (l' := #[.val (.long q1), .second, .val (.long (f1 q1)), .second, .val (.long ((v0_1 q1) * (3573116690164977347 : Int64))), .second]) rfl ?_
    show Steps p.tables e below (T1.setTop (mkF m 26 #[.val (.long q1), .second, .val (.long (f1 q1)), .second, .val (.long (v0_2 q1)), .second] [])) _
    refine XS.lload X1.here hx rfl (hb hby at_26) rfl ?_
    show Steps p.tables e below (T1.setTop (mkF m 28 #[.val (.long q1), .second, .val (.long (f1 q1)), .second, .val (.long (v0_2 q1)), .second] [(.long (v0_2 q1))])) _
    refine XS.lload X1.here hx rfl (hb hby at_28) rfl ?_
    show Steps p.tables e below (T1.setTop (mkF m 30 #[.val (.long q1), .second, .val (.long (f1 q1)), .second, .val (.long (v0_2 q1)), .second] [(.long (v0_2 q1)), (.long (v0_2 q1))])) _
    refine XS.bipush X1.here hx rfl (hb hby at_30) ?_
    show Steps p.tables e below (T1.setTop (mkF m 32 #[.val (.long q1), .second, .val (.long (f1 q1)), .second, .val (.long (v0_2 q1)), .second] [(.int (27 : Int32)), (.long (v0_2 q1)), (.long (v0_2 q1))])) _
    refine XS.lushr X1.here hx rfl (hb hby at_32) rfl ?_
    show Steps p.tables e below (T1.setTop (mkF m 33 #[.val (.long q1), .second, .val (.long (f1 q1)), .second, .val (.long (v0_2 q1)), .second] [(.long (((v0_2 q1).toUInt64 >>> ((27 : Int32) &&& 0x3f).toInt64.toUInt64).toInt64)), (.long (v0_2 q1))])) _
    refine XS.lxor X1.here hx rfl (hb hby at_33) rfl ?_
    show Steps p.tables e below (T1.setTop (mkF m 34 #[.val (.long q1), .second, .val (.long (f1 q1)), .second, .val (.long (v0_2 q1)), .second] [(.long ((v0_2 q1) ^^^ (((v0_2 q1).toUInt64 >>> ((27 : Int32) &&& 0x3f).toInt64.toUInt64).toInt64)))])) _
    refine XS.lload X1.here hx rfl (hb hby at_34) rfl ?_
    show Steps p.tables e below (T1.setTop (mkF m 36 #[.val (.long q1), .second, .val (.long (f1 q1)), .second, .val (.long (v0_2 q1)), .second] [(.long (v0_2 q1)), (.long ((v0_2 q1) ^^^ (((v0_2 q1).toUInt64 >>> ((27 : Int32) &&& 0x3f).toInt64.toUInt64).toInt64)))])) _
    refine XS.bipush X1.here hx rfl (hb hby at_36) ?_
    show Steps p.tables e below (T1.setTop (mkF m 38 #[.val (.long q1), .second, .val (.long (f1 q1)), .second, .val (.long (v0_2 q1)), .second] [(.int (54 : Int32)), (.long (v0_2 q1)), (.long ((v0_2 q1) ^^^ (((v0_2 q1).toUInt64 >>> ((27 : Int32) &&& 0x3f).toInt64.toUInt64).toInt64)))])) _
    refine XS.lushr X1.here hx rfl (hb hby at_38) rfl ?_
    show Steps p.tables e below (T1.setTop (mkF m 39 #[.val (.long q1), .second, .val (.long (f1 q1)), .second, .val (.long (v0_2 q1)), .second] [(.long (((v0_2 q1).toUInt64 >>> ((54 : Int32) &&& 0x3f).toInt64.toUInt64).toInt64)), (.long ((v0_2 q1) ^^^ (((v0_2 q1).toUInt64 >>> ((27 : Int32) &&& 0x3f).toInt64.toUInt64).toInt64)))])) _
    refine XS.lxor X1.here hx rfl (hb hby at_39) rfl ?_
    show Steps p.tables e below (T1.setTop (mkF m 40 #[.val (.long q1), .second, .val (.long (f1 q1)), .second, .val (.long (v0_2 q1)), .second] [(.long (((v0_2 q1) ^^^ (((v0_2 q1).toUInt64 >>> ((27 : Int32) &&& 0x3f).toInt64.toUInt64).toInt64)) ^^^ (((v0_2 q1).toUInt64 >>> ((54 : Int32) &&& 0x3f).toInt64.toUInt64).toInt64)))])) _
    refine XS.lstore X1.here hx rfl (hb hby at_40) rfl (l' := #[.val (.long q1), .second, .val (.long (f1 q1)), .second, .val (.long (((v0_2 q1) ^^^ (((v0_2 q1).toUInt64 >>> ((27 : Int32) &&& 0x3f).toInt64.toUInt64).toInt64)) ^^^ (((v0_2 q1).toUInt64 >>> ((54 : Int32) &&& 0x3f).toInt64.toUInt64).toInt64))), .second]) rfl ?_
    show Steps p.tables e below (T1.setTop (mkF m 42 #[.val (.long q1), .second, .val (.long (f1 q1)), .second, .val (.long (v0_3 q1)), .second] [])) _
    refine XS.lload X1.here hx rfl (hb hby at_42) rfl ?_
    show Steps p.tables e below (T1.setTop (mkF m 44 #[.val (.long q1), .second, .val (.long (f1 q1)), .second, .val (.long (v0_3 q1)), .second] [(.long (v0_3 q1))])) _
    refine X1.ldc2Long hx hown (mvT hZ (hw _ (List.mem_of_getElem? (i := 7) rfl))) (g := (mkF m 44 #[.val (.long q1), .second, .val (.long (f1 q1)), .second, .val (.long (v0_3 q1)), .second] [(.long (v0_3 q1))])) rfl (hb hby at_44) _ ?_
    show Steps p.tables e below (T1.setTop (mkF m 47 #[.val (.long q1), .second, .val (.long (f1 q1)), .second, .val (.long (v0_3 q1)), .second] [(.long (-7575587736534282103 : Int64)), (.long (v0_3 q1))])) _
    refine XS.lmul X1.here hx rfl (hb hby at_47) rfl ?_
    show Steps p.tables e below (T1.setTop (mkF m 48 #[.val (.long q1), .second, .val (.long (f1 q1)), .second, .val (.long (v0_3 q1)), .second] [(.long ((v0_3 q1) * (-7575587736534282103 : Int64)))])) _
    refine XS.lstore X1.here hx rfl (hb hby at_48) rfl (l' := #[.val (.long q1), .second, .val (.long (f1 q1)), .second, .val (.long ((v0_3 q1) * (-7575587736534282103 : Int64))), .second]) rfl ?_
    show Steps p.tables e below (T1.setTop (mkF m 50 #[.val (.long q1), .second, .val (.long (f1 q1)), .second, .val (.long (v0_4 q1)), .second] [])) _
    refine XS.lload X1.here hx rfl (hb hby at_50) rfl ?_
    show Steps p.tables e below (T1.setTop (mkF m 52 #[.val (.long q1), .second, .val (.long (f1 q1)), .second, .val (.long (v0_4 q1)), .second] [(.long (v0_4 q1))])) _
    refine XS.lload X1.here hx rfl (hb hby at_52) rfl ?_
    show Steps p.tables e below (T1.setTop (mkF m 54 #[.val (.long q1), .second, .val (.long (f1 q1)), .second, .val (.long (v0_4 q1)), .second] [(.long (v0_4 q1)), (.long (v0_4 q1))])) _
    refine XS.bipush X1.here hx rfl (hb hby at_54) ?_
    show Steps p.tables e below (T1.setTop (mkF m 56 #[.val (.long q1), .second, .val (.long (f1 q1)), .second, .val (.long (v0_4 q1)), .second] [(.int (30 : Int32)), (.long (v0_4 q1)), (.long (v0_4 q1))])) _
    refine XS.lushr X1.here hx rfl (hb hby at_56) rfl ?_
    show Steps p.tables e below (T1.setTop (mkF m 57 #[.val (.long q1), .second, .val (.long (f1 q1)), .second, .val (.long (v0_4 q1)), .second] [(.long (((v0_4 q1).toUInt64 >>> ((30 : Int32) &&& 0x3f).toInt64.toUInt64).toInt64)), (.long (v0_4 q1))])) _
    refine XS.lxor X1.here hx rfl (hb hby at_57) rfl ?_
    show Steps p.tables e below (T1.setTop (mkF m 58 #[.val (.long q1), .second, .val (.long (f1 q1)), .second, .val (.long (v0_4 q1)), .second] [(.long ((v0_4 q1) ^^^ (((v0_4 q1).toUInt64 >>> ((30 : Int32) &&& 0x3f).toInt64.toUInt64).toInt64)))])) _
    refine XS.lload X1.here hx rfl (hb hby at_58) rfl ?_
    show Steps p.tables e below (T1.setTop (mkF m 60 #[.val (.long q1), .second, .val (.long (f1 q1)), .second, .val (.long (v0_4 q1)), .second] [(.long (v0_4 q1)), (.long ((v0_4 q1) ^^^ (((v0_4 q1).toUInt64 >>> ((30 : Int32) &&& 0x3f).toInt64.toUInt64).toInt64)))])) _
    refine XS.bipush X1.here hx rfl (hb hby at_60) ?_
    show Steps p.tables e below (T1.setTop (mkF m 62 #[.val (.long q1), .second, .val (.long (f1 q1)), .second, .val (.long (v0_4 q1)), .second] [(.int (60 : Int32)), (.long (v0_4 q1)), (.long ((v0_4 q1) ^^^ (((v0_4 q1).toUInt64 >>> ((30 : Int32) &&& 0x3f).toInt64.toUInt64).toInt64)))])) _
    refine XS.lushr X1.here hx rfl (hb hby at_62) rfl ?_
    show Steps p.tables e below (T1.setTop (mkF m 63 #[.val (.long q1), .second, .val (.long (f1 q1)), .second, .val (.long (v0_4 q1)), .second] [(.long (((v0_4 q1).toUInt64 >>> ((60 : Int32) &&& 0x3f).toInt64.toUInt64).toInt64)), (.long ((v0_4 q1) ^^^ (((v0_4 q1).toUInt64 >>> ((30 : Int32) &&& 0x3f).toInt64.toUInt64).toInt64)))])) _
    refine XS.lxor X1.here hx rfl (hb hby at_63) rfl ?_
    show Steps p.tables e below (T1.setTop (mkF m 64 #[.val (.long q1), .second, .val (.long (f1 q1)), .second, .val (.long (v0_4 q1)), .second] [(.long (((v0_4 q1) ^^^ (((v0_4 q1).toUInt64 >>> ((30 : Int32) &&& 0x3f).toInt64.toUInt64).toInt64)) ^^^ (((v0_4 q1).toUInt64 >>> ((60 : Int32) &&& 0x3f).toInt64.toUInt64).toInt64)))])) _
    refine XS.lstore X1.here hx rfl (hb hby at_64) rfl (l' := #[.val (.long q1), .second, .val (.long (f1 q1)), .second, .val (.long (((v0_4 q1) ^^^ (((v0_4 q1).toUInt64 >>> ((30 : Int32) &&& 0x3f).toInt64.toUInt64).toInt64)) ^^^ (((v0_4 q1).toUInt64 >>> ((60 : Int32) &&& 0x3f).toInt64.toUInt64).toInt64))), .second]) rfl ?_
    show Steps p.tables e below (T1.setTop (mkF m 66 #[.val (.long q1), .second, .val (.long (f1 q1)), .second, .val (.long (v0_5 q1)), .second] [])) _
    refine XS.lload X1.here hx rfl (hb hby at_66) rfl ?_
    show Steps p.tables e below (T1.setTop (mkF m 68 #[.val (.long q1), .second, .val (.long (f1 q1)), .second, .val (.long (v0_5 q1)), .second] [(.long (v0_5 q1))])) _
    refine XS.lloadN X1.here hx rfl (hb hby at_68) rfl ?_
    show Steps p.tables e below (T1.setTop (mkF m 69 #[.val (.long q1), .second, .val (.long (f1 q1)), .second, .val (.long (v0_5 q1)), .second] [(.long q1), (.long (v0_5 q1))])) _
    refine XS.lcmp X1.here hx rfl (hb hby at_69) rfl ?_
    show Steps p.tables e below (T1.setTop (mkF m 70 #[.val (.long q1), .second, .val (.long (f1 q1)), .second, .val (.long (v0_5 q1)), .second] [(.int (lcmpW (v0_5 q1) q1))])) _
    exact k)
  by_cases hc70_3 : (lcmpW (v0_5 q1) q1) = (0 : Int32)
  · have hv : (f0 q1) = (1 : Int32) := by simp only [f0, if_pos hc70_3]
    obtain ⟨fs, hr, hrun, hended, hW, hsame⟩ := X1.leave (v := some (.int (1 : Int32))) (fun h => by rw [Bd.returns] at h; cases h)
    refine ⟨_, _, pre2 _ ?_, hrun, hended, _, _, rfl, ?_, ⟨_, rfl⟩, hW, hsame.mono (by decide) (by decide)⟩
    · show Steps p.tables e below (T1.setTop (mkF m 70 #[.val (.long q1), .second, .val (.long (f1 q1)), .second, .val (.long (v0_5 q1)), .second] [(.int (lcmpW (v0_5 q1) q1))])) _
      refine XS.ifNo X1.here hx rfl (hb hby at_70) rfl ((if0 _ _).trans (teq hc70_3).2) ?_
      show Steps p.tables e below (T1.setTop (mkF m 73 #[.val (.long q1), .second, .val (.long (f1 q1)), .second, .val (.long (v0_5 q1)), .second] [])) _
      refine XS.iconst X1.here hx rfl (hb hby at_73) ?_
      show Steps p.tables e below (T1.setTop (mkF m 74 #[.val (.long q1), .second, .val (.long (f1 q1)), .second, .val (.long (v0_5 q1)), .second] [(.int (1 : Int32))])) _
      refine XS.goto X1.here hx rfl (pc0 := 74) (pc' := 78) rfl (hb hby at_74) (by decide) (by decide) ?_
      show Steps p.tables e below (T1.setTop (mkF m 78 #[.val (.long q1), .second, .val (.long (f1 q1)), .second, .val (.long (v0_5 q1)), .second] [(.int (1 : Int32))])) _
      exact retN X1 hx (t := .boolean) Bd.returns (by simp) (hb hby at_78) hr
    · exact ⟨by rw [hv], N1⟩
  · have hv : (f0 q1) = (0 : Int32) := by simp only [f0, if_neg hc70_3]
    obtain ⟨fs, hr, hrun, hended, hW, hsame⟩ := X1.leave (v := some (.int (0 : Int32))) (fun h => by rw [Bd.returns] at h; cases h)
    refine ⟨_, _, pre2 _ ?_, hrun, hended, _, _, rfl, ?_, ⟨_, rfl⟩, hW, hsame.mono (by decide) (by decide)⟩
    · show Steps p.tables e below (T1.setTop (mkF m 70 #[.val (.long q1), .second, .val (.long (f1 q1)), .second, .val (.long (v0_5 q1)), .second] [(.int (lcmpW (v0_5 q1) q1))])) _
      refine XS.ifYes X1.here hx rfl (pc0 := 70) (pc' := 77) rfl (hb hby at_70) rfl ((if0 _ _).trans (feq hc70_3).2) (by decide) (by decide) ?_
      show Steps p.tables e below (T1.setTop (mkF m 77 #[.val (.long q1), .second, .val (.long (f1 q1)), .second, .val (.long (v0_5 q1)), .second] [])) _
      refine XS.iconst X1.here hx rfl (hb hby at_77) ?_
      show Steps p.tables e below (T1.setTop (mkF m 78 #[.val (.long q1), .second, .val (.long (f1 q1)), .second, .val (.long (v0_5 q1)), .second] [(.int (0 : Int32))])) _
      exact retN X1 hx (t := .boolean) Bd.returns (by simp) (hb hby at_78) hr
    · exact ⟨by rw [hv], N1⟩
theorem own_ushr (x : Int64) (k : Int32) (n : Nat) (h : (k &&& 0x3f).toInt64.toUInt64.toNat = n) (hn : n < 64) : ((x.toUInt64 >>> (k &&& 0x3f).toInt64.toUInt64).toInt64).toBitVec = x.toBitVec >>> n := by
  show (x.toUInt64 >>> (k &&& 0x3f).toInt64.toUInt64).toBitVec = _
  generalize hk : (k &&& 0x3f).toInt64.toUInt64 = w at *
  rw [UInt64.toBitVec_shiftRight]
  show x.toBitVec >>> (w.toBitVec % 64#64) = _
  rw [BitVec.ushiftRight_eq', BitVec.toNat_umod]
  have : w.toBitVec.toNat = n := h
  rw [this]
  congr 1
  show n % 64 = n
  omega
theorem own_unshift (z : BitVec 64) (n : Nat) (h : 64 ≤ 3 * n) : (z ^^^ z >>> n) ^^^ ((z ^^^ z >>> n) >>> n) ^^^ ((z ^^^ z >>> n) >>> (2 * n)) = z := by
  apply BitVec.eq_of_getLsbD_eq
  intro i hi
  simp only [BitVec.getLsbD_xor, BitVec.getLsbD_ushiftRight]
  have e1 : n + (n + i) = 2 * n + i := by omega
  have e2 : z.getLsbD (n + (2 * n + i)) = false := BitVec.getLsbD_of_ge _ _ (by omega)
  rw [e1, e2]
  cases z.getLsbD i <;> cases z.getLsbD (n + i) <;> cases z.getLsbD (2 * n + i) <;> rfl
theorem own_back (z : Int64) (k k2 : Int32) (n : Nat) (h1 : (k &&& 0x3f).toInt64.toUInt64.toNat = n) (h2 : (k2 &&& 0x3f).toInt64.toUInt64.toNat = 2 * n) (h : 64 ≤ 3 * n) (hn : 2 * n < 64) (y : Int64) (hy : y = z ^^^ ((z.toUInt64 >>> (k &&& 0x3f).toInt64.toUInt64).toInt64)) :
    (y ^^^ ((y.toUInt64 >>> (k &&& 0x3f).toInt64.toUInt64).toInt64)) ^^^ ((y.toUInt64 >>> (k2 &&& 0x3f).toInt64.toUInt64).toInt64) = z := by
  apply Int64.toBitVec_inj.mp
  have e1 := own_ushr z k n h1 (by omega)
  have e2 := own_ushr y k n h1 (by omega)
  have e3 := own_ushr y k2 (2 * n) h2 hn
  have ey : y.toBitVec = z.toBitVec ^^^ z.toBitVec >>> n := by rw [hy, Int64.toBitVec_xor, e1]
  rw [Int64.toBitVec_xor, Int64.toBitVec_xor, e2, e3, ey]
  exact own_unshift z.toBitVec n h
theorem own_mul (z c d : Int64) (h : c * d = 1) : (z * c) * d = z := by
  rw [Int64.mul_assoc, h, Int64.mul_one]
theorem own_law (q : Int64) : v0_5 q = q := by
  have a1 : v0_1 q = v1_2 q := own_back (v1_2 q) 31 62 31 (by decide) (by decide) (by decide) (by decide) (f1 q) rfl
  have a2 : v0_2 q = ((v1_1 q) ^^^ (((v1_1 q).toUInt64 >>> ((27 : Int32) &&& 0x3f).toInt64.toUInt64).toInt64)) := by
    show v0_1 q * _ = _
    rw [a1]; exact own_mul _ _ _ (by decide)
  have a3 : v0_3 q = v1_1 q := own_back (v1_1 q) 27 54 27 (by decide) (by decide) (by decide) (by decide) (v0_2 q) a2
  have a4 : v0_4 q = (q ^^^ ((q.toUInt64 >>> ((30 : Int32) &&& 0x3f).toInt64.toUInt64).toInt64)) := by
    show v0_3 q * _ = _
    rw [a3]; exact own_mul _ _ _ (by decide)
  exact own_back q 30 60 30 (by decide) (by decide) (by decide) (by decide) (v0_4 q) a4
theorem law_true (q : Int64) : f0 q = 1 := if_pos (by rw [own_law]; exact (lcW _ _).trans ((lc_eq _ _).mpr rfl))

set_option maxRecDepth 65536 in
set_option maxHeartbeats 40000000 in
theorem comes_1 {Post : Tables → Env → Array Value → State → Outcome → State → Prop} (hpost : ∀ tb e args s v u, (limb_1_1.after args s (.returned v) u = true ∧ limb_1_2.after args s (.returned v) u = true ∧ True) → FrameEnd s (.returned v) u (Jvm.fieldLocs frame_1_writes args s ++ Jvm.arrayLocs frame_1_arrays args s ++ Jvm.staticLocs frame_1_statics s) 0 0 → Post tb e args s (.returned v) u) :
    ArmFor flags0 classFile x code maxLocals ret World_1 tables_1 room_1 Calls_1 rest_1 Pre_1 Post := by
  intro l hfl _ _ p e ha hc hk s m args below hf hA hF happ hP
  obtain ⟨hcalls, hrest, hpre⟩ := hP
  obtain ⟨-, -, -, hnamed, -, -, -, hat⟩ := (Spec.applies_iff hf).mp happ
  obtain ⟨hg, hn⟩ := and_e (Cond.before_iff.mp (show (Jvm.Cond.and given_1 narrow_1).before args s = true from hpre))
  obtain ⟨g1, g2⟩ := and_e hg
  obtain ⟨w0, rfl⟩ : ∃ w0 : Value, args = #[w0] := by
    have hs : args.size = 1 := by simpa [Cond.value, given_1] using g1
    obtain ⟨L⟩ := args
    match L, hs with
    | [w0], _ => exact ⟨w0, rfl⟩
  have hw := fun d (hd : d ∈ tables_1) => atoms_spec (ws := Jvm.Cond.code x code maxLocals ret :: tables_1) hat d (List.mem_cons_of_mem _ hd)
  obtain ⟨i0, ei0⟩ := isL_v g2
  obtain rfl : w0 = (.long i0) := Option.some.inj ei0
  obtain ⟨n, o, h1, h2, h3, _, L, rfl, ⟨rfl, N⟩, hq⟩ := rm0 l s _ hw tables_1 i0 s.heap s.heap.size (Nat.le_refl _) p e ha hc hk s m _ below hf ((Spec.applies_iff_loose hf).mp happ).1 ⟨rfl, State.Warmed39.refl s, rfl⟩ trivial
  refine ⟨n, _, h1, h2, h3, hpost _ _ _ _ _ _ ⟨Cond.after_iff.mpr rfl, Cond.after_iff.mpr (eq_i res_at (Term.int_eval (1)) (congrArg Value.int (law_true i0))), trivial⟩ ⟨hq.1, hq.2.1, (hq.2.2.sift fun y hy => Or.inr (N y hy)).mono (by decide) (by decide)⟩⟩
theorem main_1_1 : Claimed_1_1 := comes_1 fun _ _ _ _ _ _ h hF => ⟨h.1, hF⟩
theorem main_1_2 : Claimed_1_2 := comes_1 fun _ _ _ _ _ _ h hF => ⟨h.2.1, hF⟩
end Jvm.Pilot.@@N@@
namespace Jvm.Pilot.@@N@@
open Jvm Jvm.ClassFile Sem Op Lib Jvm.Free Jvm.Stand Jvm.Pilot.@@N@@.Jvm.D
/-! MADE BY PROGRAM (witnessworld.py) out of the Statement's table words and the real class files: 9 classes; the members and pool entries that the words name. The judged class is class 1, her method 1. -/
namespace start1
open Jvm.ClassFile
def u (s : String) : CpInfo := .utf8 (stringToUtf16 s)
/-- a pool by its gaps: so many unusable entries, then the entry; so many at the end -/
def gap : Nat → List CpInfo → List CpInfo
  | 0, r => r
  | n + 1, r => .unusable :: gap n r
def poolList (es : List (Nat × CpInfo)) (last : Nat) : List CpInfo := es.foldr (fun e r => gap e.1 (e.2 :: r)) (gap last [])
def pool (es : List (Nat × CpInfo)) (last : Nat) : Array CpInfo := ⟨poolList es last⟩
def fileOf (pool : Array CpInfo) (this : Nat) (attrs : Array Attribute := #[]) (ms : Array MethodInfo := #[]) (fl : Nat := 33) (sup : Nat := 0) (ifs : Array Nat := #[]) (fds : Array FieldInfo := #[]) : ClassFile where
  minorVersion := 0
  majorVersion := 65
  constantPool := pool
  accessFlags := fl
  thisClass := this
  superClass := sup
  interfaces := ifs
  fields := fds
  methods := ms
  attributes := attrs
def plain (name : String) (sup : Option ClassId) : Class where
  name := name
  kind := .ordinary
  loader := none
  accessFlags := 33
  super := sup
  interfaces := #[]
  cf := none
  fields := #[]
  methods := #[]
  instanceTypes := #[]
  staticTypes := #[]
  resolved := #[]
  callSites := []
  init := .initialized
  statics := none
  mirror := none

def pool0 : Array CpInfo := pool [(5, u "<init>"), (0, u "()V"), (1, .class_ 10), (1, u "java/lang/Object")] 113

def k0m0 : Method := { name := "<init>", desc := "()V", sig := { parameters := [], returnType := none }, accessFlags := 1, code := none }
/-- java/lang/Object -/
def k0 : Class := { plain "java/lang/Object" none with
  accessFlags := 33
  interfaces := #[]
  cf := some (fileOf pool0 8 #[] #[{ accessFlags := 1, nameIndex := 5, descriptorIndex := 6, attributes := #[] }] 33 0 #[] #[])
  fields := #[]
  methods := #[k0m0]
  instanceTypes := #[]
  staticTypes := #[]
  resolved := Array.replicate 124 none
  statics := none }

def pool1 : Array CpInfo := pool [(2, .class_ 4), (1, u "java/lang/Object"), (0, u "<init>"), (0, u "()V"), (0, .methodref 8 9), (0, .class_ 10), (0, .nameAndType 11 12), (0, u "com/example/shingle/shingle/Fingerprint"), (0, u "of"), (0, u "(J)J"), (0, .long 3573116690164977347), (1, .long 10871156337175269513), (1, .class_ 18), (0, u "com/example/shingle/shingle/FingerprintOfPinLaw"), (2, u "law"), (0, u "(J)Z")] 3

def k1m0 : Method := { name := "<init>", desc := "()V", sig := { parameters := [], returnType := none }, accessFlags := 2, code := none }
def k1c1 : Code := { maxStack := 5, maxLocals := 6, code := code, exceptionTable := #[], attributes := #[] }
def k1m1 : Method := { name := "law", desc := "(J)Z", sig := { parameters := [.long], returnType := some .boolean }, accessFlags := 9, code := some k1c1 }
/-- com/example/shingle/shingle/FingerprintOfPinLaw -/
def k1 : Class := { plain "com/example/shingle/shingle/FingerprintOfPinLaw" (some 0) with
  accessFlags := 49
  interfaces := #[]
  cf := some (fileOf pool1 17 #[] #[{ accessFlags := 2, nameIndex := 5, descriptorIndex := 6, attributes := #[] }, { accessFlags := 9, nameIndex := 21, descriptorIndex := 22, attributes := #[] }] 49 2 #[] #[])
  fields := #[]
  methods := #[k1m0, k1m1]
  instanceTypes := #[]
  staticTypes := #[]
  resolved := Array.replicate 26 none
  statics := none }

def pool2 : Array CpInfo := pool [(2, .class_ 4), (1, u "java/lang/Object"), (0, u "<init>"), (0, u "()V"), (9, .class_ 18), (1, u "com/example/shingle/shingle/Fingerprint"), (0, u "WORD"), (0, u "Lcom/example/shingle/shingle/Fingerprint$Multiplier;"), (1, .class_ 24), (1, u "com/example/shingle/shingle/Fingerprint$Multiplier"), (5, u "(J)J"), (0, .long 13787848793156543929), (1, .long 10723151780598845931), (40, u "recent"), (0, u "Lcom/example/shingle/shingle/Fingerprint$Window;"), (1, .class_ 79), (1, u "com/example/shingle/shingle/Fingerprint$Window"), (1, u "I"), (13, u "NAME"), (0, u "Ljava/lang/String;"), (3, u "POLYNOMIAL"), (0, u "J"), (0, u "MOST_BUCKET_BITS"), (7, u "of")] 16

def k2m0 : Method := { name := "<init>", desc := "()V", sig := { parameters := [], returnType := none }, accessFlags := 2, code := none }
def k2c1 : Code := { maxStack := 5, maxLocals := 4, code := prog_9_method_4_code, exceptionTable := #[], attributes := #[] }
def k2m1 : Method := { name := "of", desc := "(J)J", sig := { parameters := [.long], returnType := some .long }, accessFlags := 8, code := some k2c1 }
/-- com/example/shingle/shingle/Fingerprint -/
def k2 : Class := { plain "com/example/shingle/shingle/Fingerprint" (some 0) with
  accessFlags := 48
  interfaces := #[]
  cf := some (fileOf pool2 16 #[.nestMembers #[22, 77]] #[{ accessFlags := 2, nameIndex := 5, descriptorIndex := 6, attributes := #[] }, { accessFlags := 8, nameIndex := 110, descriptorIndex := 30, attributes := #[] }] 48 2 #[] #[{ accessFlags := 24, nameIndex := 95, descriptorIndex := 96, attributes := #[] }, { accessFlags := 24, nameIndex := 100, descriptorIndex := 101, attributes := #[] }, { accessFlags := 26, nameIndex := 102, descriptorIndex := 81, attributes := #[] }, { accessFlags := 26, nameIndex := 19, descriptorIndex := 20, attributes := #[] }, { accessFlags := 74, nameIndex := 74, descriptorIndex := 75, attributes := #[] }])
  fields := #[{ name := "NAME", type := (.object "java/lang/String"), accessFlags := 24, slot := 0, constantValue := 0 }, { name := "POLYNOMIAL", type := .long, accessFlags := 24, slot := 1, constantValue := 0 }, { name := "MOST_BUCKET_BITS", type := .int, accessFlags := 26, slot := 2, constantValue := 0 }, { name := "WORD", type := (.object "com/example/shingle/shingle/Fingerprint$Multiplier"), accessFlags := 26, slot := 3, constantValue := 0 }, { name := "recent", type := (.object "com/example/shingle/shingle/Fingerprint$Window"), accessFlags := 74, slot := 4, constantValue := 0 }]
  methods := #[k2m0, k2m1]
  instanceTypes := #[]
  staticTypes := #[(.object "java/lang/String"), .long, .int, (.object "com/example/shingle/shingle/Fingerprint$Multiplier"), (.object "com/example/shingle/shingle/Fingerprint$Window")]
  resolved := Array.replicate 127 none
  statics := none }

def pool3 : Array CpInfo := pool [(1, u "java/lang/Cloneable"), (0, .class_ 1), (0, u "java/lang/Object"), (0, .class_ 3)] 3

/-- java/lang/Cloneable -/
def k3 : Class := { plain "java/lang/Cloneable" (some 0) with
  accessFlags := 1537
  interfaces := #[]
  cf := some (fileOf pool3 2 #[] #[] 1537 4 #[] #[])
  fields := #[]
  methods := #[]
  instanceTypes := #[]
  staticTypes := #[]
  resolved := Array.replicate 8 none
  statics := none }

def pool4 : Array CpInfo := pool [(1, u "java/io/Serializable"), (0, .class_ 1), (0, u "java/lang/Object"), (0, .class_ 3)] 3

/-- java/io/Serializable -/
def k4 : Class := { plain "java/io/Serializable" (some 0) with
  accessFlags := 1537
  interfaces := #[]
  cf := some (fileOf pool4 2 #[] #[] 1537 4 #[] #[])
  fields := #[]
  methods := #[]
  instanceTypes := #[]
  staticTypes := #[]
  resolved := Array.replicate 8 none
  statics := none }

/-- the primitive byte -/
def k5 : Class := { plain "byte" none with kind := .primitive 'B', accessFlags := 0x411 }
/-- [B -/
def k6 : Class := { plain "[B" (some 0) with kind := .array 5 .byte, interfaces := #[3, 4], accessFlags := 1041 }

/-- the primitive int -/
def k7 : Class := { plain "int" none with kind := .primitive 'I', accessFlags := 0x411 }
/-- [I -/
def k8 : Class := { plain "[I" (some 0) with kind := .array 7 .int, interfaces := #[3, 4], accessFlags := 1041 }

def heap : Heap := #[]
def classes : Array Class := #[k0, k1, k2, k3, k4, k5, k6, k7, k8]
def interned : List (Array UInt16 × Addr) := []
def slotsUsed : Nat := 0
def theMethod : MethodId := ⟨1, 1⟩
def args0 : Array Value := #[.long 5]
def aboutOver (below : List Frame) : State where
  vm := { classes := classes, interned := interned.toArray }
  heap := heap
  slotsUsed := slotsUsed
  threads := #[{ frames := .invoking theMethod args0 :: below }]
def below0 : List Frame := [.native { method := ⟨0, 0⟩, args := #[] }]
def about1 : State := aboutOver below0
def p0 : Program := .bare "" "" ""
def e0 : Env := launch0.env 0 0 0
theorem w_frames : about1.frames = Frame.invoking theMethod args0 :: below0 := rfl
set_option maxRecDepth 65536 in
theorem w_args : argsFit about1.vm theMethod args0 = true := by decide +kernel
set_option maxRecDepth 65536 in
theorem w_heap : heapFits about1 = true := by decide +kernel
set_option maxRecDepth 65536 in
theorem w_runnable : about1.curStatus? = some .runnable := by decide +kernel
set_option maxRecDepth 65536 in
theorem w_alone : about1.alone = true := by decide +kernel
set_option maxRecDepth 65536 in
theorem w_named : about1.methodNamed? x = some theMethod := by decide +kernel
set_option maxRecDepth 65536 in
theorem w_hears : about1.hears theMethod below0 = true := by decide +kernel
set_option maxRecDepth 65536 in
theorem w_ripe : about1.ripe theMethod args0 below0 = true := by decide +kernel
theorem w_running : about1.status = .running := rfl
set_option maxRecDepth 65536 in
theorem w_room : about1.hasRoom e0.platform room_1 = true :=
  launch0.hasRoom_least _ room_1 (by decide +kernel) (by decide +kernel) (by decide +kernel) (by decide +kernel) (by decide +kernel) (by decide +kernel)
theorem allAtoms_all (ts : List Jvm.Cond) (a : Array Jvm.Value) (st : Jvm.State) : (allAtoms ts).before a st = ts.all (fun c => c.before a st) := by
  induction ts with
  | nil => rfl
  | cons c t ih =>
    show (Jvm.Cond.and c (allAtoms t)).before a st = _
    rw [Jvm.Cond.before_and, ih, List.all_cons]
def words1 : List Jvm.Cond := Jvm.Cond.code x code maxLocals ret :: tables_1
/-- a 'code' word, met by the world's own term for the bytes: nothing is compared byte by byte -/
theorem code_word {y : MethodName} {bytes : ByteArray} {mx : Nat} {rt : Option FieldType} {a : Array Value} {s : State} {m : MethodId} {meth : Method} {c : Code} (h1 : s.methodNamed? y = some m) (h2 : s.vm.method? m = some meth) (h3 : meth.code = some c) (h4 : c.code = bytes)
    (h5 : (c.maxLocals == mx && c.exceptionTable.isEmpty && decide (c.maxStack ≤ mostOperands) && decide (meth.sig.returnType = rt) && !meth.locks && decide (parseMethodDescriptor y.desc = some meth.sig)) = true) : (Jvm.Cond.code y bytes mx rt).before a s = true := by
  simp only [Bool.and_eq_true, beq_iff_eq, Bool.not_eq_true', decide_eq_true_eq] at h5
  obtain ⟨⟨⟨⟨⟨g1, g2⟩, g3⟩, g4⟩, g5⟩, g6⟩ := h5
  simp [Cond.before, Cond.holds, Cond.value, h1, h2, h3, h4, g1, g2, g3, g4, g5, g6]
def isCode : Jvm.Cond → Bool
  | .code _ _ _ _ => true
  | _ => false
theorem all_split {L : List Jvm.Cond} {P : Jvm.Cond → Bool} (h1 : L.all (fun c => isCode c || P c) = true) (h2 : ∀ c ∈ L.filter isCode, P c = true) : L.all P = true := by
  refine List.all_eq_true.mpr fun c hc => ?_
  have h := List.all_eq_true.mp h1 c hc
  rcases Bool.eq_false_or_eq_true (isCode c) with hi | hi
  · exact h2 c (List.mem_filter.mpr ⟨hc, hi⟩)
  · simpa [hi] using h
set_option maxRecDepth 65536 in
theorem w_c0 : (Jvm.Cond.code x code maxLocals ret).before args0 about1 = true := code_word (m := ⟨1, 1⟩) (meth := k1m1) (c := k1c1) (by decide +kernel) rfl rfl rfl (by decide +kernel)
set_option maxRecDepth 65536 in
theorem w_c1 : (Jvm.Cond.code ({ cls := "com/example/shingle/shingle/Fingerprint", name := "of", desc := "(J)J" } : Jvm.MethodName) prog_9_method_4_code (4 : Nat) (Option.some Jvm.ClassFile.FieldType.long)).before args0 about1 = true := code_word (m := ⟨2, 1⟩) (meth := k2m1) (c := k2c1) (by decide +kernel) rfl rfl rfl (by decide +kernel)
def codes1 : List Jvm.Cond := [Jvm.Cond.code x code maxLocals ret, Jvm.Cond.code ({ cls := "com/example/shingle/shingle/Fingerprint", name := "of", desc := "(J)J" } : Jvm.MethodName) prog_9_method_4_code (4 : Nat) (Option.some Jvm.ClassFile.FieldType.long)]
set_option maxRecDepth 65536 in
theorem codes_eq : words1.filter isCode = codes1 := rfl
theorem w_codes : ∀ c ∈ words1.filter isCode, c.before args0 about1 = true := by
  rw [codes_eq]
  intro c hc
  simp only [codes1, List.mem_cons, List.not_mem_nil, or_false] at hc
  rcases hc with rfl | rfl
  · exact w_c0
  · exact w_c1
set_option maxRecDepth 65536 in
theorem w_t1 : words1.all (fun c => isCode c || c.before args0 about1) = true := by decide +kernel
theorem w_tables : (allAtoms (Jvm.Cond.code x code maxLocals ret :: tables_1)).before args0 about1 = true := by
  rw [allAtoms_all]
  show words1.all (fun c => c.before args0 about1) = true
  refine all_split ?_ w_codes
  rw [w_t1]
set_option maxRecDepth 65536 in
theorem w_case : (Jvm.Cond.and given_1 narrow_1).before args0 about1 = true := by decide +kernel
theorem w_applies : (headSpec (Jvm.Cond.code x code maxLocals ret :: tables_1) room_1).applies x e0.platform about1 = true :=
  (Spec.applies_iff w_frames).mpr ⟨w_running, w_runnable, w_alone, w_named, w_hears, w_ripe, w_room, w_tables⟩
theorem atStart : AtStart classFile x code maxLocals ret World_1 tables_1 room_1 Calls_1 rest_1 Pre_1 launch0 p0 e0 about1 theMethod args0 below0 :=
  ⟨lists_1, trivial, launch0.admits_env _ _ _, launch0.least_env, fairChoices_fair.cas, fairChoices_fair.clock, w_frames, w_args, w_heap, w_applies, trivial, trivial, w_case⟩
end start1
theorem witness_1 : WitnessClaimed_1 := ⟨start1.p0, start1.e0, start1.about1, start1.theMethod, start1.args0, start1.below0, start1.atStart⟩
end Jvm.Pilot.@@N@@
