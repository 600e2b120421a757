import JvmDerived
import JvmDerived.Pilot.@@N@@Statement
import JvmDerived.Pilot.@@N@@Code
set_option linter.unusedVariables false
set_option linter.unusedSimpArgs false
namespace Jvm.RoadKit
open Sem ClassFile Op Lib Jvm.Stand Jvm.Free Jvm.LawKit
section New
variable {p : Program} {l : Launch} {e : Env} {R : Room} {s : State} {m : MethodId} {args : Array Value} {below : List Frame} {meth : Method} {c : Code} {T : State} {locs : List Loc} {cells slots : Nat}
theorem retI (X : Stand p l e R s m args below meth c T locs cells slots) (hx : p.tables.exec = Jvm.exec) {pc : Nat} {Ls : Array Slot} {z : Int32} {rest : List Value} (hret : meth.sig.returnType = some .int) (hd : decode c.code pc = .ok (.ireturn, 1)) {fs : List Frame}
    (hl : ∀ (f : JFrame) (acts : List Action), f.method = m → f.locked = none → f.entered = [] → (doReturn e (T.setTop f) acts (some (.int z))).1 = T.setFrames fs) : Steps p.tables e below (T.setTop (mkF m pc Ls (.int z :: rest))) (T.setFrames fs) := by
  have hm' : T.vm.method? m = some meth := X.method'
  have hn : narrow .int (.int z) = .int z := rfl
  show Steps p.tables e below (T.setTop { method := m, pc := pc, locals := Ls, stack := _ :: rest, locked := none }) _
  jvm_step X.here [X.here.top, hx, hd, hm', hret, hn]
  first | (intro acts; rw [hl _ acts rfl rfl rfl]) | rw [hl _ _ rfl rfl rfl]
  exact Steps.refl _
end New
end Jvm.RoadKit
namespace Jvm.Pilot.@@N@@
open Jvm Jvm.ClassFile Sem Op Lib Jvm.Free Jvm.Stand Jvm.LawKit Jvm.RoadKit Bundle Jvm.Pilot.@@N@@.Jvm.D
theorem pd_0 : parseMethodDescriptor "(JI)I" = some ⟨[.long, .int], some .int⟩ := by decide +kernel
theorem d1_0 : decode prog_85_method_4_code 0 = .ok (.lload_n 0, 1) := by decide +kernel
theorem d1_1 : decode prog_85_method_4_code 1 = .ok (.iload_n 2, 1) := by decide +kernel
theorem d1_2 : decode prog_85_method_4_code 2 = .ok (.i2l, 1) := by decide +kernel
theorem d1_3 : decode prog_85_method_4_code 3 = .ok (.lmul, 1) := by decide +kernel
theorem d1_4 : decode prog_85_method_4_code 4 = .ok (.lstore_n 3, 1) := by decide +kernel
theorem d1_5 : decode prog_85_method_4_code 5 = .ok (.lload_n 0, 1) := by decide +kernel
theorem d1_6 : decode prog_85_method_4_code 6 = .ok (.ldc2_w 41, 3) := by decide +kernel
theorem d1_9 : decode prog_85_method_4_code 9 = .ok (.lcmp, 1) := by decide +kernel
theorem d1_10 : decode prog_85_method_4_code 10 = .ok (.ifCond .gt 11, 3) := by decide +kernel
theorem d1_13 : decode prog_85_method_4_code 13 = .ok (.lload_n 3, 1) := by decide +kernel
theorem d1_14 : decode prog_85_method_4_code 14 = .ok (.ldc2_w 41, 3) := by decide +kernel
theorem d1_17 : decode prog_85_method_4_code 17 = .ok (.lcmp, 1) := by decide +kernel
theorem d1_18 : decode prog_85_method_4_code 18 = .ok (.ifCond .le 18, 3) := by decide +kernel
theorem d1_36 : decode prog_85_method_4_code 36 = .ok (.lload_n 3, 1) := by decide +kernel
theorem d1_37 : decode prog_85_method_4_code 37 = .ok (.l2i, 1) := by decide +kernel
theorem d1_38 : decode prog_85_method_4_code 38 = .ok (.ireturn, 1) := by decide +kernel
theorem pn_1 : plainName "com/example/wattle/wattle/network/ResultRows" = true := by first | (simp [plainName, overriddenIn]; done) | decide +kernel
theorem ef_1 (m : MethodId) (x0 : Int64) (x1 : Int32) : entryFrame m #[(.long x0), (.int x1)] 5 = mkF m 0 #[.val (.long x0), .second, .val (.int x1), .unset, .unset] [] := by first | (simp [entryFrame, mkF, argsToLocals, Value.category]; done) | rfl
def f1 (rows : Int64) (col : Int32) : Int32 := ((rows * (col.toInt64)).toInt32)
def Q1 (Z : State) (rows : Int64) (col : Int32) (h0 : Heap) (n0 : Nat) (v : Option Value) (h : Heap) (L : List Loc) : Prop := v = some (.int (f1 rows col)) ∧ Fr n0 L ∧ h = h0
set_option maxRecDepth 65536 in
set_option maxHeartbeats 40000000 in
theorem rm1 (l : Launch) (Z : State) (a0 : Array Value) (hw : ∀ d ∈ tables_1, d.before a0 Z = true) (ws : List Jvm.Cond) (rows : Int64) (col : Int32)  (h0 : Heap) (n0 : Nat) (Z0 : n0 ≤ h0.size) (hA : ¬ ((0 : Int32) < (lcmpW rows (2147483639 : Int64)))) (hB : ¬ ((0 : Int32) < (lcmpW (rows * (col.toInt64)) (2147483639 : Int64)))) :
    MetFree l (⟨"com/example/wattle/wattle/network/ResultRows", "cellsOf", "(JI)I"⟩ : MethodName) (head1 (Jvm.Cond.code (⟨"com/example/wattle/wattle/network/ResultRows", "cellsOf", "(JI)I"⟩ : MethodName) prog_85_method_4_code 5 (some .int) :: ws) ({ frames := 0, cells := 0, slots := 0, locals := 0 } : Room)) (fun a U => a = #[(.long rows), (.int col)] ∧ Z.Warmed39 U.vm ∧ U.heap = h0) (fun _ _ _ _ _ => True) (fun _ U o U' => ∃ v L, o = .returned v ∧ Q1 Z rows col h0 n0 v U'.heap L ∧ FrameEnd U o U' L ({ frames := 0, cells := 0, slots := 0, locals := 0 } : Room).cells ({ frames := 0, cells := 0, slots := 0, locals := 0 } : Room).slots) := by
  refine MetFree.of_bodySF (plainFor_of_name pn_1) hisR ?_
  intro p e s m args below meth c s₁ Bd hml0 hP hK
  obtain ⟨rfl, hZ, hh⟩ := hP
  have hx := Bd.exec
  have hby := Bd.bytes
  have hml : c.maxLocals = 5 := hml0
  have hown : s.vm.findClass "com/example/wattle/wattle/network/ResultRows" = some m.cls := findClass_of_methodNamed Bd.named
  have hnm := (name_of_methodNamed Bd.named Bd.method).1
  have X0 : Stand p l e ({ frames := 0, cells := 0, slots := 0, locals := 0 } : Room) s m #[(.long rows), (.int col)] below meth c s₁ [] 0 0 := Stand.of_body Bd
  have e0 : s₁.heap = h0 := by rw [← hh, Bd.state]; rfl
  have N0 := Fr.nil n0
  have pre0 : ∀ t, Steps p.tables e below (s₁.setTop (mkF m 0 #[.val (.long rows), .second, .val (.int col), .unset, .unset] [])) t → Steps p.tables e below (s₁.setTop (entryFrame m #[(.long rows), (.int col)] 5)) t := fun t k => castTop (ef_1 m rows col) k
  have hv : (f1 rows col) = ((rows * (col.toInt64)).toInt32) := rfl
  obtain ⟨fs, hr, hrun, hended, hW, hsame⟩ := X0.leave (v := some (.int ((rows * (col.toInt64)).toInt32))) (fun h => by rw [Bd.returns] at h; cases h)
  refine ⟨_, _, pre0 _ ?_, hrun, hended, _, _, rfl, ?_, ⟨_, rfl⟩, hW, hsame.mono (by decide) (by decide)⟩
  · show Steps p.tables e below (s₁.setTop (mkF m 0 #[.val (.long rows), .second, .val (.int col), .unset, .unset] [])) _
    refine XS.lloadN X0.here hx rfl (hb hby d1_0) rfl ?_
    show Steps p.tables e below (s₁.setTop (mkF m 1 #[.val (.long rows), .second, .val (.int col), .unset, .unset] [(.long rows)])) _
    refine XS.iloadN X0.here hx rfl (hb hby d1_1) rfl ?_
    show Steps p.tables e below (s₁.setTop (mkF m 2 #[.val (.long rows), .second, .val (.int col), .unset, .unset] [(.int col), (.long rows)])) _
    refine XS.i2l X0.here hx rfl (hb hby d1_2) rfl ?_
    show Steps p.tables e below (s₁.setTop (mkF m 3 #[.val (.long rows), .second, .val (.int col), .unset, .unset] [(.long (col.toInt64)), (.long rows)])) _
    refine XS.lmul X0.here hx rfl (hb hby d1_3) rfl ?_
    show Steps p.tables e below (s₁.setTop (mkF m 4 #[.val (.long rows), .second, .val (.int col), .unset, .unset] [(.long (rows * (col.toInt64)))])) _
    refine XS.lstoreN X0.here hx rfl (hb hby d1_4) rfl (l' := #[.val (.long rows), .second, .val (.int col), .val (.long (rows * (col.toInt64))), .second]) rfl ?_
    show Steps p.tables e below (s₁.setTop (mkF m 5 #[.val (.long rows), .second, .val (.int col), .val (.long (rows * (col.toInt64))), .second] [])) _
    refine XS.lloadN X0.here hx rfl (hb hby d1_5) rfl ?_
    show Steps p.tables e below (s₁.setTop (mkF m 6 #[.val (.long rows), .second, .val (.int col), .val (.long (rows * (col.toInt64))), .second] [(.long rows)])) _
    refine X0.ldc2Long hx hown (mvT hZ (hw _ (List.mem_of_getElem? (i := 7) rfl))) (g := (mkF m 6 #[.val (.long rows), .second, .val (.int col), .val (.long (rows * (col.toInt64))), .second] [(.long rows)])) rfl (hb hby d1_6) _ ?_
    show Steps p.tables e below (s₁.setTop (mkF m 9 #[.val (.long rows), .second, .val (.int col), .val (.long (rows * (col.toInt64))), .second] [(.long (2147483639 : Int64)), (.long rows)])) _
    refine XS.lcmp X0.here hx rfl (hb hby d1_9) rfl ?_
    show Steps p.tables e below (s₁.setTop (mkF m 10 #[.val (.long rows), .second, .val (.int col), .val (.long (rows * (col.toInt64))), .second] [(.int (lcmpW rows (2147483639 : Int64)))])) _
    refine XS.ifNo X0.here hx rfl (hb hby d1_10) rfl ((if0 _ _).trans (flt (hA : ¬ ((0 : Int32) < (lcmpW rows (2147483639 : Int64))))).2.2.1) ?_
    show Steps p.tables e below (s₁.setTop (mkF m 13 #[.val (.long rows), .second, .val (.int col), .val (.long (rows * (col.toInt64))), .second] [])) _
    refine XS.lloadN X0.here hx rfl (hb hby d1_13) rfl ?_
    show Steps p.tables e below (s₁.setTop (mkF m 14 #[.val (.long rows), .second, .val (.int col), .val (.long (rows * (col.toInt64))), .second] [(.long (rows * (col.toInt64)))])) _
    refine X0.ldc2Long hx hown (mvT hZ (hw _ (List.mem_of_getElem? (i := 7) rfl))) (g := (mkF m 14 #[.val (.long rows), .second, .val (.int col), .val (.long (rows * (col.toInt64))), .second] [(.long (rows * (col.toInt64)))])) rfl (hb hby d1_14) _ ?_
    show Steps p.tables e below (s₁.setTop (mkF m 17 #[.val (.long rows), .second, .val (.int col), .val (.long (rows * (col.toInt64))), .second] [(.long (2147483639 : Int64)), (.long (rows * (col.toInt64)))])) _
    refine XS.lcmp X0.here hx rfl (hb hby d1_17) rfl ?_
    show Steps p.tables e below (s₁.setTop (mkF m 18 #[.val (.long rows), .second, .val (.int col), .val (.long (rows * (col.toInt64))), .second] [(.int (lcmpW (rows * (col.toInt64)) (2147483639 : Int64)))])) _
    refine XS.ifYes X0.here hx rfl (pc0 := 18) (pc' := 36) rfl (hb hby d1_18) rfl ((if0 _ _).trans (flt (hB : ¬ ((0 : Int32) < (lcmpW (rows * (col.toInt64)) (2147483639 : Int64))))).2.2.2) (by decide) (by decide) ?_
    show Steps p.tables e below (s₁.setTop (mkF m 36 #[.val (.long rows), .second, .val (.int col), .val (.long (rows * (col.toInt64))), .second] [])) _
    refine XS.lloadN X0.here hx rfl (hb hby d1_36) rfl ?_
    show Steps p.tables e below (s₁.setTop (mkF m 37 #[.val (.long rows), .second, .val (.int col), .val (.long (rows * (col.toInt64))), .second] [(.long (rows * (col.toInt64)))])) _
    refine XS.l2i X0.here hx rfl (hb hby d1_37) rfl ?_
    show Steps p.tables e below (s₁.setTop (mkF m 38 #[.val (.long rows), .second, .val (.int col), .val (.long (rows * (col.toInt64))), .second] [(.int ((rows * (col.toInt64)).toInt32))])) _
    exact retI X0 hx Bd.returns (hb hby d1_38) hr
  · exact ⟨by rw [hv], N0, e0⟩
theorem pn_0 : plainName "com/example/wattle/wattle/network/ResultRowsCellsOfPinLaw" = true := by first | (simp [plainName, overriddenIn]; done) | decide +kernel
theorem ef_0 (m : MethodId) (x0 : Int64) (x1 : Int32) (x2 : Int32) : entryFrame m #[(.long x0), (.int x1), (.int x2)] maxLocals = mkF m 0 #[.val (.long x0), .second, .val (.int x1), .val (.int x2), .unset, .unset, .unset, .unset, .unset, .unset] [] := by first | (simp [entryFrame, mkF, argsToLocals, Value.category, maxLocals]; done) | rfl
def v0_1 (q0 : Int64) (p2 : Int32) : Int64 := (((q0 &&& (2147483647 : Int64)).toUInt64 >>> ((p2 &&& (31 : Int32)) &&& 0x3f).toInt64.toUInt64).toInt64)
def v0_2 (p1 : Int32) (p2 : Int32) : Int32 := (((p1 &&& (2147483647 : Int32)).toUInt32 >>> ((((p2.toUInt32 >>> ((5 : Int32) &&& 31).toUInt32).toInt32) &&& (31 : Int32)) &&& 31).toUInt32).toInt32)

theorem own_lcW (x y : Int64) : ((0 : Int32) < lcmpW x y) ↔ y < x := by rw [lcW]; exact lc_gt x y
theorem own_r (q : Int64) (s : Int32) : 0 ≤ (v0_1 q s).toInt ∧ (v0_1 q s).toInt < 2147483648 := by
  unfold v0_1
  generalize ((s &&& (31 : Int32)) &&& 0x3f).toInt64.toUInt64 = w
  have e : (((q &&& (2147483647 : Int64)).toUInt64 >>> w).toInt64).toBitVec = (q &&& (2147483647 : Int64)).toBitVec >>> (w.toBitVec % 64#64) := UInt64.toBitVec_shiftRight _ _
  have e2 : (((q &&& (2147483647 : Int64)).toUInt64 >>> w).toInt64).toBitVec.toNat < 2147483648 := by
    rw [e, BitVec.ushiftRight_eq', BitVec.toNat_ushiftRight, Nat.shiftRight_eq_div_pow]
    refine Nat.lt_of_le_of_lt (Nat.div_le_self _ _) ?_
    rw [Int64.toBitVec_and, BitVec.toNat_and]
    exact Nat.lt_of_le_of_lt Nat.and_le_right (by decide)
  generalize (((q &&& (2147483647 : Int64)).toUInt64 >>> w).toInt64) = z at *
  have e3 : z.toInt = z.toBitVec.toInt := rfl
  rw [e3, BitVec.toInt_eq_toNat_cond, if_pos (by omega)]; omega
theorem own_c (p s : Int32) : 0 ≤ (v0_2 p s).toInt := by
  unfold v0_2
  generalize ((((s.toUInt32 >>> ((5 : Int32) &&& 31).toUInt32).toInt32) &&& (31 : Int32)) &&& 31).toUInt32 = w
  have e : (((p &&& (2147483647 : Int32)).toUInt32 >>> w).toInt32).toBitVec = (p &&& (2147483647 : Int32)).toBitVec >>> (w.toBitVec % 32#32) := UInt32.toBitVec_shiftRight _ _
  have e2 : (((p &&& (2147483647 : Int32)).toUInt32 >>> w).toInt32).toBitVec.toNat < 2147483648 := by
    rw [e, BitVec.ushiftRight_eq', BitVec.toNat_ushiftRight, Nat.shiftRight_eq_div_pow]
    refine Nat.lt_of_le_of_lt (Nat.div_le_self _ _) ?_
    rw [Int32.toBitVec_and, BitVec.toNat_and]
    exact Nat.lt_of_le_of_lt Nat.and_le_right (by decide)
  generalize (((p &&& (2147483647 : Int32)).toUInt32 >>> w).toInt32) = z at *
  have e3 : z.toInt = z.toBitVec.toInt := rfl
  rw [e3, BitVec.toInt_eq_toNat_cond, if_pos (by omega)]; omega
theorem own_prod (r : Int64) (c : Int32) (h0 : 0 ≤ r.toInt) (h1 : 0 ≤ c.toInt) (h2 : r.toInt * c.toInt ≤ 2147483639) : (r * c.toInt64).toInt = r.toInt * c.toInt := by
  have hz : 0 ≤ r.toInt * c.toInt := Int.mul_nonneg h0 h1
  rw [Int64.toInt_mul, Int32.toInt_toInt64, Int.bmod_eq_of_le (by omega) (by omega)]
theorem own_nz {c : Int32} (h : ¬ c = 0) : c.toInt64 ≠ 0 := fun q => h (by
  have : c.toInt64.toInt = 0 := by rw [q]; rfl
  rw [Int32.toInt_toInt64] at this
  exact Int32.toInt_inj.mp this)
theorem own_bz (r : Int64) (c : Int32) (h2 : c = 0) : r.toInt * c.toInt ≤ 2147483639 := by subst h2; show r.toInt * 0 ≤ _; omega
theorem own_bd (r : Int64) (c : Int32) (h0 : 0 ≤ r.toInt) (h1 : 0 ≤ c.toInt) (hn : ¬ c = 0) (hd : ¬ (0 : Int32) < lcmpW r ((2147483639 : Int64) / c.toInt64)) : r.toInt * c.toInt ≤ 2147483639 := by
  rw [own_lcW, Int64.lt_iff_toInt_lt] at hd
  have hc : 0 < c.toInt := by
    rcases Int.lt_or_eq_of_le h1 with h | h
    · exact h
    · exact absurd (Int32.toInt_inj.mp (show c.toInt = (0 : Int32).toInt from h.symm)) hn
  have hne : c.toInt64 ≠ -1 := fun q => by
    have : c.toInt64.toInt = -1 := by rw [q]; rfl
    rw [Int32.toInt_toInt64] at this; omega
  rw [Int64.toInt_div_of_ne_right _ _ hne, Int32.toInt_toInt64] at hd
  have e : (2147483639 : Int64).toInt = 2147483639 := rfl
  rw [e, Int.tdiv_eq_ediv_of_nonneg (by decide)] at hd
  have hd' : r.toInt ≤ 2147483639 / c.toInt := by omega
  have := Int.mul_le_mul_of_nonneg_right hd' h1
  have h3 : 2147483639 / c.toInt * c.toInt ≤ 2147483639 := Int.ediv_mul_le _ (by omega)
  omega
theorem own_ok {r : Int64} {c : Int32} (h0 : 0 ≤ r.toInt) (h1 : 0 ≤ c.toInt) (h2 : r.toInt * c.toInt ≤ 2147483639) : ¬ (0 : Int32) < lcmpW (r * c.toInt64) (2147483639 : Int64) := by
  rw [own_lcW, Int64.lt_iff_toInt_lt, own_prod r c h0 h1 h2]
  have e : (2147483639 : Int64).toInt = 2147483639 := rfl
  rw [e]; omega
theorem own_okz {q : Int64} {p s : Int32} (h : ¬ (0 : Int32) < lcmpW (v0_1 q s) (2147483639 : Int64)) (hz : v0_2 p s = 0) : ¬ (0 : Int32) < lcmpW (v0_1 q s * (v0_2 p s).toInt64) (2147483639 : Int64) :=
  own_ok (own_r q s).1 (own_c p s) (own_bz _ _ hz)
theorem own_okd {q : Int64} {p s : Int32} (h : ¬ (0 : Int32) < lcmpW (v0_1 q s) (2147483639 : Int64)) (hz : ¬ v0_2 p s = 0) (hd : ¬ (0 : Int32) < lcmpW (v0_1 q s) ((2147483639 : Int64) / (v0_2 p s).toInt64)) : ¬ (0 : Int32) < lcmpW (v0_1 q s * (v0_2 p s).toInt64) (2147483639 : Int64) :=
  own_ok (own_r q s).1 (own_c p s) (own_bd _ _ (own_r q s).1 (own_c p s) hz hd)

def f0 (q0 : Int64) (p1 : Int32) (p2 : Int32) : Int32 := (if (0 : Int32) < (lcmpW (v0_1 q0 p2) (2147483639 : Int64)) then (1 : Int32) else (if (v0_2 p1 p2) = (0 : Int32) then (if (f1 (v0_1 q0 p2) (v0_2 p1 p2)) < (0 : Int32) then (0 : Int32) else (if (lcmpW ((f1 (v0_1 q0 p2) (v0_2 p1 p2)).toInt64) ((v0_1 q0 p2) * ((v0_2 p1 p2).toInt64))) = (0 : Int32) then (1 : Int32) else (0 : Int32))) else (if (0 : Int32) < (lcmpW (v0_1 q0 p2) ((2147483639 : Int64) / ((v0_2 p1 p2).toInt64))) then (1 : Int32) else (if (f1 (v0_1 q0 p2) (v0_2 p1 p2)) < (0 : Int32) then (0 : Int32) else (if (lcmpW ((f1 (v0_1 q0 p2) (v0_2 p1 p2)).toInt64) ((v0_1 q0 p2) * ((v0_2 p1 p2).toInt64))) = (0 : Int32) then (1 : Int32) else (0 : Int32))))))
def Q0 (Z : State) (q0 : Int64) (p1 : Int32) (p2 : Int32) (h0 : Heap) (n0 : Nat) (v : Option Value) (h : Heap) (L : List Loc) : Prop := v = some (.int (f0 q0 p1 p2)) ∧ Fr n0 L

set_option maxRecDepth 65536 in
set_option maxHeartbeats 40000000 in
theorem rm0 (l : Launch) (Z : State) (a0 : Array Value) (hw : ∀ d ∈ tables_1, d.before a0 Z = true) (ws : List Jvm.Cond) (q0 : Int64) (p1 : Int32) (p2 : Int32)  (h0 : Heap) (n0 : Nat) (Z0 : n0 ≤ h0.size)  :
    MetFree l x (head1 (Jvm.Cond.code x code maxLocals ret :: ws) room_1) (fun a U => a = #[(.long q0), (.int p1), (.int p2)] ∧ Z.Warmed39 U.vm ∧ U.heap = h0) (fun _ _ _ _ _ => True) (fun _ U o U' => ∃ v L, o = .returned v ∧ Q0 Z q0 p1 p2 h0 n0 v U'.heap L ∧ FrameEnd U o U' L room_1.cells room_1.slots) := by
  refine MetFree.of_bodySF (plainFor_of_name pn_0) hisR ?_
  intro p e s m args below meth c s₁ Bd hml0 hP hK
  obtain ⟨rfl, hZ, hh⟩ := hP
  have hx := Bd.exec
  have hby := Bd.bytes
  have hml : c.maxLocals = 10 := hml0
  have hown : s.vm.findClass "com/example/wattle/wattle/network/ResultRowsCellsOfPinLaw" = some m.cls := findClass_of_methodNamed Bd.named
  have hnm := (name_of_methodNamed Bd.named Bd.method).1
  have X0 : Stand p l e room_1 s m #[(.long q0), (.int p1), (.int p2)] below meth c s₁ [] 0 0 := Stand.of_body Bd
  have e0 : s₁.heap = h0 := by rw [← hh, Bd.state]; rfl
  have N0 := Fr.nil n0
  have pre0 : ∀ t, Steps p.tables e below (s₁.setTop (mkF m 0 #[.val (.long q0), .second, .val (.int p1), .val (.int p2), .unset, .unset, .unset, .unset, .unset, .unset] [])) t → Steps p.tables e below (s₁.setTop (entryFrame m #[(.long q0), (.int p1), (.int p2)] maxLocals)) t := fun t k => castTop (ef_0 m q0 p1 p2) k
  have pre1 : ∀ t, Steps p.tables e below (s₁.setTop (mkF m 35 #[.val (.long q0), .second, .val (.int p1), .val (.int p2), .val (.long (v0_1 q0 p2)), .second, .val (.int (v0_2 p1 p2)), .val (.long (2147483639 : Int64)), .second, .unset] [(.int (lcmpW (v0_1 q0 p2) (2147483639 : Int64)))])) t → Steps p.tables e below (s₁.setTop (entryFrame m #[(.long q0), (.int p1), (.int p2)] maxLocals)) t := fun t k => pre0 t (by
    show Steps p.tables e below (s₁.setTop (mkF m 0 #[.val (.long q0), .second, .val (.int p1), .val (.int p2), .unset, .unset, .unset, .unset, .unset, .unset] [])) _
    refine XS.lloadN X0.here hx rfl (hb hby at_0) rfl ?_
    show Steps p.tables e below (s₁.setTop (mkF m 1 #[.val (.long q0), .second, .val (.int p1), .val (.int p2), .unset, .unset, .unset, .unset, .unset, .unset] [(.long q0)])) _
    refine X0.ldc2Long hx hown (mvT hZ (hw _ (List.mem_of_getElem? (i := 0) rfl))) (g := (mkF m 1 #[.val (.long q0), .second, .val (.int p1), .val (.int p2), .unset, .unset, .unset, .unset, .unset, .unset] [(.long q0)])) rfl (hb hby at_1) _ ?_
    show Steps p.tables e below (s₁.setTop (mkF m 4 #[.val (.long q0), .second, .val (.int p1), .val (.int p2), .unset, .unset, .unset, .unset, .unset, .unset] [(.long (2147483647 : Int64)), (.long q0)])) _
    refine XS.land X0.here hx rfl (hb hby at_4) rfl ?_
    show Steps p.tables e below (s₁.setTop (mkF m 5 #[.val (.long q0), .second, .val (.int p1), .val (.int p2), .unset, .unset, .unset, .unset, .unset, .unset] [(.long (q0 &&& (2147483647 : Int64)))])) _
    refine XS.iloadN X0.here hx rfl (hb hby at_5) rfl ?_
    show Steps p.tables e below (s₁.setTop (mkF m 6 #[.val (.long q0), .second, .val (.int p1), .val (.int p2), .unset, .unset, .unset, .unset, .unset, .unset] [(.int p2), (.long (q0 &&& (2147483647 : Int64)))])) _
    refine XS.bipush X0.here hx rfl (hb hby at_6) ?_
    show Steps p.tables e below (s₁.setTop (mkF m 8 #[.val (.long q0), .second, .val (.int p1), .val (.int p2), .unset, .unset, .unset, .unset, .unset, .unset] [(.int (31 : Int32)), (.int p2), (.long (q0 &&& (2147483647 : Int64)))])) _
    refine XS.iand X0.here hx rfl (hb hby at_8) rfl ?_
    show Steps p.tables e below (s₁.setTop (mkF m 9 #[.val (.long q0), .second, .val (.int p1), .val (.int p2), .unset, .unset, .unset, .unset, .unset, .unset] [(.int (p2 &&& (31 : Int32))), (.long (q0 &&& (2147483647 : Int64)))])) _
    refine XS.lushr X0.here hx rfl (hb hby at_9) rfl ?_
    show Steps p.tables e below (s₁.setTop (mkF m 10 #[.val (.long q0), .second, .val (.int p1), .val (.int p2), .unset, .unset, .unset, .unset, .unset, .unset] [(.long (((q0 &&& (2147483647 : Int64)).toUInt64 >>> ((p2 &&& (31 : Int32)) &&& 0x3f).toInt64.toUInt64).toInt64))])) _
    refine XS.lstore X0.here hx rfl (hb hby at_10) rfl (l' := #[.val (.long q0), .second, .val (.int p1), .val (.int p2), .val (.long (((q0 &&& (2147483647 : Int64)).toUInt64 >>> ((p2 &&& (31 : Int32)) &&& 0x3f).toInt64.toUInt64).toInt64)), .second, .unset, .unset, .unset, .unset]) rfl ?_
    show Steps p.tables e below (s₁.setTop (mkF m 12 #[.val (.long q0), .second, .val (.int p1), .val (.int p2), .val (.long (v0_1 q0 p2)), .second, .unset, .unset, .unset, .unset] [])) _
    refine XS.iloadN X0.here hx rfl (hb hby at_12) rfl ?_
    show Steps p.tables e below (s₁.setTop (mkF m 13 #[.val (.long q0), .second, .val (.int p1), .val (.int p2), .val (.long (v0_1 q0 p2)), .second, .unset, .unset, .unset, .unset] [(.int p1)])) _
    refine X0.ldcInt hx hown (mvT hZ (hw _ (List.mem_of_getElem? (i := 1) rfl))) (g := (mkF m 13 #[.val (.long q0), .second, .val (.int p1), .val (.int p2), .val (.long (v0_1 q0 p2)), .second, .unset, .unset, .unset, .unset] [(.int p1)])) rfl (hb hby at_13) _ ?_
    show Steps p.tables e below (s₁.setTop (mkF m 15 #[.val (.long q0), .second, .val (.int p1), .val (.int p2), .val (.long (v0_1 q0 p2)), .second, .unset, .unset, .unset, .unset] [(.int (2147483647 : Int32)), (.int p1)])) _
    refine XS.iand X0.here hx rfl (hb hby at_15) rfl ?_
    show Steps p.tables e below (s₁.setTop (mkF m 16 #[.val (.long q0), .second, .val (.int p1), .val (.int p2), .val (.long (v0_1 q0 p2)), .second, .unset, .unset, .unset, .unset] [(.int (p1 &&& (2147483647 : Int32)))])) _
    refine XS.iloadN X0.here hx rfl (hb hby at_16) rfl ?_
    show Steps p.tables e below (s₁.setTop (mkF m 17 #[.val (.long q0), .second, .val (.int p1), .val (.int p2), .val (.long (v0_1 q0 p2)), .second, .unset, .unset, .unset, .unset] [(.int p2), (.int (p1 &&& (2147483647 : Int32)))])) _
    refine XS.iconst X0.here hx rfl (hb hby at_17) ?_
    show Steps p.tables e below (s₁.setTop (mkF m 18 #[.val (.long q0), .second, .val (.int p1), .val (.int p2), .val (.long (v0_1 q0 p2)), .second, .unset, .unset, .unset, .unset] [(.int (5 : Int32)), (.int p2), (.int (p1 &&& (2147483647 : Int32)))])) _
    refine XS.iushr X0.here hx rfl (hb hby at_18) rfl ?_
    show Steps p.tables e below (s₁.setTop (mkF m 19 #[.val (.long q0), .second, .val (.int p1), .val (.int p2), .val (.long (v0_1 q0 p2)), .second, .unset, .unset, .unset, .unset] [(.int ((p2.toUInt32 >>> ((5 : Int32) &&& 31).toUInt32).toInt32)), (.int (p1 &&& (2147483647 : Int32)))])) _
    refine XS.bipush X0.here hx rfl (hb hby at_19) ?_
    show Steps p.tables e below (s₁.setTop (mkF m 21 #[.val (.long q0), .second, .val (.int p1), .val (.int p2), .val (.long (v0_1 q0 p2)), .second, .unset, .unset, .unset, .unset] [(.int (31 : Int32)), (.int ((p2.toUInt32 >>> ((5 : Int32) &&& 31).toUInt32).toInt32)), (.int (p1 &&& (2147483647 : Int32)))])) _
    refine XS.iand X0.here hx rfl (hb hby at_21) rfl ?_
    show Steps p.tables e below (s₁.setTop (mkF m 22 #[.val (.long q0), .second, .val (.int p1), .val (.int p2), .val (.long (v0_1 q0 p2)), .second, .unset, .unset, .unset, .unset] [(.int (((p2.toUInt32 >>> ((5 : Int32) &&& 31).toUInt32).toInt32) &&& (31 : Int32))), (.int (p1 &&& (2147483647 : Int32)))])) _
    refine XS.iushr X0.here hx rfl (hb hby at_22) rfl ?_
    show Steps p.tables e below (s₁.setTop (mkF m 23 #[.val (.long q0), .second, .val (.int p1), .val (.int p2), .val (.long (v0_1 q0 p2)), .second, .unset, .unset, .unset, .unset] [(.int (((p1 &&& (2147483647 : Int32)).toUInt32 >>> ((((p2.toUInt32 >>> ((5 : Int32) &&& 31).toUInt32).toInt32) &&& (31 : Int32)) &&& 31).toUInt32).toInt32))])) _
    refine XS.istore X0.here hx rfl (hb hby at_23) rfl (l' := #[.val (.long q0), .second, .val (.int p1), .val (.int p2), .val (.long (v0_1 q0 p2)), .second, .val (.int (((p1 &&& (2147483647 : Int32)).toUInt32 >>> ((((p2.toUInt32 >>> ((5 : Int32) &&& 31).toUInt32).toInt32) &&& (31 : Int32)) &&& 31).toUInt32).toInt32)), .unset, .unset, .unset]) rfl ?_
    show Steps p.tables e below (s₁.setTop (mkF m 25 #[.val (.long q0), .second, .val (.int p1), .val (.int p2), .val (.long (v0_1 q0 p2)), .second, .val (.int (v0_2 p1 p2)), .unset, .unset, .unset] [])) _
    refine X0.ldc2Long hx hown (mvT hZ (hw _ (List.mem_of_getElem? (i := 2) rfl))) (g := (mkF m 25 #[.val (.long q0), .second, .val (.int p1), .val (.int p2), .val (.long (v0_1 q0 p2)), .second, .val (.int (v0_2 p1 p2)), .unset, .unset, .unset] [])) rfl (hb hby at_25) _ ?_
    show Steps p.tables e below (s₁.setTop (mkF m 28 #[.val (.long q0), .second, .val (.int p1), .val (.int p2), .val (.long (v0_1 q0 p2)), .second, .val (.int (v0_2 p1 p2)), .unset, .unset, .unset] [(.long (2147483639 : Int64))])) _
    refine XS.lstore X0.here hx rfl (hb hby at_28) rfl (l' := #[.val (.long q0), .second, .val (.int p1), .val (.int p2), .val (.long (v0_1 q0 p2)), .second, .val (.int (v0_2 p1 p2)), .val (.long (2147483639 : Int64)), .second, .unset]) rfl ?_
    show Steps p.tables e below (s₁.setTop (mkF m 30 #[.val (.long q0), .second, .val (.int p1), .val (.int p2), .val (.long (v0_1 q0 p2)), .second, .val (.int (v0_2 p1 p2)), .val (.long (2147483639 : Int64)), .second, .unset] [])) _
    refine XS.lload X0.here hx rfl (hb hby at_30) rfl ?_
    show Steps p.tables e below (s₁.setTop (mkF m 32 #[.val (.long q0), .second, .val (.int p1), .val (.int p2), .val (.long (v0_1 q0 p2)), .second, .val (.int (v0_2 p1 p2)), .val (.long (2147483639 : Int64)), .second, .unset] [(.long (v0_1 q0 p2))])) _
    refine XS.lload X0.here hx rfl (hb hby at_32) rfl ?_
    show Steps p.tables e below (s₁.setTop (mkF m 34 #[.val (.long q0), .second, .val (.int p1), .val (.int p2), .val (.long (v0_1 q0 p2)), .second, .val (.int (v0_2 p1 p2)), .val (.long (2147483639 : Int64)), .second, .unset] [(.long (2147483639 : Int64)), (.long (v0_1 q0 p2))])) _
    refine XS.lcmp X0.here hx rfl (hb hby at_34) rfl ?_
    show Steps p.tables e below (s₁.setTop (mkF m 35 #[.val (.long q0), .second, .val (.int p1), .val (.int p2), .val (.long (v0_1 q0 p2)), .second, .val (.int (v0_2 p1 p2)), .val (.long (2147483639 : Int64)), .second, .unset] [(.int (lcmpW (v0_1 q0 p2) (2147483639 : Int64)))])) _
    exact k)
  by_cases hc35_2 : (0 : Int32) < (lcmpW (v0_1 q0 p2) (2147483639 : Int64))
  · have hv : (f0 q0 p1 p2) = (1 : Int32) := by simp only [f0, if_pos hc35_2]
    obtain ⟨fs, hr, hrun, hended, hW, hsame⟩ := X0.leave (v := some (.int (1 : Int32))) (fun h => by rw [Bd.returns] at h; cases h)
    refine ⟨_, _, pre1 _ ?_, hrun, hended, _, _, rfl, ?_, ⟨_, rfl⟩, hW, hsame.mono (by decide) (by decide)⟩
    · show Steps p.tables e below (s₁.setTop (mkF m 35 #[.val (.long q0), .second, .val (.int p1), .val (.int p2), .val (.long (v0_1 q0 p2)), .second, .val (.int (v0_2 p1 p2)), .val (.long (2147483639 : Int64)), .second, .unset] [(.int (lcmpW (v0_1 q0 p2) (2147483639 : Int64)))])) _
      refine XS.ifNo X0.here hx rfl (hb hby at_35) rfl ((if0 _ _).trans (tlt hc35_2).2.2.2) ?_
      show Steps p.tables e below (s₁.setTop (mkF m 38 #[.val (.long q0), .second, .val (.int p1), .val (.int p2), .val (.long (v0_1 q0 p2)), .second, .val (.int (v0_2 p1 p2)), .val (.long (2147483639 : Int64)), .second, .unset] [])) _
      refine XS.iconst X0.here hx rfl (hb hby at_38) ?_
      show Steps p.tables e below (s₁.setTop (mkF m 39 #[.val (.long q0), .second, .val (.int p1), .val (.int p2), .val (.long (v0_1 q0 p2)), .second, .val (.int (v0_2 p1 p2)), .val (.long (2147483639 : Int64)), .second, .unset] [(.int (1 : Int32))])) _
      exact retN X0 hx (t := .boolean) Bd.returns (by simp) (hb hby at_39) hr
    · exact ⟨by rw [hv], N0⟩
  · have pre3 : ∀ t, Steps p.tables e below (s₁.setTop (mkF m 42 #[.val (.long q0), .second, .val (.int p1), .val (.int p2), .val (.long (v0_1 q0 p2)), .second, .val (.int (v0_2 p1 p2)), .val (.long (2147483639 : Int64)), .second, .unset] [(.int (v0_2 p1 p2))])) t → Steps p.tables e below (s₁.setTop (entryFrame m #[(.long q0), (.int p1), (.int p2)] maxLocals)) t := fun t k => pre1 t (by
      show Steps p.tables e below (s₁.setTop (mkF m 35 #[.val (.long q0), .second, .val (.int p1), .val (.int p2), .val (.long (v0_1 q0 p2)), .second, .val (.int (v0_2 p1 p2)), .val (.long (2147483639 : Int64)), .second, .unset] [(.int (lcmpW (v0_1 q0 p2) (2147483639 : Int64)))])) _
      refine XS.ifYes X0.here hx rfl (pc0 := 35) (pc' := 40) rfl (hb hby at_35) rfl ((if0 _ _).trans (flt hc35_2).2.2.2) (by decide) (by decide) ?_
      show Steps p.tables e below (s₁.setTop (mkF m 40 #[.val (.long q0), .second, .val (.int p1), .val (.int p2), .val (.long (v0_1 q0 p2)), .second, .val (.int (v0_2 p1 p2)), .val (.long (2147483639 : Int64)), .second, .unset] [])) _
      refine XS.iload X0.here hx rfl (hb hby at_40) rfl ?_
      show Steps p.tables e below (s₁.setTop (mkF m 42 #[.val (.long q0), .second, .val (.int p1), .val (.int p2), .val (.long (v0_1 q0 p2)), .second, .val (.int (v0_2 p1 p2)), .val (.long (2147483639 : Int64)), .second, .unset] [(.int (v0_2 p1 p2))])) _
      exact k)
    by_cases hc42_4 : (v0_2 p1 p2) = (0 : Int32)
    · obtain ⟨_, _, ⟨T5, L5, k5, n5⟩, -, X5, ⟨Lc5, hQ5, l5, y5, z5⟩, st5⟩ := Jvm.LawKit.callS X0 hx (y := (⟨"com/example/wattle/wattle/network/ResultRows", "cellsOf", "(JI)I"⟩ : MethodName)) hown (mvT hZ (hw _ (List.mem_of_getElem? (i := 3) rfl))) (mvT hZ (hw _ (List.mem_of_getElem? (i := 4) rfl))) (mvT hZ (hw _ (List.mem_of_getElem? (i := 5) rfl))) (mvT hZ (hw _ (List.mem_of_getElem? (i := 6) rfl))) (by decide) (backOf (W := 0) (rm1 l Z a0 hw [] (v0_1 q0 p2) (v0_2 p1 p2) h0 n0 Z0 hc35_2 (own_okz hc35_2 hc42_4)) hZ (hw _ (List.mem_of_getElem? (i := 6) rfl)) (hw _ (List.mem_of_getElem? (i := 5) rfl)) (by decide) (by decide)) (g := (mkF m 63 #[.val (.long q0), .second, .val (.int p1), .val (.int p2), .val (.long (v0_1 q0 p2)), .second, .val (.int (v0_2 p1 p2)), .val (.long (2147483639 : Int64)), .second, .unset] [(.int (v0_2 p1 p2)), (.long (v0_1 q0 p2))])) rfl (by rw [hml]; rfl) (argsL := [(.long (v0_1 q0 p2)), (.int (v0_2 p1 p2))]) (rest := []) (lenOf pd_0 rfl) rfl (by show 2 * 0 + _ ≤ _; exact Nat.le_of_eq rfl) (hb hby at_63) (fun _ _ => ⟨rfl, e0, (by decide : 0 + 0 ≤ _), (by decide : 0 + 0 ≤ _)⟩)
      dsimp only [Pt.U, Pt.locs, Pt.cells, Pt.slots] at X5 l5 y5 z5 st5 hQ5
      subst l5 y5 z5
      obtain ⟨rfl, N5q, e5⟩ := hQ5
      have N5 := Fr.app N0 N5q
      have pre6 : ∀ t, Steps p.tables e below (T5.setTop (mkF m 70 #[.val (.long q0), .second, .val (.int p1), .val (.int p2), .val (.long (v0_1 q0 p2)), .second, .val (.int (v0_2 p1 p2)), .val (.long (2147483639 : Int64)), .second, .val (.int (f1 (v0_1 q0 p2) (v0_2 p1 p2)))] [(.int (f1 (v0_1 q0 p2) (v0_2 p1 p2)))])) t → Steps p.tables e below (s₁.setTop (entryFrame m #[(.long q0), (.int p1), (.int p2)] maxLocals)) t := fun t k => pre3 t (by
        show Steps p.tables e below (s₁.setTop (mkF m 42 #[.val (.long q0), .second, .val (.int p1), .val (.int p2), .val (.long (v0_1 q0 p2)), .second, .val (.int (v0_2 p1 p2)), .val (.long (2147483639 : Int64)), .second, .unset] [(.int (v0_2 p1 p2))])) _
        refine XS.ifYes X0.here hx rfl (pc0 := 42) (pc' := 59) rfl (hb hby at_42) rfl ((if0 _ _).trans (teq hc42_4).1) (by decide) (by decide) ?_
        show Steps p.tables e below (s₁.setTop (mkF m 59 #[.val (.long q0), .second, .val (.int p1), .val (.int p2), .val (.long (v0_1 q0 p2)), .second, .val (.int (v0_2 p1 p2)), .val (.long (2147483639 : Int64)), .second, .unset] [])) _
        refine XS.lload X0.here hx rfl (hb hby at_59) rfl ?_
        show Steps p.tables e below (s₁.setTop (mkF m 61 #[.val (.long q0), .second, .val (.int p1), .val (.int p2), .val (.long (v0_1 q0 p2)), .second, .val (.int (v0_2 p1 p2)), .val (.long (2147483639 : Int64)), .second, .unset] [(.long (v0_1 q0 p2))])) _
        refine XS.iload X0.here hx rfl (hb hby at_61) rfl ?_
        show Steps p.tables e below (s₁.setTop (mkF m 63 #[.val (.long q0), .second, .val (.int p1), .val (.int p2), .val (.long (v0_1 q0 p2)), .second, .val (.int (v0_2 p1 p2)), .val (.long (2147483639 : Int64)), .second, .unset] [(.int (v0_2 p1 p2)), (.long (v0_1 q0 p2))])) _
        refine st5 _ ?_
        show Steps p.tables e below (T5.setTop (mkF m 66 #[.val (.long q0), .second, .val (.int p1), .val (.int p2), .val (.long (v0_1 q0 p2)), .second, .val (.int (v0_2 p1 p2)), .val (.long (2147483639 : Int64)), .second, .unset] [(.int (f1 (v0_1 q0 p2) (v0_2 p1 p2)))])) _
        refine XS.istore X5.here hx rfl (hb hby at_66) rfl (l' := #[.val (.long q0), .second, .val (.int p1), .val (.int p2), .val (.long (v0_1 q0 p2)), .second, .val (.int (v0_2 p1 p2)), .val (.long (2147483639 : Int64)), .second, .val (.int (f1 (v0_1 q0 p2) (v0_2 p1 p2)))]) rfl ?_
        show Steps p.tables e below (T5.setTop (mkF m 68 #[.val (.long q0), .second, .val (.int p1), .val (.int p2), .val (.long (v0_1 q0 p2)), .second, .val (.int (v0_2 p1 p2)), .val (.long (2147483639 : Int64)), .second, .val (.int (f1 (v0_1 q0 p2) (v0_2 p1 p2)))] [])) _
        refine XS.iload X5.here hx rfl (hb hby at_68) rfl ?_
        show Steps p.tables e below (T5.setTop (mkF m 70 #[.val (.long q0), .second, .val (.int p1), .val (.int p2), .val (.long (v0_1 q0 p2)), .second, .val (.int (v0_2 p1 p2)), .val (.long (2147483639 : Int64)), .second, .val (.int (f1 (v0_1 q0 p2) (v0_2 p1 p2)))] [(.int (f1 (v0_1 q0 p2) (v0_2 p1 p2)))])) _
        exact k)
      by_cases hc70_7 : (f1 (v0_1 q0 p2) (v0_2 p1 p2)) < (0 : Int32)
      · have hv : (f0 q0 p1 p2) = (0 : Int32) := by simp only [f0, if_neg hc35_2, if_pos hc42_4, if_pos hc70_7]
        obtain ⟨fs, hr, hrun, hended, hW, hsame⟩ := X5.leave (v := some (.int (0 : Int32))) (fun h => by rw [Bd.returns] at h; cases h)
        refine ⟨_, _, pre6 _ ?_, hrun, hended, _, _, rfl, ?_, ⟨_, rfl⟩, hW, hsame.mono (by decide) (by decide)⟩
        · show Steps p.tables e below (T5.setTop (mkF m 70 #[.val (.long q0), .second, .val (.int p1), .val (.int p2), .val (.long (v0_1 q0 p2)), .second, .val (.int (v0_2 p1 p2)), .val (.long (2147483639 : Int64)), .second, .val (.int (f1 (v0_1 q0 p2) (v0_2 p1 p2)))] [(.int (f1 (v0_1 q0 p2) (v0_2 p1 p2)))])) _
          refine XS.ifYes X5.here hx rfl (pc0 := 70) (pc' := 90) rfl (hb hby at_70) rfl ((if0 _ _).trans (tlt hc70_7).1) (by decide) (by decide) ?_
          show Steps p.tables e below (T5.setTop (mkF m 90 #[.val (.long q0), .second, .val (.int p1), .val (.int p2), .val (.long (v0_1 q0 p2)), .second, .val (.int (v0_2 p1 p2)), .val (.long (2147483639 : Int64)), .second, .val (.int (f1 (v0_1 q0 p2) (v0_2 p1 p2)))] [])) _
          refine XS.iconst X5.here hx rfl (hb hby at_90) ?_
          show Steps p.tables e below (T5.setTop (mkF m 91 #[.val (.long q0), .second, .val (.int p1), .val (.int p2), .val (.long (v0_1 q0 p2)), .second, .val (.int (v0_2 p1 p2)), .val (.long (2147483639 : Int64)), .second, .val (.int (f1 (v0_1 q0 p2) (v0_2 p1 p2)))] [(.int (0 : Int32))])) _
          exact retN X5 hx (t := .boolean) Bd.returns (by simp) (hb hby at_91) hr
        · exact ⟨by rw [hv], N5⟩
      · have pre8 : ∀ t, Steps p.tables e below (T5.setTop (mkF m 83 #[.val (.long q0), .second, .val (.int p1), .val (.int p2), .val (.long (v0_1 q0 p2)), .second, .val (.int (v0_2 p1 p2)), .val (.long (2147483639 : Int64)), .second, .val (.int (f1 (v0_1 q0 p2) (v0_2 p1 p2)))] [(.int (lcmpW ((f1 (v0_1 q0 p2) (v0_2 p1 p2)).toInt64) ((v0_1 q0 p2) * ((v0_2 p1 p2).toInt64))))])) t → Steps p.tables e below (s₁.setTop (entryFrame m #[(.long q0), (.int p1), (.int p2)] maxLocals)) t := fun t k => pre6 t (by
          show Steps p.tables e below (T5.setTop (mkF m 70 #[.val (.long q0), .second, .val (.int p1), .val (.int p2), .val (.long (v0_1 q0 p2)), .second, .val (.int (v0_2 p1 p2)), .val (.long (2147483639 : Int64)), .second, .val (.int (f1 (v0_1 q0 p2) (v0_2 p1 p2)))] [(.int (f1 (v0_1 q0 p2) (v0_2 p1 p2)))])) _
          refine XS.ifNo X5.here hx rfl (hb hby at_70) rfl ((if0 _ _).trans (flt hc70_7).1) ?_
          show Steps p.tables e below (T5.setTop (mkF m 73 #[.val (.long q0), .second, .val (.int p1), .val (.int p2), .val (.long (v0_1 q0 p2)), .second, .val (.int (v0_2 p1 p2)), .val (.long (2147483639 : Int64)), .second, .val (.int (f1 (v0_1 q0 p2) (v0_2 p1 p2)))] [])) _
          refine XS.iload X5.here hx rfl (hb hby at_73) rfl ?_
          show Steps p.tables e below (T5.setTop (mkF m 75 #[.val (.long q0), .second, .val (.int p1), .val (.int p2), .val (.long (v0_1 q0 p2)), .second, .val (.int (v0_2 p1 p2)), .val (.long (2147483639 : Int64)), .second, .val (.int (f1 (v0_1 q0 p2) (v0_2 p1 p2)))] [(.int (f1 (v0_1 q0 p2) (v0_2 p1 p2)))])) _
          refine XS.i2l X5.here hx rfl (hb hby at_75) rfl ?_
          show Steps p.tables e below (T5.setTop (mkF m 76 #[.val (.long q0), .second, .val (.int p1), .val (.int p2), .val (.long (v0_1 q0 p2)), .second, .val (.int (v0_2 p1 p2)), .val (.long (2147483639 : Int64)), .second, .val (.int (f1 (v0_1 q0 p2) (v0_2 p1 p2)))] [(.long ((f1 (v0_1 q0 p2) (v0_2 p1 p2)).toInt64))])) _
          refine XS.lload X5.here hx rfl (hb hby at_76) rfl ?_
          show Steps p.tables e below (T5.setTop (mkF m 78 #[.val (.long q0), .second, .val (.int p1), .val (.int p2), .val (.long (v0_1 q0 p2)), .second, .val (.int (v0_2 p1 p2)), .val (.long (2147483639 : Int64)), .second, .val (.int (f1 (v0_1 q0 p2) (v0_2 p1 p2)))] [(.long (v0_1 q0 p2)), (.long ((f1 (v0_1 q0 p2) (v0_2 p1 p2)).toInt64))])) _
          refine XS.iload X5.here hx rfl (hb hby at_78) rfl ?_
          show Steps p.tables e below (T5.setTop (mkF m 80 #[.val (.long q0), .second, .val (.int p1), .val (.int p2), .val (.long (v0_1 q0 p2)), .second, .val (.int (v0_2 p1 p2)), .val (.long (2147483639 : Int64)), .second, .val (.int (f1 (v0_1 q0 p2) (v0_2 p1 p2)))] [(.int (v0_2 p1 p2)), (.long (v0_1 q0 p2)), (.long ((f1 (v0_1 q0 p2) (v0_2 p1 p2)).toInt64))])) _
          refine XS.i2l X5.here hx rfl (hb hby at_80) rfl ?_
          show Steps p.tables e below (T5.setTop (mkF m 81 #[.val (.long q0), .second, .val (.int p1), .val (.int p2), .val (.long (v0_1 q0 p2)), .second, .val (.int (v0_2 p1 p2)), .val (.long (2147483639 : Int64)), .second, .val (.int (f1 (v0_1 q0 p2) (v0_2 p1 p2)))] [(.long ((v0_2 p1 p2).toInt64)), (.long (v0_1 q0 p2)), (.long ((f1 (v0_1 q0 p2) (v0_2 p1 p2)).toInt64))])) _
          refine XS.lmul X5.here hx rfl (hb hby at_81) rfl ?_
          show Steps p.tables e below (T5.setTop (mkF m 82 #[.val (.long q0), .second, .val (.int p1), .val (.int p2), .val (.long (v0_1 q0 p2)), .second, .val (.int (v0_2 p1 p2)), .val (.long (2147483639 : Int64)), .second, .val (.int (f1 (v0_1 q0 p2) (v0_2 p1 p2)))] [(.long ((v0_1 q0 p2) * ((v0_2 p1 p2).toInt64))), (.long ((f1 (v0_1 q0 p2) (v0_2 p1 p2)).toInt64))])) _
          refine XS.lcmp X5.here hx rfl (hb hby at_82) rfl ?_
          show Steps p.tables e below (T5.setTop (mkF m 83 #[.val (.long q0), .second, .val (.int p1), .val (.int p2), .val (.long (v0_1 q0 p2)), .second, .val (.int (v0_2 p1 p2)), .val (.long (2147483639 : Int64)), .second, .val (.int (f1 (v0_1 q0 p2) (v0_2 p1 p2)))] [(.int (lcmpW ((f1 (v0_1 q0 p2) (v0_2 p1 p2)).toInt64) ((v0_1 q0 p2) * ((v0_2 p1 p2).toInt64))))])) _
          exact k)
        by_cases hc83_9 : (lcmpW ((f1 (v0_1 q0 p2) (v0_2 p1 p2)).toInt64) ((v0_1 q0 p2) * ((v0_2 p1 p2).toInt64))) = (0 : Int32)
        · have hv : (f0 q0 p1 p2) = (1 : Int32) := by simp only [f0, if_neg hc35_2, if_pos hc42_4, if_neg hc70_7, if_pos hc83_9]
          obtain ⟨fs, hr, hrun, hended, hW, hsame⟩ := X5.leave (v := some (.int (1 : Int32))) (fun h => by rw [Bd.returns] at h; cases h)
          refine ⟨_, _, pre8 _ ?_, hrun, hended, _, _, rfl, ?_, ⟨_, rfl⟩, hW, hsame.mono (by decide) (by decide)⟩
          · show Steps p.tables e below (T5.setTop (mkF m 83 #[.val (.long q0), .second, .val (.int p1), .val (.int p2), .val (.long (v0_1 q0 p2)), .second, .val (.int (v0_2 p1 p2)), .val (.long (2147483639 : Int64)), .second, .val (.int (f1 (v0_1 q0 p2) (v0_2 p1 p2)))] [(.int (lcmpW ((f1 (v0_1 q0 p2) (v0_2 p1 p2)).toInt64) ((v0_1 q0 p2) * ((v0_2 p1 p2).toInt64))))])) _
            refine XS.ifNo X5.here hx rfl (hb hby at_83) rfl ((if0 _ _).trans (teq hc83_9).2) ?_
            show Steps p.tables e below (T5.setTop (mkF m 86 #[.val (.long q0), .second, .val (.int p1), .val (.int p2), .val (.long (v0_1 q0 p2)), .second, .val (.int (v0_2 p1 p2)), .val (.long (2147483639 : Int64)), .second, .val (.int (f1 (v0_1 q0 p2) (v0_2 p1 p2)))] [])) _
            refine XS.iconst X5.here hx rfl (hb hby at_86) ?_
            show Steps p.tables e below (T5.setTop (mkF m 87 #[.val (.long q0), .second, .val (.int p1), .val (.int p2), .val (.long (v0_1 q0 p2)), .second, .val (.int (v0_2 p1 p2)), .val (.long (2147483639 : Int64)), .second, .val (.int (f1 (v0_1 q0 p2) (v0_2 p1 p2)))] [(.int (1 : Int32))])) _
            refine XS.goto X5.here hx rfl (pc0 := 87) (pc' := 91) rfl (hb hby at_87) (by decide) (by decide) ?_
            show Steps p.tables e below (T5.setTop (mkF m 91 #[.val (.long q0), .second, .val (.int p1), .val (.int p2), .val (.long (v0_1 q0 p2)), .second, .val (.int (v0_2 p1 p2)), .val (.long (2147483639 : Int64)), .second, .val (.int (f1 (v0_1 q0 p2) (v0_2 p1 p2)))] [(.int (1 : Int32))])) _
            exact retN X5 hx (t := .boolean) Bd.returns (by simp) (hb hby at_91) hr
          · exact ⟨by rw [hv], N5⟩
        · have hv : (f0 q0 p1 p2) = (0 : Int32) := by simp only [f0, if_neg hc35_2, if_pos hc42_4, if_neg hc70_7, if_neg hc83_9]
          obtain ⟨fs, hr, hrun, hended, hW, hsame⟩ := X5.leave (v := some (.int (0 : Int32))) (fun h => by rw [Bd.returns] at h; cases h)
          refine ⟨_, _, pre8 _ ?_, hrun, hended, _, _, rfl, ?_, ⟨_, rfl⟩, hW, hsame.mono (by decide) (by decide)⟩
          · show Steps p.tables e below (T5.setTop (mkF m 83 #[.val (.long q0), .second, .val (.int p1), .val (.int p2), .val (.long (v0_1 q0 p2)), .second, .val (.int (v0_2 p1 p2)), .val (.long (2147483639 : Int64)), .second, .val (.int (f1 (v0_1 q0 p2) (v0_2 p1 p2)))] [(.int (lcmpW ((f1 (v0_1 q0 p2) (v0_2 p1 p2)).toInt64) ((v0_1 q0 p2) * ((v0_2 p1 p2).toInt64))))])) _
            refine XS.ifYes X5.here hx rfl (pc0 := 83) (pc' := 90) rfl (hb hby at_83) rfl ((if0 _ _).trans (feq hc83_9).2) (by decide) (by decide) ?_
            show Steps p.tables e below (T5.setTop (mkF m 90 #[.val (.long q0), .second, .val (.int p1), .val (.int p2), .val (.long (v0_1 q0 p2)), .second, .val (.int (v0_2 p1 p2)), .val (.long (2147483639 : Int64)), .second, .val (.int (f1 (v0_1 q0 p2) (v0_2 p1 p2)))] [])) _
            refine XS.iconst X5.here hx rfl (hb hby at_90) ?_
            show Steps p.tables e below (T5.setTop (mkF m 91 #[.val (.long q0), .second, .val (.int p1), .val (.int p2), .val (.long (v0_1 q0 p2)), .second, .val (.int (v0_2 p1 p2)), .val (.long (2147483639 : Int64)), .second, .val (.int (f1 (v0_1 q0 p2) (v0_2 p1 p2)))] [(.int (0 : Int32))])) _
            exact retN X5 hx (t := .boolean) Bd.returns (by simp) (hb hby at_91) hr
          · exact ⟨by rw [hv], N5⟩
    · have pre10 : ∀ t, Steps p.tables e below (s₁.setTop (mkF m 54 #[.val (.long q0), .second, .val (.int p1), .val (.int p2), .val (.long (v0_1 q0 p2)), .second, .val (.int (v0_2 p1 p2)), .val (.long (2147483639 : Int64)), .second, .unset] [(.int (lcmpW (v0_1 q0 p2) ((2147483639 : Int64) / ((v0_2 p1 p2).toInt64))))])) t → Steps p.tables e below (s₁.setTop (entryFrame m #[(.long q0), (.int p1), (.int p2)] maxLocals)) t := fun t k => pre3 t (by
        show Steps p.tables e below (s₁.setTop (mkF m 42 #[.val (.long q0), .second, .val (.int p1), .val (.int p2), .val (.long (v0_1 q0 p2)), .second, .val (.int (v0_2 p1 p2)), .val (.long (2147483639 : Int64)), .second, .unset] [(.int (v0_2 p1 p2))])) _
        refine XS.ifNo X0.here hx rfl (hb hby at_42) rfl ((if0 _ _).trans (feq hc42_4).1) ?_
        show Steps p.tables e below (s₁.setTop (mkF m 45 #[.val (.long q0), .second, .val (.int p1), .val (.int p2), .val (.long (v0_1 q0 p2)), .second, .val (.int (v0_2 p1 p2)), .val (.long (2147483639 : Int64)), .second, .unset] [])) _
        refine XS.lload X0.here hx rfl (hb hby at_45) rfl ?_
        show Steps p.tables e below (s₁.setTop (mkF m 47 #[.val (.long q0), .second, .val (.int p1), .val (.int p2), .val (.long (v0_1 q0 p2)), .second, .val (.int (v0_2 p1 p2)), .val (.long (2147483639 : Int64)), .second, .unset] [(.long (v0_1 q0 p2))])) _
        refine XS.lload X0.here hx rfl (hb hby at_47) rfl ?_
        show Steps p.tables e below (s₁.setTop (mkF m 49 #[.val (.long q0), .second, .val (.int p1), .val (.int p2), .val (.long (v0_1 q0 p2)), .second, .val (.int (v0_2 p1 p2)), .val (.long (2147483639 : Int64)), .second, .unset] [(.long (2147483639 : Int64)), (.long (v0_1 q0 p2))])) _
        refine XS.iload X0.here hx rfl (hb hby at_49) rfl ?_
        show Steps p.tables e below (s₁.setTop (mkF m 51 #[.val (.long q0), .second, .val (.int p1), .val (.int p2), .val (.long (v0_1 q0 p2)), .second, .val (.int (v0_2 p1 p2)), .val (.long (2147483639 : Int64)), .second, .unset] [(.int (v0_2 p1 p2)), (.long (2147483639 : Int64)), (.long (v0_1 q0 p2))])) _
        refine XS.i2l X0.here hx rfl (hb hby at_51) rfl ?_
        show Steps p.tables e below (s₁.setTop (mkF m 52 #[.val (.long q0), .second, .val (.int p1), .val (.int p2), .val (.long (v0_1 q0 p2)), .second, .val (.int (v0_2 p1 p2)), .val (.long (2147483639 : Int64)), .second, .unset] [(.long ((v0_2 p1 p2).toInt64)), (.long (2147483639 : Int64)), (.long (v0_1 q0 p2))])) _
        refine XS.ldiv X0.here hx rfl (hb hby at_52) rfl (own_nz hc42_4) ?_
        show Steps p.tables e below (s₁.setTop (mkF m 53 #[.val (.long q0), .second, .val (.int p1), .val (.int p2), .val (.long (v0_1 q0 p2)), .second, .val (.int (v0_2 p1 p2)), .val (.long (2147483639 : Int64)), .second, .unset] [(.long ((2147483639 : Int64) / ((v0_2 p1 p2).toInt64))), (.long (v0_1 q0 p2))])) _
        refine XS.lcmp X0.here hx rfl (hb hby at_53) rfl ?_
        show Steps p.tables e below (s₁.setTop (mkF m 54 #[.val (.long q0), .second, .val (.int p1), .val (.int p2), .val (.long (v0_1 q0 p2)), .second, .val (.int (v0_2 p1 p2)), .val (.long (2147483639 : Int64)), .second, .unset] [(.int (lcmpW (v0_1 q0 p2) ((2147483639 : Int64) / ((v0_2 p1 p2).toInt64))))])) _
        exact k)
      by_cases hc54_11 : (0 : Int32) < (lcmpW (v0_1 q0 p2) ((2147483639 : Int64) / ((v0_2 p1 p2).toInt64)))
      · have hv : (f0 q0 p1 p2) = (1 : Int32) := by simp only [f0, if_neg hc35_2, if_neg hc42_4, if_pos hc54_11]
        obtain ⟨fs, hr, hrun, hended, hW, hsame⟩ := X0.leave (v := some (.int (1 : Int32))) (fun h => by rw [Bd.returns] at h; cases h)
        refine ⟨_, _, pre10 _ ?_, hrun, hended, _, _, rfl, ?_, ⟨_, rfl⟩, hW, hsame.mono (by decide) (by decide)⟩
        · show Steps p.tables e below (s₁.setTop (mkF m 54 #[.val (.long q0), .second, .val (.int p1), .val (.int p2), .val (.long (v0_1 q0 p2)), .second, .val (.int (v0_2 p1 p2)), .val (.long (2147483639 : Int64)), .second, .unset] [(.int (lcmpW (v0_1 q0 p2) ((2147483639 : Int64) / ((v0_2 p1 p2).toInt64))))])) _
          refine XS.ifNo X0.here hx rfl (hb hby at_54) rfl ((if0 _ _).trans (tlt hc54_11).2.2.2) ?_
          show Steps p.tables e below (s₁.setTop (mkF m 57 #[.val (.long q0), .second, .val (.int p1), .val (.int p2), .val (.long (v0_1 q0 p2)), .second, .val (.int (v0_2 p1 p2)), .val (.long (2147483639 : Int64)), .second, .unset] [])) _
          refine XS.iconst X0.here hx rfl (hb hby at_57) ?_
          show Steps p.tables e below (s₁.setTop (mkF m 58 #[.val (.long q0), .second, .val (.int p1), .val (.int p2), .val (.long (v0_1 q0 p2)), .second, .val (.int (v0_2 p1 p2)), .val (.long (2147483639 : Int64)), .second, .unset] [(.int (1 : Int32))])) _
          exact retN X0 hx (t := .boolean) Bd.returns (by simp) (hb hby at_58) hr
        · exact ⟨by rw [hv], N0⟩
      · obtain ⟨_, _, ⟨T12, L12, k12, n12⟩, -, X12, ⟨Lc12, hQ12, l12, y12, z12⟩, st12⟩ := Jvm.LawKit.callS X0 hx (y := (⟨"com/example/wattle/wattle/network/ResultRows", "cellsOf", "(JI)I"⟩ : MethodName)) hown (mvT hZ (hw _ (List.mem_of_getElem? (i := 3) rfl))) (mvT hZ (hw _ (List.mem_of_getElem? (i := 4) rfl))) (mvT hZ (hw _ (List.mem_of_getElem? (i := 5) rfl))) (mvT hZ (hw _ (List.mem_of_getElem? (i := 6) rfl))) (by decide) (backOf (W := 0) (rm1 l Z a0 hw [] (v0_1 q0 p2) (v0_2 p1 p2) h0 n0 Z0 hc35_2 (own_okd hc35_2 hc42_4 hc54_11)) hZ (hw _ (List.mem_of_getElem? (i := 6) rfl)) (hw _ (List.mem_of_getElem? (i := 5) rfl)) (by decide) (by decide)) (g := (mkF m 63 #[.val (.long q0), .second, .val (.int p1), .val (.int p2), .val (.long (v0_1 q0 p2)), .second, .val (.int (v0_2 p1 p2)), .val (.long (2147483639 : Int64)), .second, .unset] [(.int (v0_2 p1 p2)), (.long (v0_1 q0 p2))])) rfl (by rw [hml]; rfl) (argsL := [(.long (v0_1 q0 p2)), (.int (v0_2 p1 p2))]) (rest := []) (lenOf pd_0 rfl) rfl (by show 2 * 0 + _ ≤ _; exact Nat.le_of_eq rfl) (hb hby at_63) (fun _ _ => ⟨rfl, e0, (by decide : 0 + 0 ≤ _), (by decide : 0 + 0 ≤ _)⟩)
        dsimp only [Pt.U, Pt.locs, Pt.cells, Pt.slots] at X12 l12 y12 z12 st12 hQ12
        subst l12 y12 z12
        obtain ⟨rfl, N12q, e12⟩ := hQ12
        have N12 := Fr.app N0 N12q
        have pre13 : ∀ t, Steps p.tables e below (T12.setTop (mkF m 70 #[.val (.long q0), .second, .val (.int p1), .val (.int p2), .val (.long (v0_1 q0 p2)), .second, .val (.int (v0_2 p1 p2)), .val (.long (2147483639 : Int64)), .second, .val (.int (f1 (v0_1 q0 p2) (v0_2 p1 p2)))] [(.int (f1 (v0_1 q0 p2) (v0_2 p1 p2)))])) t → Steps p.tables e below (s₁.setTop (entryFrame m #[(.long q0), (.int p1), (.int p2)] maxLocals)) t := fun t k => pre10 t (by
          show Steps p.tables e below (s₁.setTop (mkF m 54 #[.val (.long q0), .second, .val (.int p1), .val (.int p2), .val (.long (v0_1 q0 p2)), .second, .val (.int (v0_2 p1 p2)), .val (.long (2147483639 : Int64)), .second, .unset] [(.int (lcmpW (v0_1 q0 p2) ((2147483639 : Int64) / ((v0_2 p1 p2).toInt64))))])) _
          refine XS.ifYes X0.here hx rfl (pc0 := 54) (pc' := 59) rfl (hb hby at_54) rfl ((if0 _ _).trans (flt hc54_11).2.2.2) (by decide) (by decide) ?_
          show Steps p.tables e below (s₁.setTop (mkF m 59 #[.val (.long q0), .second, .val (.int p1), .val (.int p2), .val (.long (v0_1 q0 p2)), .second, .val (.int (v0_2 p1 p2)), .val (.long (2147483639 : Int64)), .second, .unset] [])) _
          refine XS.lload X0.here hx rfl (hb hby at_59) rfl ?_
          show Steps p.tables e below (s₁.setTop (mkF m 61 #[.val (.long q0), .second, .val (.int p1), .val (.int p2), .val (.long (v0_1 q0 p2)), .second, .val (.int (v0_2 p1 p2)), .val (.long (2147483639 : Int64)), .second, .unset] [(.long (v0_1 q0 p2))])) _
          refine XS.iload X0.here hx rfl (hb hby at_61) rfl ?_
          show Steps p.tables e below (s₁.setTop (mkF m 63 #[.val (.long q0), .second, .val (.int p1), .val (.int p2), .val (.long (v0_1 q0 p2)), .second, .val (.int (v0_2 p1 p2)), .val (.long (2147483639 : Int64)), .second, .unset] [(.int (v0_2 p1 p2)), (.long (v0_1 q0 p2))])) _
          refine st12 _ ?_
          show Steps p.tables e below (T12.setTop (mkF m 66 #[.val (.long q0), .second, .val (.int p1), .val (.int p2), .val (.long (v0_1 q0 p2)), .second, .val (.int (v0_2 p1 p2)), .val (.long (2147483639 : Int64)), .second, .unset] [(.int (f1 (v0_1 q0 p2) (v0_2 p1 p2)))])) _
          refine XS.istore X12.here hx rfl (hb hby at_66) rfl (l' := #[.val (.long q0), .second, .val (.int p1), .val (.int p2), .val (.long (v0_1 q0 p2)), .second, .val (.int (v0_2 p1 p2)), .val (.long (2147483639 : Int64)), .second, .val (.int (f1 (v0_1 q0 p2) (v0_2 p1 p2)))]) rfl ?_
          show Steps p.tables e below (T12.setTop (mkF m 68 #[.val (.long q0), .second, .val (.int p1), .val (.int p2), .val (.long (v0_1 q0 p2)), .second, .val (.int (v0_2 p1 p2)), .val (.long (2147483639 : Int64)), .second, .val (.int (f1 (v0_1 q0 p2) (v0_2 p1 p2)))] [])) _
          refine XS.iload X12.here hx rfl (hb hby at_68) rfl ?_
          show Steps p.tables e below (T12.setTop (mkF m 70 #[.val (.long q0), .second, .val (.int p1), .val (.int p2), .val (.long (v0_1 q0 p2)), .second, .val (.int (v0_2 p1 p2)), .val (.long (2147483639 : Int64)), .second, .val (.int (f1 (v0_1 q0 p2) (v0_2 p1 p2)))] [(.int (f1 (v0_1 q0 p2) (v0_2 p1 p2)))])) _
          exact k)
        by_cases hc70_14 : (f1 (v0_1 q0 p2) (v0_2 p1 p2)) < (0 : Int32)
        · have hv : (f0 q0 p1 p2) = (0 : Int32) := by simp only [f0, if_neg hc35_2, if_neg hc42_4, if_neg hc54_11, if_pos hc70_14]
          obtain ⟨fs, hr, hrun, hended, hW, hsame⟩ := X12.leave (v := some (.int (0 : Int32))) (fun h => by rw [Bd.returns] at h; cases h)
          refine ⟨_, _, pre13 _ ?_, hrun, hended, _, _, rfl, ?_, ⟨_, rfl⟩, hW, hsame.mono (by decide) (by decide)⟩
          · show Steps p.tables e below (T12.setTop (mkF m 70 #[.val (.long q0), .second, .val (.int p1), .val (.int p2), .val (.long (v0_1 q0 p2)), .second, .val (.int (v0_2 p1 p2)), .val (.long (2147483639 : Int64)), .second, .val (.int (f1 (v0_1 q0 p2) (v0_2 p1 p2)))] [(.int (f1 (v0_1 q0 p2) (v0_2 p1 p2)))])) _
            refine XS.ifYes X12.here hx rfl (pc0 := 70) (pc' := 90) rfl (hb hby at_70) rfl ((if0 _ _).trans (tlt hc70_14).1) (by decide) (by decide) ?_
            show Steps p.tables e below (T12.setTop (mkF m 90 #[.val (.long q0), .second, .val (.int p1), .val (.int p2), .val (.long (v0_1 q0 p2)), .second, .val (.int (v0_2 p1 p2)), .val (.long (2147483639 : Int64)), .second, .val (.int (f1 (v0_1 q0 p2) (v0_2 p1 p2)))] [])) _
            refine XS.iconst X12.here hx rfl (hb hby at_90) ?_
            show Steps p.tables e below (T12.setTop (mkF m 91 #[.val (.long q0), .second, .val (.int p1), .val (.int p2), .val (.long (v0_1 q0 p2)), .second, .val (.int (v0_2 p1 p2)), .val (.long (2147483639 : Int64)), .second, .val (.int (f1 (v0_1 q0 p2) (v0_2 p1 p2)))] [(.int (0 : Int32))])) _
            exact retN X12 hx (t := .boolean) Bd.returns (by simp) (hb hby at_91) hr
          · exact ⟨by rw [hv], N12⟩
        · have pre15 : ∀ t, Steps p.tables e below (T12.setTop (mkF m 83 #[.val (.long q0), .second, .val (.int p1), .val (.int p2), .val (.long (v0_1 q0 p2)), .second, .val (.int (v0_2 p1 p2)), .val (.long (2147483639 : Int64)), .second, .val (.int (f1 (v0_1 q0 p2) (v0_2 p1 p2)))] [(.int (lcmpW ((f1 (v0_1 q0 p2) (v0_2 p1 p2)).toInt64) ((v0_1 q0 p2) * ((v0_2 p1 p2).toInt64))))])) t → Steps p.tables e below (s₁.setTop (entryFrame m #[(.long q0), (.int p1), (.int p2)] maxLocals)) t := fun t k => pre13 t (by
            show Steps p.tables e below (T12.setTop (mkF m 70 #[.val (.long q0), .second, .val (.int p1), .val (.int p2), .val (.long (v0_1 q0 p2)), .second, .val (.int (v0_2 p1 p2)), .val (.long (2147483639 : Int64)), .second, .val (.int (f1 (v0_1 q0 p2) (v0_2 p1 p2)))] [(.int (f1 (v0_1 q0 p2) (v0_2 p1 p2)))])) _
            refine XS.ifNo X12.here hx rfl (hb hby at_70) rfl ((if0 _ _).trans (flt hc70_14).1) ?_
            show Steps p.tables e below (T12.setTop (mkF m 73 #[.val (.long q0), .second, .val (.int p1), .val (.int p2), .val (.long (v0_1 q0 p2)), .second, .val (.int (v0_2 p1 p2)), .val (.long (2147483639 : Int64)), .second, .val (.int (f1 (v0_1 q0 p2) (v0_2 p1 p2)))] [])) _
            refine XS.iload X12.here hx rfl (hb hby at_73) rfl ?_
            show Steps p.tables e below (T12.setTop (mkF m 75 #[.val (.long q0), .second, .val (.int p1), .val (.int p2), .val (.long (v0_1 q0 p2)), .second, .val (.int (v0_2 p1 p2)), .val (.long (2147483639 : Int64)), .second, .val (.int (f1 (v0_1 q0 p2) (v0_2 p1 p2)))] [(.int (f1 (v0_1 q0 p2) (v0_2 p1 p2)))])) _
            refine XS.i2l X12.here hx rfl (hb hby at_75) rfl ?_
            show Steps p.tables e below (T12.setTop (mkF m 76 #[.val (.long q0), .second, .val (.int p1), .val (.int p2), .val (.long (v0_1 q0 p2)), .second, .val (.int (v0_2 p1 p2)), .val (.long (2147483639 : Int64)), .second, .val (.int (f1 (v0_1 q0 p2) (v0_2 p1 p2)))] [(.long ((f1 (v0_1 q0 p2) (v0_2 p1 p2)).toInt64))])) _
            refine XS.lload X12.here hx rfl (hb hby at_76) rfl ?_
            show Steps p.tables e below (T12.setTop (mkF m 78 #[.val (.long q0), .second, .val (.int p1), .val (.int p2), .val (.long (v0_1 q0 p2)), .second, .val (.int (v0_2 p1 p2)), .val (.long (2147483639 : Int64)), .second, .val (.int (f1 (v0_1 q0 p2) (v0_2 p1 p2)))] [(.long (v0_1 q0 p2)), (.long ((f1 (v0_1 q0 p2) (v0_2 p1 p2)).toInt64))])) _
            refine XS.iload X12.here hx rfl (hb hby at_78) rfl ?_
            show Steps p.tables e below (T12.setTop (mkF m 80 #[.val (.long q0), .second, .val (.int p1), .val (.int p2), .val (.long (v0_1 q0 p2)), .second, .val (.int (v0_2 p1 p2)), .val (.long (2147483639 : Int64)), .second, .val (.int (f1 (v0_1 q0 p2) (v0_2 p1 p2)))] [(.int (v0_2 p1 p2)), (.long (v0_1 q0 p2)), (.long ((f1 (v0_1 q0 p2) (v0_2 p1 p2)).toInt64))])) _
            refine XS.i2l X12.here hx rfl (hb hby at_80) rfl ?_
            show Steps p.tables e below (T12.setTop (mkF m 81 #[.val (.long q0), .second, .val (.int p1), .val (.int p2), .val (.long (v0_1 q0 p2)), .second, .val (.int (v0_2 p1 p2)), .val (.long (2147483639 : Int64)), .second, .val (.int (f1 (v0_1 q0 p2) (v0_2 p1 p2)))] [(.long ((v0_2 p1 p2).toInt64)), (.long (v0_1 q0 p2)), (.long ((f1 (v0_1 q0 p2) (v0_2 p1 p2)).toInt64))])) _
            refine XS.lmul X12.here hx rfl (hb hby at_81) rfl ?_
            show Steps p.tables e below (T12.setTop (mkF m 82 #[.val (.long q0), .second, .val (.int p1), .val (.int p2), .val (.long (v0_1 q0 p2)), .second, .val (.int (v0_2 p1 p2)), .val (.long (2147483639 : Int64)), .second, .val (.int (f1 (v0_1 q0 p2) (v0_2 p1 p2)))] [(.long ((v0_1 q0 p2) * ((v0_2 p1 p2).toInt64))), (.long ((f1 (v0_1 q0 p2) (v0_2 p1 p2)).toInt64))])) _
            refine XS.lcmp X12.here hx rfl (hb hby at_82) rfl ?_
            show Steps p.tables e below (T12.setTop (mkF m 83 #[.val (.long q0), .second, .val (.int p1), .val (.int p2), .val (.long (v0_1 q0 p2)), .second, .val (.int (v0_2 p1 p2)), .val (.long (2147483639 : Int64)), .second, .val (.int (f1 (v0_1 q0 p2) (v0_2 p1 p2)))] [(.int (lcmpW ((f1 (v0_1 q0 p2) (v0_2 p1 p2)).toInt64) ((v0_1 q0 p2) * ((v0_2 p1 p2).toInt64))))])) _
            exact k)
          by_cases hc83_16 : (lcmpW ((f1 (v0_1 q0 p2) (v0_2 p1 p2)).toInt64) ((v0_1 q0 p2) * ((v0_2 p1 p2).toInt64))) = (0 : Int32)
          · have hv : (f0 q0 p1 p2) = (1 : Int32) := by simp only [f0, if_neg hc35_2, if_neg hc42_4, if_neg hc54_11, if_neg hc70_14, if_pos hc83_16]
            obtain ⟨fs, hr, hrun, hended, hW, hsame⟩ := X12.leave (v := some (.int (1 : Int32))) (fun h => by rw [Bd.returns] at h; cases h)
            refine ⟨_, _, pre15 _ ?_, hrun, hended, _, _, rfl, ?_, ⟨_, rfl⟩, hW, hsame.mono (by decide) (by decide)⟩
            · show Steps p.tables e below (T12.setTop (mkF m 83 #[.val (.long q0), .second, .val (.int p1), .val (.int p2), .val (.long (v0_1 q0 p2)), .second, .val (.int (v0_2 p1 p2)), .val (.long (2147483639 : Int64)), .second, .val (.int (f1 (v0_1 q0 p2) (v0_2 p1 p2)))] [(.int (lcmpW ((f1 (v0_1 q0 p2) (v0_2 p1 p2)).toInt64) ((v0_1 q0 p2) * ((v0_2 p1 p2).toInt64))))])) _
              refine XS.ifNo X12.here hx rfl (hb hby at_83) rfl ((if0 _ _).trans (teq hc83_16).2) ?_
              show Steps p.tables e below (T12.setTop (mkF m 86 #[.val (.long q0), .second, .val (.int p1), .val (.int p2), .val (.long (v0_1 q0 p2)), .second, .val (.int (v0_2 p1 p2)), .val (.long (2147483639 : Int64)), .second, .val (.int (f1 (v0_1 q0 p2) (v0_2 p1 p2)))] [])) _
              refine XS.iconst X12.here hx rfl (hb hby at_86) ?_
              show Steps p.tables e below (T12.setTop (mkF m 87 #[.val (.long q0), .second, .val (.int p1), .val (.int p2), .val (.long (v0_1 q0 p2)), .second, .val (.int (v0_2 p1 p2)), .val (.long (2147483639 : Int64)), .second, .val (.int (f1 (v0_1 q0 p2) (v0_2 p1 p2)))] [(.int (1 : Int32))])) _
              refine XS.goto X12.here hx rfl (pc0 := 87) (pc' := 91) rfl (hb hby at_87) (by decide) (by decide) ?_
              show Steps p.tables e below (T12.setTop (mkF m 91 #[.val (.long q0), .second, .val (.int p1), .val (.int p2), .val (.long (v0_1 q0 p2)), .second, .val (.int (v0_2 p1 p2)), .val (.long (2147483639 : Int64)), .second, .val (.int (f1 (v0_1 q0 p2) (v0_2 p1 p2)))] [(.int (1 : Int32))])) _
              exact retN X12 hx (t := .boolean) Bd.returns (by simp) (hb hby at_91) hr
            · exact ⟨by rw [hv], N12⟩
          · have hv : (f0 q0 p1 p2) = (0 : Int32) := by simp only [f0, if_neg hc35_2, if_neg hc42_4, if_neg hc54_11, if_neg hc70_14, if_neg hc83_16]
            obtain ⟨fs, hr, hrun, hended, hW, hsame⟩ := X12.leave (v := some (.int (0 : Int32))) (fun h => by rw [Bd.returns] at h; cases h)
            refine ⟨_, _, pre15 _ ?_, hrun, hended, _, _, rfl, ?_, ⟨_, rfl⟩, hW, hsame.mono (by decide) (by decide)⟩
            · show Steps p.tables e below (T12.setTop (mkF m 83 #[.val (.long q0), .second, .val (.int p1), .val (.int p2), .val (.long (v0_1 q0 p2)), .second, .val (.int (v0_2 p1 p2)), .val (.long (2147483639 : Int64)), .second, .val (.int (f1 (v0_1 q0 p2) (v0_2 p1 p2)))] [(.int (lcmpW ((f1 (v0_1 q0 p2) (v0_2 p1 p2)).toInt64) ((v0_1 q0 p2) * ((v0_2 p1 p2).toInt64))))])) _
              refine XS.ifYes X12.here hx rfl (pc0 := 83) (pc' := 90) rfl (hb hby at_83) rfl ((if0 _ _).trans (feq hc83_16).2) (by decide) (by decide) ?_
              show Steps p.tables e below (T12.setTop (mkF m 90 #[.val (.long q0), .second, .val (.int p1), .val (.int p2), .val (.long (v0_1 q0 p2)), .second, .val (.int (v0_2 p1 p2)), .val (.long (2147483639 : Int64)), .second, .val (.int (f1 (v0_1 q0 p2) (v0_2 p1 p2)))] [])) _
              refine XS.iconst X12.here hx rfl (hb hby at_90) ?_
              show Steps p.tables e below (T12.setTop (mkF m 91 #[.val (.long q0), .second, .val (.int p1), .val (.int p2), .val (.long (v0_1 q0 p2)), .second, .val (.int (v0_2 p1 p2)), .val (.long (2147483639 : Int64)), .second, .val (.int (f1 (v0_1 q0 p2) (v0_2 p1 p2)))] [(.int (0 : Int32))])) _
              exact retN X12 hx (t := .boolean) Bd.returns (by simp) (hb hby at_91) hr
            · exact ⟨by rw [hv], N12⟩

theorem own_fin {r : Int64} {c : Int32} (h0 : 0 ≤ r.toInt) (h1 : 0 ≤ c.toInt) (h2 : r.toInt * c.toInt ≤ 2147483639) : (if f1 r c < (0 : Int32) then (0 : Int32) else (if (lcmpW ((f1 r c).toInt64) (r * (c.toInt64))) = (0 : Int32) then (1 : Int32) else (0 : Int32))) = 1 := by
  have hz : 0 ≤ r.toInt * c.toInt := Int.mul_nonneg h0 h1
  have hp := own_prod r c h0 h1 h2
  have ef : (f1 r c).toInt = r.toInt * c.toInt := by
    unfold f1
    rw [Int64.toInt_toInt32, hp, Int.bmod_eq_of_le (by omega) (by omega)]
  have n1 : ¬ f1 r c < (0 : Int32) := by
    rw [Int32.lt_iff_toInt_lt, ef]; show ¬ _ < (0 : Int); omega
  have n2 : (f1 r c).toInt64 = r * c.toInt64 := Int64.toInt_inj.mp (by rw [Int32.toInt_toInt64, ef, hp])
  rw [if_neg n1, if_pos (by rw [n2]; exact (lcW _ _).trans ((lc_eq _ _).mpr rfl))]
theorem law_true (q0 : Int64) (p1 p2 : Int32) : f0 q0 p1 p2 = 1 := by
  unfold f0
  split
  · rfl
  · split
    · rename_i h h2
      exact own_fin (own_r q0 p2).1 (own_c p1 p2) (own_bz _ _ h2)
    · split
      · rfl
      · rename_i h h2 h3
        exact own_fin (own_r q0 p2).1 (own_c p1 p2) (own_bd _ _ (own_r q0 p2).1 (own_c p1 p2) h2 h3)

set_option maxRecDepth 65536 in
set_option maxHeartbeats 40000000 in
theorem comes_1 {Post : Tables → Env → Array Value → State → Outcome → State → Prop} (hpost : ∀ tb e args s v u, (limb_1_1.after args s (.returned v) u = true ∧ limb_1_2.after args s (.returned v) u = true ∧ True) → FrameEnd s (.returned v) u (Jvm.fieldLocs frame_1_writes args s ++ Jvm.arrayLocs frame_1_arrays args s ++ Jvm.staticLocs frame_1_statics s) 0 0 → Post tb e args s (.returned v) u) :
    ArmFor flags0 classFile x code maxLocals ret World_1 tables_1 room_1 Calls_1 rest_1 Pre_1 Post := by
  intro l hfl _ _ p e ha hc hk s m args below hf hA hF happ hP
  obtain ⟨hcalls, hrest, hpre⟩ := hP
  obtain ⟨-, -, -, hnamed, -, -, -, hat⟩ := (Spec.applies_iff hf).mp happ
  obtain ⟨hg, hn⟩ := and_e (Cond.before_iff.mp (show (Jvm.Cond.and given_1 narrow_1).before args s = true from hpre))
  obtain ⟨g1, g2⟩ := and_e hg
  obtain ⟨g3, g4⟩ := and_e g2
  obtain ⟨g5, g6⟩ := and_e g4
  obtain ⟨w0, w1, w2, rfl⟩ : ∃ w0 w1 w2 : Value, args = #[w0, w1, w2] := by
    have hs : args.size = 3 := by simpa [Cond.value, given_1] using g1
    obtain ⟨L⟩ := args
    match L, hs with
    | [w0, w1, w2], _ => exact ⟨w0, w1, w2, rfl⟩
  have hw := fun d (hd : d ∈ tables_1) => atoms_spec (ws := Jvm.Cond.code x code maxLocals ret :: tables_1) hat d (List.mem_cons_of_mem _ hd)
  obtain ⟨i0, ei0⟩ := isL_v g3
  obtain rfl : w0 = (.long i0) := Option.some.inj ei0
  obtain ⟨i1, ei1⟩ := is_v g5
  obtain rfl : w1 = (.int i1) := Option.some.inj ei1
  obtain ⟨i2, ei2⟩ := is_v g6
  obtain rfl : w2 = (.int i2) := Option.some.inj ei2
  obtain ⟨n, o, h1, h2, h3, _, L, rfl, ⟨rfl, N⟩, hq⟩ := rm0 l s _ hw tables_1 i0 i1 i2 s.heap s.heap.size (Nat.le_refl _) p e ha hc hk s m _ below hf ((Spec.applies_iff_loose hf).mp happ).1 ⟨rfl, State.Warmed39.refl s, rfl⟩ trivial
  refine ⟨n, _, h1, h2, h3, hpost _ _ _ _ _ _ ⟨Cond.after_iff.mpr rfl, Cond.after_iff.mpr (eq_i res_at (Term.int_eval (1)) (congrArg Value.int (law_true i0 i1 i2))), trivial⟩ ⟨hq.1, hq.2.1, (hq.2.2.sift fun y hy => Or.inr (N y hy)).mono (by decide) (by decide)⟩⟩
theorem main_1_1 : Claimed_1_1 := comes_1 fun _ _ _ _ _ _ h hF => ⟨h.1, hF⟩
theorem main_1_2 : Claimed_1_2 := comes_1 fun _ _ _ _ _ _ h hF => ⟨h.2.1, hF⟩
end Jvm.Pilot.@@N@@
namespace Jvm.Pilot.@@N@@
open Jvm Jvm.ClassFile Sem Op Lib Jvm.Free Jvm.Stand Jvm.Pilot.@@N@@.Jvm.D
/-! MADE BY PROGRAM (witnessworld.py) out of the Statement's table words and the real class files: 16 classes; the members and pool entries that the words name. The judged class is class 1, her method 1. -/
namespace start1
open Jvm.ClassFile
def u (s : String) : CpInfo := .utf8 (stringToUtf16 s)
/-- a pool by its gaps: so many unusable entries, then the entry; so many at the end -/
def gap : Nat → List CpInfo → List CpInfo
  | 0, r => r
  | n + 1, r => .unusable :: gap n r
def poolList (es : List (Nat × CpInfo)) (last : Nat) : List CpInfo := es.foldr (fun e r => gap e.1 (e.2 :: r)) (gap last [])
def pool (es : List (Nat × CpInfo)) (last : Nat) : Array CpInfo := ⟨poolList es last⟩
def fileOf (pool : Array CpInfo) (this : Nat) (attrs : Array Attribute := #[]) (ms : Array MethodInfo := #[]) (fl : Nat := 33) (sup : Nat := 0) (ifs : Array Nat := #[]) (fds : Array FieldInfo := #[]) : ClassFile where
  minorVersion := 0
  majorVersion := 65
  constantPool := pool
  accessFlags := fl
  thisClass := this
  superClass := sup
  interfaces := ifs
  fields := fds
  methods := ms
  attributes := attrs
def plain (name : String) (sup : Option ClassId) : Class where
  name := name
  kind := .ordinary
  loader := none
  accessFlags := 33
  super := sup
  interfaces := #[]
  cf := none
  fields := #[]
  methods := #[]
  instanceTypes := #[]
  staticTypes := #[]
  resolved := #[]
  callSites := []
  init := .initialized
  statics := none
  mirror := none

def pool0 : Array CpInfo := pool [(5, u "<init>"), (0, u "()V"), (1, .class_ 10), (1, u "java/lang/Object")] 113

def k0m0 : Method := { name := "<init>", desc := "()V", sig := { parameters := [], returnType := none }, accessFlags := 1, code := none }
/-- java/lang/Object -/
def k0 : Class := { plain "java/lang/Object" none with
  accessFlags := 33
  interfaces := #[]
  cf := some (fileOf pool0 8 #[] #[{ accessFlags := 1, nameIndex := 5, descriptorIndex := 6, attributes := #[] }] 33 0 #[] #[])
  fields := #[]
  methods := #[k0m0]
  instanceTypes := #[]
  staticTypes := #[]
  resolved := Array.replicate 124 none
  statics := none }

def pool1 : Array CpInfo := pool [(2, .class_ 4), (1, u "java/lang/Object"), (0, u "<init>"), (0, u "()V"), (0, .long 2147483647), (1, .integer 2147483647), (0, .long 2147483639), (1, .methodref 13 14), (0, .class_ 15), (0, .nameAndType 16 17), (0, u "com/example/wattle/wattle/network/ResultRows"), (0, u "cellsOf"), (0, u "(JI)I"), (0, .class_ 19), (0, u "com/example/wattle/wattle/network/ResultRowsCellsOfPinLaw"), (2, u "law"), (0, u "(JII)Z")] 3

def k1m0 : Method := { name := "<init>", desc := "()V", sig := { parameters := [], returnType := none }, accessFlags := 1, code := none }
def k1c1 : Code := { maxStack := 6, maxLocals := 10, code := code, exceptionTable := #[], attributes := #[] }
def k1m1 : Method := { name := "law", desc := "(JII)Z", sig := { parameters := [.long, .int, .int], returnType := some .boolean }, accessFlags := 9, code := some k1c1 }
/-- com/example/wattle/wattle/network/ResultRowsCellsOfPinLaw -/
def k1 : Class := { plain "com/example/wattle/wattle/network/ResultRowsCellsOfPinLaw" (some 0) with
  accessFlags := 49
  interfaces := #[]
  cf := some (fileOf pool1 18 #[] #[{ accessFlags := 1, nameIndex := 5, descriptorIndex := 6, attributes := #[] }, { accessFlags := 9, nameIndex := 22, descriptorIndex := 23, attributes := #[] }] 49 2 #[] #[])
  fields := #[]
  methods := #[k1m0, k1m1]
  instanceTypes := #[]
  staticTypes := #[]
  resolved := Array.replicate 27 none
  statics := none }

def pool2 : Array CpInfo := pool [(8, .class_ 10), (1, u "java/lang/Iterable"), (24, .class_ 36), (0, u "java/lang/Object")] 25

/-- java/lang/Iterable -/
def k2 : Class := { plain "java/lang/Iterable" (some 0) with
  accessFlags := 1537
  interfaces := #[]
  cf := some (fileOf pool2 8 #[] #[] 1537 35 #[] #[])
  fields := #[]
  methods := #[]
  instanceTypes := #[]
  staticTypes := #[]
  resolved := Array.replicate 62 none
  statics := none }

def pool3 : Array CpInfo := pool [(10, .class_ 12), (1, u "java/util/Collection"), (47, .class_ 61), (0, u "java/lang/Object"), (0, .class_ 63), (0, u "java/lang/Iterable")] 51

/-- java/util/Collection -/
def k3 : Class := { plain "java/util/Collection" (some 0) with
  accessFlags := 1537
  interfaces := #[2]
  cf := some (fileOf pool3 10 #[] #[] 1537 60 #[62] #[])
  fields := #[]
  methods := #[]
  instanceTypes := #[]
  staticTypes := #[]
  resolved := Array.replicate 115 none
  statics := none }

def pool4 : Array CpInfo := pool [(2, .class_ 4), (1, u "java/lang/Object"), (0, u "<init>"), (0, u "()V"), (1, .class_ 10), (1, u "java/util/AbstractCollection"), (66, .class_ 78), (0, u "java/util/Collection")] 81

def k4m0 : Method := { name := "<init>", desc := "()V", sig := { parameters := [], returnType := none }, accessFlags := 4, code := none }
/-- java/util/AbstractCollection -/
def k4 : Class := { plain "java/util/AbstractCollection" (some 0) with
  accessFlags := 1057
  interfaces := #[3]
  cf := some (fileOf pool4 8 #[] #[{ accessFlags := 4, nameIndex := 5, descriptorIndex := 6, attributes := #[] }] 1057 2 #[77] #[])
  fields := #[]
  methods := #[k4m0]
  instanceTypes := #[]
  staticTypes := #[]
  resolved := Array.replicate 160 none
  statics := none }

def pool5 : Array CpInfo := pool [(8, .class_ 10), (1, u "java/util/SequencedCollection"), (15, .class_ 27), (0, u "java/lang/Object"), (0, .class_ 29), (0, u "java/util/Collection")] 27

/-- java/util/SequencedCollection -/
def k5 : Class := { plain "java/util/SequencedCollection" (some 0) with
  accessFlags := 1537
  interfaces := #[3]
  cf := some (fileOf pool5 8 #[] #[] 1537 26 #[28] #[])
  fields := #[]
  methods := #[]
  instanceTypes := #[]
  staticTypes := #[]
  resolved := Array.replicate 57 none
  statics := none }

def pool6 : Array CpInfo := pool [(8, .class_ 10), (1, u "java/util/List"), (92, .class_ 104), (0, u "java/lang/Object"), (15, .class_ 121), (0, u "java/util/SequencedCollection")] 129

/-- java/util/List -/
def k6 : Class := { plain "java/util/List" (some 0) with
  accessFlags := 1537
  interfaces := #[5]
  cf := some (fileOf pool6 8 #[] #[] 1537 103 #[120] #[])
  fields := #[]
  methods := #[]
  instanceTypes := #[]
  staticTypes := #[]
  resolved := Array.replicate 251 none
  statics := none }

def pool7 : Array CpInfo := pool [(2, .class_ 4), (1, u "java/util/AbstractCollection"), (0, u "<init>"), (0, u "()V"), (1, .class_ 10), (1, u "java/util/AbstractList"), (0, u "modCount"), (0, u "I"), (64, .class_ 78), (0, u "java/util/AbstractList$Itr"), (3, .class_ 83), (0, u "java/util/AbstractList$ListItr"), (9, .class_ 94), (0, u "java/util/AbstractList$RandomAccessSubList"), (3, .class_ 99), (0, u "java/util/AbstractList$SubList"), (33, .class_ 134), (0, u "java/util/List"), (73, .class_ 209), (0, u "java/util/AbstractList$SubList$1"), (0, .class_ 211), (0, u "java/util/AbstractList$RandomAccessSpliterator")] 6

def k7m0 : Method := { name := "<init>", desc := "()V", sig := { parameters := [], returnType := none }, accessFlags := 4, code := none }
/-- java/util/AbstractList -/
def k7 : Class := { plain "java/util/AbstractList" (some 4) with
  accessFlags := 1057
  interfaces := #[6]
  cf := some (fileOf pool7 8 #[.nestMembers #[93, 98, 208, 210, 82, 77]] #[{ accessFlags := 4, nameIndex := 5, descriptorIndex := 6, attributes := #[] }] 1057 2 #[133] #[{ accessFlags := 132, nameIndex := 11, descriptorIndex := 12, attributes := #[] }])
  fields := #[{ name := "modCount", type := .int, accessFlags := 132, slot := 0, constantValue := 0 }]
  methods := #[k7m0]
  instanceTypes := #[.int]
  staticTypes := #[]
  resolved := Array.replicate 218 none
  statics := none }

def pool8 : Array CpInfo := pool [(1, .class_ 2), (0, u "java/util/RandomAccess"), (0, .class_ 4), (0, u "java/lang/Object")] 2

/-- java/util/RandomAccess -/
def k8 : Class := { plain "java/util/RandomAccess" (some 0) with
  accessFlags := 1537
  interfaces := #[]
  cf := some (fileOf pool8 1 #[] #[] 1537 3 #[] #[])
  fields := #[]
  methods := #[]
  instanceTypes := #[]
  staticTypes := #[]
  resolved := Array.replicate 7 none
  statics := none }

def pool9 : Array CpInfo := pool [(4, .class_ 6), (1, u "java/util/AbstractList"), (3, .class_ 12), (1, u "com/example/wattle/wattle/network/ResultRows"), (0, u "cells"), (0, u "[Lcom/example/wattle/wattle/rdf/Term;"), (2, u "columns"), (0, u "I"), (2, u "size"), (19, .long 2147483639), (16, .class_ 59), (0, u "com/example/wattle/wattle/network/ResultRows$Row"), (31, .class_ 92), (0, u "java/util/RandomAccess"), (0, u "MAX_LENGTH"), (11, u "cellsOf"), (0, u "(JI)I")] 26

def k9c0 : Code := { maxStack := 5, maxLocals := 5, code := prog_85_method_4_code, exceptionTable := #[], attributes := #[] }
def k9m0 : Method := { name := "cellsOf", desc := "(JI)I", sig := { parameters := [.long, .int], returnType := some .int }, accessFlags := 8, code := some k9c0 }
/-- com/example/wattle/wattle/network/ResultRows -/
def k9 : Class := { plain "com/example/wattle/wattle/network/ResultRows" (some 7) with
  accessFlags := 48
  interfaces := #[8]
  cf := some (fileOf pool9 10 #[.nestMembers #[58]] #[{ accessFlags := 8, nameIndex := 105, descriptorIndex := 106, attributes := #[] }] 48 4 #[91] #[{ accessFlags := 24, nameIndex := 93, descriptorIndex := 18, attributes := #[] }, { accessFlags := 18, nameIndex := 13, descriptorIndex := 14, attributes := #[] }, { accessFlags := 18, nameIndex := 17, descriptorIndex := 18, attributes := #[] }, { accessFlags := 18, nameIndex := 21, descriptorIndex := 18, attributes := #[] }])
  fields := #[{ name := "MAX_LENGTH", type := .int, accessFlags := 24, slot := 0, constantValue := 0 }, { name := "cells", type := (.array (.object "com/example/wattle/wattle/rdf/Term")), accessFlags := 18, slot := 1, constantValue := 0 }, { name := "columns", type := .int, accessFlags := 18, slot := 2, constantValue := 0 }, { name := "size", type := .int, accessFlags := 18, slot := 3, constantValue := 0 }]
  methods := #[k9m0]
  instanceTypes := #[.int, (.array (.object "com/example/wattle/wattle/rdf/Term")), .int, .int]
  staticTypes := #[.int]
  resolved := Array.replicate 133 none
  statics := none }

def pool10 : Array CpInfo := pool [(1, u "java/lang/Cloneable"), (0, .class_ 1), (0, u "java/lang/Object"), (0, .class_ 3)] 3

/-- java/lang/Cloneable -/
def k10 : Class := { plain "java/lang/Cloneable" (some 0) with
  accessFlags := 1537
  interfaces := #[]
  cf := some (fileOf pool10 2 #[] #[] 1537 4 #[] #[])
  fields := #[]
  methods := #[]
  instanceTypes := #[]
  staticTypes := #[]
  resolved := Array.replicate 8 none
  statics := none }

def pool11 : Array CpInfo := pool [(1, u "java/io/Serializable"), (0, .class_ 1), (0, u "java/lang/Object"), (0, .class_ 3)] 3

/-- java/io/Serializable -/
def k11 : Class := { plain "java/io/Serializable" (some 0) with
  accessFlags := 1537
  interfaces := #[]
  cf := some (fileOf pool11 2 #[] #[] 1537 4 #[] #[])
  fields := #[]
  methods := #[]
  instanceTypes := #[]
  staticTypes := #[]
  resolved := Array.replicate 8 none
  statics := none }

/-- the primitive byte -/
def k12 : Class := { plain "byte" none with kind := .primitive 'B', accessFlags := 0x411 }
/-- [B -/
def k13 : Class := { plain "[B" (some 0) with kind := .array 12 .byte, interfaces := #[10, 11], accessFlags := 1041 }

/-- the primitive int -/
def k14 : Class := { plain "int" none with kind := .primitive 'I', accessFlags := 0x411 }
/-- [I -/
def k15 : Class := { plain "[I" (some 0) with kind := .array 14 .int, interfaces := #[10, 11], accessFlags := 1041 }

def heap : Heap := #[]
def classes : Array Class := #[k0, k1, k2, k3, k4, k5, k6, k7, k8, k9, k10, k11, k12, k13, k14, k15]
def interned : List (Array UInt16 × Addr) := []
def slotsUsed : Nat := 0
def theMethod : MethodId := ⟨1, 1⟩
def args0 : Array Value := #[.long 5, .int 7, .int 0]
def aboutOver (below : List Frame) : State where
  vm := { classes := classes, interned := interned.toArray }
  heap := heap
  slotsUsed := slotsUsed
  threads := #[{ frames := .invoking theMethod args0 :: below }]
def below0 : List Frame := [.native { method := ⟨0, 0⟩, args := #[] }]
def about1 : State := aboutOver below0
def p0 : Program := .bare "" "" ""
def e0 : Env := launch0.env 0 0 0
theorem w_frames : about1.frames = Frame.invoking theMethod args0 :: below0 := rfl
set_option maxRecDepth 65536 in
theorem w_args : argsFit about1.vm theMethod args0 = true := by decide +kernel
set_option maxRecDepth 65536 in
theorem w_heap : heapFits about1 = true := by decide +kernel
set_option maxRecDepth 65536 in
theorem w_runnable : about1.curStatus? = some .runnable := by decide +kernel
set_option maxRecDepth 65536 in
theorem w_alone : about1.alone = true := by decide +kernel
set_option maxRecDepth 65536 in
theorem w_named : about1.methodNamed? x = some theMethod := by decide +kernel
set_option maxRecDepth 65536 in
theorem w_hears : about1.hears theMethod below0 = true := by decide +kernel
set_option maxRecDepth 65536 in
theorem w_ripe : about1.ripe theMethod args0 below0 = true := by decide +kernel
theorem w_running : about1.status = .running := rfl
set_option maxRecDepth 65536 in
theorem w_room : about1.hasRoom e0.platform room_1 = true :=
  launch0.hasRoom_least _ room_1 (by decide +kernel) (by decide +kernel) (by decide +kernel) (by decide +kernel) (by decide +kernel) (by decide +kernel)
theorem allAtoms_all (ts : List Jvm.Cond) (a : Array Jvm.Value) (st : Jvm.State) : (allAtoms ts).before a st = ts.all (fun c => c.before a st) := by
  induction ts with
  | nil => rfl
  | cons c t ih =>
    show (Jvm.Cond.and c (allAtoms t)).before a st = _
    rw [Jvm.Cond.before_and, ih, List.all_cons]
def words1 : List Jvm.Cond := Jvm.Cond.code x code maxLocals ret :: tables_1
/-- a 'code' word, met by the world's own term for the bytes: nothing is compared byte by byte -/
theorem code_word {y : MethodName} {bytes : ByteArray} {mx : Nat} {rt : Option FieldType} {a : Array Value} {s : State} {m : MethodId} {meth : Method} {c : Code} (h1 : s.methodNamed? y = some m) (h2 : s.vm.method? m = some meth) (h3 : meth.code = some c) (h4 : c.code = bytes)
    (h5 : (c.maxLocals == mx && c.exceptionTable.isEmpty && decide (c.maxStack ≤ mostOperands) && decide (meth.sig.returnType = rt) && !meth.locks && decide (parseMethodDescriptor y.desc = some meth.sig)) = true) : (Jvm.Cond.code y bytes mx rt).before a s = true := by
  simp only [Bool.and_eq_true, beq_iff_eq, Bool.not_eq_true', decide_eq_true_eq] at h5
  obtain ⟨⟨⟨⟨⟨g1, g2⟩, g3⟩, g4⟩, g5⟩, g6⟩ := h5
  simp [Cond.before, Cond.holds, Cond.value, h1, h2, h3, h4, g1, g2, g3, g4, g5, g6]
def isCode : Jvm.Cond → Bool
  | .code _ _ _ _ => true
  | _ => false
theorem all_split {L : List Jvm.Cond} {P : Jvm.Cond → Bool} (h1 : L.all (fun c => isCode c || P c) = true) (h2 : ∀ c ∈ L.filter isCode, P c = true) : L.all P = true := by
  refine List.all_eq_true.mpr fun c hc => ?_
  have h := List.all_eq_true.mp h1 c hc
  rcases Bool.eq_false_or_eq_true (isCode c) with hi | hi
  · exact h2 c (List.mem_filter.mpr ⟨hc, hi⟩)
  · simpa [hi] using h
set_option maxRecDepth 65536 in
theorem w_c0 : (Jvm.Cond.code x code maxLocals ret).before args0 about1 = true := code_word (m := ⟨1, 1⟩) (meth := k1m1) (c := k1c1) (by decide +kernel) rfl rfl rfl (by decide +kernel)
set_option maxRecDepth 65536 in
theorem w_c1 : (Jvm.Cond.code ({ cls := "com/example/wattle/wattle/network/ResultRows", name := "cellsOf", desc := "(JI)I" } : Jvm.MethodName) prog_85_method_4_code (5 : Nat) (Option.some Jvm.ClassFile.FieldType.int)).before args0 about1 = true := code_word (m := ⟨9, 0⟩) (meth := k9m0) (c := k9c0) (by decide +kernel) rfl rfl rfl (by decide +kernel)
def codes1 : List Jvm.Cond := [Jvm.Cond.code x code maxLocals ret, Jvm.Cond.code ({ cls := "com/example/wattle/wattle/network/ResultRows", name := "cellsOf", desc := "(JI)I" } : Jvm.MethodName) prog_85_method_4_code (5 : Nat) (Option.some Jvm.ClassFile.FieldType.int)]
set_option maxRecDepth 65536 in
theorem codes_eq : words1.filter isCode = codes1 := rfl
theorem w_codes : ∀ c ∈ words1.filter isCode, c.before args0 about1 = true := by
  rw [codes_eq]
  intro c hc
  simp only [codes1, List.mem_cons, List.not_mem_nil, or_false] at hc
  rcases hc with rfl | rfl
  · exact w_c0
  · exact w_c1
set_option maxRecDepth 65536 in
theorem w_t1 : words1.all (fun c => isCode c || c.before args0 about1) = true := by decide +kernel
theorem w_tables : (allAtoms (Jvm.Cond.code x code maxLocals ret :: tables_1)).before args0 about1 = true := by
  rw [allAtoms_all]
  show words1.all (fun c => c.before args0 about1) = true
  refine all_split ?_ w_codes
  rw [w_t1]
set_option maxRecDepth 65536 in
theorem w_case : (Jvm.Cond.and given_1 narrow_1).before args0 about1 = true := by decide +kernel
theorem w_applies : (headSpec (Jvm.Cond.code x code maxLocals ret :: tables_1) room_1).applies x e0.platform about1 = true :=
  (Spec.applies_iff w_frames).mpr ⟨w_running, w_runnable, w_alone, w_named, w_hears, w_ripe, w_room, w_tables⟩
theorem atStart : AtStart classFile x code maxLocals ret World_1 tables_1 room_1 Calls_1 rest_1 Pre_1 launch0 p0 e0 about1 theMethod args0 below0 :=
  ⟨lists_1, trivial, launch0.admits_env _ _ _, launch0.least_env, fairChoices_fair.cas, fairChoices_fair.clock, w_frames, w_args, w_heap, w_applies, trivial, trivial, w_case⟩
end start1
theorem witness_1 : WitnessClaimed_1 := ⟨start1.p0, start1.e0, start1.about1, start1.theMethod, start1.args0, start1.below0, start1.atStart⟩
end Jvm.Pilot.@@N@@
