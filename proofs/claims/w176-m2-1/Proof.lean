import JvmDerived
import JvmDerived.Pilot.@@N@@Statement
import JvmDerived.Pilot.@@N@@Code
set_option linter.unusedVariables false
set_option linter.unusedSimpArgs false
@@BLOCK:NumsL.lean.txt@@
namespace Jvm.RoadKit
open Sem ClassFile Op Lib Jvm.Stand Jvm.Free Jvm.LawKit
section New
variable {p : Program} {l : Launch} {e : Env} {R : Room} {s : State} {m : MethodId} {args : Array Value} {below : List Frame} {meth : Method} {c : Code} {T : State} {locs : List Loc} {cells slots : Nat}
theorem retI (X : Stand p l e R s m args below meth c T locs cells slots) (hx : p.tables.exec = Jvm.exec) {pc : Nat} {Ls : Array Slot} {z : Int32} {rest : List Value} (hret : meth.sig.returnType = some .int) (hd : decode c.code pc = .ok (.ireturn, 1)) {fs : List Frame}
    (hl : ∀ (f : JFrame) (acts : List Action), f.method = m → f.locked = none → f.entered = [] → (doReturn e (T.setTop f) acts (some (.int z))).1 = T.setFrames fs) : Steps p.tables e below (T.setTop (mkF m pc Ls (.int z :: rest))) (T.setFrames fs) := by
  have hm' : T.vm.method? m = some meth := X.method'
  have hn : narrow .int (.int z) = .int z := rfl
  show Steps p.tables e below (T.setTop { method := m, pc := pc, locals := Ls, stack := _ :: rest, locked := none }) _
  jvm_step X.here [X.here.top, hx, hd, hm', hret, hn]
  first | (intro acts; rw [hl _ acts rfl rfl rfl]) | rw [hl _ _ rfl rfl rfl]
  exact Steps.refl _
theorem retA (X : Stand p l e R s m args below meth c T locs cells slots) (hx : p.tables.exec = Jvm.exec) {pc : Nat} {Ls : Array Slot} {z : Value} {t : FieldType} {rest : List Value} (hret : meth.sig.returnType = some t) (ht : t.isReference = true) (hz : z.isRef = true) (hd : decode c.code pc = .ok (.areturn, 1)) {fs : List Frame}
    (hl : ∀ (f : JFrame) (acts : List Action), f.method = m → f.locked = none → f.entered = [] → (doReturn e (T.setTop f) acts (some z)).1 = T.setFrames fs) : Steps p.tables e below (T.setTop (mkF m pc Ls (z :: rest))) (T.setFrames fs) := by
  have hm' : T.vm.method? m = some meth := X.method'
  show Steps p.tables e below (T.setTop { method := m, pc := pc, locals := Ls, stack := _ :: rest, locked := none }) _
  jvm_step X.here [X.here.top, hx, hd, hm', hret, ht, hz]
  first | (intro acts; rw [hl _ acts rfl rfl rfl]) | rw [hl _ _ rfl rfl rfl]
  exact Steps.refl _
end New
end Jvm.RoadKit
namespace Jvm.Pilot.@@N@@
open Jvm Jvm.ClassFile Sem Op Lib Jvm.Free Jvm.Stand Jvm.LawKit Jvm.RoadKit Bundle Jvm.Pilot.@@N@@.Jvm.D
theorem own_tab {x : Int32} {k : Int} (h : ¬ x = Int32.ofInt k) (h1 : -2147483648 ≤ k) (h2 : k < 2147483648) : x.toInt ≠ k := fun q => h (by rw [← q]; exact (Int32.ofInt_toInt x).symm)
theorem d1_0 : decode prog_56_method_3_code 0 = .ok (.iload_n 1, 1) := by decide +kernel
theorem d1_1 : decode prog_56_method_3_code 1 = .ok (.i2l, 1) := by decide +kernel
theorem d1_2 : decode prog_56_method_3_code 2 = .ok (.lconst 1, 1) := by decide +kernel
theorem d1_3 : decode prog_56_method_3_code 3 = .ok (.ladd, 1) := by decide +kernel
theorem d1_4 : decode prog_56_method_3_code 4 = .ok (.iload_n 0, 1) := by decide +kernel
theorem d1_5 : decode prog_56_method_3_code 5 = .ok (.i2l, 1) := by decide +kernel
theorem d1_6 : decode prog_56_method_3_code 6 = .ok (.lmul, 1) := by decide +kernel
theorem d1_7 : decode prog_56_method_3_code 7 = .ok (.lstore_n 2, 1) := by decide +kernel
theorem d1_8 : decode prog_56_method_3_code 8 = .ok (.lload_n 2, 1) := by decide +kernel
theorem d1_9 : decode prog_56_method_3_code 9 = .ok (.iload_n 0, 1) := by decide +kernel
theorem d1_10 : decode prog_56_method_3_code 10 = .ok (.i2l, 1) := by decide +kernel
theorem d1_11 : decode prog_56_method_3_code 11 = .ok (.ladd, 1) := by decide +kernel
theorem d1_12 : decode prog_56_method_3_code 12 = .ok (.ldc2_w 47, 3) := by decide +kernel
theorem d1_15 : decode prog_56_method_3_code 15 = .ok (.ladd, 1) := by decide +kernel
theorem d1_16 : decode prog_56_method_3_code 16 = .ok (.ldc2_w 42, 3) := by decide +kernel
theorem d1_19 : decode prog_56_method_3_code 19 = .ok (.ldiv, 1) := by decide +kernel
theorem d1_20 : decode prog_56_method_3_code 20 = .ok (.ldc2_w 40, 3) := by decide +kernel
theorem d1_23 : decode prog_56_method_3_code 23 = .ok (.lmul, 1) := by decide +kernel
theorem d1_24 : decode prog_56_method_3_code 24 = .ok (.lreturn, 1) := by decide +kernel
theorem pn_rm1 : plainName "com/example/crossfind/crossfind/gateway/Allowance" = true := by first | (simp [plainName, overriddenIn]; done) | decide +kernel
theorem ef_rm1 (m : MethodId) (p0 : Int32) (p1 : Int32) : entryFrame m #[(.int p0), (.int p1)] 4 = mkF m 0 #[.val (.int p0), .val (.int p1), .unset, .unset] [] := by first | (simp [entryFrame, mkF, argsToLocals, Value.category]; done) | rfl
def F1 (p0 : Int32) (p1 : Int32) : Int64 := (((((((p1.toInt64) + (1 : Int64)) * (p0.toInt64)) + (p0.toInt64)) + (2 : Int64)) / (3 : Int64)) * (4 : Int64))
def Q_rm1 (Z : State) (p0 : Int32) (p1 : Int32) (h0 : Heap) (n0 : Nat) (v : Option Value) (h : Heap) (L : List Loc) : Prop := v = some (.long (F1 p0 p1)) ∧ Fr n0 L ∧ h = h0
set_option maxRecDepth 65536 in
set_option maxHeartbeats 40000000 in
theorem rm1 (l : Launch) (Z : State) (a0 : Array Value) (hw : ∀ d ∈ tables_1, d.before a0 Z = true) (ws : List Jvm.Cond) (p0 : Int32) (p1 : Int32) (h0 : Heap) (n0 : Nat) (Z0 : n0 ≤ h0.size) :
    MetFree l (⟨"com/example/crossfind/crossfind/gateway/Allowance", "smallestHeap", "(II)J"⟩ : MethodName) (head1 (Jvm.Cond.code (⟨"com/example/crossfind/crossfind/gateway/Allowance", "smallestHeap", "(II)J"⟩ : MethodName) prog_56_method_3_code 4 (some .long) :: ws) ({ frames := 0, cells := 0, slots := 0, locals := 0 } : Room)) (fun a U => a = #[(.int p0), (.int p1)] ∧ Z.Warmed39 U.vm ∧ U.heap = h0) (fun _ _ _ _ _ => True) (fun _ U o U' => ∃ v L, o = .returned v ∧ Q_rm1 Z p0 p1 h0 n0 v U'.heap L ∧ FrameEnd U o U' L ({ frames := 0, cells := 0, slots := 0, locals := 0 } : Room).cells ({ frames := 0, cells := 0, slots := 0, locals := 0 } : Room).slots) := by
  refine MetFree.of_bodySF (plainFor_of_name pn_rm1) hisR ?_
  intro p e s m args below meth c s₁ Bd hml0 hP hK
  obtain ⟨rfl, hZ, hh⟩ := hP
  have hx := Bd.exec
  have hby := Bd.bytes
  have hml : c.maxLocals = 4 := hml0
  have hown : s.vm.findClass "com/example/crossfind/crossfind/gateway/Allowance" = some m.cls := findClass_of_methodNamed Bd.named
  have hnm := (name_of_methodNamed Bd.named Bd.method).1
  have X0 : Stand p l e ({ frames := 0, cells := 0, slots := 0, locals := 0 } : Room) s m #[(.int p0), (.int p1)] below meth c s₁ [] 0 0 := Stand.of_body Bd
  have e0 : s₁.heap = h0 := by rw [← hh, Bd.state]; rfl
  have N0 := Fr.nil n0
  have q0 : Steps p.tables e below (s₁.setTop (entryFrame m #[(.int p0), (.int p1)] 4)) (s₁.setTop (mkF m 0 #[.val (.int p0), .val (.int p1), .unset, .unset] [])) := castTop (ef_rm1 m p0 p1) (Steps.refl _)
  obtain ⟨fs, hr, hrun, hended, hW, hsame⟩ := X0.leave (v := some (.long (F1 p0 p1))) (fun h => by rw [Bd.returns] at h; cases h)
  refine ⟨_, _, q0.trans ?_, hrun, hended, _, _, rfl, ?_, ⟨_, rfl⟩, hW, hsame.mono (by decide) (by decide)⟩
  · show Steps p.tables e below (s₁.setTop (mkF m 0 #[.val (.int p0), .val (.int p1), .unset, .unset] [])) _
    refine XS.iloadN X0.here hx rfl (hb hby d1_0) rfl ?_
    show Steps p.tables e below (s₁.setTop (mkF m 1 #[.val (.int p0), .val (.int p1), .unset, .unset] [(.int p1)])) _
    refine XS.i2l X0.here hx rfl (hb hby d1_1) rfl ?_
    show Steps p.tables e below (s₁.setTop (mkF m 2 #[.val (.int p0), .val (.int p1), .unset, .unset] [(.long (p1.toInt64))])) _
    refine XS.lconst X0.here hx rfl (hb hby d1_2) ?_
    show Steps p.tables e below (s₁.setTop (mkF m 3 #[.val (.int p0), .val (.int p1), .unset, .unset] [(.long (1 : Int64)), (.long (p1.toInt64))])) _
    refine XS.ladd X0.here hx rfl (hb hby d1_3) rfl ?_
    show Steps p.tables e below (s₁.setTop (mkF m 4 #[.val (.int p0), .val (.int p1), .unset, .unset] [(.long ((p1.toInt64) + (1 : Int64)))])) _
    refine XS.iloadN X0.here hx rfl (hb hby d1_4) rfl ?_
    show Steps p.tables e below (s₁.setTop (mkF m 5 #[.val (.int p0), .val (.int p1), .unset, .unset] [(.int p0), (.long ((p1.toInt64) + (1 : Int64)))])) _
    refine XS.i2l X0.here hx rfl (hb hby d1_5) rfl ?_
    show Steps p.tables e below (s₁.setTop (mkF m 6 #[.val (.int p0), .val (.int p1), .unset, .unset] [(.long (p0.toInt64)), (.long ((p1.toInt64) + (1 : Int64)))])) _
    refine XS.lmul X0.here hx rfl (hb hby d1_6) rfl ?_
    show Steps p.tables e below (s₁.setTop (mkF m 7 #[.val (.int p0), .val (.int p1), .unset, .unset] [(.long (((p1.toInt64) + (1 : Int64)) * (p0.toInt64)))])) _
    refine XS.lstoreN X0.here hx rfl (hb hby d1_7) rfl (l' := #[.val (.int p0), .val (.int p1), .val (.long (((p1.toInt64) + (1 : Int64)) * (p0.toInt64))), .second]) rfl ?_
    show Steps p.tables e below (s₁.setTop (mkF m 8 #[.val (.int p0), .val (.int p1), .val (.long (((p1.toInt64) + (1 : Int64)) * (p0.toInt64))), .second] [])) _
    refine XS.lloadN X0.here hx rfl (hb hby d1_8) rfl ?_
    show Steps p.tables e below (s₁.setTop (mkF m 9 #[.val (.int p0), .val (.int p1), .val (.long (((p1.toInt64) + (1 : Int64)) * (p0.toInt64))), .second] [(.long (((p1.toInt64) + (1 : Int64)) * (p0.toInt64)))])) _
    refine XS.iloadN X0.here hx rfl (hb hby d1_9) rfl ?_
    show Steps p.tables e below (s₁.setTop (mkF m 10 #[.val (.int p0), .val (.int p1), .val (.long (((p1.toInt64) + (1 : Int64)) * (p0.toInt64))), .second] [(.int p0), (.long (((p1.toInt64) + (1 : Int64)) * (p0.toInt64)))])) _
    refine XS.i2l X0.here hx rfl (hb hby d1_10) rfl ?_
    show Steps p.tables e below (s₁.setTop (mkF m 11 #[.val (.int p0), .val (.int p1), .val (.long (((p1.toInt64) + (1 : Int64)) * (p0.toInt64))), .second] [(.long (p0.toInt64)), (.long (((p1.toInt64) + (1 : Int64)) * (p0.toInt64)))])) _
    refine XS.ladd X0.here hx rfl (hb hby d1_11) rfl ?_
    show Steps p.tables e below (s₁.setTop (mkF m 12 #[.val (.int p0), .val (.int p1), .val (.long (((p1.toInt64) + (1 : Int64)) * (p0.toInt64))), .second] [(.long ((((p1.toInt64) + (1 : Int64)) * (p0.toInt64)) + (p0.toInt64)))])) _
    refine X0.ldc2Long hx hown (mvT hZ (hw _ (List.mem_of_getElem? (i := 5) rfl))) (g := (mkF m 12 #[.val (.int p0), .val (.int p1), .val (.long (((p1.toInt64) + (1 : Int64)) * (p0.toInt64))), .second] [(.long ((((p1.toInt64) + (1 : Int64)) * (p0.toInt64)) + (p0.toInt64)))])) rfl (hb hby d1_12) _ ?_
    show Steps p.tables e below (s₁.setTop (mkF m 15 #[.val (.int p0), .val (.int p1), .val (.long (((p1.toInt64) + (1 : Int64)) * (p0.toInt64))), .second] [(.long (2 : Int64)), (.long ((((p1.toInt64) + (1 : Int64)) * (p0.toInt64)) + (p0.toInt64)))])) _
    refine XS.ladd X0.here hx rfl (hb hby d1_15) rfl ?_
    show Steps p.tables e below (s₁.setTop (mkF m 16 #[.val (.int p0), .val (.int p1), .val (.long (((p1.toInt64) + (1 : Int64)) * (p0.toInt64))), .second] [(.long (((((p1.toInt64) + (1 : Int64)) * (p0.toInt64)) + (p0.toInt64)) + (2 : Int64)))])) _
    refine X0.ldc2Long hx hown (mvT hZ (hw _ (List.mem_of_getElem? (i := 6) rfl))) (g := (mkF m 16 #[.val (.int p0), .val (.int p1), .val (.long (((p1.toInt64) + (1 : Int64)) * (p0.toInt64))), .second] [(.long (((((p1.toInt64) + (1 : Int64)) * (p0.toInt64)) + (p0.toInt64)) + (2 : Int64)))])) rfl (hb hby d1_16) _ ?_
    show Steps p.tables e below (s₁.setTop (mkF m 19 #[.val (.int p0), .val (.int p1), .val (.long (((p1.toInt64) + (1 : Int64)) * (p0.toInt64))), .second] [(.long (3 : Int64)), (.long (((((p1.toInt64) + (1 : Int64)) * (p0.toInt64)) + (p0.toInt64)) + (2 : Int64)))])) _
    refine XS.ldiv X0.here hx rfl (hb hby d1_19) rfl (by decide) ?_
    show Steps p.tables e below (s₁.setTop (mkF m 20 #[.val (.int p0), .val (.int p1), .val (.long (((p1.toInt64) + (1 : Int64)) * (p0.toInt64))), .second] [(.long ((((((p1.toInt64) + (1 : Int64)) * (p0.toInt64)) + (p0.toInt64)) + (2 : Int64)) / (3 : Int64)))])) _
    refine X0.ldc2Long hx hown (mvT hZ (hw _ (List.mem_of_getElem? (i := 7) rfl))) (g := (mkF m 20 #[.val (.int p0), .val (.int p1), .val (.long (((p1.toInt64) + (1 : Int64)) * (p0.toInt64))), .second] [(.long ((((((p1.toInt64) + (1 : Int64)) * (p0.toInt64)) + (p0.toInt64)) + (2 : Int64)) / (3 : Int64)))])) rfl (hb hby d1_20) _ ?_
    show Steps p.tables e below (s₁.setTop (mkF m 23 #[.val (.int p0), .val (.int p1), .val (.long (((p1.toInt64) + (1 : Int64)) * (p0.toInt64))), .second] [(.long (4 : Int64)), (.long ((((((p1.toInt64) + (1 : Int64)) * (p0.toInt64)) + (p0.toInt64)) + (2 : Int64)) / (3 : Int64)))])) _
    refine XS.lmul X0.here hx rfl (hb hby d1_23) rfl ?_
    show Steps p.tables e below (s₁.setTop (mkF m 24 #[.val (.int p0), .val (.int p1), .val (.long (((p1.toInt64) + (1 : Int64)) * (p0.toInt64))), .second] [(.long (((((((p1.toInt64) + (1 : Int64)) * (p0.toInt64)) + (p0.toInt64)) + (2 : Int64)) / (3 : Int64)) * (4 : Int64)))])) _
    have hz : (F1 p0 p1) = (((((((p1.toInt64) + (1 : Int64)) * (p0.toInt64)) + (p0.toInt64)) + (2 : Int64)) / (3 : Int64)) * (4 : Int64)) := by unfold F1; rfl
    rw [hz] at hr
    exact X0.lreturnOut hx Bd.returns (hb hby d1_24) hr
  · show Q_rm1 Z p0 p1 h0 n0 _ s₁.heap _
    rw [e0]
    exact ⟨rfl, N0, rfl⟩

theorem d2_0 : decode method_2_code 0 = .ok (.lload_n 0, 1) := by decide +kernel
theorem d2_1 : decode method_2_code 1 = .ok (.ldc2_w 7, 3) := by decide +kernel
theorem d2_4 : decode method_2_code 4 = .ok (.ldiv, 1) := by decide +kernel
theorem d2_5 : decode method_2_code 5 = .ok (.ldc2_w 9, 3) := by decide +kernel
theorem d2_8 : decode method_2_code 8 = .ok (.lmul, 1) := by decide +kernel
theorem d2_9 : decode method_2_code 9 = .ok (.lreturn, 1) := by decide +kernel
theorem pn_rm2 : plainName "com/example/crossfind/crossfind/gateway/AllowanceSmallestHeapPinLaw" = true := by first | (simp [plainName, overriddenIn]; done) | decide +kernel
theorem ef_rm2 (m : MethodId) (j0 : Int64) : entryFrame m #[(.long j0)] 2 = mkF m 0 #[.val (.long j0), .second] [] := by first | (simp [entryFrame, mkF, argsToLocals, Value.category]; done) | rfl
def F2 (j0 : Int64) : Int64 := ((j0 / (4 : Int64)) * (3 : Int64))
def Q_rm2 (Z : State) (j0 : Int64) (h0 : Heap) (n0 : Nat) (v : Option Value) (h : Heap) (L : List Loc) : Prop := v = some (.long (F2 j0)) ∧ Fr n0 L ∧ h = h0
set_option maxRecDepth 65536 in
set_option maxHeartbeats 40000000 in
theorem rm2 (l : Launch) (Z : State) (a0 : Array Value) (hw : ∀ d ∈ tables_1, d.before a0 Z = true) (ws : List Jvm.Cond) (j0 : Int64) (h0 : Heap) (n0 : Nat) (Z0 : n0 ≤ h0.size) :
    MetFree l (⟨"com/example/crossfind/crossfind/gateway/AllowanceSmallestHeapPinLaw", "share", "(J)J"⟩ : MethodName) (head1 (Jvm.Cond.code (⟨"com/example/crossfind/crossfind/gateway/AllowanceSmallestHeapPinLaw", "share", "(J)J"⟩ : MethodName) method_2_code 2 (some .long) :: ws) ({ frames := 0, cells := 0, slots := 0, locals := 0 } : Room)) (fun a U => a = #[(.long j0)] ∧ Z.Warmed39 U.vm ∧ U.heap = h0) (fun _ _ _ _ _ => True) (fun _ U o U' => ∃ v L, o = .returned v ∧ Q_rm2 Z j0 h0 n0 v U'.heap L ∧ FrameEnd U o U' L ({ frames := 0, cells := 0, slots := 0, locals := 0 } : Room).cells ({ frames := 0, cells := 0, slots := 0, locals := 0 } : Room).slots) := by
  refine MetFree.of_bodySF (plainFor_of_name pn_rm2) hisR ?_
  intro p e s m args below meth c s₁ Bd hml0 hP hK
  obtain ⟨rfl, hZ, hh⟩ := hP
  have hx := Bd.exec
  have hby := Bd.bytes
  have hml : c.maxLocals = 2 := hml0
  have hown : s.vm.findClass "com/example/crossfind/crossfind/gateway/AllowanceSmallestHeapPinLaw" = some m.cls := findClass_of_methodNamed Bd.named
  have hnm := (name_of_methodNamed Bd.named Bd.method).1
  have X0 : Stand p l e ({ frames := 0, cells := 0, slots := 0, locals := 0 } : Room) s m #[(.long j0)] below meth c s₁ [] 0 0 := Stand.of_body Bd
  have e0 : s₁.heap = h0 := by rw [← hh, Bd.state]; rfl
  have N0 := Fr.nil n0
  have q0 : Steps p.tables e below (s₁.setTop (entryFrame m #[(.long j0)] 2)) (s₁.setTop (mkF m 0 #[.val (.long j0), .second] [])) := castTop (ef_rm2 m j0) (Steps.refl _)
  obtain ⟨fs, hr, hrun, hended, hW, hsame⟩ := X0.leave (v := some (.long (F2 j0))) (fun h => by rw [Bd.returns] at h; cases h)
  refine ⟨_, _, q0.trans ?_, hrun, hended, _, _, rfl, ?_, ⟨_, rfl⟩, hW, hsame.mono (by decide) (by decide)⟩
  · show Steps p.tables e below (s₁.setTop (mkF m 0 #[.val (.long j0), .second] [])) _
    refine XS.lloadN X0.here hx rfl (hb hby d2_0) rfl ?_
    show Steps p.tables e below (s₁.setTop (mkF m 1 #[.val (.long j0), .second] [(.long j0)])) _
    refine X0.ldc2Long hx hown (mvT hZ (hw _ (List.mem_of_getElem? (i := 12) rfl))) (g := (mkF m 1 #[.val (.long j0), .second] [(.long j0)])) rfl (hb hby d2_1) _ ?_
    show Steps p.tables e below (s₁.setTop (mkF m 4 #[.val (.long j0), .second] [(.long (4 : Int64)), (.long j0)])) _
    refine XS.ldiv X0.here hx rfl (hb hby d2_4) rfl (by decide) ?_
    show Steps p.tables e below (s₁.setTop (mkF m 5 #[.val (.long j0), .second] [(.long (j0 / (4 : Int64)))])) _
    refine X0.ldc2Long hx hown (mvT hZ (hw _ (List.mem_of_getElem? (i := 13) rfl))) (g := (mkF m 5 #[.val (.long j0), .second] [(.long (j0 / (4 : Int64)))])) rfl (hb hby d2_5) _ ?_
    show Steps p.tables e below (s₁.setTop (mkF m 8 #[.val (.long j0), .second] [(.long (3 : Int64)), (.long (j0 / (4 : Int64)))])) _
    refine XS.lmul X0.here hx rfl (hb hby d2_8) rfl ?_
    show Steps p.tables e below (s₁.setTop (mkF m 9 #[.val (.long j0), .second] [(.long ((j0 / (4 : Int64)) * (3 : Int64)))])) _
    have hz : (F2 j0) = ((j0 / (4 : Int64)) * (3 : Int64)) := by unfold F2; rfl
    rw [hz] at hr
    exact X0.lreturnOut hx Bd.returns (hb hby d2_9) hr
  · show Q_rm2 Z j0 h0 n0 _ s₁.heap _
    rw [e0]
    exact ⟨rfl, N0, rfl⟩

theorem own_bnd {a b : Int} (ha : 0 ≤ a) (hb : 0 ≤ b) (ha' : a < 2147483648) (hb' : b < 2147483648) : 0 ≤ a * b ∧ a * b ≤ 2147483647 * 2147483647 := by
  refine ⟨Int.mul_nonneg ha hb, ?_⟩
  exact Int.le_trans (Int.mul_le_mul_of_nonneg_right (by omega : a ≤ 2147483647) hb) (Int.mul_le_mul_of_nonneg_left (by omega : b ≤ 2147483647) (by omega))
def own_N (m a : Int32) : Int := m.toInt + a.toInt * m.toInt + m.toInt
theorem own_t (m a : Int32) (h1 : 0 ≤ m.toInt) (h2 : 0 ≤ a.toInt) (h3 : m.toInt < 2147483648) (h4 : a.toInt < 2147483648) : 0 ≤ own_N m a ∧ own_N m a ≤ 2147483647 * 2147483647 + 2 * 2147483647 := by
  have := own_bnd h2 h1 h4 h3
  unfold own_N
  omega
theorem own_n (m a : Int32) (h1 : 0 ≤ m.toInt) (h2 : 0 ≤ a.toInt) (h3 : m.toInt < 2147483648) (h4 : a.toInt < 2147483648) : ((m.toInt64 + (a.toInt64 * m.toInt64)) + m.toInt64).toInt = own_N m a := by
  have hb := own_bnd h2 h1 h4 h3
  have em : m.toInt64.toInt = m.toInt := Int32.toInt_toInt64 m
  have ea : a.toInt64.toInt = a.toInt := Int32.toInt_toInt64 a
  have e1 : (a.toInt64 * m.toInt64).toInt = a.toInt * m.toInt := by rw [Jvm.Kit.i64_mul (by rw [em, ea]; omega) (by rw [em, ea]; omega), em, ea]
  have e2 : (m.toInt64 + a.toInt64 * m.toInt64).toInt = m.toInt + a.toInt * m.toInt := by rw [Jvm.Kit.i64_add (by rw [em, e1]; omega) (by rw [em, e1]; omega), em, e1]
  rw [Jvm.Kit.i64_add (by rw [em, e2]; omega) (by rw [em, e2]; omega), em, e2]
  rfl
theorem own_s (m a : Int32) (h1 : 0 ≤ m.toInt) (h2 : 0 ≤ a.toInt) (h3 : m.toInt < 2147483648) (h4 : a.toInt < 2147483648) : True ∧ (F1 m a).toInt = (own_N m a + 2) / 3 * 4 := by
  refine ⟨trivial, ?_⟩
  have hb := own_bnd h2 h1 h4 h3
  have em : m.toInt64.toInt = m.toInt := Int32.toInt_toInt64 m
  have ea : a.toInt64.toInt = a.toInt := Int32.toInt_toInt64 a
  have l1 : (1 : Int64).toInt = 1 := rfl
  have l2 : (2 : Int64).toInt = 2 := rfl
  have l3 : (3 : Int64).toInt = 3 := rfl
  have l4 : (4 : Int64).toInt = 4 := rfl
  have e1 : (a.toInt64 + 1).toInt = a.toInt + 1 := by rw [Jvm.Kit.i64_add (by rw [ea, l1]; omega) (by rw [ea, l1]; omega), ea, l1]
  have x1 : (a.toInt + 1) * m.toInt = a.toInt * m.toInt + m.toInt := by rw [Int.add_mul, Int.one_mul]
  have e2 : ((a.toInt64 + 1) * m.toInt64).toInt = a.toInt * m.toInt + m.toInt := by rw [Jvm.Kit.i64_mul (by rw [em, e1, x1]; omega) (by rw [em, e1, x1]; omega), em, e1, x1]
  have e3 : ((a.toInt64 + 1) * m.toInt64 + m.toInt64).toInt = a.toInt * m.toInt + m.toInt + m.toInt := by rw [Jvm.Kit.i64_add (by rw [em, e2]; omega) (by rw [em, e2]; omega), em, e2]
  have e4 : ((a.toInt64 + 1) * m.toInt64 + m.toInt64 + 2).toInt = own_N m a + 2 := by
    rw [Jvm.Kit.i64_add (by rw [l2, e3]; omega) (by rw [l2, e3]; omega), l2, e3]; unfold own_N; omega
  have ht := own_t m a h1 h2 h3 h4
  have e5 : (((a.toInt64 + 1) * m.toInt64 + m.toInt64 + 2) / 3).toInt = (own_N m a + 2) / 3 := by
    rw [Jvm.Kit.i64_div (by rw [l3]; omega), e4, l3, Int.tdiv_eq_ediv_of_nonneg (by omega)]
  unfold F1
  rw [Jvm.Kit.i64_mul (by rw [l4, e5]; omega) (by rw [l4, e5]; omega), l4, e5]
theorem own_F2 (x : Int64) (h1 : 0 ≤ x.toInt) (h2 : x.toInt < 9223372036854775808) : (F2 x).toInt = x.toInt / 4 * 3 := by
  have l3 : (3 : Int64).toInt = 3 := rfl
  have l4 : (4 : Int64).toInt = 4 := rfl
  have e5 : (x / 4).toInt = x.toInt / 4 := by rw [Jvm.Kit.i64_div (by rw [l4]; omega), l4, Int.tdiv_eq_ediv_of_nonneg h1]
  unfold F2
  rw [Jvm.Kit.i64_mul (by rw [l3, e5]; omega) (by rw [l3, e5]; omega), l3, e5]

theorem plainA (p0 : Int32) (p1 : Int32) (vm : Int32) (va : Int32) (vn : Int64) (vs : Int64)
    (hvm : vm = (p0 &&& (2147483647 : Int32)))
    (hva : va = (p1 &&& (2147483647 : Int32)))
    (hvn : vn = (((vm.toInt64) + ((va.toInt64) * (vm.toInt64))) + (vm.toInt64)))
    (hvs : vs = (F1 vm va)) :
    ¬ (vs < (0 : Int64)) := by
  have hm : vm.toInt = p0.toInt % 2 ^ 31 := by rw [hvm]; exact Jvm.Kit.i32_mask p0 2147483647 (k := 31) (by decide) (by decide)
  have ha : va.toInt = p1.toInt % 2 ^ 31 := by rw [hva]; exact Jvm.Kit.i32_mask p1 2147483647 (k := 31) (by decide) (by decide)
  have hs := own_s vm va (by omega) (by omega) (by omega) (by omega)
  rw [Int64.lt_iff_toInt_lt, hvs, hs.2]
  show ¬ _ < (0 : Int)
  have := own_t vm va (by omega) (by omega) (by omega) (by omega)
  omega

theorem plainB (p0 : Int32) (p1 : Int32) (vm : Int32) (va : Int32) (vn : Int64) (vs : Int64)
    (hk9 : ¬ (vs < (0 : Int64)))
    (hvm : vm = (p0 &&& (2147483647 : Int32)))
    (hva : va = (p1 &&& (2147483647 : Int32)))
    (hvn : vn = (((vm.toInt64) + ((va.toInt64) * (vm.toInt64))) + (vm.toInt64)))
    (hvs : vs = (F1 vm va)) :
    ¬ ((F2 vs) < vn) := by
  have hm : vm.toInt = p0.toInt % 2 ^ 31 := by rw [hvm]; exact Jvm.Kit.i32_mask p0 2147483647 (k := 31) (by decide) (by decide)
  have ha : va.toInt = p1.toInt % 2 ^ 31 := by rw [hva]; exact Jvm.Kit.i32_mask p1 2147483647 (k := 31) (by decide) (by decide)
  have hs := own_s vm va (by omega) (by omega) (by omega) (by omega)
  have hn := own_n vm va (by omega) (by omega) (by omega) (by omega)
  have ht := own_t vm va (by omega) (by omega) (by omega) (by omega)
  have e : vs.toInt = (own_N vm va + 2) / 3 * 4 := by rw [hvs]; exact hs.2
  rw [Int64.lt_iff_toInt_lt, own_F2 vs (by omega) (by omega), hvn, hn, e]
  omega

theorem plainC (p0 : Int32) (p1 : Int32) (vm : Int32) (va : Int32) (vn : Int64) (vs : Int64)
    (hk9 : ¬ (vs < (0 : Int64)))
    (hk15 : ¬ ((F2 vs) < vn))
    (hc18 : (0 : Int64) < vs)
    (hvm : vm = (p0 &&& (2147483647 : Int32)))
    (hva : va = (p1 &&& (2147483647 : Int32)))
    (hvn : vn = (((vm.toInt64) + ((va.toInt64) * (vm.toInt64))) + (vm.toInt64)))
    (hvs : vs = (F1 vm va)) :
    (F2 (vs - (1 : Int64))) < vn := by
  have hm : vm.toInt = p0.toInt % 2 ^ 31 := by rw [hvm]; exact Jvm.Kit.i32_mask p0 2147483647 (k := 31) (by decide) (by decide)
  have ha : va.toInt = p1.toInt % 2 ^ 31 := by rw [hva]; exact Jvm.Kit.i32_mask p1 2147483647 (k := 31) (by decide) (by decide)
  have hs := own_s vm va (by omega) (by omega) (by omega) (by omega)
  have hn := own_n vm va (by omega) (by omega) (by omega) (by omega)
  have ht := own_t vm va (by omega) (by omega) (by omega) (by omega)
  have e : vs.toInt = (own_N vm va + 2) / 3 * 4 := by rw [hvs]; exact hs.2
  have h0 : (0 : Int) < vs.toInt := by have := Int64.lt_iff_toInt_lt.mp hc18; exact this
  have e1 : (vs - 1).toInt = vs.toInt - 1 := Jvm.Kit.i64_sub (by show _ ≤ _ - (1 : Int); omega) (by show _ - (1 : Int) < _; omega)
  rw [Int64.lt_iff_toInt_lt, own_F2 (vs - 1) (by omega) (by omega), hvn, hn, e1, e]
  omega

theorem plainD (p0 : Int32) (p1 : Int32) (vm : Int32) (va : Int32) (vn : Int64) (vs : Int64) (zr : Int32)
    (hk9 : ¬ (vs < (0 : Int64)))
    (hk15 : ¬ ((F2 vs) < vn))
    (hc18 : (0 : Int64) < vs)
    (hk24 : (F2 (vs - (1 : Int64))) < vn)
    (hvm : vm = (p0 &&& (2147483647 : Int32)))
    (hva : va = (p1 &&& (2147483647 : Int32)))
    (hvn : vn = (((vm.toInt64) + ((va.toInt64) * (vm.toInt64))) + (vm.toInt64)))
    (hvs : vs = (F1 vm va))
    (hzr : zr = (1 : Int32)) :
    zr = 1 := by
  exact hzr

theorem plainE (p0 : Int32) (p1 : Int32) (vm : Int32) (va : Int32) (vn : Int64) (vs : Int64) (zr : Int32)
    (hk9 : ¬ (vs < (0 : Int64)))
    (hk15 : ¬ ((F2 vs) < vn))
    (hc18 : ¬ ((0 : Int64) < vs))
    (hvm : vm = (p0 &&& (2147483647 : Int32)))
    (hva : va = (p1 &&& (2147483647 : Int32)))
    (hvn : vn = (((vm.toInt64) + ((va.toInt64) * (vm.toInt64))) + (vm.toInt64)))
    (hvs : vs = (F1 vm va))
    (hzr : zr = (1 : Int32)) :
    zr = 1 := by
  exact hzr

theorem pd_0 : parseMethodDescriptor "(II)J" = some ⟨[.int, .int], some .long⟩ := by decide +kernel
theorem pd_1 : parseMethodDescriptor "(J)J" = some ⟨[.long], some .long⟩ := by decide +kernel
theorem pn_rm0 : plainName "com/example/crossfind/crossfind/gateway/AllowanceSmallestHeapPinLaw" = true := by first | (simp [plainName, overriddenIn]; done) | decide +kernel
theorem ef_rm0 (m : MethodId) (p0 : Int32) (p1 : Int32) : entryFrame m #[(.int p0), (.int p1)] maxLocals = mkF m 0 #[.val (.int p0), .val (.int p1), .unset, .unset, .unset, .unset, .unset, .unset] [] := by first | (simp [entryFrame, mkF, argsToLocals, Value.category, maxLocals]; done) | rfl
def Q_rm0 (Z : State) (p0 : Int32) (p1 : Int32) (h0 : Heap) (n0 : Nat) (v : Option Value) (h : Heap) (L : List Loc) : Prop := v = some (.int (1 : Int32)) ∧ Fr n0 L
set_option maxRecDepth 65536 in
set_option maxHeartbeats 40000000 in
theorem rm0 (l : Launch) (Z : State) (a0 : Array Value) (hw : ∀ d ∈ tables_1, d.before a0 Z = true) (ws : List Jvm.Cond) (p0 : Int32) (p1 : Int32) (h0 : Heap) (n0 : Nat) (Z0 : n0 ≤ h0.size) :
    MetFree l x (head1 (Jvm.Cond.code x code maxLocals ret :: ws) room_1) (fun a U => a = #[(.int p0), (.int p1)] ∧ Z.Warmed39 U.vm ∧ U.heap = h0) (fun _ _ _ _ _ => True) (fun _ U o U' => ∃ v L, o = .returned v ∧ Q_rm0 Z p0 p1 h0 n0 v U'.heap L ∧ FrameEnd U o U' L room_1.cells room_1.slots) := by
  refine MetFree.of_bodySF (plainFor_of_name pn_rm0) hisR ?_
  intro p e s m args below meth c s₁ Bd hml0 hP hK
  obtain ⟨rfl, hZ, hh⟩ := hP
  have hx := Bd.exec
  have hby := Bd.bytes
  have hml : c.maxLocals = 8 := hml0
  have hown : s.vm.findClass "com/example/crossfind/crossfind/gateway/AllowanceSmallestHeapPinLaw" = some m.cls := findClass_of_methodNamed Bd.named
  have hnm := (name_of_methodNamed Bd.named Bd.method).1
  have X0 : Stand p l e room_1 s m #[(.int p0), (.int p1)] below meth c s₁ [] 0 0 := Stand.of_body Bd
  have e0 : s₁.heap = h0 := by rw [← hh, Bd.state]; rfl
  have N0 := Fr.nil n0
  have q0 : Steps p.tables e below (s₁.setTop (entryFrame m #[(.int p0), (.int p1)] maxLocals)) (s₁.setTop (mkF m 0 #[.val (.int p0), .val (.int p1), .unset, .unset, .unset, .unset, .unset, .unset] [])) := castTop (ef_rm0 m p0 p1) (Steps.refl _)
  have q1 : Steps p.tables e below (s₁.setTop (entryFrame m #[(.int p0), (.int p1)] maxLocals)) (s₁.setTop (mkF m 5 #[.val (.int p0), .val (.int p1), .val (.int (p0 &&& (2147483647 : Int32))), .unset, .unset, .unset, .unset, .unset] [])) := q0.trans (by
      show Steps p.tables e below (s₁.setTop (mkF m 0 #[.val (.int p0), .val (.int p1), .unset, .unset, .unset, .unset, .unset, .unset] [])) _
      refine XS.iloadN X0.here hx rfl (hb hby at_0) rfl ?_
      show Steps p.tables e below (s₁.setTop (mkF m 1 #[.val (.int p0), .val (.int p1), .unset, .unset, .unset, .unset, .unset, .unset] [(.int p0)])) _
      refine X0.ldcInt hx hown (mvT hZ (hw _ (List.mem_of_getElem? (i := 0) rfl))) (g := (mkF m 1 #[.val (.int p0), .val (.int p1), .unset, .unset, .unset, .unset, .unset, .unset] [(.int p0)])) rfl (hb hby at_1) _ ?_
      show Steps p.tables e below (s₁.setTop (mkF m 3 #[.val (.int p0), .val (.int p1), .unset, .unset, .unset, .unset, .unset, .unset] [(.int (2147483647 : Int32)), (.int p0)])) _
      refine XS.iand X0.here hx rfl (hb hby at_3) rfl ?_
      show Steps p.tables e below (s₁.setTop (mkF m 4 #[.val (.int p0), .val (.int p1), .unset, .unset, .unset, .unset, .unset, .unset] [(.int (p0 &&& (2147483647 : Int32)))])) _
      refine XS.istoreN X0.here hx rfl (hb hby at_4) rfl (l' := #[.val (.int p0), .val (.int p1), .val (.int (p0 &&& (2147483647 : Int32))), .unset, .unset, .unset, .unset, .unset]) rfl ?_
      show Steps p.tables e below (s₁.setTop (mkF m 5 #[.val (.int p0), .val (.int p1), .val (.int (p0 &&& (2147483647 : Int32))), .unset, .unset, .unset, .unset, .unset] [])) _
      exact Steps.refl _)
  obtain ⟨vm, hvm⟩ : ∃ v : Int32, v = (p0 &&& (2147483647 : Int32)) := ⟨_, rfl⟩
  rw [← hvm] at q1
  have q2 : Steps p.tables e below (s₁.setTop (entryFrame m #[(.int p0), (.int p1)] maxLocals)) (s₁.setTop (mkF m 10 #[.val (.int p0), .val (.int p1), .val (.int vm), .val (.int (p1 &&& (2147483647 : Int32))), .unset, .unset, .unset, .unset] [])) := q1.trans (by
      show Steps p.tables e below (s₁.setTop (mkF m 5 #[.val (.int p0), .val (.int p1), .val (.int vm), .unset, .unset, .unset, .unset, .unset] [])) _
      refine XS.iloadN X0.here hx rfl (hb hby at_5) rfl ?_
      show Steps p.tables e below (s₁.setTop (mkF m 6 #[.val (.int p0), .val (.int p1), .val (.int vm), .unset, .unset, .unset, .unset, .unset] [(.int p1)])) _
      refine X0.ldcInt hx hown (mvT hZ (hw _ (List.mem_of_getElem? (i := 0) rfl))) (g := (mkF m 6 #[.val (.int p0), .val (.int p1), .val (.int vm), .unset, .unset, .unset, .unset, .unset] [(.int p1)])) rfl (hb hby at_6) _ ?_
      show Steps p.tables e below (s₁.setTop (mkF m 8 #[.val (.int p0), .val (.int p1), .val (.int vm), .unset, .unset, .unset, .unset, .unset] [(.int (2147483647 : Int32)), (.int p1)])) _
      refine XS.iand X0.here hx rfl (hb hby at_8) rfl ?_
      show Steps p.tables e below (s₁.setTop (mkF m 9 #[.val (.int p0), .val (.int p1), .val (.int vm), .unset, .unset, .unset, .unset, .unset] [(.int (p1 &&& (2147483647 : Int32)))])) _
      refine XS.istoreN X0.here hx rfl (hb hby at_9) rfl (l' := #[.val (.int p0), .val (.int p1), .val (.int vm), .val (.int (p1 &&& (2147483647 : Int32))), .unset, .unset, .unset, .unset]) rfl ?_
      show Steps p.tables e below (s₁.setTop (mkF m 10 #[.val (.int p0), .val (.int p1), .val (.int vm), .val (.int (p1 &&& (2147483647 : Int32))), .unset, .unset, .unset, .unset] [])) _
      exact Steps.refl _)
  obtain ⟨va, hva⟩ : ∃ v : Int32, v = (p1 &&& (2147483647 : Int32)) := ⟨_, rfl⟩
  rw [← hva] at q2
  have q3 : Steps p.tables e below (s₁.setTop (entryFrame m #[(.int p0), (.int p1)] maxLocals)) (s₁.setTop (mkF m 23 #[.val (.int p0), .val (.int p1), .val (.int vm), .val (.int va), .val (.long (((vm.toInt64) + ((va.toInt64) * (vm.toInt64))) + (vm.toInt64))), .second, .unset, .unset] [])) := q2.trans (by
      show Steps p.tables e below (s₁.setTop (mkF m 10 #[.val (.int p0), .val (.int p1), .val (.int vm), .val (.int va), .unset, .unset, .unset, .unset] [])) _
      refine XS.iloadN X0.here hx rfl (hb hby at_10) rfl ?_
      show Steps p.tables e below (s₁.setTop (mkF m 11 #[.val (.int p0), .val (.int p1), .val (.int vm), .val (.int va), .unset, .unset, .unset, .unset] [(.int vm)])) _
      refine XS.i2l X0.here hx rfl (hb hby at_11) rfl ?_
      show Steps p.tables e below (s₁.setTop (mkF m 12 #[.val (.int p0), .val (.int p1), .val (.int vm), .val (.int va), .unset, .unset, .unset, .unset] [(.long (vm.toInt64))])) _
      refine XS.iloadN X0.here hx rfl (hb hby at_12) rfl ?_
      show Steps p.tables e below (s₁.setTop (mkF m 13 #[.val (.int p0), .val (.int p1), .val (.int vm), .val (.int va), .unset, .unset, .unset, .unset] [(.int va), (.long (vm.toInt64))])) _
      refine XS.i2l X0.here hx rfl (hb hby at_13) rfl ?_
      show Steps p.tables e below (s₁.setTop (mkF m 14 #[.val (.int p0), .val (.int p1), .val (.int vm), .val (.int va), .unset, .unset, .unset, .unset] [(.long (va.toInt64)), (.long (vm.toInt64))])) _
      refine XS.iloadN X0.here hx rfl (hb hby at_14) rfl ?_
      show Steps p.tables e below (s₁.setTop (mkF m 15 #[.val (.int p0), .val (.int p1), .val (.int vm), .val (.int va), .unset, .unset, .unset, .unset] [(.int vm), (.long (va.toInt64)), (.long (vm.toInt64))])) _
      refine XS.i2l X0.here hx rfl (hb hby at_15) rfl ?_
      show Steps p.tables e below (s₁.setTop (mkF m 16 #[.val (.int p0), .val (.int p1), .val (.int vm), .val (.int va), .unset, .unset, .unset, .unset] [(.long (vm.toInt64)), (.long (va.toInt64)), (.long (vm.toInt64))])) _
      refine XS.lmul X0.here hx rfl (hb hby at_16) rfl ?_
      show Steps p.tables e below (s₁.setTop (mkF m 17 #[.val (.int p0), .val (.int p1), .val (.int vm), .val (.int va), .unset, .unset, .unset, .unset] [(.long ((va.toInt64) * (vm.toInt64))), (.long (vm.toInt64))])) _
      refine XS.ladd X0.here hx rfl (hb hby at_17) rfl ?_
      show Steps p.tables e below (s₁.setTop (mkF m 18 #[.val (.int p0), .val (.int p1), .val (.int vm), .val (.int va), .unset, .unset, .unset, .unset] [(.long ((vm.toInt64) + ((va.toInt64) * (vm.toInt64))))])) _
      refine XS.iloadN X0.here hx rfl (hb hby at_18) rfl ?_
      show Steps p.tables e below (s₁.setTop (mkF m 19 #[.val (.int p0), .val (.int p1), .val (.int vm), .val (.int va), .unset, .unset, .unset, .unset] [(.int vm), (.long ((vm.toInt64) + ((va.toInt64) * (vm.toInt64))))])) _
      refine XS.i2l X0.here hx rfl (hb hby at_19) rfl ?_
      show Steps p.tables e below (s₁.setTop (mkF m 20 #[.val (.int p0), .val (.int p1), .val (.int vm), .val (.int va), .unset, .unset, .unset, .unset] [(.long (vm.toInt64)), (.long ((vm.toInt64) + ((va.toInt64) * (vm.toInt64))))])) _
      refine XS.ladd X0.here hx rfl (hb hby at_20) rfl ?_
      show Steps p.tables e below (s₁.setTop (mkF m 21 #[.val (.int p0), .val (.int p1), .val (.int vm), .val (.int va), .unset, .unset, .unset, .unset] [(.long (((vm.toInt64) + ((va.toInt64) * (vm.toInt64))) + (vm.toInt64)))])) _
      refine XS.lstore X0.here hx rfl (hb hby at_21) rfl (l' := #[.val (.int p0), .val (.int p1), .val (.int vm), .val (.int va), .val (.long (((vm.toInt64) + ((va.toInt64) * (vm.toInt64))) + (vm.toInt64))), .second, .unset, .unset]) rfl ?_
      show Steps p.tables e below (s₁.setTop (mkF m 23 #[.val (.int p0), .val (.int p1), .val (.int vm), .val (.int va), .val (.long (((vm.toInt64) + ((va.toInt64) * (vm.toInt64))) + (vm.toInt64))), .second, .unset, .unset] [])) _
      exact Steps.refl _)
  obtain ⟨vn, hvn⟩ : ∃ v : Int64, v = (((vm.toInt64) + ((va.toInt64) * (vm.toInt64))) + (vm.toInt64)) := ⟨_, rfl⟩
  rw [← hvn] at q3
  have q4 : Steps p.tables e below (s₁.setTop (entryFrame m #[(.int p0), (.int p1)] maxLocals)) (s₁.setTop (mkF m 25 #[.val (.int p0), .val (.int p1), .val (.int vm), .val (.int va), .val (.long vn), .second, .unset, .unset] [(.int va), (.int vm)])) := q3.trans (by
      show Steps p.tables e below (s₁.setTop (mkF m 23 #[.val (.int p0), .val (.int p1), .val (.int vm), .val (.int va), .val (.long vn), .second, .unset, .unset] [])) _
      refine XS.iloadN X0.here hx rfl (hb hby at_23) rfl ?_
      show Steps p.tables e below (s₁.setTop (mkF m 24 #[.val (.int p0), .val (.int p1), .val (.int vm), .val (.int va), .val (.long vn), .second, .unset, .unset] [(.int vm)])) _
      refine XS.iloadN X0.here hx rfl (hb hby at_24) rfl ?_
      show Steps p.tables e below (s₁.setTop (mkF m 25 #[.val (.int p0), .val (.int p1), .val (.int vm), .val (.int va), .val (.long vn), .second, .unset, .unset] [(.int va), (.int vm)])) _
      exact Steps.refl _)
  obtain ⟨_, _, ⟨T5, L5, k5, n5⟩, -, X5, ⟨Lc5, hQ5, l5, y5, z5⟩, st5⟩ := Jvm.LawKit.callS X0 hx (y := (⟨"com/example/crossfind/crossfind/gateway/Allowance", "smallestHeap", "(II)J"⟩ : MethodName)) hown (mvT hZ (hw _ (List.mem_of_getElem? (i := 1) rfl))) (mvT hZ (hw _ (List.mem_of_getElem? (i := 2) rfl))) (mvT hZ (hw _ (List.mem_of_getElem? (i := 3) rfl))) (mvT hZ (hw _ (List.mem_of_getElem? (i := 4) rfl))) (by decide) (backOf (W := 0) (rm1 l Z a0 hw [] vm va h0 n0 Z0) hZ (hw _ (List.mem_of_getElem? (i := 4) rfl)) (hw _ (List.mem_of_getElem? (i := 3) rfl)) (by decide) (by decide)) (g := (mkF m 25 #[.val (.int p0), .val (.int p1), .val (.int vm), .val (.int va), .val (.long vn), .second, .unset, .unset] [(.int va), (.int vm)])) rfl (by rw [hml]; rfl) (argsL := [(.int vm), (.int va)]) (rest := []) (lenOf pd_0 rfl) rfl (by show 2 * 0 + _ ≤ _; exact Nat.le_of_eq rfl) (hb hby at_25) (fun _ _ => ⟨rfl, e0, (by decide : 0 + 0 ≤ _), (by decide : 0 + 0 ≤ _)⟩)
  dsimp only [Pt.U, Pt.locs, Pt.cells, Pt.slots] at X5 l5 y5 z5 st5 hQ5
  subst l5 y5 z5
  obtain ⟨rfl, N5q, e5⟩ := hQ5
  have N5 := Fr.app N0 N5q
  have q6 : Steps p.tables e below (s₁.setTop (entryFrame m #[(.int p0), (.int p1)] maxLocals)) (T5.setTop (mkF m 28 #[.val (.int p0), .val (.int p1), .val (.int vm), .val (.int va), .val (.long vn), .second, .unset, .unset] [(.long (F1 vm va))])) := q4.trans (st5 _ (Steps.refl _))
  have q7 : Steps p.tables e below (s₁.setTop (entryFrame m #[(.int p0), (.int p1)] maxLocals)) (T5.setTop (mkF m 30 #[.val (.int p0), .val (.int p1), .val (.int vm), .val (.int va), .val (.long vn), .second, .val (.long (F1 vm va)), .second] [])) := q6.trans (by
      show Steps p.tables e below (T5.setTop (mkF m 28 #[.val (.int p0), .val (.int p1), .val (.int vm), .val (.int va), .val (.long vn), .second, .unset, .unset] [(.long (F1 vm va))])) _
      refine XS.lstore X5.here hx rfl (hb hby at_28) rfl (l' := #[.val (.int p0), .val (.int p1), .val (.int vm), .val (.int va), .val (.long vn), .second, .val (.long (F1 vm va)), .second]) rfl ?_
      show Steps p.tables e below (T5.setTop (mkF m 30 #[.val (.int p0), .val (.int p1), .val (.int vm), .val (.int va), .val (.long vn), .second, .val (.long (F1 vm va)), .second] [])) _
      exact Steps.refl _)
  obtain ⟨vs, hvs⟩ : ∃ v : Int64, v = (F1 vm va) := ⟨_, rfl⟩
  rw [← hvs] at q7
  have q8 : Steps p.tables e below (s₁.setTop (entryFrame m #[(.int p0), (.int p1)] maxLocals)) (T5.setTop (mkF m 34 #[.val (.int p0), .val (.int p1), .val (.int vm), .val (.int va), .val (.long vn), .second, .val (.long vs), .second] [(.int (lcmpW vs (0 : Int64)))])) := q7.trans (by
      show Steps p.tables e below (T5.setTop (mkF m 30 #[.val (.int p0), .val (.int p1), .val (.int vm), .val (.int va), .val (.long vn), .second, .val (.long vs), .second] [])) _
      refine XS.lload X5.here hx rfl (hb hby at_30) rfl ?_
      show Steps p.tables e below (T5.setTop (mkF m 32 #[.val (.int p0), .val (.int p1), .val (.int vm), .val (.int va), .val (.long vn), .second, .val (.long vs), .second] [(.long vs)])) _
      refine XS.lconst X5.here hx rfl (hb hby at_32) ?_
      show Steps p.tables e below (T5.setTop (mkF m 33 #[.val (.int p0), .val (.int p1), .val (.int vm), .val (.int va), .val (.long vn), .second, .val (.long vs), .second] [(.long (0 : Int64)), (.long vs)])) _
      refine XS.lcmp X5.here hx rfl (hb hby at_33) rfl ?_
      show Steps p.tables e below (T5.setTop (mkF m 34 #[.val (.int p0), .val (.int p1), .val (.int vm), .val (.int va), .val (.long vn), .second, .val (.long vs), .second] [(.int (lcmpW vs (0 : Int64)))])) _
      exact Steps.refl _)
  have hk9 : ¬ (vs < (0 : Int64)) := plainA p0 p1 vm va vn vs hvm hva hvn hvs
  have q10 : Steps p.tables e below (s₁.setTop (entryFrame m #[(.int p0), (.int p1)] maxLocals)) (T5.setTop (mkF m 39 #[.val (.int p0), .val (.int p1), .val (.int vm), .val (.int va), .val (.long vn), .second, .val (.long vs), .second] [])) := q8.trans (by
      show Steps p.tables e below (T5.setTop (mkF m 34 #[.val (.int p0), .val (.int p1), .val (.int vm), .val (.int va), .val (.long vn), .second, .val (.long vs), .second] [(.int (lcmpW vs (0 : Int64)))])) _
      refine XS.ifYes X5.here hx rfl (pc0 := 34) (pc' := 39) rfl (hb hby at_34) rfl ((if0 _ _).trans (flt (fun q => hk9 ((lw_lt vs (0 : Int64)).mp q))).2.1) (by decide) (by decide) ?_
      show Steps p.tables e below (T5.setTop (mkF m 39 #[.val (.int p0), .val (.int p1), .val (.int vm), .val (.int va), .val (.long vn), .second, .val (.long vs), .second] [])) _
      exact Steps.refl _)
  have q11 : Steps p.tables e below (s₁.setTop (entryFrame m #[(.int p0), (.int p1)] maxLocals)) (T5.setTop (mkF m 41 #[.val (.int p0), .val (.int p1), .val (.int vm), .val (.int va), .val (.long vn), .second, .val (.long vs), .second] [(.long vs)])) := q10.trans (by
      show Steps p.tables e below (T5.setTop (mkF m 39 #[.val (.int p0), .val (.int p1), .val (.int vm), .val (.int va), .val (.long vn), .second, .val (.long vs), .second] [])) _
      refine XS.lload X5.here hx rfl (hb hby at_39) rfl ?_
      show Steps p.tables e below (T5.setTop (mkF m 41 #[.val (.int p0), .val (.int p1), .val (.int vm), .val (.int va), .val (.long vn), .second, .val (.long vs), .second] [(.long vs)])) _
      exact Steps.refl _)
  obtain ⟨_, _, ⟨T12, L12, k12, n12⟩, -, X12, ⟨Lc12, hQ12, l12, y12, z12⟩, st12⟩ := Jvm.LawKit.callS X5 hx (y := (⟨"com/example/crossfind/crossfind/gateway/AllowanceSmallestHeapPinLaw", "share", "(J)J"⟩ : MethodName)) hown (mvT hZ (hw _ (List.mem_of_getElem? (i := 8) rfl))) (mvT hZ (hw _ (List.mem_of_getElem? (i := 9) rfl))) (mvT hZ (hw _ (List.mem_of_getElem? (i := 10) rfl))) (mvT hZ (hw _ (List.mem_of_getElem? (i := 11) rfl))) (by decide) (backOf (W := 0) (rm2 l Z a0 hw [] vs h0 n0 Z0) hZ (hw _ (List.mem_of_getElem? (i := 11) rfl)) (hw _ (List.mem_of_getElem? (i := 10) rfl)) (by decide) (by decide)) (g := (mkF m 41 #[.val (.int p0), .val (.int p1), .val (.int vm), .val (.int va), .val (.long vn), .second, .val (.long vs), .second] [(.long vs)])) rfl (by rw [hml]; rfl) (argsL := [(.long vs)]) (rest := []) (lenOf pd_1 rfl) rfl (by show 2 * 0 + _ ≤ _; exact Nat.le_of_eq rfl) (hb hby at_41) (fun _ _ => ⟨rfl, e5, (by decide : 0 + 0 ≤ _), (by decide : 0 + 0 ≤ _)⟩)
  dsimp only [Pt.U, Pt.locs, Pt.cells, Pt.slots] at X12 l12 y12 z12 st12 hQ12
  subst l12 y12 z12
  obtain ⟨rfl, N12q, e12⟩ := hQ12
  have N12 := Fr.app N5 N12q
  have q13 : Steps p.tables e below (s₁.setTop (entryFrame m #[(.int p0), (.int p1)] maxLocals)) (T12.setTop (mkF m 44 #[.val (.int p0), .val (.int p1), .val (.int vm), .val (.int va), .val (.long vn), .second, .val (.long vs), .second] [(.long (F2 vs))])) := q11.trans (st12 _ (Steps.refl _))
  have q14 : Steps p.tables e below (s₁.setTop (entryFrame m #[(.int p0), (.int p1)] maxLocals)) (T12.setTop (mkF m 47 #[.val (.int p0), .val (.int p1), .val (.int vm), .val (.int va), .val (.long vn), .second, .val (.long vs), .second] [(.int (lcmpW (F2 vs) vn))])) := q13.trans (by
      show Steps p.tables e below (T12.setTop (mkF m 44 #[.val (.int p0), .val (.int p1), .val (.int vm), .val (.int va), .val (.long vn), .second, .val (.long vs), .second] [(.long (F2 vs))])) _
      refine XS.lload X12.here hx rfl (hb hby at_44) rfl ?_
      show Steps p.tables e below (T12.setTop (mkF m 46 #[.val (.int p0), .val (.int p1), .val (.int vm), .val (.int va), .val (.long vn), .second, .val (.long vs), .second] [(.long vn), (.long (F2 vs))])) _
      refine XS.lcmp X12.here hx rfl (hb hby at_46) rfl ?_
      show Steps p.tables e below (T12.setTop (mkF m 47 #[.val (.int p0), .val (.int p1), .val (.int vm), .val (.int va), .val (.long vn), .second, .val (.long vs), .second] [(.int (lcmpW (F2 vs) vn))])) _
      exact Steps.refl _)
  have hk15 : ¬ ((F2 vs) < vn) := plainB p0 p1 vm va vn vs hk9 hvm hva hvn hvs
  have q16 : Steps p.tables e below (s₁.setTop (entryFrame m #[(.int p0), (.int p1)] maxLocals)) (T12.setTop (mkF m 52 #[.val (.int p0), .val (.int p1), .val (.int vm), .val (.int va), .val (.long vn), .second, .val (.long vs), .second] [])) := q14.trans (by
      show Steps p.tables e below (T12.setTop (mkF m 47 #[.val (.int p0), .val (.int p1), .val (.int vm), .val (.int va), .val (.long vn), .second, .val (.long vs), .second] [(.int (lcmpW (F2 vs) vn))])) _
      refine XS.ifYes X12.here hx rfl (pc0 := 47) (pc' := 52) rfl (hb hby at_47) rfl ((if0 _ _).trans (flt (fun q => hk15 ((lw_lt (F2 vs) vn).mp q))).2.1) (by decide) (by decide) ?_
      show Steps p.tables e below (T12.setTop (mkF m 52 #[.val (.int p0), .val (.int p1), .val (.int vm), .val (.int va), .val (.long vn), .second, .val (.long vs), .second] [])) _
      exact Steps.refl _)
  have q17 : Steps p.tables e below (s₁.setTop (entryFrame m #[(.int p0), (.int p1)] maxLocals)) (T12.setTop (mkF m 56 #[.val (.int p0), .val (.int p1), .val (.int vm), .val (.int va), .val (.long vn), .second, .val (.long vs), .second] [(.int (lcmpW vs (0 : Int64)))])) := q16.trans (by
      show Steps p.tables e below (T12.setTop (mkF m 52 #[.val (.int p0), .val (.int p1), .val (.int vm), .val (.int va), .val (.long vn), .second, .val (.long vs), .second] [])) _
      refine XS.lload X12.here hx rfl (hb hby at_52) rfl ?_
      show Steps p.tables e below (T12.setTop (mkF m 54 #[.val (.int p0), .val (.int p1), .val (.int vm), .val (.int va), .val (.long vn), .second, .val (.long vs), .second] [(.long vs)])) _
      refine XS.lconst X12.here hx rfl (hb hby at_54) ?_
      show Steps p.tables e below (T12.setTop (mkF m 55 #[.val (.int p0), .val (.int p1), .val (.int vm), .val (.int va), .val (.long vn), .second, .val (.long vs), .second] [(.long (0 : Int64)), (.long vs)])) _
      refine XS.lcmp X12.here hx rfl (hb hby at_55) rfl ?_
      show Steps p.tables e below (T12.setTop (mkF m 56 #[.val (.int p0), .val (.int p1), .val (.int vm), .val (.int va), .val (.long vn), .second, .val (.long vs), .second] [(.int (lcmpW vs (0 : Int64)))])) _
      exact Steps.refl _)
  by_cases hc18 : (0 : Int64) < vs
  · have q19 : Steps p.tables e below (s₁.setTop (entryFrame m #[(.int p0), (.int p1)] maxLocals)) (T12.setTop (mkF m 59 #[.val (.int p0), .val (.int p1), .val (.int vm), .val (.int va), .val (.long vn), .second, .val (.long vs), .second] [])) := q17.trans (by
        show Steps p.tables e below (T12.setTop (mkF m 56 #[.val (.int p0), .val (.int p1), .val (.int vm), .val (.int va), .val (.long vn), .second, .val (.long vs), .second] [(.int (lcmpW vs (0 : Int64)))])) _
        refine XS.ifNo X12.here hx rfl (hb hby at_56) rfl ((if0 _ _).trans (tlt ((lw_gt vs (0 : Int64)).mpr hc18)).2.2.2) ?_
        show Steps p.tables e below (T12.setTop (mkF m 59 #[.val (.int p0), .val (.int p1), .val (.int vm), .val (.int va), .val (.long vn), .second, .val (.long vs), .second] [])) _
        exact Steps.refl _)
    have q20 : Steps p.tables e below (s₁.setTop (entryFrame m #[(.int p0), (.int p1)] maxLocals)) (T12.setTop (mkF m 63 #[.val (.int p0), .val (.int p1), .val (.int vm), .val (.int va), .val (.long vn), .second, .val (.long vs), .second] [(.long (vs - (1 : Int64)))])) := q19.trans (by
        show Steps p.tables e below (T12.setTop (mkF m 59 #[.val (.int p0), .val (.int p1), .val (.int vm), .val (.int va), .val (.long vn), .second, .val (.long vs), .second] [])) _
        refine XS.lload X12.here hx rfl (hb hby at_59) rfl ?_
        show Steps p.tables e below (T12.setTop (mkF m 61 #[.val (.int p0), .val (.int p1), .val (.int vm), .val (.int va), .val (.long vn), .second, .val (.long vs), .second] [(.long vs)])) _
        refine XS.lconst X12.here hx rfl (hb hby at_61) ?_
        show Steps p.tables e below (T12.setTop (mkF m 62 #[.val (.int p0), .val (.int p1), .val (.int vm), .val (.int va), .val (.long vn), .second, .val (.long vs), .second] [(.long (1 : Int64)), (.long vs)])) _
        refine XS.lsub X12.here hx rfl (hb hby at_62) rfl ?_
        show Steps p.tables e below (T12.setTop (mkF m 63 #[.val (.int p0), .val (.int p1), .val (.int vm), .val (.int va), .val (.long vn), .second, .val (.long vs), .second] [(.long (vs - (1 : Int64)))])) _
        exact Steps.refl _)
    obtain ⟨_, _, ⟨T21, L21, k21, n21⟩, -, X21, ⟨Lc21, hQ21, l21, y21, z21⟩, st21⟩ := Jvm.LawKit.callS X12 hx (y := (⟨"com/example/crossfind/crossfind/gateway/AllowanceSmallestHeapPinLaw", "share", "(J)J"⟩ : MethodName)) hown (mvT hZ (hw _ (List.mem_of_getElem? (i := 8) rfl))) (mvT hZ (hw _ (List.mem_of_getElem? (i := 9) rfl))) (mvT hZ (hw _ (List.mem_of_getElem? (i := 10) rfl))) (mvT hZ (hw _ (List.mem_of_getElem? (i := 11) rfl))) (by decide) (backOf (W := 0) (rm2 l Z a0 hw [] (vs - (1 : Int64)) h0 n0 Z0) hZ (hw _ (List.mem_of_getElem? (i := 11) rfl)) (hw _ (List.mem_of_getElem? (i := 10) rfl)) (by decide) (by decide)) (g := (mkF m 63 #[.val (.int p0), .val (.int p1), .val (.int vm), .val (.int va), .val (.long vn), .second, .val (.long vs), .second] [(.long (vs - (1 : Int64)))])) rfl (by rw [hml]; rfl) (argsL := [(.long (vs - (1 : Int64)))]) (rest := []) (lenOf pd_1 rfl) rfl (by show 2 * 0 + _ ≤ _; exact Nat.le_of_eq rfl) (hb hby at_63) (fun _ _ => ⟨rfl, e12, (by decide : 0 + 0 ≤ _), (by decide : 0 + 0 ≤ _)⟩)
    dsimp only [Pt.U, Pt.locs, Pt.cells, Pt.slots] at X21 l21 y21 z21 st21 hQ21
    subst l21 y21 z21
    obtain ⟨rfl, N21q, e21⟩ := hQ21
    have N21 := Fr.app N12 N21q
    have q22 : Steps p.tables e below (s₁.setTop (entryFrame m #[(.int p0), (.int p1)] maxLocals)) (T21.setTop (mkF m 66 #[.val (.int p0), .val (.int p1), .val (.int vm), .val (.int va), .val (.long vn), .second, .val (.long vs), .second] [(.long (F2 (vs - (1 : Int64))))])) := q20.trans (st21 _ (Steps.refl _))
    have q23 : Steps p.tables e below (s₁.setTop (entryFrame m #[(.int p0), (.int p1)] maxLocals)) (T21.setTop (mkF m 69 #[.val (.int p0), .val (.int p1), .val (.int vm), .val (.int va), .val (.long vn), .second, .val (.long vs), .second] [(.int (lcmpW (F2 (vs - (1 : Int64))) vn))])) := q22.trans (by
        show Steps p.tables e below (T21.setTop (mkF m 66 #[.val (.int p0), .val (.int p1), .val (.int vm), .val (.int va), .val (.long vn), .second, .val (.long vs), .second] [(.long (F2 (vs - (1 : Int64))))])) _
        refine XS.lload X21.here hx rfl (hb hby at_66) rfl ?_
        show Steps p.tables e below (T21.setTop (mkF m 68 #[.val (.int p0), .val (.int p1), .val (.int vm), .val (.int va), .val (.long vn), .second, .val (.long vs), .second] [(.long vn), (.long (F2 (vs - (1 : Int64))))])) _
        refine XS.lcmp X21.here hx rfl (hb hby at_68) rfl ?_
        show Steps p.tables e below (T21.setTop (mkF m 69 #[.val (.int p0), .val (.int p1), .val (.int vm), .val (.int va), .val (.long vn), .second, .val (.long vs), .second] [(.int (lcmpW (F2 (vs - (1 : Int64))) vn))])) _
        exact Steps.refl _)
    have hk24 : (F2 (vs - (1 : Int64))) < vn := plainC p0 p1 vm va vn vs hk9 hk15 hc18 hvm hva hvn hvs
    have q25 : Steps p.tables e below (s₁.setTop (entryFrame m #[(.int p0), (.int p1)] maxLocals)) (T21.setTop (mkF m 74 #[.val (.int p0), .val (.int p1), .val (.int vm), .val (.int va), .val (.long vn), .second, .val (.long vs), .second] [])) := q23.trans (by
        show Steps p.tables e below (T21.setTop (mkF m 69 #[.val (.int p0), .val (.int p1), .val (.int vm), .val (.int va), .val (.long vn), .second, .val (.long vs), .second] [(.int (lcmpW (F2 (vs - (1 : Int64))) vn))])) _
        refine XS.ifYes X21.here hx rfl (pc0 := 69) (pc' := 74) rfl (hb hby at_69) rfl ((if0 _ _).trans (tlt ((lw_lt (F2 (vs - (1 : Int64))) vn).mpr hk24)).1) (by decide) (by decide) ?_
        show Steps p.tables e below (T21.setTop (mkF m 74 #[.val (.int p0), .val (.int p1), .val (.int vm), .val (.int va), .val (.long vn), .second, .val (.long vs), .second] [])) _
        exact Steps.refl _)
    have q26 : Steps p.tables e below (s₁.setTop (entryFrame m #[(.int p0), (.int p1)] maxLocals)) (T21.setTop (mkF m 75 #[.val (.int p0), .val (.int p1), .val (.int vm), .val (.int va), .val (.long vn), .second, .val (.long vs), .second] [(.int (1 : Int32))])) := q25.trans (by
        show Steps p.tables e below (T21.setTop (mkF m 74 #[.val (.int p0), .val (.int p1), .val (.int vm), .val (.int va), .val (.long vn), .second, .val (.long vs), .second] [])) _
        refine XS.iconst X21.here hx rfl (hb hby at_74) ?_
        show Steps p.tables e below (T21.setTop (mkF m 75 #[.val (.int p0), .val (.int p1), .val (.int vm), .val (.int va), .val (.long vn), .second, .val (.long vs), .second] [(.int (1 : Int32))])) _
        exact Steps.refl _)
    obtain ⟨zr, hzr⟩ : ∃ v : Int32, v = (1 : Int32) := ⟨_, rfl⟩
    have hz1 : zr = 1 := plainD p0 p1 vm va vn vs zr hk9 hk15 hc18 hk24 hvm hva hvn hvs hzr
    obtain ⟨fs, hr, hrun, hended, hW, hsame⟩ := X21.leave (v := some (.int (1 : Int32))) (fun h => by rw [Bd.returns] at h; cases h)
    refine ⟨_, _, q26.trans ?_, hrun, hended, _, _, rfl, ?_, ⟨_, rfl⟩, hW, hsame.mono (by decide) (by decide)⟩
    · show Steps p.tables e below (T21.setTop (mkF m 75 #[.val (.int p0), .val (.int p1), .val (.int vm), .val (.int va), .val (.long vn), .second, .val (.long vs), .second] [(.int (1 : Int32))])) _
      exact retN X21 hx (t := .boolean) Bd.returns (by simp) (hb hby at_75) hr
    · show Q_rm0 Z p0 p1 h0 n0 _ T21.heap _
      rw [e21]
      exact ⟨rfl, N21⟩
  · have q27 : Steps p.tables e below (s₁.setTop (entryFrame m #[(.int p0), (.int p1)] maxLocals)) (T12.setTop (mkF m 74 #[.val (.int p0), .val (.int p1), .val (.int vm), .val (.int va), .val (.long vn), .second, .val (.long vs), .second] [])) := q17.trans (by
        show Steps p.tables e below (T12.setTop (mkF m 56 #[.val (.int p0), .val (.int p1), .val (.int vm), .val (.int va), .val (.long vn), .second, .val (.long vs), .second] [(.int (lcmpW vs (0 : Int64)))])) _
        refine XS.ifYes X12.here hx rfl (pc0 := 56) (pc' := 74) rfl (hb hby at_56) rfl ((if0 _ _).trans (flt (fun q => hc18 ((lw_gt vs (0 : Int64)).mp q))).2.2.2) (by decide) (by decide) ?_
        show Steps p.tables e below (T12.setTop (mkF m 74 #[.val (.int p0), .val (.int p1), .val (.int vm), .val (.int va), .val (.long vn), .second, .val (.long vs), .second] [])) _
        exact Steps.refl _)
    have q28 : Steps p.tables e below (s₁.setTop (entryFrame m #[(.int p0), (.int p1)] maxLocals)) (T12.setTop (mkF m 75 #[.val (.int p0), .val (.int p1), .val (.int vm), .val (.int va), .val (.long vn), .second, .val (.long vs), .second] [(.int (1 : Int32))])) := q27.trans (by
        show Steps p.tables e below (T12.setTop (mkF m 74 #[.val (.int p0), .val (.int p1), .val (.int vm), .val (.int va), .val (.long vn), .second, .val (.long vs), .second] [])) _
        refine XS.iconst X12.here hx rfl (hb hby at_74) ?_
        show Steps p.tables e below (T12.setTop (mkF m 75 #[.val (.int p0), .val (.int p1), .val (.int vm), .val (.int va), .val (.long vn), .second, .val (.long vs), .second] [(.int (1 : Int32))])) _
        exact Steps.refl _)
    obtain ⟨zr, hzr⟩ : ∃ v : Int32, v = (1 : Int32) := ⟨_, rfl⟩
    have hz1 : zr = 1 := plainE p0 p1 vm va vn vs zr hk9 hk15 hc18 hvm hva hvn hvs hzr
    obtain ⟨fs, hr, hrun, hended, hW, hsame⟩ := X12.leave (v := some (.int (1 : Int32))) (fun h => by rw [Bd.returns] at h; cases h)
    refine ⟨_, _, q28.trans ?_, hrun, hended, _, _, rfl, ?_, ⟨_, rfl⟩, hW, hsame.mono (by decide) (by decide)⟩
    · show Steps p.tables e below (T12.setTop (mkF m 75 #[.val (.int p0), .val (.int p1), .val (.int vm), .val (.int va), .val (.long vn), .second, .val (.long vs), .second] [(.int (1 : Int32))])) _
      exact retN X12 hx (t := .boolean) Bd.returns (by simp) (hb hby at_75) hr
    · show Q_rm0 Z p0 p1 h0 n0 _ T12.heap _
      rw [e12]
      exact ⟨rfl, N12⟩

set_option maxRecDepth 65536 in
set_option maxHeartbeats 40000000 in
theorem comes_1 {Post : Tables → Env → Array Value → State → Outcome → State → Prop} (hpost : ∀ tb e args s v u, (limb_1_1.after args s (.returned v) u = true ∧ limb_1_2.after args s (.returned v) u = true ∧ True) → FrameEnd s (.returned v) u (Jvm.fieldLocs frame_1_writes args s ++ Jvm.arrayLocs frame_1_arrays args s ++ Jvm.staticLocs frame_1_statics s) 0 0 → Post tb e args s (.returned v) u) :
    ArmFor flags0 classFile x code maxLocals ret World_1 tables_1 room_1 Calls_1 rest_1 Pre_1 Post := by
  intro l hfl _ _ p e ha hc hk s m args below hf hA hF happ hP
  obtain ⟨hcalls, hrest, hpre⟩ := hP
  obtain ⟨-, -, -, hnamed, -, -, -, hat⟩ := (Spec.applies_iff hf).mp happ
  obtain ⟨hg, hn⟩ := and_e (Cond.before_iff.mp (show (Jvm.Cond.and given_1 narrow_1).before args s = true from hpre))
  obtain ⟨hcount, hg0⟩ := and_e hg
  obtain ⟨ga0, hg1⟩ := and_e hg0
  obtain ⟨w0, w1, rfl⟩ : ∃ w0 w1 : Value, args = #[w0, w1] := by
    have hs : args.size = 2 := by simpa [Cond.value, given_1] using hcount
    obtain ⟨L⟩ := args
    match L, hs with
    | [w0, w1], _ => exact ⟨w0, w1, rfl⟩
  have hw := fun d (hd : d ∈ tables_1) => atoms_spec (ws := Jvm.Cond.code x code maxLocals ret :: tables_1) hat d (List.mem_cons_of_mem _ hd)
  have hfit : Fit s := fun {y c} hc i hi => by
    obtain ⟨ha, rfl⟩ := Array.getElem?_eq_some_iff.mp hc
    have q := List.all_eq_true.mp ((Array.all_eq_true_iff_forall_mem.mp hF) _ (Array.getElem_mem ha)) i (List.mem_range.mpr hi)
    simpa [Array.getElem?_eq_getElem hi] using q
  obtain ⟨i0, ei0⟩ := is_v ga0
  obtain rfl : w0 = (.int i0) := Option.some.inj ei0
  obtain ⟨i1, ei1⟩ := is_v hg1
  obtain rfl : w1 = (.int i1) := Option.some.inj ei1
  obtain ⟨n, o, h1, h2, h3, _, L, rfl, ⟨rfl, N⟩, hq⟩ := rm0 l s _ hw tables_1 i0 i1 s.heap s.heap.size (Nat.le_refl _)  p e ha hc hk s m _ below hf ((Spec.applies_iff_loose hf).mp happ).1 ⟨rfl, State.Warmed39.refl s, rfl⟩ trivial
  refine ⟨n, _, h1, h2, h3, hpost _ _ _ _ _ _ ⟨Cond.after_iff.mpr rfl, Cond.after_iff.mpr (eq_i res_at (Term.int_eval (1)) rfl), trivial⟩ ⟨hq.1, hq.2.1, (hq.2.2.sift fun y hy => Or.inr (N y hy)).mono (by decide) (by decide)⟩⟩
theorem main_1_1 : Claimed_1_1 := comes_1 fun _ _ _ _ _ _ h hF => ⟨h.1, hF⟩
theorem main_1_2 : Claimed_1_2 := comes_1 fun _ _ _ _ _ _ h hF => ⟨h.2.1, hF⟩
end Jvm.Pilot.@@N@@
namespace Jvm.Pilot.@@N@@
open Jvm Jvm.ClassFile Sem Op Lib Jvm.Free Jvm.Stand Jvm.Pilot.@@N@@.Jvm.D
/-! MADE BY PROGRAM (witnessworld.py) out of the Statement's table words and the real class files: 9 classes; the members and pool entries that the words name. The judged class is class 1, her method 2. -/
namespace start1
open Jvm.ClassFile
def u (s : String) : CpInfo := .utf8 (stringToUtf16 s)
/-- a pool by its gaps: so many unusable entries, then the entry; so many at the end -/
def gap : Nat → List CpInfo → List CpInfo
  | 0, r => r
  | n + 1, r => .unusable :: gap n r
def poolList (es : List (Nat × CpInfo)) (last : Nat) : List CpInfo := es.foldr (fun e r => gap e.1 (e.2 :: r)) (gap last [])
def pool (es : List (Nat × CpInfo)) (last : Nat) : Array CpInfo := ⟨poolList es last⟩
def fileOf (pool : Array CpInfo) (this : Nat) (attrs : Array Attribute := #[]) (ms : Array MethodInfo := #[]) (fl : Nat := 33) (sup : Nat := 0) (ifs : Array Nat := #[]) (fds : Array FieldInfo := #[]) : ClassFile where
  minorVersion := 0
  majorVersion := 65
  constantPool := pool
  accessFlags := fl
  thisClass := this
  superClass := sup
  interfaces := ifs
  fields := fds
  methods := ms
  attributes := attrs
def plain (name : String) (sup : Option ClassId) : Class where
  name := name
  kind := .ordinary
  loader := none
  accessFlags := 33
  super := sup
  interfaces := #[]
  cf := none
  fields := #[]
  methods := #[]
  instanceTypes := #[]
  staticTypes := #[]
  resolved := #[]
  callSites := []
  init := .initialized
  statics := none
  mirror := none

def pool0 : Array CpInfo := pool [(5, u "<init>"), (0, u "()V"), (1, .class_ 10), (1, u "java/lang/Object")] 113

def k0m0 : Method := { name := "<init>", desc := "()V", sig := { parameters := [], returnType := none }, accessFlags := 1, code := none }
/-- java/lang/Object -/
def k0 : Class := { plain "java/lang/Object" none with
  accessFlags := 33
  interfaces := #[]
  cf := some (fileOf pool0 8 #[] #[{ accessFlags := 1, nameIndex := 5, descriptorIndex := 6, attributes := #[] }] 33 0 #[] #[])
  fields := #[]
  methods := #[k0m0]
  instanceTypes := #[]
  staticTypes := #[]
  resolved := Array.replicate 124 none
  statics := none }

def pool1 : Array CpInfo := pool [(2, .class_ 4), (1, u "java/lang/Object"), (0, u "<init>"), (0, u "()V"), (0, .long 4), (1, .long 3), (1, .integer 2147483647), (0, .methodref 13 14), (0, .class_ 15), (0, .nameAndType 16 17), (0, u "com/example/crossfind/crossfind/gateway/Allowance"), (0, u "smallestHeap"), (0, u "(II)J"), (0, .methodref 19 20), (0, .class_ 21), (0, .nameAndType 22 23), (0, u "com/example/crossfind/crossfind/gateway/AllowanceSmallestHeapPinLaw"), (0, u "share"), (0, u "(J)J"), (2, u "law"), (0, u "(II)Z")] 3

def k1m0 : Method := { name := "<init>", desc := "()V", sig := { parameters := [], returnType := none }, accessFlags := 1, code := none }
def k1c1 : Code := { maxStack := 4, maxLocals := 2, code := method_2_code, exceptionTable := #[], attributes := #[] }
def k1m1 : Method := { name := "share", desc := "(J)J", sig := { parameters := [.long], returnType := some .long }, accessFlags := 10, code := some k1c1 }
def k1c2 : Code := { maxStack := 6, maxLocals := 8, code := code, exceptionTable := #[], attributes := #[] }
def k1m2 : Method := { name := "law", desc := "(II)Z", sig := { parameters := [.int, .int], returnType := some .boolean }, accessFlags := 9, code := some k1c2 }
/-- com/example/crossfind/crossfind/gateway/AllowanceSmallestHeapPinLaw -/
def k1 : Class := { plain "com/example/crossfind/crossfind/gateway/AllowanceSmallestHeapPinLaw" (some 0) with
  accessFlags := 49
  interfaces := #[]
  cf := some (fileOf pool1 19 #[] #[{ accessFlags := 1, nameIndex := 5, descriptorIndex := 6, attributes := #[] }, { accessFlags := 10, nameIndex := 22, descriptorIndex := 23, attributes := #[] }, { accessFlags := 9, nameIndex := 26, descriptorIndex := 27, attributes := #[] }] 49 2 #[] #[])
  fields := #[]
  methods := #[k1m0, k1m1, k1m2]
  instanceTypes := #[]
  staticTypes := #[]
  resolved := Array.replicate 31 none
  statics := none }

def pool2 : Array CpInfo := pool [(2, .class_ 4), (1, u "java/lang/Object"), (6, .class_ 13), (1, u "com/example/crossfind/crossfind/gateway/Allowance"), (0, u "waiting"), (0, u "Ljava/util/TreeMap;"), (2, u "capacity"), (0, u "J"), (2, u "workers"), (0, u "I"), (2, u "answerFactor"), (2, u "smallestHeap"), (0, u "(II)J"), (9, .long 4), (1, .long 3), (4, .long 2), (7, u "taken")] 113

def k2c0 : Code := { maxStack := 4, maxLocals := 4, code := prog_56_method_3_code, exceptionTable := #[], attributes := #[] }
def k2m0 : Method := { name := "smallestHeap", desc := "(II)J", sig := { parameters := [.int, .int], returnType := some .long }, accessFlags := 8, code := some k2c0 }
/-- com/example/crossfind/crossfind/gateway/Allowance -/
def k2 : Class := { plain "com/example/crossfind/crossfind/gateway/Allowance" (some 0) with
  accessFlags := 48
  interfaces := #[]
  cf := some (fileOf pool2 11 #[] #[{ accessFlags := 8, nameIndex := 29, descriptorIndex := 30, attributes := #[] }] 48 2 #[] #[{ accessFlags := 18, nameIndex := 18, descriptorIndex := 19, attributes := #[] }, { accessFlags := 18, nameIndex := 22, descriptorIndex := 23, attributes := #[] }, { accessFlags := 18, nameIndex := 26, descriptorIndex := 23, attributes := #[] }, { accessFlags := 2, nameIndex := 55, descriptorIndex := 19, attributes := #[] }, { accessFlags := 18, nameIndex := 14, descriptorIndex := 15, attributes := #[] }])
  fields := #[{ name := "capacity", type := .long, accessFlags := 18, slot := 0, constantValue := 0 }, { name := "workers", type := .int, accessFlags := 18, slot := 1, constantValue := 0 }, { name := "answerFactor", type := .int, accessFlags := 18, slot := 2, constantValue := 0 }, { name := "taken", type := .long, accessFlags := 2, slot := 3, constantValue := 0 }, { name := "waiting", type := (.object "java/util/TreeMap"), accessFlags := 18, slot := 4, constantValue := 0 }]
  methods := #[k2m0]
  instanceTypes := #[.long, .int, .int, .long, (.object "java/util/TreeMap")]
  staticTypes := #[]
  resolved := Array.replicate 169 none
  statics := none }

def pool3 : Array CpInfo := pool [(1, u "java/lang/Cloneable"), (0, .class_ 1), (0, u "java/lang/Object"), (0, .class_ 3)] 3

/-- java/lang/Cloneable -/
def k3 : Class := { plain "java/lang/Cloneable" (some 0) with
  accessFlags := 1537
  interfaces := #[]
  cf := some (fileOf pool3 2 #[] #[] 1537 4 #[] #[])
  fields := #[]
  methods := #[]
  instanceTypes := #[]
  staticTypes := #[]
  resolved := Array.replicate 8 none
  statics := none }

def pool4 : Array CpInfo := pool [(1, u "java/io/Serializable"), (0, .class_ 1), (0, u "java/lang/Object"), (0, .class_ 3)] 3

/-- java/io/Serializable -/
def k4 : Class := { plain "java/io/Serializable" (some 0) with
  accessFlags := 1537
  interfaces := #[]
  cf := some (fileOf pool4 2 #[] #[] 1537 4 #[] #[])
  fields := #[]
  methods := #[]
  instanceTypes := #[]
  staticTypes := #[]
  resolved := Array.replicate 8 none
  statics := none }

/-- the primitive byte -/
def k5 : Class := { plain "byte" none with kind := .primitive 'B', accessFlags := 0x411 }
/-- [B -/
def k6 : Class := { plain "[B" (some 0) with kind := .array 5 .byte, interfaces := #[3, 4], accessFlags := 1041 }

/-- the primitive int -/
def k7 : Class := { plain "int" none with kind := .primitive 'I', accessFlags := 0x411 }
/-- [I -/
def k8 : Class := { plain "[I" (some 0) with kind := .array 7 .int, interfaces := #[3, 4], accessFlags := 1041 }

def heap : Heap := #[]
def classes : Array Class := #[k0, k1, k2, k3, k4, k5, k6, k7, k8]
def interned : List (Array UInt16 × Addr) := []
def slotsUsed : Nat := 0
def theMethod : MethodId := ⟨1, 2⟩
def args0 : Array Value := #[.int 5, .int 0]
def aboutOver (below : List Frame) : State where
  vm := { classes := classes, interned := interned.toArray }
  heap := heap
  slotsUsed := slotsUsed
  threads := #[{ frames := .invoking theMethod args0 :: below }]
def below0 : List Frame := [.native { method := ⟨0, 0⟩, args := #[] }]
def about1 : State := aboutOver below0
def p0 : Program := .bare "" "" ""
def e0 : Env := launch0.env 0 0 0
theorem w_frames : about1.frames = Frame.invoking theMethod args0 :: below0 := rfl
set_option maxRecDepth 65536 in
theorem w_args : argsFit about1.vm theMethod args0 = true := by decide +kernel
set_option maxRecDepth 65536 in
theorem w_heap : heapFits about1 = true := by decide +kernel
set_option maxRecDepth 65536 in
theorem w_runnable : about1.curStatus? = some .runnable := by decide +kernel
set_option maxRecDepth 65536 in
theorem w_alone : about1.alone = true := by decide +kernel
set_option maxRecDepth 65536 in
theorem w_named : about1.methodNamed? x = some theMethod := by decide +kernel
set_option maxRecDepth 65536 in
theorem w_hears : about1.hears theMethod below0 = true := by decide +kernel
set_option maxRecDepth 65536 in
theorem w_ripe : about1.ripe theMethod args0 below0 = true := by decide +kernel
theorem w_running : about1.status = .running := rfl
set_option maxRecDepth 65536 in
theorem w_room : about1.hasRoom e0.platform room_1 = true :=
  launch0.hasRoom_least _ room_1 (by decide +kernel) (by decide +kernel) (by decide +kernel) (by decide +kernel) (by decide +kernel) (by decide +kernel)
theorem allAtoms_all (ts : List Jvm.Cond) (a : Array Jvm.Value) (st : Jvm.State) : (allAtoms ts).before a st = ts.all (fun c => c.before a st) := by
  induction ts with
  | nil => rfl
  | cons c t ih =>
    show (Jvm.Cond.and c (allAtoms t)).before a st = _
    rw [Jvm.Cond.before_and, ih, List.all_cons]
def words1 : List Jvm.Cond := Jvm.Cond.code x code maxLocals ret :: tables_1
/-- a 'code' word, met by the world's own term for the bytes: nothing is compared byte by byte -/
theorem code_word {y : MethodName} {bytes : ByteArray} {mx : Nat} {rt : Option FieldType} {a : Array Value} {s : State} {m : MethodId} {meth : Method} {c : Code} (h1 : s.methodNamed? y = some m) (h2 : s.vm.method? m = some meth) (h3 : meth.code = some c) (h4 : c.code = bytes)
    (h5 : (c.maxLocals == mx && c.exceptionTable.isEmpty && decide (c.maxStack ≤ mostOperands) && decide (meth.sig.returnType = rt) && !meth.locks && decide (parseMethodDescriptor y.desc = some meth.sig)) = true) : (Jvm.Cond.code y bytes mx rt).before a s = true := by
  simp only [Bool.and_eq_true, beq_iff_eq, Bool.not_eq_true', decide_eq_true_eq] at h5
  obtain ⟨⟨⟨⟨⟨g1, g2⟩, g3⟩, g4⟩, g5⟩, g6⟩ := h5
  simp [Cond.before, Cond.holds, Cond.value, h1, h2, h3, h4, g1, g2, g3, g4, g5, g6]
def isCode : Jvm.Cond → Bool
  | .code _ _ _ _ => true
  | _ => false
theorem all_split {L : List Jvm.Cond} {P : Jvm.Cond → Bool} (h1 : L.all (fun c => isCode c || P c) = true) (h2 : ∀ c ∈ L.filter isCode, P c = true) : L.all P = true := by
  refine List.all_eq_true.mpr fun c hc => ?_
  have h := List.all_eq_true.mp h1 c hc
  rcases Bool.eq_false_or_eq_true (isCode c) with hi | hi
  · exact h2 c (List.mem_filter.mpr ⟨hc, hi⟩)
  · simpa [hi] using h
set_option maxRecDepth 65536 in
theorem w_c0 : (Jvm.Cond.code x code maxLocals ret).before args0 about1 = true := code_word (m := ⟨1, 2⟩) (meth := k1m2) (c := k1c2) (by decide +kernel) rfl rfl rfl (by decide +kernel)
set_option maxRecDepth 65536 in
theorem w_c1 : (Jvm.Cond.code ({ cls := "com/example/crossfind/crossfind/gateway/Allowance", name := "smallestHeap", desc := "(II)J" } : Jvm.MethodName) prog_56_method_3_code (4 : Nat) (Option.some Jvm.ClassFile.FieldType.long)).before args0 about1 = true := code_word (m := ⟨2, 0⟩) (meth := k2m0) (c := k2c0) (by decide +kernel) rfl rfl rfl (by decide +kernel)
set_option maxRecDepth 65536 in
theorem w_c2 : (Jvm.Cond.code ({ cls := "com/example/crossfind/crossfind/gateway/AllowanceSmallestHeapPinLaw", name := "share", desc := "(J)J" } : Jvm.MethodName) method_2_code (2 : Nat) (Option.some Jvm.ClassFile.FieldType.long)).before args0 about1 = true := code_word (m := ⟨1, 1⟩) (meth := k1m1) (c := k1c1) (by decide +kernel) rfl rfl rfl (by decide +kernel)
def codes1 : List Jvm.Cond := [Jvm.Cond.code x code maxLocals ret, Jvm.Cond.code ({ cls := "com/example/crossfind/crossfind/gateway/Allowance", name := "smallestHeap", desc := "(II)J" } : Jvm.MethodName) prog_56_method_3_code (4 : Nat) (Option.some Jvm.ClassFile.FieldType.long), Jvm.Cond.code ({ cls := "com/example/crossfind/crossfind/gateway/AllowanceSmallestHeapPinLaw", name := "share", desc := "(J)J" } : Jvm.MethodName) method_2_code (2 : Nat) (Option.some Jvm.ClassFile.FieldType.long)]
set_option maxRecDepth 65536 in
theorem codes_eq : words1.filter isCode = codes1 := rfl
theorem w_codes : ∀ c ∈ words1.filter isCode, c.before args0 about1 = true := by
  rw [codes_eq]
  intro c hc
  simp only [codes1, List.mem_cons, List.not_mem_nil, or_false] at hc
  rcases hc with rfl | rfl | rfl
  · exact w_c0
  · exact w_c1
  · exact w_c2
set_option maxRecDepth 65536 in
theorem w_t1 : words1.all (fun c => isCode c || c.before args0 about1) = true := by decide +kernel
theorem w_tables : (allAtoms (Jvm.Cond.code x code maxLocals ret :: tables_1)).before args0 about1 = true := by
  rw [allAtoms_all]
  show words1.all (fun c => c.before args0 about1) = true
  refine all_split ?_ w_codes
  rw [w_t1]
set_option maxRecDepth 65536 in
theorem w_case : (Jvm.Cond.and given_1 narrow_1).before args0 about1 = true := by decide +kernel
theorem w_applies : (headSpec (Jvm.Cond.code x code maxLocals ret :: tables_1) room_1).applies x e0.platform about1 = true :=
  (Spec.applies_iff w_frames).mpr ⟨w_running, w_runnable, w_alone, w_named, w_hears, w_ripe, w_room, w_tables⟩
theorem atStart : AtStart classFile x code maxLocals ret World_1 tables_1 room_1 Calls_1 rest_1 Pre_1 launch0 p0 e0 about1 theMethod args0 below0 :=
  ⟨lists_1, trivial, launch0.admits_env _ _ _, launch0.least_env, fairChoices_fair.cas, fairChoices_fair.clock, w_frames, w_args, w_heap, w_applies, trivial, trivial, w_case⟩
end start1
theorem witness_1 : WitnessClaimed_1 := ⟨start1.p0, start1.e0, start1.about1, start1.theMethod, start1.args0, start1.below0, start1.atStart⟩
end Jvm.Pilot.@@N@@
