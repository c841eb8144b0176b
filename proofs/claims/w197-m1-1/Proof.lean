import JvmDerived
import JvmDerived.Pilot.@@N@@Statement
import JvmDerived.Pilot.@@N@@Code
set_option linter.unusedVariables false
set_option linter.unusedSimpArgs false
@@BLOCK:NumsL.lean.txt@@
namespace Jvm.RoadKit
open Sem ClassFile Op Lib Jvm.Stand Jvm.Free Jvm.LawKit
section New
variable {p : Program} {l : Launch} {e : Env} {R : Room} {s : State} {m : MethodId} {args : Array Value} {below : List Frame} {meth : Method} {c : Code} {T : State} {locs : List Loc} {cells slots : Nat}
theorem retI (X : Stand p l e R s m args below meth c T locs cells slots) (hx : p.tables.exec = Jvm.exec) {pc : Nat} {Ls : Array Slot} {z : Int32} {rest : List Value} (hret : meth.sig.returnType = some .int) (hd : decode c.code pc = .ok (.ireturn, 1)) {fs : List Frame}
    (hl : ∀ (f : JFrame) (acts : List Action), f.method = m → f.locked = none → f.entered = [] → (doReturn e (T.setTop f) acts (some (.int z))).1 = T.setFrames fs) : Steps p.tables e below (T.setTop (mkF m pc Ls (.int z :: rest))) (T.setFrames fs) := by
  have hm' : T.vm.method? m = some meth := X.method'
  have hn : narrow .int (.int z) = .int z := rfl
  show Steps p.tables e below (T.setTop { method := m, pc := pc, locals := Ls, stack := _ :: rest, locked := none }) _
  jvm_step X.here [X.here.top, hx, hd, hm', hret, hn]
  first | (intro acts; rw [hl _ acts rfl rfl rfl]) | rw [hl _ _ rfl rfl rfl]
  exact Steps.refl _
theorem retA (X : Stand p l e R s m args below meth c T locs cells slots) (hx : p.tables.exec = Jvm.exec) {pc : Nat} {Ls : Array Slot} {z : Value} {t : FieldType} {rest : List Value} (hret : meth.sig.returnType = some t) (ht : t.isReference = true) (hz : z.isRef = true) (hd : decode c.code pc = .ok (.areturn, 1)) {fs : List Frame}
    (hl : ∀ (f : JFrame) (acts : List Action), f.method = m → f.locked = none → f.entered = [] → (doReturn e (T.setTop f) acts (some z)).1 = T.setFrames fs) : Steps p.tables e below (T.setTop (mkF m pc Ls (z :: rest))) (T.setFrames fs) := by
  have hm' : T.vm.method? m = some meth := X.method'
  show Steps p.tables e below (T.setTop { method := m, pc := pc, locals := Ls, stack := _ :: rest, locked := none }) _
  jvm_step X.here [X.here.top, hx, hd, hm', hret, ht, hz]
  first | (intro acts; rw [hl _ acts rfl rfl rfl]) | rw [hl _ _ rfl rfl rfl]
  exact Steps.refl _
end New
end Jvm.RoadKit
namespace Jvm.Pilot.@@N@@
open Jvm Jvm.ClassFile Sem Op Lib Jvm.Free Jvm.Stand Jvm.LawKit Jvm.RoadKit Bundle Jvm.Pilot.@@N@@.Jvm.D
theorem own_tab {x : Int32} {k : Int} (h : ¬ x = Int32.ofInt k) (h1 : -2147483648 ≤ k) (h2 : k < 2147483648) : x.toInt ≠ k := fun q => h (by rw [← q]; exact (Int32.ofInt_toInt x).symm)
theorem d1_0 : decode prog_24_method_4_code 0 = .ok (.lload_n 0, 1) := by decide +kernel
theorem d1_1 : decode prog_24_method_4_code 1 = .ok (.ldc2_w 103, 3) := by decide +kernel
theorem d1_4 : decode prog_24_method_4_code 4 = .ok (.lcmp, 1) := by decide +kernel
theorem d1_5 : decode prog_24_method_4_code 5 = .ok (.ifCond .lt 15, 3) := by decide +kernel
theorem d1_8 : decode prog_24_method_4_code 8 = .ok (.lload_n 0, 1) := by decide +kernel
theorem d1_9 : decode prog_24_method_4_code 9 = .ok (.ldc2_w 105, 3) := by decide +kernel
theorem d1_12 : decode prog_24_method_4_code 12 = .ok (.lcmp, 1) := by decide +kernel
theorem d1_13 : decode prog_24_method_4_code 13 = .ok (.ifCond .gt 7, 3) := by decide +kernel
theorem d1_16 : decode prog_24_method_4_code 16 = .ok (.iconst 1, 1) := by decide +kernel
theorem d1_17 : decode prog_24_method_4_code 17 = .ok (.goto 4, 3) := by decide +kernel
theorem d1_20 : decode prog_24_method_4_code 20 = .ok (.iconst 0, 1) := by decide +kernel
theorem d1_21 : decode prog_24_method_4_code 21 = .ok (.ireturn, 1) := by decide +kernel
theorem pn_rm1 : plainName "sevenwide/Symbol" = true := by first | (simp [plainName, overriddenIn]; done) | decide +kernel
theorem ef_rm1 (m : MethodId) (j0 : Int64) : entryFrame m #[(.long j0)] 2 = mkF m 0 #[.val (.long j0), .second] [] := by first | (simp [entryFrame, mkF, argsToLocals, Value.category]; done) | rfl
def F1 (j0 : Int64) : Int32 := (if j0 < (7 : Int64) then (0 : Int32) else (if (12 : Int64) < j0 then (0 : Int32) else (1 : Int32)))
def Q_rm1 (Z : State) (j0 : Int64) (h0 : Heap) (n0 : Nat) (v : Option Value) (h : Heap) (L : List Loc) : Prop := v = some (.int (F1 j0)) ∧ Fr n0 L ∧ h = h0
set_option maxRecDepth 65536 in
set_option maxHeartbeats 40000000 in
theorem rm1 (l : Launch) (Z : State) (a0 : Array Value) (hw : ∀ d ∈ tables_1, d.before a0 Z = true) (ws : List Jvm.Cond) (j0 : Int64) (h0 : Heap) (n0 : Nat) (Z0 : n0 ≤ h0.size) :
    MetFree l (⟨"sevenwide/Symbol", "readsAddOnAfter", "(J)Z"⟩ : MethodName) (head1 (Jvm.Cond.code (⟨"sevenwide/Symbol", "readsAddOnAfter", "(J)Z"⟩ : MethodName) prog_24_method_4_code 2 (some .boolean) :: ws) ({ frames := 0, cells := 0, slots := 0, locals := 0 } : Room)) (fun a U => a = #[(.long j0)] ∧ Z.Warmed39 U.vm ∧ U.heap = h0) (fun _ _ _ _ _ => True) (fun _ U o U' => ∃ v L, o = .returned v ∧ Q_rm1 Z j0 h0 n0 v U'.heap L ∧ FrameEnd U o U' L ({ frames := 0, cells := 0, slots := 0, locals := 0 } : Room).cells ({ frames := 0, cells := 0, slots := 0, locals := 0 } : Room).slots) := by
  refine MetFree.of_bodySF (plainFor_of_name pn_rm1) hisR ?_
  intro p e s m args below meth c s₁ Bd hml0 hP hK
  obtain ⟨rfl, hZ, hh⟩ := hP
  have hx := Bd.exec
  have hby := Bd.bytes
  have hml : c.maxLocals = 2 := hml0
  have hown : s.vm.findClass "sevenwide/Symbol" = some m.cls := findClass_of_methodNamed Bd.named
  have hnm := (name_of_methodNamed Bd.named Bd.method).1
  have X0 : Stand p l e ({ frames := 0, cells := 0, slots := 0, locals := 0 } : Room) s m #[(.long j0)] below meth c s₁ [] 0 0 := Stand.of_body Bd
  have e0 : s₁.heap = h0 := by rw [← hh, Bd.state]; rfl
  have N0 := Fr.nil n0
  have q0 : Steps p.tables e below (s₁.setTop (entryFrame m #[(.long j0)] 2)) (s₁.setTop (mkF m 0 #[.val (.long j0), .second] [])) := castTop (ef_rm1 m j0) (Steps.refl _)
  obtain ⟨fs, hr, hrun, hended, hW, hsame⟩ := X0.leave (v := some (.int (F1 j0))) (fun h => by rw [Bd.returns] at h; cases h)
  refine ⟨_, _, q0.trans ?_, hrun, hended, _, _, rfl, ?_, ⟨_, rfl⟩, hW, hsame.mono (by decide) (by decide)⟩
  · show Steps p.tables e below (s₁.setTop (mkF m 0 #[.val (.long j0), .second] [])) _
    refine XS.lloadN X0.here hx rfl (hb hby d1_0) rfl ?_
    show Steps p.tables e below (s₁.setTop (mkF m 1 #[.val (.long j0), .second] [(.long j0)])) _
    refine X0.ldc2Long hx hown (mvT hZ (hw _ (List.mem_of_getElem? (i := 4) rfl))) (g := (mkF m 1 #[.val (.long j0), .second] [(.long j0)])) rfl (hb hby d1_1) _ ?_
    show Steps p.tables e below (s₁.setTop (mkF m 4 #[.val (.long j0), .second] [(.long (7 : Int64)), (.long j0)])) _
    refine XS.lcmp X0.here hx rfl (hb hby d1_4) rfl ?_
    show Steps p.tables e below (s₁.setTop (mkF m 5 #[.val (.long j0), .second] [(.int (lcmpW j0 (7 : Int64)))])) _
    by_cases hc1 : j0 < (7 : Int64)
    · refine XS.ifYes X0.here hx rfl (pc0 := 5) (pc' := 20) rfl (hb hby d1_5) rfl ((if0 _ _).trans (tlt ((lw_lt j0 (7 : Int64)).mpr hc1)).1) (by decide) (by decide) ?_
      show Steps p.tables e below (s₁.setTop (mkF m 20 #[.val (.long j0), .second] [])) _
      refine XS.iconst X0.here hx rfl (hb hby d1_20) ?_
      show Steps p.tables e below (s₁.setTop (mkF m 21 #[.val (.long j0), .second] [(.int (0 : Int32))])) _
      have hz : (F1 j0) = (0 : Int32) := by unfold F1; rw [if_pos hc1]
      rw [hz] at hr
      exact retN X0 hx (t := .boolean) Bd.returns (by simp) (hb hby d1_21) hr
    · refine XS.ifNo X0.here hx rfl (hb hby d1_5) rfl ((if0 _ _).trans (flt (fun q => hc1 ((lw_lt j0 (7 : Int64)).mp q))).1) ?_
      show Steps p.tables e below (s₁.setTop (mkF m 8 #[.val (.long j0), .second] [])) _
      refine XS.lloadN X0.here hx rfl (hb hby d1_8) rfl ?_
      show Steps p.tables e below (s₁.setTop (mkF m 9 #[.val (.long j0), .second] [(.long j0)])) _
      refine X0.ldc2Long hx hown (mvT hZ (hw _ (List.mem_of_getElem? (i := 15) rfl))) (g := (mkF m 9 #[.val (.long j0), .second] [(.long j0)])) rfl (hb hby d1_9) _ ?_
      show Steps p.tables e below (s₁.setTop (mkF m 12 #[.val (.long j0), .second] [(.long (12 : Int64)), (.long j0)])) _
      refine XS.lcmp X0.here hx rfl (hb hby d1_12) rfl ?_
      show Steps p.tables e below (s₁.setTop (mkF m 13 #[.val (.long j0), .second] [(.int (lcmpW j0 (12 : Int64)))])) _
      by_cases hc2 : (12 : Int64) < j0
      · refine XS.ifYes X0.here hx rfl (pc0 := 13) (pc' := 20) rfl (hb hby d1_13) rfl ((if0 _ _).trans (tlt ((lw_gt j0 (12 : Int64)).mpr hc2)).2.2.1) (by decide) (by decide) ?_
        show Steps p.tables e below (s₁.setTop (mkF m 20 #[.val (.long j0), .second] [])) _
        refine XS.iconst X0.here hx rfl (hb hby d1_20) ?_
        show Steps p.tables e below (s₁.setTop (mkF m 21 #[.val (.long j0), .second] [(.int (0 : Int32))])) _
        have hz : (F1 j0) = (0 : Int32) := by unfold F1; rw [if_neg hc1, if_pos hc2]
        rw [hz] at hr
        exact retN X0 hx (t := .boolean) Bd.returns (by simp) (hb hby d1_21) hr
      · refine XS.ifNo X0.here hx rfl (hb hby d1_13) rfl ((if0 _ _).trans (flt (fun q => hc2 ((lw_gt j0 (12 : Int64)).mp q))).2.2.1) ?_
        show Steps p.tables e below (s₁.setTop (mkF m 16 #[.val (.long j0), .second] [])) _
        refine XS.iconst X0.here hx rfl (hb hby d1_16) ?_
        show Steps p.tables e below (s₁.setTop (mkF m 17 #[.val (.long j0), .second] [(.int (1 : Int32))])) _
        refine XS.goto X0.here hx rfl (pc0 := 17) (pc' := 21) rfl (hb hby d1_17) (by decide) (by decide) ?_
        show Steps p.tables e below (s₁.setTop (mkF m 21 #[.val (.long j0), .second] [(.int (1 : Int32))])) _
        have hz : (F1 j0) = (1 : Int32) := by unfold F1; rw [if_neg hc1, if_neg hc2]
        rw [hz] at hr
        exact retN X0 hx (t := .boolean) Bd.returns (by simp) (hb hby d1_21) hr
  · show Q_rm1 Z j0 h0 n0 _ s₁.heap _
    rw [e0]
    exact ⟨rfl, N0, rfl⟩

theorem d2_0 : decode method_2_code 0 = .ok (.lload_n 0, 1) := by decide +kernel
theorem d2_1 : decode method_2_code 1 = .ok (.ldc2_w 7, 3) := by decide +kernel
theorem d2_4 : decode method_2_code 4 = .ok (.lcmp, 1) := by decide +kernel
theorem d2_5 : decode method_2_code 5 = .ok (.ifCond .eq 43, 3) := by decide +kernel
theorem d2_8 : decode method_2_code 8 = .ok (.lload_n 0, 1) := by decide +kernel
theorem d2_9 : decode method_2_code 9 = .ok (.ldc2_w 9, 3) := by decide +kernel
theorem d2_12 : decode method_2_code 12 = .ok (.lcmp, 1) := by decide +kernel
theorem d2_13 : decode method_2_code 13 = .ok (.ifCond .eq 35, 3) := by decide +kernel
theorem d2_16 : decode method_2_code 16 = .ok (.lload_n 0, 1) := by decide +kernel
theorem d2_17 : decode method_2_code 17 = .ok (.ldc2_w 11, 3) := by decide +kernel
theorem d2_20 : decode method_2_code 20 = .ok (.lcmp, 1) := by decide +kernel
theorem d2_21 : decode method_2_code 21 = .ok (.ifCond .eq 27, 3) := by decide +kernel
theorem d2_24 : decode method_2_code 24 = .ok (.lload_n 0, 1) := by decide +kernel
theorem d2_25 : decode method_2_code 25 = .ok (.ldc2_w 13, 3) := by decide +kernel
theorem d2_28 : decode method_2_code 28 = .ok (.lcmp, 1) := by decide +kernel
theorem d2_29 : decode method_2_code 29 = .ok (.ifCond .eq 19, 3) := by decide +kernel
theorem d2_32 : decode method_2_code 32 = .ok (.lload_n 0, 1) := by decide +kernel
theorem d2_33 : decode method_2_code 33 = .ok (.ldc2_w 15, 3) := by decide +kernel
theorem d2_36 : decode method_2_code 36 = .ok (.lcmp, 1) := by decide +kernel
theorem d2_37 : decode method_2_code 37 = .ok (.ifCond .eq 11, 3) := by decide +kernel
theorem d2_40 : decode method_2_code 40 = .ok (.lload_n 0, 1) := by decide +kernel
theorem d2_41 : decode method_2_code 41 = .ok (.ldc2_w 17, 3) := by decide +kernel
theorem d2_44 : decode method_2_code 44 = .ok (.lcmp, 1) := by decide +kernel
theorem d2_45 : decode method_2_code 45 = .ok (.ifCond .ne 7, 3) := by decide +kernel
theorem d2_48 : decode method_2_code 48 = .ok (.iconst 1, 1) := by decide +kernel
theorem d2_49 : decode method_2_code 49 = .ok (.goto 4, 3) := by decide +kernel
theorem d2_52 : decode method_2_code 52 = .ok (.iconst 0, 1) := by decide +kernel
theorem d2_53 : decode method_2_code 53 = .ok (.ireturn, 1) := by decide +kernel
theorem pn_rm2 : plainName "sevenwide/SymbolReadsAddOnAfterPinLaw" = true := by first | (simp [plainName, overriddenIn]; done) | decide +kernel
theorem ef_rm2 (m : MethodId) (j0 : Int64) : entryFrame m #[(.long j0)] 2 = mkF m 0 #[.val (.long j0), .second] [] := by first | (simp [entryFrame, mkF, argsToLocals, Value.category]; done) | rfl
def F2 (j0 : Int64) : Int32 := (if j0 = (7 : Int64) then (1 : Int32) else (if j0 = (8 : Int64) then (1 : Int32) else (if j0 = (9 : Int64) then (1 : Int32) else (if j0 = (10 : Int64) then (1 : Int32) else (if j0 = (11 : Int64) then (1 : Int32) else (if j0 = (12 : Int64) then (1 : Int32) else (0 : Int32)))))))
def Q_rm2 (Z : State) (j0 : Int64) (h0 : Heap) (n0 : Nat) (v : Option Value) (h : Heap) (L : List Loc) : Prop := v = some (.int (F2 j0)) ∧ Fr n0 L ∧ h = h0
set_option maxRecDepth 65536 in
set_option maxHeartbeats 40000000 in
theorem rm2 (l : Launch) (Z : State) (a0 : Array Value) (hw : ∀ d ∈ tables_1, d.before a0 Z = true) (ws : List Jvm.Cond) (j0 : Int64) (h0 : Heap) (n0 : Nat) (Z0 : n0 ≤ h0.size) :
    MetFree l (⟨"sevenwide/SymbolReadsAddOnAfterPinLaw", "inWindow", "(J)Z"⟩ : MethodName) (head1 (Jvm.Cond.code (⟨"sevenwide/SymbolReadsAddOnAfterPinLaw", "inWindow", "(J)Z"⟩ : MethodName) method_2_code 2 (some .boolean) :: ws) ({ frames := 0, cells := 0, slots := 0, locals := 0 } : Room)) (fun a U => a = #[(.long j0)] ∧ Z.Warmed39 U.vm ∧ U.heap = h0) (fun _ _ _ _ _ => True) (fun _ U o U' => ∃ v L, o = .returned v ∧ Q_rm2 Z j0 h0 n0 v U'.heap L ∧ FrameEnd U o U' L ({ frames := 0, cells := 0, slots := 0, locals := 0 } : Room).cells ({ frames := 0, cells := 0, slots := 0, locals := 0 } : Room).slots) := by
  refine MetFree.of_bodySF (plainFor_of_name pn_rm2) hisR ?_
  intro p e s m args below meth c s₁ Bd hml0 hP hK
  obtain ⟨rfl, hZ, hh⟩ := hP
  have hx := Bd.exec
  have hby := Bd.bytes
  have hml : c.maxLocals = 2 := hml0
  have hown : s.vm.findClass "sevenwide/SymbolReadsAddOnAfterPinLaw" = some m.cls := findClass_of_methodNamed Bd.named
  have hnm := (name_of_methodNamed Bd.named Bd.method).1
  have X0 : Stand p l e ({ frames := 0, cells := 0, slots := 0, locals := 0 } : Room) s m #[(.long j0)] below meth c s₁ [] 0 0 := Stand.of_body Bd
  have e0 : s₁.heap = h0 := by rw [← hh, Bd.state]; rfl
  have N0 := Fr.nil n0
  have q0 : Steps p.tables e below (s₁.setTop (entryFrame m #[(.long j0)] 2)) (s₁.setTop (mkF m 0 #[.val (.long j0), .second] [])) := castTop (ef_rm2 m j0) (Steps.refl _)
  obtain ⟨fs, hr, hrun, hended, hW, hsame⟩ := X0.leave (v := some (.int (F2 j0))) (fun h => by rw [Bd.returns] at h; cases h)
  refine ⟨_, _, q0.trans ?_, hrun, hended, _, _, rfl, ?_, ⟨_, rfl⟩, hW, hsame.mono (by decide) (by decide)⟩
  · show Steps p.tables e below (s₁.setTop (mkF m 0 #[.val (.long j0), .second] [])) _
    refine XS.lloadN X0.here hx rfl (hb hby d2_0) rfl ?_
    show Steps p.tables e below (s₁.setTop (mkF m 1 #[.val (.long j0), .second] [(.long j0)])) _
    refine X0.ldc2Long hx hown (mvT hZ (hw _ (List.mem_of_getElem? (i := 9) rfl))) (g := (mkF m 1 #[.val (.long j0), .second] [(.long j0)])) rfl (hb hby d2_1) _ ?_
    show Steps p.tables e below (s₁.setTop (mkF m 4 #[.val (.long j0), .second] [(.long (7 : Int64)), (.long j0)])) _
    refine XS.lcmp X0.here hx rfl (hb hby d2_4) rfl ?_
    show Steps p.tables e below (s₁.setTop (mkF m 5 #[.val (.long j0), .second] [(.int (lcmpW j0 (7 : Int64)))])) _
    by_cases hc1 : j0 = (7 : Int64)
    · refine XS.ifYes X0.here hx rfl (pc0 := 5) (pc' := 48) rfl (hb hby d2_5) rfl ((if0 _ _).trans (teq ((lw_eq j0 (7 : Int64)).mpr hc1)).1) (by decide) (by decide) ?_
      show Steps p.tables e below (s₁.setTop (mkF m 48 #[.val (.long j0), .second] [])) _
      refine XS.iconst X0.here hx rfl (hb hby d2_48) ?_
      show Steps p.tables e below (s₁.setTop (mkF m 49 #[.val (.long j0), .second] [(.int (1 : Int32))])) _
      refine XS.goto X0.here hx rfl (pc0 := 49) (pc' := 53) rfl (hb hby d2_49) (by decide) (by decide) ?_
      show Steps p.tables e below (s₁.setTop (mkF m 53 #[.val (.long j0), .second] [(.int (1 : Int32))])) _
      have hz : (F2 j0) = (1 : Int32) := by unfold F2; rw [if_pos hc1]
      rw [hz] at hr
      exact retN X0 hx (t := .boolean) Bd.returns (by simp) (hb hby d2_53) hr
    · refine XS.ifNo X0.here hx rfl (hb hby d2_5) rfl ((if0 _ _).trans (feq (fun q => hc1 ((lw_eq j0 (7 : Int64)).mp q))).1) ?_
      show Steps p.tables e below (s₁.setTop (mkF m 8 #[.val (.long j0), .second] [])) _
      refine XS.lloadN X0.here hx rfl (hb hby d2_8) rfl ?_
      show Steps p.tables e below (s₁.setTop (mkF m 9 #[.val (.long j0), .second] [(.long j0)])) _
      refine X0.ldc2Long hx hown (mvT hZ (hw _ (List.mem_of_getElem? (i := 10) rfl))) (g := (mkF m 9 #[.val (.long j0), .second] [(.long j0)])) rfl (hb hby d2_9) _ ?_
      show Steps p.tables e below (s₁.setTop (mkF m 12 #[.val (.long j0), .second] [(.long (8 : Int64)), (.long j0)])) _
      refine XS.lcmp X0.here hx rfl (hb hby d2_12) rfl ?_
      show Steps p.tables e below (s₁.setTop (mkF m 13 #[.val (.long j0), .second] [(.int (lcmpW j0 (8 : Int64)))])) _
      by_cases hc2 : j0 = (8 : Int64)
      · refine XS.ifYes X0.here hx rfl (pc0 := 13) (pc' := 48) rfl (hb hby d2_13) rfl ((if0 _ _).trans (teq ((lw_eq j0 (8 : Int64)).mpr hc2)).1) (by decide) (by decide) ?_
        show Steps p.tables e below (s₁.setTop (mkF m 48 #[.val (.long j0), .second] [])) _
        refine XS.iconst X0.here hx rfl (hb hby d2_48) ?_
        show Steps p.tables e below (s₁.setTop (mkF m 49 #[.val (.long j0), .second] [(.int (1 : Int32))])) _
        refine XS.goto X0.here hx rfl (pc0 := 49) (pc' := 53) rfl (hb hby d2_49) (by decide) (by decide) ?_
        show Steps p.tables e below (s₁.setTop (mkF m 53 #[.val (.long j0), .second] [(.int (1 : Int32))])) _
        have hz : (F2 j0) = (1 : Int32) := by unfold F2; rw [if_neg hc1, if_pos hc2]
        rw [hz] at hr
        exact retN X0 hx (t := .boolean) Bd.returns (by simp) (hb hby d2_53) hr
      · refine XS.ifNo X0.here hx rfl (hb hby d2_13) rfl ((if0 _ _).trans (feq (fun q => hc2 ((lw_eq j0 (8 : Int64)).mp q))).1) ?_
        show Steps p.tables e below (s₁.setTop (mkF m 16 #[.val (.long j0), .second] [])) _
        refine XS.lloadN X0.here hx rfl (hb hby d2_16) rfl ?_
        show Steps p.tables e below (s₁.setTop (mkF m 17 #[.val (.long j0), .second] [(.long j0)])) _
        refine X0.ldc2Long hx hown (mvT hZ (hw _ (List.mem_of_getElem? (i := 11) rfl))) (g := (mkF m 17 #[.val (.long j0), .second] [(.long j0)])) rfl (hb hby d2_17) _ ?_
        show Steps p.tables e below (s₁.setTop (mkF m 20 #[.val (.long j0), .second] [(.long (9 : Int64)), (.long j0)])) _
        refine XS.lcmp X0.here hx rfl (hb hby d2_20) rfl ?_
        show Steps p.tables e below (s₁.setTop (mkF m 21 #[.val (.long j0), .second] [(.int (lcmpW j0 (9 : Int64)))])) _
        by_cases hc3 : j0 = (9 : Int64)
        · refine XS.ifYes X0.here hx rfl (pc0 := 21) (pc' := 48) rfl (hb hby d2_21) rfl ((if0 _ _).trans (teq ((lw_eq j0 (9 : Int64)).mpr hc3)).1) (by decide) (by decide) ?_
          show Steps p.tables e below (s₁.setTop (mkF m 48 #[.val (.long j0), .second] [])) _
          refine XS.iconst X0.here hx rfl (hb hby d2_48) ?_
          show Steps p.tables e below (s₁.setTop (mkF m 49 #[.val (.long j0), .second] [(.int (1 : Int32))])) _
          refine XS.goto X0.here hx rfl (pc0 := 49) (pc' := 53) rfl (hb hby d2_49) (by decide) (by decide) ?_
          show Steps p.tables e below (s₁.setTop (mkF m 53 #[.val (.long j0), .second] [(.int (1 : Int32))])) _
          have hz : (F2 j0) = (1 : Int32) := by unfold F2; rw [if_neg hc1, if_neg hc2, if_pos hc3]
          rw [hz] at hr
          exact retN X0 hx (t := .boolean) Bd.returns (by simp) (hb hby d2_53) hr
        · refine XS.ifNo X0.here hx rfl (hb hby d2_21) rfl ((if0 _ _).trans (feq (fun q => hc3 ((lw_eq j0 (9 : Int64)).mp q))).1) ?_
          show Steps p.tables e below (s₁.setTop (mkF m 24 #[.val (.long j0), .second] [])) _
          refine XS.lloadN X0.here hx rfl (hb hby d2_24) rfl ?_
          show Steps p.tables e below (s₁.setTop (mkF m 25 #[.val (.long j0), .second] [(.long j0)])) _
          refine X0.ldc2Long hx hown (mvT hZ (hw _ (List.mem_of_getElem? (i := 12) rfl))) (g := (mkF m 25 #[.val (.long j0), .second] [(.long j0)])) rfl (hb hby d2_25) _ ?_
          show Steps p.tables e below (s₁.setTop (mkF m 28 #[.val (.long j0), .second] [(.long (10 : Int64)), (.long j0)])) _
          refine XS.lcmp X0.here hx rfl (hb hby d2_28) rfl ?_
          show Steps p.tables e below (s₁.setTop (mkF m 29 #[.val (.long j0), .second] [(.int (lcmpW j0 (10 : Int64)))])) _
          by_cases hc4 : j0 = (10 : Int64)
          · refine XS.ifYes X0.here hx rfl (pc0 := 29) (pc' := 48) rfl (hb hby d2_29) rfl ((if0 _ _).trans (teq ((lw_eq j0 (10 : Int64)).mpr hc4)).1) (by decide) (by decide) ?_
            show Steps p.tables e below (s₁.setTop (mkF m 48 #[.val (.long j0), .second] [])) _
            refine XS.iconst X0.here hx rfl (hb hby d2_48) ?_
            show Steps p.tables e below (s₁.setTop (mkF m 49 #[.val (.long j0), .second] [(.int (1 : Int32))])) _
            refine XS.goto X0.here hx rfl (pc0 := 49) (pc' := 53) rfl (hb hby d2_49) (by decide) (by decide) ?_
            show Steps p.tables e below (s₁.setTop (mkF m 53 #[.val (.long j0), .second] [(.int (1 : Int32))])) _
            have hz : (F2 j0) = (1 : Int32) := by unfold F2; rw [if_neg hc1, if_neg hc2, if_neg hc3, if_pos hc4]
            rw [hz] at hr
            exact retN X0 hx (t := .boolean) Bd.returns (by simp) (hb hby d2_53) hr
          · refine XS.ifNo X0.here hx rfl (hb hby d2_29) rfl ((if0 _ _).trans (feq (fun q => hc4 ((lw_eq j0 (10 : Int64)).mp q))).1) ?_
            show Steps p.tables e below (s₁.setTop (mkF m 32 #[.val (.long j0), .second] [])) _
            refine XS.lloadN X0.here hx rfl (hb hby d2_32) rfl ?_
            show Steps p.tables e below (s₁.setTop (mkF m 33 #[.val (.long j0), .second] [(.long j0)])) _
            refine X0.ldc2Long hx hown (mvT hZ (hw _ (List.mem_of_getElem? (i := 13) rfl))) (g := (mkF m 33 #[.val (.long j0), .second] [(.long j0)])) rfl (hb hby d2_33) _ ?_
            show Steps p.tables e below (s₁.setTop (mkF m 36 #[.val (.long j0), .second] [(.long (11 : Int64)), (.long j0)])) _
            refine XS.lcmp X0.here hx rfl (hb hby d2_36) rfl ?_
            show Steps p.tables e below (s₁.setTop (mkF m 37 #[.val (.long j0), .second] [(.int (lcmpW j0 (11 : Int64)))])) _
            by_cases hc5 : j0 = (11 : Int64)
            · refine XS.ifYes X0.here hx rfl (pc0 := 37) (pc' := 48) rfl (hb hby d2_37) rfl ((if0 _ _).trans (teq ((lw_eq j0 (11 : Int64)).mpr hc5)).1) (by decide) (by decide) ?_
              show Steps p.tables e below (s₁.setTop (mkF m 48 #[.val (.long j0), .second] [])) _
              refine XS.iconst X0.here hx rfl (hb hby d2_48) ?_
              show Steps p.tables e below (s₁.setTop (mkF m 49 #[.val (.long j0), .second] [(.int (1 : Int32))])) _
              refine XS.goto X0.here hx rfl (pc0 := 49) (pc' := 53) rfl (hb hby d2_49) (by decide) (by decide) ?_
              show Steps p.tables e below (s₁.setTop (mkF m 53 #[.val (.long j0), .second] [(.int (1 : Int32))])) _
              have hz : (F2 j0) = (1 : Int32) := by unfold F2; rw [if_neg hc1, if_neg hc2, if_neg hc3, if_neg hc4, if_pos hc5]
              rw [hz] at hr
              exact retN X0 hx (t := .boolean) Bd.returns (by simp) (hb hby d2_53) hr
            · refine XS.ifNo X0.here hx rfl (hb hby d2_37) rfl ((if0 _ _).trans (feq (fun q => hc5 ((lw_eq j0 (11 : Int64)).mp q))).1) ?_
              show Steps p.tables e below (s₁.setTop (mkF m 40 #[.val (.long j0), .second] [])) _
              refine XS.lloadN X0.here hx rfl (hb hby d2_40) rfl ?_
              show Steps p.tables e below (s₁.setTop (mkF m 41 #[.val (.long j0), .second] [(.long j0)])) _
              refine X0.ldc2Long hx hown (mvT hZ (hw _ (List.mem_of_getElem? (i := 14) rfl))) (g := (mkF m 41 #[.val (.long j0), .second] [(.long j0)])) rfl (hb hby d2_41) _ ?_
              show Steps p.tables e below (s₁.setTop (mkF m 44 #[.val (.long j0), .second] [(.long (12 : Int64)), (.long j0)])) _
              refine XS.lcmp X0.here hx rfl (hb hby d2_44) rfl ?_
              show Steps p.tables e below (s₁.setTop (mkF m 45 #[.val (.long j0), .second] [(.int (lcmpW j0 (12 : Int64)))])) _
              by_cases hc6 : j0 = (12 : Int64)
              · refine XS.ifNo X0.here hx rfl (hb hby d2_45) rfl ((if0 _ _).trans (teq ((lw_eq j0 (12 : Int64)).mpr hc6)).2) ?_
                show Steps p.tables e below (s₁.setTop (mkF m 48 #[.val (.long j0), .second] [])) _
                refine XS.iconst X0.here hx rfl (hb hby d2_48) ?_
                show Steps p.tables e below (s₁.setTop (mkF m 49 #[.val (.long j0), .second] [(.int (1 : Int32))])) _
                refine XS.goto X0.here hx rfl (pc0 := 49) (pc' := 53) rfl (hb hby d2_49) (by decide) (by decide) ?_
                show Steps p.tables e below (s₁.setTop (mkF m 53 #[.val (.long j0), .second] [(.int (1 : Int32))])) _
                have hz : (F2 j0) = (1 : Int32) := by unfold F2; rw [if_neg hc1, if_neg hc2, if_neg hc3, if_neg hc4, if_neg hc5, if_pos hc6]
                rw [hz] at hr
                exact retN X0 hx (t := .boolean) Bd.returns (by simp) (hb hby d2_53) hr
              · refine XS.ifYes X0.here hx rfl (pc0 := 45) (pc' := 52) rfl (hb hby d2_45) rfl ((if0 _ _).trans (feq (fun q => hc6 ((lw_eq j0 (12 : Int64)).mp q))).2) (by decide) (by decide) ?_
                show Steps p.tables e below (s₁.setTop (mkF m 52 #[.val (.long j0), .second] [])) _
                refine XS.iconst X0.here hx rfl (hb hby d2_52) ?_
                show Steps p.tables e below (s₁.setTop (mkF m 53 #[.val (.long j0), .second] [(.int (0 : Int32))])) _
                have hz : (F2 j0) = (0 : Int32) := by unfold F2; rw [if_neg hc1, if_neg hc2, if_neg hc3, if_neg hc4, if_neg hc5, if_neg hc6]
                rw [hz] at hr
                exact retN X0 hx (t := .boolean) Bd.returns (by simp) (hb hby d2_53) hr
  · show Q_rm2 Z j0 h0 n0 _ s₁.heap _
    rw [e0]
    exact ⟨rfl, N0, rfl⟩

theorem own_win (g : Int64) : F1 g = F2 g := by
  unfold F1 F2
  simp only [← Int64.toInt_inj, Int64.lt_iff_toInt_lt]
  simp only [show (7 : Int64).toInt = 7 from rfl, show (8 : Int64).toInt = 8 from rfl, show (9 : Int64).toInt = 9 from rfl, show (10 : Int64).toInt = 10 from rfl, show (11 : Int64).toInt = 11 from rfl, show (12 : Int64).toInt = 12 from rfl]
  repeat' split
  all_goals first | rfl | (exfalso; omega)

theorem plain0 (j0 : Int64) (p1 : Int32) (vk : Int64) (v9 : Int32) (v18 : Int32) (v27 : Int32) (v33 : Int32) (zr : Int32)
    (hvk : vk = ((p1 &&& (15 : Int32)).toInt64))
    (hv9 : v9 = (if (F1 j0) = (F2 j0) then (1 : Int32) else (0 : Int32)))
    (hv18 : v18 = (if (F1 vk) = (F2 vk) then (1 : Int32) else (0 : Int32)))
    (hv27 : v27 = (if (F1 (-9223372036854775808 : Int64)) = (0 : Int32) then (1 : Int32) else (0 : Int32)))
    (hv33 : v33 = (if (F1 (9223372036854775807 : Int64)) = (0 : Int32) then (1 : Int32) else (0 : Int32)))
    (hzr : zr = (if v9 = (0 : Int32) then (0 : Int32) else (if v18 = (0 : Int32) then (0 : Int32) else (if (F1 (9 : Int64)) = (0 : Int32) then (0 : Int32) else (if v27 = (0 : Int32) then (0 : Int32) else (if v33 = (0 : Int32) then (0 : Int32) else (1 : Int32))))))) :
    zr = 1 := by
  subst hvk
  simp only [own_win, if_true] at *
  rw [show F2 9 = 1 from by decide, show F2 (-9223372036854775808) = 0 from by decide, show F2 9223372036854775807 = 0 from by decide] at *
  simp at *
  subst_vars
  rfl

theorem pd_0 : parseMethodDescriptor "(J)Z" = some ⟨[.long], some .boolean⟩ := by decide +kernel
theorem pn_rm0 : plainName "sevenwide/SymbolReadsAddOnAfterPinLaw" = true := by first | (simp [plainName, overriddenIn]; done) | decide +kernel
theorem ef_rm0 (m : MethodId) (j0 : Int64) (p1 : Int32) : entryFrame m #[(.long j0), (.int p1)] maxLocals = mkF m 0 #[.val (.long j0), .second, .val (.int p1), .unset, .unset, .unset, .unset, .unset, .unset, .unset] [] := by first | (simp [entryFrame, mkF, argsToLocals, Value.category, maxLocals]; done) | rfl
def Q_rm0 (Z : State) (j0 : Int64) (p1 : Int32) (h0 : Heap) (n0 : Nat) (v : Option Value) (h : Heap) (L : List Loc) : Prop := v = some (.int (1 : Int32)) ∧ Fr n0 L
set_option maxRecDepth 65536 in
set_option maxHeartbeats 40000000 in
theorem rm0 (l : Launch) (Z : State) (a0 : Array Value) (hw : ∀ d ∈ tables_1, d.before a0 Z = true) (ws : List Jvm.Cond) (j0 : Int64) (p1 : Int32) (h0 : Heap) (n0 : Nat) (Z0 : n0 ≤ h0.size) :
    MetFree l x (head1 (Jvm.Cond.code x code maxLocals ret :: ws) room_1) (fun a U => a = #[(.long j0), (.int p1)] ∧ Z.Warmed39 U.vm ∧ U.heap = h0) (fun _ _ _ _ _ => True) (fun _ U o U' => ∃ v L, o = .returned v ∧ Q_rm0 Z j0 p1 h0 n0 v U'.heap L ∧ FrameEnd U o U' L room_1.cells room_1.slots) := by
  refine MetFree.of_bodySF (plainFor_of_name pn_rm0) hisR ?_
  intro p e s m args below meth c s₁ Bd hml0 hP hK
  obtain ⟨rfl, hZ, hh⟩ := hP
  have hx := Bd.exec
  have hby := Bd.bytes
  have hml : c.maxLocals = 10 := hml0
  have hown : s.vm.findClass "sevenwide/SymbolReadsAddOnAfterPinLaw" = some m.cls := findClass_of_methodNamed Bd.named
  have hnm := (name_of_methodNamed Bd.named Bd.method).1
  have X0 : Stand p l e room_1 s m #[(.long j0), (.int p1)] below meth c s₁ [] 0 0 := Stand.of_body Bd
  have e0 : s₁.heap = h0 := by rw [← hh, Bd.state]; rfl
  have N0 := Fr.nil n0
  have q0 : Steps p.tables e below (s₁.setTop (entryFrame m #[(.long j0), (.int p1)] maxLocals)) (s₁.setTop (mkF m 0 #[.val (.long j0), .second, .val (.int p1), .unset, .unset, .unset, .unset, .unset, .unset, .unset] [])) := castTop (ef_rm0 m j0 p1) (Steps.refl _)
  have q1 : Steps p.tables e below (s₁.setTop (entryFrame m #[(.long j0), (.int p1)] maxLocals)) (s₁.setTop (mkF m 6 #[.val (.long j0), .second, .val (.int p1), .val (.long ((p1 &&& (15 : Int32)).toInt64)), .second, .unset, .unset, .unset, .unset, .unset] [])) := q0.trans (by
      show Steps p.tables e below (s₁.setTop (mkF m 0 #[.val (.long j0), .second, .val (.int p1), .unset, .unset, .unset, .unset, .unset, .unset, .unset] [])) _
      refine XS.iloadN X0.here hx rfl (hb hby at_0) rfl ?_
      show Steps p.tables e below (s₁.setTop (mkF m 1 #[.val (.long j0), .second, .val (.int p1), .unset, .unset, .unset, .unset, .unset, .unset, .unset] [(.int p1)])) _
      refine XS.bipush X0.here hx rfl (hb hby at_1) ?_
      show Steps p.tables e below (s₁.setTop (mkF m 3 #[.val (.long j0), .second, .val (.int p1), .unset, .unset, .unset, .unset, .unset, .unset, .unset] [(.int (15 : Int32)), (.int p1)])) _
      refine XS.iand X0.here hx rfl (hb hby at_3) rfl ?_
      show Steps p.tables e below (s₁.setTop (mkF m 4 #[.val (.long j0), .second, .val (.int p1), .unset, .unset, .unset, .unset, .unset, .unset, .unset] [(.int (p1 &&& (15 : Int32)))])) _
      refine XS.i2l X0.here hx rfl (hb hby at_4) rfl ?_
      show Steps p.tables e below (s₁.setTop (mkF m 5 #[.val (.long j0), .second, .val (.int p1), .unset, .unset, .unset, .unset, .unset, .unset, .unset] [(.long ((p1 &&& (15 : Int32)).toInt64))])) _
      refine XS.lstoreN X0.here hx rfl (hb hby at_5) rfl (l' := #[.val (.long j0), .second, .val (.int p1), .val (.long ((p1 &&& (15 : Int32)).toInt64)), .second, .unset, .unset, .unset, .unset, .unset]) rfl ?_
      show Steps p.tables e below (s₁.setTop (mkF m 6 #[.val (.long j0), .second, .val (.int p1), .val (.long ((p1 &&& (15 : Int32)).toInt64)), .second, .unset, .unset, .unset, .unset, .unset] [])) _
      exact Steps.refl _)
  obtain ⟨vk, hvk⟩ : ∃ v : Int64, v = ((p1 &&& (15 : Int32)).toInt64) := ⟨_, rfl⟩
  rw [← hvk] at q1
  have q2 : Steps p.tables e below (s₁.setTop (entryFrame m #[(.long j0), (.int p1)] maxLocals)) (s₁.setTop (mkF m 7 #[.val (.long j0), .second, .val (.int p1), .val (.long vk), .second, .unset, .unset, .unset, .unset, .unset] [(.long j0)])) := q1.trans (by
      show Steps p.tables e below (s₁.setTop (mkF m 6 #[.val (.long j0), .second, .val (.int p1), .val (.long vk), .second, .unset, .unset, .unset, .unset, .unset] [])) _
      refine XS.lloadN X0.here hx rfl (hb hby at_6) rfl ?_
      show Steps p.tables e below (s₁.setTop (mkF m 7 #[.val (.long j0), .second, .val (.int p1), .val (.long vk), .second, .unset, .unset, .unset, .unset, .unset] [(.long j0)])) _
      exact Steps.refl _)
  obtain ⟨_, _, ⟨T3, L3, k3, n3⟩, -, X3, ⟨Lc3, hQ3, l3, y3, z3⟩, st3⟩ := Jvm.LawKit.callS X0 hx (y := (⟨"sevenwide/Symbol", "readsAddOnAfter", "(J)Z"⟩ : MethodName)) hown (mvT hZ (hw _ (List.mem_of_getElem? (i := 0) rfl))) (mvT hZ (hw _ (List.mem_of_getElem? (i := 1) rfl))) (mvT hZ (hw _ (List.mem_of_getElem? (i := 2) rfl))) (mvT hZ (hw _ (List.mem_of_getElem? (i := 3) rfl))) (by decide) (backOf (W := 0) (rm1 l Z a0 hw [] j0 h0 n0 Z0) hZ (hw _ (List.mem_of_getElem? (i := 3) rfl)) (hw _ (List.mem_of_getElem? (i := 2) rfl)) (by decide) (by decide)) (g := (mkF m 7 #[.val (.long j0), .second, .val (.int p1), .val (.long vk), .second, .unset, .unset, .unset, .unset, .unset] [(.long j0)])) rfl (by rw [hml]; rfl) (argsL := [(.long j0)]) (rest := []) (lenOf pd_0 rfl) rfl (by show 2 * 0 + _ ≤ _; exact Nat.le_of_eq rfl) (hb hby at_7) (fun _ _ => ⟨rfl, e0, (by decide : 0 + 0 ≤ _), (by decide : 0 + 0 ≤ _)⟩)
  dsimp only [Pt.U, Pt.locs, Pt.cells, Pt.slots] at X3 l3 y3 z3 st3 hQ3
  subst l3 y3 z3
  obtain ⟨rfl, N3q, e3⟩ := hQ3
  have N3 := Fr.app N0 N3q
  have q4 : Steps p.tables e below (s₁.setTop (entryFrame m #[(.long j0), (.int p1)] maxLocals)) (T3.setTop (mkF m 10 #[.val (.long j0), .second, .val (.int p1), .val (.long vk), .second, .unset, .unset, .unset, .unset, .unset] [(.int (F1 j0))])) := q2.trans (st3 _ (Steps.refl _))
  have q5 : Steps p.tables e below (s₁.setTop (entryFrame m #[(.long j0), (.int p1)] maxLocals)) (T3.setTop (mkF m 11 #[.val (.long j0), .second, .val (.int p1), .val (.long vk), .second, .unset, .unset, .unset, .unset, .unset] [(.long j0), (.int (F1 j0))])) := q4.trans (by
      show Steps p.tables e below (T3.setTop (mkF m 10 #[.val (.long j0), .second, .val (.int p1), .val (.long vk), .second, .unset, .unset, .unset, .unset, .unset] [(.int (F1 j0))])) _
      refine XS.lloadN X3.here hx rfl (hb hby at_10) rfl ?_
      show Steps p.tables e below (T3.setTop (mkF m 11 #[.val (.long j0), .second, .val (.int p1), .val (.long vk), .second, .unset, .unset, .unset, .unset, .unset] [(.long j0), (.int (F1 j0))])) _
      exact Steps.refl _)
  obtain ⟨_, _, ⟨T6, L6, k6, n6⟩, -, X6, ⟨Lc6, hQ6, l6, y6, z6⟩, st6⟩ := Jvm.LawKit.callS X3 hx (y := (⟨"sevenwide/SymbolReadsAddOnAfterPinLaw", "inWindow", "(J)Z"⟩ : MethodName)) hown (mvT hZ (hw _ (List.mem_of_getElem? (i := 5) rfl))) (mvT hZ (hw _ (List.mem_of_getElem? (i := 6) rfl))) (mvT hZ (hw _ (List.mem_of_getElem? (i := 7) rfl))) (mvT hZ (hw _ (List.mem_of_getElem? (i := 8) rfl))) (by decide) (backOf (W := 1) (rm2 l Z a0 hw [] j0 h0 n0 Z0) hZ (hw _ (List.mem_of_getElem? (i := 8) rfl)) (hw _ (List.mem_of_getElem? (i := 7) rfl)) (by decide) (by decide)) (g := (mkF m 11 #[.val (.long j0), .second, .val (.int p1), .val (.long vk), .second, .unset, .unset, .unset, .unset, .unset] [(.long j0), (.int (F1 j0))])) rfl (by rw [hml]; rfl) (argsL := [(.long j0)]) (rest := [(.int (F1 j0))]) (lenOf pd_0 rfl) rfl (by show 2 * 0 + _ ≤ _; exact Nat.le_of_eq rfl) (hb hby at_11) (fun _ _ => ⟨rfl, e3, (by decide : 0 + 0 ≤ _), (by decide : 0 + 0 ≤ _)⟩)
  dsimp only [Pt.U, Pt.locs, Pt.cells, Pt.slots] at X6 l6 y6 z6 st6 hQ6
  subst l6 y6 z6
  obtain ⟨rfl, N6q, e6⟩ := hQ6
  have N6 := Fr.app N3 N6q
  have q7 : Steps p.tables e below (s₁.setTop (entryFrame m #[(.long j0), (.int p1)] maxLocals)) (T6.setTop (mkF m 14 #[.val (.long j0), .second, .val (.int p1), .val (.long vk), .second, .unset, .unset, .unset, .unset, .unset] [(.int (F2 j0)), (.int (F1 j0))])) := q5.trans (st6 _ (Steps.refl _))
  obtain ⟨v9, hv9⟩ : ∃ v : Int32, v = (if (F1 j0) = (F2 j0) then (1 : Int32) else (0 : Int32)) := ⟨_, rfl⟩
  have q10 : Steps p.tables e below (s₁.setTop (entryFrame m #[(.long j0), (.int p1)] maxLocals)) (T6.setTop (mkF m 22 #[.val (.long j0), .second, .val (.int p1), .val (.long vk), .second, .unset, .unset, .unset, .unset, .unset] [(.int v9)])) := by
    refine q7.trans ?_
    show Steps p.tables e below (T6.setTop (mkF m 14 #[.val (.long j0), .second, .val (.int p1), .val (.long vk), .second, .unset, .unset, .unset, .unset, .unset] [(.int (F2 j0)), (.int (F1 j0))])) _
    by_cases hc8 : (F1 j0) = (F2 j0)
    · rw [if_pos hc8] at hv9
      refine XS.icmpNo X6.here hx rfl (hb hby at_14) rfl (teq hc8).2 ?_
      show Steps p.tables e below (T6.setTop (mkF m 17 #[.val (.long j0), .second, .val (.int p1), .val (.long vk), .second, .unset, .unset, .unset, .unset, .unset] [])) _
      refine XS.iconst X6.here hx rfl (hb hby at_17) ?_
      show Steps p.tables e below (T6.setTop (mkF m 18 #[.val (.long j0), .second, .val (.int p1), .val (.long vk), .second, .unset, .unset, .unset, .unset, .unset] [(.int (1 : Int32))])) _
      refine XS.goto X6.here hx rfl (pc0 := 18) (pc' := 22) rfl (hb hby at_18) (by decide) (by decide) ?_
      show Steps p.tables e below (T6.setTop (mkF m 22 #[.val (.long j0), .second, .val (.int p1), .val (.long vk), .second, .unset, .unset, .unset, .unset, .unset] [(.int (1 : Int32))])) _
      rw [hv9]
      exact Steps.refl _
    · rw [if_neg hc8] at hv9
      refine XS.icmpYes X6.here hx rfl (pc0 := 14) (pc' := 21) rfl (hb hby at_14) rfl (feq hc8).2 (by decide) (by decide) ?_
      show Steps p.tables e below (T6.setTop (mkF m 21 #[.val (.long j0), .second, .val (.int p1), .val (.long vk), .second, .unset, .unset, .unset, .unset, .unset] [])) _
      refine XS.iconst X6.here hx rfl (hb hby at_21) ?_
      show Steps p.tables e below (T6.setTop (mkF m 22 #[.val (.long j0), .second, .val (.int p1), .val (.long vk), .second, .unset, .unset, .unset, .unset, .unset] [(.int (0 : Int32))])) _
      rw [hv9]
      exact Steps.refl _
  have q11 : Steps p.tables e below (s₁.setTop (entryFrame m #[(.long j0), (.int p1)] maxLocals)) (T6.setTop (mkF m 25 #[.val (.long j0), .second, .val (.int p1), .val (.long vk), .second, .val (.int v9), .unset, .unset, .unset, .unset] [(.long vk)])) := q10.trans (by
      show Steps p.tables e below (T6.setTop (mkF m 22 #[.val (.long j0), .second, .val (.int p1), .val (.long vk), .second, .unset, .unset, .unset, .unset, .unset] [(.int v9)])) _
      refine XS.istore X6.here hx rfl (hb hby at_22) rfl (l' := #[.val (.long j0), .second, .val (.int p1), .val (.long vk), .second, .val (.int v9), .unset, .unset, .unset, .unset]) rfl ?_
      show Steps p.tables e below (T6.setTop (mkF m 24 #[.val (.long j0), .second, .val (.int p1), .val (.long vk), .second, .val (.int v9), .unset, .unset, .unset, .unset] [])) _
      refine XS.lloadN X6.here hx rfl (hb hby at_24) rfl ?_
      show Steps p.tables e below (T6.setTop (mkF m 25 #[.val (.long j0), .second, .val (.int p1), .val (.long vk), .second, .val (.int v9), .unset, .unset, .unset, .unset] [(.long vk)])) _
      exact Steps.refl _)
  obtain ⟨_, _, ⟨T12, L12, k12, n12⟩, -, X12, ⟨Lc12, hQ12, l12, y12, z12⟩, st12⟩ := Jvm.LawKit.callS X6 hx (y := (⟨"sevenwide/Symbol", "readsAddOnAfter", "(J)Z"⟩ : MethodName)) hown (mvT hZ (hw _ (List.mem_of_getElem? (i := 0) rfl))) (mvT hZ (hw _ (List.mem_of_getElem? (i := 1) rfl))) (mvT hZ (hw _ (List.mem_of_getElem? (i := 2) rfl))) (mvT hZ (hw _ (List.mem_of_getElem? (i := 3) rfl))) (by decide) (backOf (W := 0) (rm1 l Z a0 hw [] vk h0 n0 Z0) hZ (hw _ (List.mem_of_getElem? (i := 3) rfl)) (hw _ (List.mem_of_getElem? (i := 2) rfl)) (by decide) (by decide)) (g := (mkF m 25 #[.val (.long j0), .second, .val (.int p1), .val (.long vk), .second, .val (.int v9), .unset, .unset, .unset, .unset] [(.long vk)])) rfl (by rw [hml]; rfl) (argsL := [(.long vk)]) (rest := []) (lenOf pd_0 rfl) rfl (by show 2 * 0 + _ ≤ _; exact Nat.le_of_eq rfl) (hb hby at_25) (fun _ _ => ⟨rfl, e6, (by decide : 0 + 0 ≤ _), (by decide : 0 + 0 ≤ _)⟩)
  dsimp only [Pt.U, Pt.locs, Pt.cells, Pt.slots] at X12 l12 y12 z12 st12 hQ12
  subst l12 y12 z12
  obtain ⟨rfl, N12q, e12⟩ := hQ12
  have N12 := Fr.app N6 N12q
  have q13 : Steps p.tables e below (s₁.setTop (entryFrame m #[(.long j0), (.int p1)] maxLocals)) (T12.setTop (mkF m 28 #[.val (.long j0), .second, .val (.int p1), .val (.long vk), .second, .val (.int v9), .unset, .unset, .unset, .unset] [(.int (F1 vk))])) := q11.trans (st12 _ (Steps.refl _))
  have q14 : Steps p.tables e below (s₁.setTop (entryFrame m #[(.long j0), (.int p1)] maxLocals)) (T12.setTop (mkF m 29 #[.val (.long j0), .second, .val (.int p1), .val (.long vk), .second, .val (.int v9), .unset, .unset, .unset, .unset] [(.long vk), (.int (F1 vk))])) := q13.trans (by
      show Steps p.tables e below (T12.setTop (mkF m 28 #[.val (.long j0), .second, .val (.int p1), .val (.long vk), .second, .val (.int v9), .unset, .unset, .unset, .unset] [(.int (F1 vk))])) _
      refine XS.lloadN X12.here hx rfl (hb hby at_28) rfl ?_
      show Steps p.tables e below (T12.setTop (mkF m 29 #[.val (.long j0), .second, .val (.int p1), .val (.long vk), .second, .val (.int v9), .unset, .unset, .unset, .unset] [(.long vk), (.int (F1 vk))])) _
      exact Steps.refl _)
  obtain ⟨_, _, ⟨T15, L15, k15, n15⟩, -, X15, ⟨Lc15, hQ15, l15, y15, z15⟩, st15⟩ := Jvm.LawKit.callS X12 hx (y := (⟨"sevenwide/SymbolReadsAddOnAfterPinLaw", "inWindow", "(J)Z"⟩ : MethodName)) hown (mvT hZ (hw _ (List.mem_of_getElem? (i := 5) rfl))) (mvT hZ (hw _ (List.mem_of_getElem? (i := 6) rfl))) (mvT hZ (hw _ (List.mem_of_getElem? (i := 7) rfl))) (mvT hZ (hw _ (List.mem_of_getElem? (i := 8) rfl))) (by decide) (backOf (W := 1) (rm2 l Z a0 hw [] vk h0 n0 Z0) hZ (hw _ (List.mem_of_getElem? (i := 8) rfl)) (hw _ (List.mem_of_getElem? (i := 7) rfl)) (by decide) (by decide)) (g := (mkF m 29 #[.val (.long j0), .second, .val (.int p1), .val (.long vk), .second, .val (.int v9), .unset, .unset, .unset, .unset] [(.long vk), (.int (F1 vk))])) rfl (by rw [hml]; rfl) (argsL := [(.long vk)]) (rest := [(.int (F1 vk))]) (lenOf pd_0 rfl) rfl (by show 2 * 0 + _ ≤ _; exact Nat.le_of_eq rfl) (hb hby at_29) (fun _ _ => ⟨rfl, e12, (by decide : 0 + 0 ≤ _), (by decide : 0 + 0 ≤ _)⟩)
  dsimp only [Pt.U, Pt.locs, Pt.cells, Pt.slots] at X15 l15 y15 z15 st15 hQ15
  subst l15 y15 z15
  obtain ⟨rfl, N15q, e15⟩ := hQ15
  have N15 := Fr.app N12 N15q
  have q16 : Steps p.tables e below (s₁.setTop (entryFrame m #[(.long j0), (.int p1)] maxLocals)) (T15.setTop (mkF m 32 #[.val (.long j0), .second, .val (.int p1), .val (.long vk), .second, .val (.int v9), .unset, .unset, .unset, .unset] [(.int (F2 vk)), (.int (F1 vk))])) := q14.trans (st15 _ (Steps.refl _))
  obtain ⟨v18, hv18⟩ : ∃ v : Int32, v = (if (F1 vk) = (F2 vk) then (1 : Int32) else (0 : Int32)) := ⟨_, rfl⟩
  have q19 : Steps p.tables e below (s₁.setTop (entryFrame m #[(.long j0), (.int p1)] maxLocals)) (T15.setTop (mkF m 40 #[.val (.long j0), .second, .val (.int p1), .val (.long vk), .second, .val (.int v9), .unset, .unset, .unset, .unset] [(.int v18)])) := by
    refine q16.trans ?_
    show Steps p.tables e below (T15.setTop (mkF m 32 #[.val (.long j0), .second, .val (.int p1), .val (.long vk), .second, .val (.int v9), .unset, .unset, .unset, .unset] [(.int (F2 vk)), (.int (F1 vk))])) _
    by_cases hc17 : (F1 vk) = (F2 vk)
    · rw [if_pos hc17] at hv18
      refine XS.icmpNo X15.here hx rfl (hb hby at_32) rfl (teq hc17).2 ?_
      show Steps p.tables e below (T15.setTop (mkF m 35 #[.val (.long j0), .second, .val (.int p1), .val (.long vk), .second, .val (.int v9), .unset, .unset, .unset, .unset] [])) _
      refine XS.iconst X15.here hx rfl (hb hby at_35) ?_
      show Steps p.tables e below (T15.setTop (mkF m 36 #[.val (.long j0), .second, .val (.int p1), .val (.long vk), .second, .val (.int v9), .unset, .unset, .unset, .unset] [(.int (1 : Int32))])) _
      refine XS.goto X15.here hx rfl (pc0 := 36) (pc' := 40) rfl (hb hby at_36) (by decide) (by decide) ?_
      show Steps p.tables e below (T15.setTop (mkF m 40 #[.val (.long j0), .second, .val (.int p1), .val (.long vk), .second, .val (.int v9), .unset, .unset, .unset, .unset] [(.int (1 : Int32))])) _
      rw [hv18]
      exact Steps.refl _
    · rw [if_neg hc17] at hv18
      refine XS.icmpYes X15.here hx rfl (pc0 := 32) (pc' := 39) rfl (hb hby at_32) rfl (feq hc17).2 (by decide) (by decide) ?_
      show Steps p.tables e below (T15.setTop (mkF m 39 #[.val (.long j0), .second, .val (.int p1), .val (.long vk), .second, .val (.int v9), .unset, .unset, .unset, .unset] [])) _
      refine XS.iconst X15.here hx rfl (hb hby at_39) ?_
      show Steps p.tables e below (T15.setTop (mkF m 40 #[.val (.long j0), .second, .val (.int p1), .val (.long vk), .second, .val (.int v9), .unset, .unset, .unset, .unset] [(.int (0 : Int32))])) _
      rw [hv18]
      exact Steps.refl _
  have q20 : Steps p.tables e below (s₁.setTop (entryFrame m #[(.long j0), (.int p1)] maxLocals)) (T15.setTop (mkF m 45 #[.val (.long j0), .second, .val (.int p1), .val (.long vk), .second, .val (.int v9), .val (.int v18), .unset, .unset, .unset] [(.long (9 : Int64))])) := q19.trans (by
      show Steps p.tables e below (T15.setTop (mkF m 40 #[.val (.long j0), .second, .val (.int p1), .val (.long vk), .second, .val (.int v9), .unset, .unset, .unset, .unset] [(.int v18)])) _
      refine XS.istore X15.here hx rfl (hb hby at_40) rfl (l' := #[.val (.long j0), .second, .val (.int p1), .val (.long vk), .second, .val (.int v9), .val (.int v18), .unset, .unset, .unset]) rfl ?_
      show Steps p.tables e below (T15.setTop (mkF m 42 #[.val (.long j0), .second, .val (.int p1), .val (.long vk), .second, .val (.int v9), .val (.int v18), .unset, .unset, .unset] [])) _
      refine X15.ldc2Long hx hown (mvT hZ (hw _ (List.mem_of_getElem? (i := 11) rfl))) (g := (mkF m 42 #[.val (.long j0), .second, .val (.int p1), .val (.long vk), .second, .val (.int v9), .val (.int v18), .unset, .unset, .unset] [])) rfl (hb hby at_42) _ ?_
      show Steps p.tables e below (T15.setTop (mkF m 45 #[.val (.long j0), .second, .val (.int p1), .val (.long vk), .second, .val (.int v9), .val (.int v18), .unset, .unset, .unset] [(.long (9 : Int64))])) _
      exact Steps.refl _)
  obtain ⟨_, _, ⟨T21, L21, k21, n21⟩, -, X21, ⟨Lc21, hQ21, l21, y21, z21⟩, st21⟩ := Jvm.LawKit.callS X15 hx (y := (⟨"sevenwide/Symbol", "readsAddOnAfter", "(J)Z"⟩ : MethodName)) hown (mvT hZ (hw _ (List.mem_of_getElem? (i := 0) rfl))) (mvT hZ (hw _ (List.mem_of_getElem? (i := 1) rfl))) (mvT hZ (hw _ (List.mem_of_getElem? (i := 2) rfl))) (mvT hZ (hw _ (List.mem_of_getElem? (i := 3) rfl))) (by decide) (backOf (W := 0) (rm1 l Z a0 hw [] (9 : Int64) h0 n0 Z0) hZ (hw _ (List.mem_of_getElem? (i := 3) rfl)) (hw _ (List.mem_of_getElem? (i := 2) rfl)) (by decide) (by decide)) (g := (mkF m 45 #[.val (.long j0), .second, .val (.int p1), .val (.long vk), .second, .val (.int v9), .val (.int v18), .unset, .unset, .unset] [(.long (9 : Int64))])) rfl (by rw [hml]; rfl) (argsL := [(.long (9 : Int64))]) (rest := []) (lenOf pd_0 rfl) rfl (by show 2 * 0 + _ ≤ _; exact Nat.le_of_eq rfl) (hb hby at_45) (fun _ _ => ⟨rfl, e15, (by decide : 0 + 0 ≤ _), (by decide : 0 + 0 ≤ _)⟩)
  dsimp only [Pt.U, Pt.locs, Pt.cells, Pt.slots] at X21 l21 y21 z21 st21 hQ21
  subst l21 y21 z21
  obtain ⟨rfl, N21q, e21⟩ := hQ21
  have N21 := Fr.app N15 N21q
  have q22 : Steps p.tables e below (s₁.setTop (entryFrame m #[(.long j0), (.int p1)] maxLocals)) (T21.setTop (mkF m 48 #[.val (.long j0), .second, .val (.int p1), .val (.long vk), .second, .val (.int v9), .val (.int v18), .unset, .unset, .unset] [(.int (F1 (9 : Int64)))])) := q20.trans (st21 _ (Steps.refl _))
  have q23 : Steps p.tables e below (s₁.setTop (entryFrame m #[(.long j0), (.int p1)] maxLocals)) (T21.setTop (mkF m 53 #[.val (.long j0), .second, .val (.int p1), .val (.long vk), .second, .val (.int v9), .val (.int v18), .val (.int (F1 (9 : Int64))), .unset, .unset] [(.long (-9223372036854775808 : Int64))])) := q22.trans (by
      show Steps p.tables e below (T21.setTop (mkF m 48 #[.val (.long j0), .second, .val (.int p1), .val (.long vk), .second, .val (.int v9), .val (.int v18), .unset, .unset, .unset] [(.int (F1 (9 : Int64)))])) _
      refine XS.istore X21.here hx rfl (hb hby at_48) rfl (l' := #[.val (.long j0), .second, .val (.int p1), .val (.long vk), .second, .val (.int v9), .val (.int v18), .val (.int (F1 (9 : Int64))), .unset, .unset]) rfl ?_
      show Steps p.tables e below (T21.setTop (mkF m 50 #[.val (.long j0), .second, .val (.int p1), .val (.long vk), .second, .val (.int v9), .val (.int v18), .val (.int (F1 (9 : Int64))), .unset, .unset] [])) _
      refine X21.ldc2Long hx hown (mvT hZ (hw _ (List.mem_of_getElem? (i := 16) rfl))) (g := (mkF m 50 #[.val (.long j0), .second, .val (.int p1), .val (.long vk), .second, .val (.int v9), .val (.int v18), .val (.int (F1 (9 : Int64))), .unset, .unset] [])) rfl (hb hby at_50) _ ?_
      show Steps p.tables e below (T21.setTop (mkF m 53 #[.val (.long j0), .second, .val (.int p1), .val (.long vk), .second, .val (.int v9), .val (.int v18), .val (.int (F1 (9 : Int64))), .unset, .unset] [(.long (-9223372036854775808 : Int64))])) _
      exact Steps.refl _)
  obtain ⟨_, _, ⟨T24, L24, k24, n24⟩, -, X24, ⟨Lc24, hQ24, l24, y24, z24⟩, st24⟩ := Jvm.LawKit.callS X21 hx (y := (⟨"sevenwide/Symbol", "readsAddOnAfter", "(J)Z"⟩ : MethodName)) hown (mvT hZ (hw _ (List.mem_of_getElem? (i := 0) rfl))) (mvT hZ (hw _ (List.mem_of_getElem? (i := 1) rfl))) (mvT hZ (hw _ (List.mem_of_getElem? (i := 2) rfl))) (mvT hZ (hw _ (List.mem_of_getElem? (i := 3) rfl))) (by decide) (backOf (W := 0) (rm1 l Z a0 hw [] (-9223372036854775808 : Int64) h0 n0 Z0) hZ (hw _ (List.mem_of_getElem? (i := 3) rfl)) (hw _ (List.mem_of_getElem? (i := 2) rfl)) (by decide) (by decide)) (g := (mkF m 53 #[.val (.long j0), .second, .val (.int p1), .val (.long vk), .second, .val (.int v9), .val (.int v18), .val (.int (F1 (9 : Int64))), .unset, .unset] [(.long (-9223372036854775808 : Int64))])) rfl (by rw [hml]; rfl) (argsL := [(.long (-9223372036854775808 : Int64))]) (rest := []) (lenOf pd_0 rfl) rfl (by show 2 * 0 + _ ≤ _; exact Nat.le_of_eq rfl) (hb hby at_53) (fun _ _ => ⟨rfl, e21, (by decide : 0 + 0 ≤ _), (by decide : 0 + 0 ≤ _)⟩)
  dsimp only [Pt.U, Pt.locs, Pt.cells, Pt.slots] at X24 l24 y24 z24 st24 hQ24
  subst l24 y24 z24
  obtain ⟨rfl, N24q, e24⟩ := hQ24
  have N24 := Fr.app N21 N24q
  have q25 : Steps p.tables e below (s₁.setTop (entryFrame m #[(.long j0), (.int p1)] maxLocals)) (T24.setTop (mkF m 56 #[.val (.long j0), .second, .val (.int p1), .val (.long vk), .second, .val (.int v9), .val (.int v18), .val (.int (F1 (9 : Int64))), .unset, .unset] [(.int (F1 (-9223372036854775808 : Int64)))])) := q23.trans (st24 _ (Steps.refl _))
  obtain ⟨v27, hv27⟩ : ∃ v : Int32, v = (if (F1 (-9223372036854775808 : Int64)) = (0 : Int32) then (1 : Int32) else (0 : Int32)) := ⟨_, rfl⟩
  have q28 : Steps p.tables e below (s₁.setTop (entryFrame m #[(.long j0), (.int p1)] maxLocals)) (T24.setTop (mkF m 64 #[.val (.long j0), .second, .val (.int p1), .val (.long vk), .second, .val (.int v9), .val (.int v18), .val (.int (F1 (9 : Int64))), .unset, .unset] [(.int v27)])) := by
    refine q25.trans ?_
    show Steps p.tables e below (T24.setTop (mkF m 56 #[.val (.long j0), .second, .val (.int p1), .val (.long vk), .second, .val (.int v9), .val (.int v18), .val (.int (F1 (9 : Int64))), .unset, .unset] [(.int (F1 (-9223372036854775808 : Int64)))])) _
    by_cases hc26 : (F1 (-9223372036854775808 : Int64)) = (0 : Int32)
    · rw [if_pos hc26] at hv27
      refine XS.ifNo X24.here hx rfl (hb hby at_56) rfl ((if0 _ _).trans (teq hc26).2) ?_
      show Steps p.tables e below (T24.setTop (mkF m 59 #[.val (.long j0), .second, .val (.int p1), .val (.long vk), .second, .val (.int v9), .val (.int v18), .val (.int (F1 (9 : Int64))), .unset, .unset] [])) _
      refine XS.iconst X24.here hx rfl (hb hby at_59) ?_
      show Steps p.tables e below (T24.setTop (mkF m 60 #[.val (.long j0), .second, .val (.int p1), .val (.long vk), .second, .val (.int v9), .val (.int v18), .val (.int (F1 (9 : Int64))), .unset, .unset] [(.int (1 : Int32))])) _
      refine XS.goto X24.here hx rfl (pc0 := 60) (pc' := 64) rfl (hb hby at_60) (by decide) (by decide) ?_
      show Steps p.tables e below (T24.setTop (mkF m 64 #[.val (.long j0), .second, .val (.int p1), .val (.long vk), .second, .val (.int v9), .val (.int v18), .val (.int (F1 (9 : Int64))), .unset, .unset] [(.int (1 : Int32))])) _
      rw [hv27]
      exact Steps.refl _
    · rw [if_neg hc26] at hv27
      refine XS.ifYes X24.here hx rfl (pc0 := 56) (pc' := 63) rfl (hb hby at_56) rfl ((if0 _ _).trans (feq hc26).2) (by decide) (by decide) ?_
      show Steps p.tables e below (T24.setTop (mkF m 63 #[.val (.long j0), .second, .val (.int p1), .val (.long vk), .second, .val (.int v9), .val (.int v18), .val (.int (F1 (9 : Int64))), .unset, .unset] [])) _
      refine XS.iconst X24.here hx rfl (hb hby at_63) ?_
      show Steps p.tables e below (T24.setTop (mkF m 64 #[.val (.long j0), .second, .val (.int p1), .val (.long vk), .second, .val (.int v9), .val (.int v18), .val (.int (F1 (9 : Int64))), .unset, .unset] [(.int (0 : Int32))])) _
      rw [hv27]
      exact Steps.refl _
  have q29 : Steps p.tables e below (s₁.setTop (entryFrame m #[(.long j0), (.int p1)] maxLocals)) (T24.setTop (mkF m 69 #[.val (.long j0), .second, .val (.int p1), .val (.long vk), .second, .val (.int v9), .val (.int v18), .val (.int (F1 (9 : Int64))), .val (.int v27), .unset] [(.long (9223372036854775807 : Int64))])) := q28.trans (by
      show Steps p.tables e below (T24.setTop (mkF m 64 #[.val (.long j0), .second, .val (.int p1), .val (.long vk), .second, .val (.int v9), .val (.int v18), .val (.int (F1 (9 : Int64))), .unset, .unset] [(.int v27)])) _
      refine XS.istore X24.here hx rfl (hb hby at_64) rfl (l' := #[.val (.long j0), .second, .val (.int p1), .val (.long vk), .second, .val (.int v9), .val (.int v18), .val (.int (F1 (9 : Int64))), .val (.int v27), .unset]) rfl ?_
      show Steps p.tables e below (T24.setTop (mkF m 66 #[.val (.long j0), .second, .val (.int p1), .val (.long vk), .second, .val (.int v9), .val (.int v18), .val (.int (F1 (9 : Int64))), .val (.int v27), .unset] [])) _
      refine X24.ldc2Long hx hown (mvT hZ (hw _ (List.mem_of_getElem? (i := 17) rfl))) (g := (mkF m 66 #[.val (.long j0), .second, .val (.int p1), .val (.long vk), .second, .val (.int v9), .val (.int v18), .val (.int (F1 (9 : Int64))), .val (.int v27), .unset] [])) rfl (hb hby at_66) _ ?_
      show Steps p.tables e below (T24.setTop (mkF m 69 #[.val (.long j0), .second, .val (.int p1), .val (.long vk), .second, .val (.int v9), .val (.int v18), .val (.int (F1 (9 : Int64))), .val (.int v27), .unset] [(.long (9223372036854775807 : Int64))])) _
      exact Steps.refl _)
  obtain ⟨_, _, ⟨T30, L30, k30, n30⟩, -, X30, ⟨Lc30, hQ30, l30, y30, z30⟩, st30⟩ := Jvm.LawKit.callS X24 hx (y := (⟨"sevenwide/Symbol", "readsAddOnAfter", "(J)Z"⟩ : MethodName)) hown (mvT hZ (hw _ (List.mem_of_getElem? (i := 0) rfl))) (mvT hZ (hw _ (List.mem_of_getElem? (i := 1) rfl))) (mvT hZ (hw _ (List.mem_of_getElem? (i := 2) rfl))) (mvT hZ (hw _ (List.mem_of_getElem? (i := 3) rfl))) (by decide) (backOf (W := 0) (rm1 l Z a0 hw [] (9223372036854775807 : Int64) h0 n0 Z0) hZ (hw _ (List.mem_of_getElem? (i := 3) rfl)) (hw _ (List.mem_of_getElem? (i := 2) rfl)) (by decide) (by decide)) (g := (mkF m 69 #[.val (.long j0), .second, .val (.int p1), .val (.long vk), .second, .val (.int v9), .val (.int v18), .val (.int (F1 (9 : Int64))), .val (.int v27), .unset] [(.long (9223372036854775807 : Int64))])) rfl (by rw [hml]; rfl) (argsL := [(.long (9223372036854775807 : Int64))]) (rest := []) (lenOf pd_0 rfl) rfl (by show 2 * 0 + _ ≤ _; exact Nat.le_of_eq rfl) (hb hby at_69) (fun _ _ => ⟨rfl, e24, (by decide : 0 + 0 ≤ _), (by decide : 0 + 0 ≤ _)⟩)
  dsimp only [Pt.U, Pt.locs, Pt.cells, Pt.slots] at X30 l30 y30 z30 st30 hQ30
  subst l30 y30 z30
  obtain ⟨rfl, N30q, e30⟩ := hQ30
  have N30 := Fr.app N24 N30q
  have q31 : Steps p.tables e below (s₁.setTop (entryFrame m #[(.long j0), (.int p1)] maxLocals)) (T30.setTop (mkF m 72 #[.val (.long j0), .second, .val (.int p1), .val (.long vk), .second, .val (.int v9), .val (.int v18), .val (.int (F1 (9 : Int64))), .val (.int v27), .unset] [(.int (F1 (9223372036854775807 : Int64)))])) := q29.trans (st30 _ (Steps.refl _))
  obtain ⟨v33, hv33⟩ : ∃ v : Int32, v = (if (F1 (9223372036854775807 : Int64)) = (0 : Int32) then (1 : Int32) else (0 : Int32)) := ⟨_, rfl⟩
  have q34 : Steps p.tables e below (s₁.setTop (entryFrame m #[(.long j0), (.int p1)] maxLocals)) (T30.setTop (mkF m 80 #[.val (.long j0), .second, .val (.int p1), .val (.long vk), .second, .val (.int v9), .val (.int v18), .val (.int (F1 (9 : Int64))), .val (.int v27), .unset] [(.int v33)])) := by
    refine q31.trans ?_
    show Steps p.tables e below (T30.setTop (mkF m 72 #[.val (.long j0), .second, .val (.int p1), .val (.long vk), .second, .val (.int v9), .val (.int v18), .val (.int (F1 (9 : Int64))), .val (.int v27), .unset] [(.int (F1 (9223372036854775807 : Int64)))])) _
    by_cases hc32 : (F1 (9223372036854775807 : Int64)) = (0 : Int32)
    · rw [if_pos hc32] at hv33
      refine XS.ifNo X30.here hx rfl (hb hby at_72) rfl ((if0 _ _).trans (teq hc32).2) ?_
      show Steps p.tables e below (T30.setTop (mkF m 75 #[.val (.long j0), .second, .val (.int p1), .val (.long vk), .second, .val (.int v9), .val (.int v18), .val (.int (F1 (9 : Int64))), .val (.int v27), .unset] [])) _
      refine XS.iconst X30.here hx rfl (hb hby at_75) ?_
      show Steps p.tables e below (T30.setTop (mkF m 76 #[.val (.long j0), .second, .val (.int p1), .val (.long vk), .second, .val (.int v9), .val (.int v18), .val (.int (F1 (9 : Int64))), .val (.int v27), .unset] [(.int (1 : Int32))])) _
      refine XS.goto X30.here hx rfl (pc0 := 76) (pc' := 80) rfl (hb hby at_76) (by decide) (by decide) ?_
      show Steps p.tables e below (T30.setTop (mkF m 80 #[.val (.long j0), .second, .val (.int p1), .val (.long vk), .second, .val (.int v9), .val (.int v18), .val (.int (F1 (9 : Int64))), .val (.int v27), .unset] [(.int (1 : Int32))])) _
      rw [hv33]
      exact Steps.refl _
    · rw [if_neg hc32] at hv33
      refine XS.ifYes X30.here hx rfl (pc0 := 72) (pc' := 79) rfl (hb hby at_72) rfl ((if0 _ _).trans (feq hc32).2) (by decide) (by decide) ?_
      show Steps p.tables e below (T30.setTop (mkF m 79 #[.val (.long j0), .second, .val (.int p1), .val (.long vk), .second, .val (.int v9), .val (.int v18), .val (.int (F1 (9 : Int64))), .val (.int v27), .unset] [])) _
      refine XS.iconst X30.here hx rfl (hb hby at_79) ?_
      show Steps p.tables e below (T30.setTop (mkF m 80 #[.val (.long j0), .second, .val (.int p1), .val (.long vk), .second, .val (.int v9), .val (.int v18), .val (.int (F1 (9 : Int64))), .val (.int v27), .unset] [(.int (0 : Int32))])) _
      rw [hv33]
      exact Steps.refl _
  have q35 : Steps p.tables e below (s₁.setTop (entryFrame m #[(.long j0), (.int p1)] maxLocals)) (T30.setTop (mkF m 82 #[.val (.long j0), .second, .val (.int p1), .val (.long vk), .second, .val (.int v9), .val (.int v18), .val (.int (F1 (9 : Int64))), .val (.int v27), .val (.int v33)] [])) := q34.trans (by
      show Steps p.tables e below (T30.setTop (mkF m 80 #[.val (.long j0), .second, .val (.int p1), .val (.long vk), .second, .val (.int v9), .val (.int v18), .val (.int (F1 (9 : Int64))), .val (.int v27), .unset] [(.int v33)])) _
      refine XS.istore X30.here hx rfl (hb hby at_80) rfl (l' := #[.val (.long j0), .second, .val (.int p1), .val (.long vk), .second, .val (.int v9), .val (.int v18), .val (.int (F1 (9 : Int64))), .val (.int v27), .val (.int v33)]) rfl ?_
      show Steps p.tables e below (T30.setTop (mkF m 82 #[.val (.long j0), .second, .val (.int p1), .val (.long vk), .second, .val (.int v9), .val (.int v18), .val (.int (F1 (9 : Int64))), .val (.int v27), .val (.int v33)] [])) _
      exact Steps.refl _)
  have q36 : Steps p.tables e below (s₁.setTop (entryFrame m #[(.long j0), (.int p1)] maxLocals)) (T30.setTop (mkF m 84 #[.val (.long j0), .second, .val (.int p1), .val (.long vk), .second, .val (.int v9), .val (.int v18), .val (.int (F1 (9 : Int64))), .val (.int v27), .val (.int v33)] [(.int v9)])) := q35.trans (by
      show Steps p.tables e below (T30.setTop (mkF m 82 #[.val (.long j0), .second, .val (.int p1), .val (.long vk), .second, .val (.int v9), .val (.int v18), .val (.int (F1 (9 : Int64))), .val (.int v27), .val (.int v33)] [])) _
      refine XS.iload X30.here hx rfl (hb hby at_82) rfl ?_
      show Steps p.tables e below (T30.setTop (mkF m 84 #[.val (.long j0), .second, .val (.int p1), .val (.long vk), .second, .val (.int v9), .val (.int v18), .val (.int (F1 (9 : Int64))), .val (.int v27), .val (.int v33)] [(.int v9)])) _
      exact Steps.refl _)
  obtain ⟨zr, hzr⟩ : ∃ v : Int32, v = (if v9 = (0 : Int32) then (0 : Int32) else (if v18 = (0 : Int32) then (0 : Int32) else (if (F1 (9 : Int64)) = (0 : Int32) then (0 : Int32) else (if v27 = (0 : Int32) then (0 : Int32) else (if v33 = (0 : Int32) then (0 : Int32) else (1 : Int32)))))) := ⟨_, rfl⟩
  have hz1 : zr = 1 := plain0 j0 p1 vk v9 v18 v27 v33 zr hvk hv9 hv18 hv27 hv33 hzr
  obtain ⟨fs, hr, hrun, hended, hW, hsame⟩ := X30.leave (v := some (.int (1 : Int32))) (fun h => by rw [Bd.returns] at h; cases h)
  refine ⟨_, _, q36.trans ?_, hrun, hended, _, _, rfl, ?_, ⟨_, rfl⟩, hW, hsame.mono (by decide) (by decide)⟩
  · show Steps p.tables e below (T30.setTop (mkF m 84 #[.val (.long j0), .second, .val (.int p1), .val (.long vk), .second, .val (.int v9), .val (.int v18), .val (.int (F1 (9 : Int64))), .val (.int v27), .val (.int v33)] [(.int v9)])) _
    by_cases hc37 : v9 = (0 : Int32)
    · rw [if_pos hc37] at hzr
      refine XS.ifYes X30.here hx rfl (pc0 := 84) (pc' := 111) rfl (hb hby at_84) rfl ((if0 _ _).trans (teq hc37).1) (by decide) (by decide) ?_
      show Steps p.tables e below (T30.setTop (mkF m 111 #[.val (.long j0), .second, .val (.int p1), .val (.long vk), .second, .val (.int v9), .val (.int v18), .val (.int (F1 (9 : Int64))), .val (.int v27), .val (.int v33)] [])) _
      refine XS.iconst X30.here hx rfl (hb hby at_111) ?_
      show Steps p.tables e below (T30.setTop (mkF m 112 #[.val (.long j0), .second, .val (.int p1), .val (.long vk), .second, .val (.int v9), .val (.int v18), .val (.int (F1 (9 : Int64))), .val (.int v27), .val (.int v33)] [(.int (0 : Int32))])) _
      exact absurd (hzr.symm.trans hz1) (by decide)
    · rw [if_neg hc37] at hzr
      refine XS.ifNo X30.here hx rfl (hb hby at_84) rfl ((if0 _ _).trans (feq hc37).1) ?_
      show Steps p.tables e below (T30.setTop (mkF m 87 #[.val (.long j0), .second, .val (.int p1), .val (.long vk), .second, .val (.int v9), .val (.int v18), .val (.int (F1 (9 : Int64))), .val (.int v27), .val (.int v33)] [])) _
      refine XS.iload X30.here hx rfl (hb hby at_87) rfl ?_
      show Steps p.tables e below (T30.setTop (mkF m 89 #[.val (.long j0), .second, .val (.int p1), .val (.long vk), .second, .val (.int v9), .val (.int v18), .val (.int (F1 (9 : Int64))), .val (.int v27), .val (.int v33)] [(.int v18)])) _
      by_cases hc38 : v18 = (0 : Int32)
      · rw [if_pos hc38] at hzr
        refine XS.ifYes X30.here hx rfl (pc0 := 89) (pc' := 111) rfl (hb hby at_89) rfl ((if0 _ _).trans (teq hc38).1) (by decide) (by decide) ?_
        show Steps p.tables e below (T30.setTop (mkF m 111 #[.val (.long j0), .second, .val (.int p1), .val (.long vk), .second, .val (.int v9), .val (.int v18), .val (.int (F1 (9 : Int64))), .val (.int v27), .val (.int v33)] [])) _
        refine XS.iconst X30.here hx rfl (hb hby at_111) ?_
        show Steps p.tables e below (T30.setTop (mkF m 112 #[.val (.long j0), .second, .val (.int p1), .val (.long vk), .second, .val (.int v9), .val (.int v18), .val (.int (F1 (9 : Int64))), .val (.int v27), .val (.int v33)] [(.int (0 : Int32))])) _
        exact absurd (hzr.symm.trans hz1) (by decide)
      · rw [if_neg hc38] at hzr
        refine XS.ifNo X30.here hx rfl (hb hby at_89) rfl ((if0 _ _).trans (feq hc38).1) ?_
        show Steps p.tables e below (T30.setTop (mkF m 92 #[.val (.long j0), .second, .val (.int p1), .val (.long vk), .second, .val (.int v9), .val (.int v18), .val (.int (F1 (9 : Int64))), .val (.int v27), .val (.int v33)] [])) _
        refine XS.iload X30.here hx rfl (hb hby at_92) rfl ?_
        show Steps p.tables e below (T30.setTop (mkF m 94 #[.val (.long j0), .second, .val (.int p1), .val (.long vk), .second, .val (.int v9), .val (.int v18), .val (.int (F1 (9 : Int64))), .val (.int v27), .val (.int v33)] [(.int (F1 (9 : Int64)))])) _
        by_cases hc39 : (F1 (9 : Int64)) = (0 : Int32)
        · rw [if_pos hc39] at hzr
          refine XS.ifYes X30.here hx rfl (pc0 := 94) (pc' := 111) rfl (hb hby at_94) rfl ((if0 _ _).trans (teq hc39).1) (by decide) (by decide) ?_
          show Steps p.tables e below (T30.setTop (mkF m 111 #[.val (.long j0), .second, .val (.int p1), .val (.long vk), .second, .val (.int v9), .val (.int v18), .val (.int (F1 (9 : Int64))), .val (.int v27), .val (.int v33)] [])) _
          refine XS.iconst X30.here hx rfl (hb hby at_111) ?_
          show Steps p.tables e below (T30.setTop (mkF m 112 #[.val (.long j0), .second, .val (.int p1), .val (.long vk), .second, .val (.int v9), .val (.int v18), .val (.int (F1 (9 : Int64))), .val (.int v27), .val (.int v33)] [(.int (0 : Int32))])) _
          exact absurd (hzr.symm.trans hz1) (by decide)
        · rw [if_neg hc39] at hzr
          refine XS.ifNo X30.here hx rfl (hb hby at_94) rfl ((if0 _ _).trans (feq hc39).1) ?_
          show Steps p.tables e below (T30.setTop (mkF m 97 #[.val (.long j0), .second, .val (.int p1), .val (.long vk), .second, .val (.int v9), .val (.int v18), .val (.int (F1 (9 : Int64))), .val (.int v27), .val (.int v33)] [])) _
          refine XS.iload X30.here hx rfl (hb hby at_97) rfl ?_
          show Steps p.tables e below (T30.setTop (mkF m 99 #[.val (.long j0), .second, .val (.int p1), .val (.long vk), .second, .val (.int v9), .val (.int v18), .val (.int (F1 (9 : Int64))), .val (.int v27), .val (.int v33)] [(.int v27)])) _
          by_cases hc40 : v27 = (0 : Int32)
          · rw [if_pos hc40] at hzr
            refine XS.ifYes X30.here hx rfl (pc0 := 99) (pc' := 111) rfl (hb hby at_99) rfl ((if0 _ _).trans (teq hc40).1) (by decide) (by decide) ?_
            show Steps p.tables e below (T30.setTop (mkF m 111 #[.val (.long j0), .second, .val (.int p1), .val (.long vk), .second, .val (.int v9), .val (.int v18), .val (.int (F1 (9 : Int64))), .val (.int v27), .val (.int v33)] [])) _
            refine XS.iconst X30.here hx rfl (hb hby at_111) ?_
            show Steps p.tables e below (T30.setTop (mkF m 112 #[.val (.long j0), .second, .val (.int p1), .val (.long vk), .second, .val (.int v9), .val (.int v18), .val (.int (F1 (9 : Int64))), .val (.int v27), .val (.int v33)] [(.int (0 : Int32))])) _
            exact absurd (hzr.symm.trans hz1) (by decide)
          · rw [if_neg hc40] at hzr
            refine XS.ifNo X30.here hx rfl (hb hby at_99) rfl ((if0 _ _).trans (feq hc40).1) ?_
            show Steps p.tables e below (T30.setTop (mkF m 102 #[.val (.long j0), .second, .val (.int p1), .val (.long vk), .second, .val (.int v9), .val (.int v18), .val (.int (F1 (9 : Int64))), .val (.int v27), .val (.int v33)] [])) _
            refine XS.iload X30.here hx rfl (hb hby at_102) rfl ?_
            show Steps p.tables e below (T30.setTop (mkF m 104 #[.val (.long j0), .second, .val (.int p1), .val (.long vk), .second, .val (.int v9), .val (.int v18), .val (.int (F1 (9 : Int64))), .val (.int v27), .val (.int v33)] [(.int v33)])) _
            by_cases hc41 : v33 = (0 : Int32)
            · rw [if_pos hc41] at hzr
              refine XS.ifYes X30.here hx rfl (pc0 := 104) (pc' := 111) rfl (hb hby at_104) rfl ((if0 _ _).trans (teq hc41).1) (by decide) (by decide) ?_
              show Steps p.tables e below (T30.setTop (mkF m 111 #[.val (.long j0), .second, .val (.int p1), .val (.long vk), .second, .val (.int v9), .val (.int v18), .val (.int (F1 (9 : Int64))), .val (.int v27), .val (.int v33)] [])) _
              refine XS.iconst X30.here hx rfl (hb hby at_111) ?_
              show Steps p.tables e below (T30.setTop (mkF m 112 #[.val (.long j0), .second, .val (.int p1), .val (.long vk), .second, .val (.int v9), .val (.int v18), .val (.int (F1 (9 : Int64))), .val (.int v27), .val (.int v33)] [(.int (0 : Int32))])) _
              exact absurd (hzr.symm.trans hz1) (by decide)
            · rw [if_neg hc41] at hzr
              refine XS.ifNo X30.here hx rfl (hb hby at_104) rfl ((if0 _ _).trans (feq hc41).1) ?_
              show Steps p.tables e below (T30.setTop (mkF m 107 #[.val (.long j0), .second, .val (.int p1), .val (.long vk), .second, .val (.int v9), .val (.int v18), .val (.int (F1 (9 : Int64))), .val (.int v27), .val (.int v33)] [])) _
              refine XS.iconst X30.here hx rfl (hb hby at_107) ?_
              show Steps p.tables e below (T30.setTop (mkF m 108 #[.val (.long j0), .second, .val (.int p1), .val (.long vk), .second, .val (.int v9), .val (.int v18), .val (.int (F1 (9 : Int64))), .val (.int v27), .val (.int v33)] [(.int (1 : Int32))])) _
              refine XS.goto X30.here hx rfl (pc0 := 108) (pc' := 112) rfl (hb hby at_108) (by decide) (by decide) ?_
              show Steps p.tables e below (T30.setTop (mkF m 112 #[.val (.long j0), .second, .val (.int p1), .val (.long vk), .second, .val (.int v9), .val (.int v18), .val (.int (F1 (9 : Int64))), .val (.int v27), .val (.int v33)] [(.int (1 : Int32))])) _
              exact retN X30 hx (t := .boolean) Bd.returns (by simp) (hb hby at_112) hr
  · show Q_rm0 Z j0 p1 h0 n0 _ T30.heap _
    rw [e30]
    exact ⟨rfl, N30⟩

set_option maxRecDepth 65536 in
set_option maxHeartbeats 40000000 in
theorem comes_1 {Post : Tables → Env → Array Value → State → Outcome → State → Prop} (hpost : ∀ tb e args s v u, (limb_1_1.after args s (.returned v) u = true ∧ limb_1_2.after args s (.returned v) u = true ∧ True) → FrameEnd s (.returned v) u (Jvm.fieldLocs frame_1_writes args s ++ Jvm.arrayLocs frame_1_arrays args s ++ Jvm.staticLocs frame_1_statics s) 0 0 → Post tb e args s (.returned v) u) :
    ArmFor flags0 classFile x code maxLocals ret World_1 tables_1 room_1 Calls_1 rest_1 Pre_1 Post := by
  intro l hfl _ _ p e ha hc hk s m args below hf hA hF happ hP
  obtain ⟨hcalls, hrest, hpre⟩ := hP
  obtain ⟨-, -, -, hnamed, -, -, -, hat⟩ := (Spec.applies_iff hf).mp happ
  obtain ⟨hg, hn⟩ := and_e (Cond.before_iff.mp (show (Jvm.Cond.and given_1 narrow_1).before args s = true from hpre))
  obtain ⟨hcount, hg0⟩ := and_e hg
  obtain ⟨ga0, hg1⟩ := and_e hg0
  obtain ⟨w0, w1, rfl⟩ : ∃ w0 w1 : Value, args = #[w0, w1] := by
    have hs : args.size = 2 := by simpa [Cond.value, given_1] using hcount
    obtain ⟨L⟩ := args
    match L, hs with
    | [w0, w1], _ => exact ⟨w0, w1, rfl⟩
  have hw := fun d (hd : d ∈ tables_1) => atoms_spec (ws := Jvm.Cond.code x code maxLocals ret :: tables_1) hat d (List.mem_cons_of_mem _ hd)
  have hfit : Fit s := fun {y c} hc i hi => by
    obtain ⟨ha, rfl⟩ := Array.getElem?_eq_some_iff.mp hc
    have q := List.all_eq_true.mp ((Array.all_eq_true_iff_forall_mem.mp hF) _ (Array.getElem_mem ha)) i (List.mem_range.mpr hi)
    simpa [Array.getElem?_eq_getElem hi] using q
  obtain ⟨i0, ei0⟩ := isL_v ga0
  obtain rfl : w0 = (.long i0) := Option.some.inj ei0
  obtain ⟨i1, ei1⟩ := is_v hg1
  obtain rfl : w1 = (.int i1) := Option.some.inj ei1
  obtain ⟨n, o, h1, h2, h3, _, L, rfl, ⟨rfl, N⟩, hq⟩ := rm0 l s _ hw tables_1 i0 i1 s.heap s.heap.size (Nat.le_refl _)  p e ha hc hk s m _ below hf ((Spec.applies_iff_loose hf).mp happ).1 ⟨rfl, State.Warmed39.refl s, rfl⟩ trivial
  refine ⟨n, _, h1, h2, h3, hpost _ _ _ _ _ _ ⟨Cond.after_iff.mpr rfl, Cond.after_iff.mpr (eq_i res_at (Term.int_eval (1)) rfl), trivial⟩ ⟨hq.1, hq.2.1, (hq.2.2.sift fun y hy => Or.inr (N y hy)).mono (by decide) (by decide)⟩⟩
theorem main_1_1 : Claimed_1_1 := comes_1 fun _ _ _ _ _ _ h hF => ⟨h.1, hF⟩
theorem main_1_2 : Claimed_1_2 := comes_1 fun _ _ _ _ _ _ h hF => ⟨h.2.1, hF⟩
end Jvm.Pilot.@@N@@
namespace Jvm.Pilot.@@N@@
open Jvm Jvm.ClassFile Sem Op Lib Jvm.Free Jvm.Stand Jvm.Pilot.@@N@@.Jvm.D
/-! MADE BY PROGRAM (witnessworld.py) out of the Statement's table words and the real class files: 9 classes; the members and pool entries that the words name. The judged class is class 1, her method 2. -/
namespace start1
open Jvm.ClassFile
def u (s : String) : CpInfo := .utf8 (stringToUtf16 s)
/-- a pool by its gaps: so many unusable entries, then the entry; so many at the end -/
def gap : Nat → List CpInfo → List CpInfo
  | 0, r => r
  | n + 1, r => .unusable :: gap n r
def poolList (es : List (Nat × CpInfo)) (last : Nat) : List CpInfo := es.foldr (fun e r => gap e.1 (e.2 :: r)) (gap last [])
def pool (es : List (Nat × CpInfo)) (last : Nat) : Array CpInfo := ⟨poolList es last⟩
def fileOf (pool : Array CpInfo) (this : Nat) (attrs : Array Attribute := #[]) (ms : Array MethodInfo := #[]) (fl : Nat := 33) (sup : Nat := 0) (ifs : Array Nat := #[]) (fds : Array FieldInfo := #[]) : ClassFile where
  minorVersion := 0
  majorVersion := 65
  constantPool := pool
  accessFlags := fl
  thisClass := this
  superClass := sup
  interfaces := ifs
  fields := fds
  methods := ms
  attributes := attrs
def plain (name : String) (sup : Option ClassId) : Class where
  name := name
  kind := .ordinary
  loader := none
  accessFlags := 33
  super := sup
  interfaces := #[]
  cf := none
  fields := #[]
  methods := #[]
  instanceTypes := #[]
  staticTypes := #[]
  resolved := #[]
  callSites := []
  init := .initialized
  statics := none
  mirror := none

def pool0 : Array CpInfo := pool [(5, u "<init>"), (0, u "()V"), (1, .class_ 10), (1, u "java/lang/Object")] 113

def k0m0 : Method := { name := "<init>", desc := "()V", sig := { parameters := [], returnType := none }, accessFlags := 1, code := none }
/-- java/lang/Object -/
def k0 : Class := { plain "java/lang/Object" none with
  accessFlags := 33
  interfaces := #[]
  cf := some (fileOf pool0 8 #[] #[{ accessFlags := 1, nameIndex := 5, descriptorIndex := 6, attributes := #[] }] 33 0 #[] #[])
  fields := #[]
  methods := #[k0m0]
  instanceTypes := #[]
  staticTypes := #[]
  resolved := Array.replicate 124 none
  statics := none }

def pool1 : Array CpInfo := pool [(2, .class_ 4), (1, u "java/lang/Object"), (0, u "<init>"), (0, u "()V"), (0, .long 7), (1, .long 8), (1, .long 9), (1, .long 10), (1, .long 11), (1, .long 12), (1, .methodref 20 21), (0, .class_ 22), (0, .nameAndType 23 24), (0, u "sevenwide/Symbol"), (0, u "readsAddOnAfter"), (0, u "(J)Z"), (0, .methodref 26 27), (0, .class_ 28), (0, .nameAndType 29 24), (0, u "sevenwide/SymbolReadsAddOnAfterPinLaw"), (0, u "inWindow"), (2, .long 9223372036854775808), (1, .long 9223372036854775807), (4, u "law"), (0, u "(JI)Z")] 2

def k1m0 : Method := { name := "<init>", desc := "()V", sig := { parameters := [], returnType := none }, accessFlags := 2, code := none }
def k1c1 : Code := { maxStack := 4, maxLocals := 2, code := method_2_code, exceptionTable := #[], attributes := #[] }
def k1m1 : Method := { name := "inWindow", desc := "(J)Z", sig := { parameters := [.long], returnType := some .boolean }, accessFlags := 10, code := some k1c1 }
def k1c2 : Code := { maxStack := 3, maxLocals := 10, code := code, exceptionTable := #[], attributes := #[] }
def k1m2 : Method := { name := "law", desc := "(JI)Z", sig := { parameters := [.long, .int], returnType := some .boolean }, accessFlags := 9, code := some k1c2 }
/-- sevenwide/SymbolReadsAddOnAfterPinLaw -/
def k1 : Class := { plain "sevenwide/SymbolReadsAddOnAfterPinLaw" (some 0) with
  accessFlags := 49
  interfaces := #[]
  cf := some (fileOf pool1 26 #[] #[{ accessFlags := 2, nameIndex := 5, descriptorIndex := 6, attributes := #[] }, { accessFlags := 10, nameIndex := 29, descriptorIndex := 24, attributes := #[] }, { accessFlags := 9, nameIndex := 39, descriptorIndex := 40, attributes := #[] }] 49 2 #[] #[])
  fields := #[]
  methods := #[k1m0, k1m1, k1m2]
  instanceTypes := #[]
  staticTypes := #[]
  resolved := Array.replicate 43 none
  statics := none }

def pool2 : Array CpInfo := pool [(2, .class_ 4), (1, u "java/lang/Object"), (3, .class_ 10), (1, u "sevenwide/Symbol"), (0, u "kind"), (0, u "Lsevenwide/Kind;"), (2, u "number"), (0, u "Ljava/lang/String;"), (2, u "addOn"), (73, .class_ 94), (0, u "sevenwide/Symbol$Drawn"), (8, .long 7), (1, .long 12), (135, u "NOT_A_RUN"), (11, u "readsAddOnAfter"), (0, u "(J)Z"), (36, u "ADD_ON_GAP"), (0, u "I"), (2, u "ADD_ON_QUIET_ZONE"), (1, u "WIDEST_RUN"), (1, u "MIN_GAP_READ"), (1, u "MAX_GAP_READ"), (1, u "NO_SYMBOL"), (0, u "ADD_ON_RULE")] 96

def k2c0 : Code := { maxStack := 4, maxLocals := 2, code := prog_24_method_4_code, exceptionTable := #[], attributes := #[] }
def k2m0 : Method := { name := "readsAddOnAfter", desc := "(J)Z", sig := { parameters := [.long], returnType := some .boolean }, accessFlags := 8, code := some k2c0 }
/-- sevenwide/Symbol -/
def k2 : Class := { plain "sevenwide/Symbol" (some 0) with
  accessFlags := 49
  interfaces := #[]
  cf := some (fileOf pool2 8 #[.nestMembers #[93]] #[{ accessFlags := 8, nameIndex := 253, descriptorIndex := 254, attributes := #[] }] 49 2 #[] #[{ accessFlags := 26, nameIndex := 291, descriptorIndex := 292, attributes := #[] }, { accessFlags := 26, nameIndex := 295, descriptorIndex := 292, attributes := #[] }, { accessFlags := 24, nameIndex := 297, descriptorIndex := 292, attributes := #[] }, { accessFlags := 26, nameIndex := 299, descriptorIndex := 292, attributes := #[] }, { accessFlags := 26, nameIndex := 301, descriptorIndex := 292, attributes := #[] }, { accessFlags := 26, nameIndex := 241, descriptorIndex := 16, attributes := #[] }, { accessFlags := 26, nameIndex := 303, descriptorIndex := 16, attributes := #[] }, { accessFlags := 26, nameIndex := 304, descriptorIndex := 16, attributes := #[] }, { accessFlags := 18, nameIndex := 11, descriptorIndex := 12, attributes := #[] }, { accessFlags := 18, nameIndex := 15, descriptorIndex := 16, attributes := #[] }, { accessFlags := 18, nameIndex := 19, descriptorIndex := 16, attributes := #[] }])
  fields := #[{ name := "ADD_ON_GAP", type := .int, accessFlags := 26, slot := 0, constantValue := 0 }, { name := "ADD_ON_QUIET_ZONE", type := .int, accessFlags := 26, slot := 1, constantValue := 0 }, { name := "WIDEST_RUN", type := .int, accessFlags := 24, slot := 2, constantValue := 0 }, { name := "MIN_GAP_READ", type := .int, accessFlags := 26, slot := 3, constantValue := 0 }, { name := "MAX_GAP_READ", type := .int, accessFlags := 26, slot := 4, constantValue := 0 }, { name := "NOT_A_RUN", type := (.object "java/lang/String"), accessFlags := 26, slot := 5, constantValue := 0 }, { name := "NO_SYMBOL", type := (.object "java/lang/String"), accessFlags := 26, slot := 6, constantValue := 0 }, { name := "ADD_ON_RULE", type := (.object "java/lang/String"), accessFlags := 26, slot := 7, constantValue := 0 }, { name := "kind", type := (.object "sevenwide/Kind"), accessFlags := 18, slot := 0, constantValue := 0 }, { name := "number", type := (.object "java/lang/String"), accessFlags := 18, slot := 1, constantValue := 0 }, { name := "addOn", type := (.object "java/lang/String"), accessFlags := 18, slot := 2, constantValue := 0 }]
  methods := #[k2m0]
  instanceTypes := #[(.object "sevenwide/Kind"), (.object "java/lang/String"), (.object "java/lang/String")]
  staticTypes := #[.int, .int, .int, .int, .int, (.object "java/lang/String"), (.object "java/lang/String"), (.object "java/lang/String")]
  resolved := Array.replicate 401 none
  statics := none }

def pool3 : Array CpInfo := pool [(1, u "java/lang/Cloneable"), (0, .class_ 1), (0, u "java/lang/Object"), (0, .class_ 3)] 3

/-- java/lang/Cloneable -/
def k3 : Class := { plain "java/lang/Cloneable" (some 0) with
  accessFlags := 1537
  interfaces := #[]
  cf := some (fileOf pool3 2 #[] #[] 1537 4 #[] #[])
  fields := #[]
  methods := #[]
  instanceTypes := #[]
  staticTypes := #[]
  resolved := Array.replicate 8 none
  statics := none }

def pool4 : Array CpInfo := pool [(1, u "java/io/Serializable"), (0, .class_ 1), (0, u "java/lang/Object"), (0, .class_ 3)] 3

/-- java/io/Serializable -/
def k4 : Class := { plain "java/io/Serializable" (some 0) with
  accessFlags := 1537
  interfaces := #[]
  cf := some (fileOf pool4 2 #[] #[] 1537 4 #[] #[])
  fields := #[]
  methods := #[]
  instanceTypes := #[]
  staticTypes := #[]
  resolved := Array.replicate 8 none
  statics := none }

/-- the primitive byte -/
def k5 : Class := { plain "byte" none with kind := .primitive 'B', accessFlags := 0x411 }
/-- [B -/
def k6 : Class := { plain "[B" (some 0) with kind := .array 5 .byte, interfaces := #[3, 4], accessFlags := 1041 }

/-- the primitive int -/
def k7 : Class := { plain "int" none with kind := .primitive 'I', accessFlags := 0x411 }
/-- [I -/
def k8 : Class := { plain "[I" (some 0) with kind := .array 7 .int, interfaces := #[3, 4], accessFlags := 1041 }

def heap : Heap := #[]
def classes : Array Class := #[k0, k1, k2, k3, k4, k5, k6, k7, k8]
def interned : List (Array UInt16 × Addr) := []
def slotsUsed : Nat := 0
def theMethod : MethodId := ⟨1, 2⟩
def args0 : Array Value := #[.long 5, .int 0]
def aboutOver (below : List Frame) : State where
  vm := { classes := classes, interned := interned.toArray }
  heap := heap
  slotsUsed := slotsUsed
  threads := #[{ frames := .invoking theMethod args0 :: below }]
def below0 : List Frame := [.native { method := ⟨0, 0⟩, args := #[] }]
def about1 : State := aboutOver below0
def p0 : Program := .bare "" "" ""
def e0 : Env := launch0.env 0 0 0
theorem w_frames : about1.frames = Frame.invoking theMethod args0 :: below0 := rfl
set_option maxRecDepth 65536 in
theorem w_args : argsFit about1.vm theMethod args0 = true := by decide +kernel
set_option maxRecDepth 65536 in
theorem w_heap : heapFits about1 = true := by decide +kernel
set_option maxRecDepth 65536 in
theorem w_runnable : about1.curStatus? = some .runnable := by decide +kernel
set_option maxRecDepth 65536 in
theorem w_alone : about1.alone = true := by decide +kernel
set_option maxRecDepth 65536 in
theorem w_named : about1.methodNamed? x = some theMethod := by decide +kernel
set_option maxRecDepth 65536 in
theorem w_hears : about1.hears theMethod below0 = true := by decide +kernel
set_option maxRecDepth 65536 in
theorem w_ripe : about1.ripe theMethod args0 below0 = true := by decide +kernel
theorem w_running : about1.status = .running := rfl
set_option maxRecDepth 65536 in
theorem w_room : about1.hasRoom e0.platform room_1 = true :=
  launch0.hasRoom_least _ room_1 (by decide +kernel) (by decide +kernel) (by decide +kernel) (by decide +kernel) (by decide +kernel) (by decide +kernel)
theorem allAtoms_all (ts : List Jvm.Cond) (a : Array Jvm.Value) (st : Jvm.State) : (allAtoms ts).before a st = ts.all (fun c => c.before a st) := by
  induction ts with
  | nil => rfl
  | cons c t ih =>
    show (Jvm.Cond.and c (allAtoms t)).before a st = _
    rw [Jvm.Cond.before_and, ih, List.all_cons]
def words1 : List Jvm.Cond := Jvm.Cond.code x code maxLocals ret :: tables_1
/-- a 'code' word, met by the world's own term for the bytes: nothing is compared byte by byte -/
theorem code_word {y : MethodName} {bytes : ByteArray} {mx : Nat} {rt : Option FieldType} {a : Array Value} {s : State} {m : MethodId} {meth : Method} {c : Code} (h1 : s.methodNamed? y = some m) (h2 : s.vm.method? m = some meth) (h3 : meth.code = some c) (h4 : c.code = bytes)
    (h5 : (c.maxLocals == mx && c.exceptionTable.isEmpty && decide (c.maxStack ≤ mostOperands) && decide (meth.sig.returnType = rt) && !meth.locks && decide (parseMethodDescriptor y.desc = some meth.sig)) = true) : (Jvm.Cond.code y bytes mx rt).before a s = true := by
  simp only [Bool.and_eq_true, beq_iff_eq, Bool.not_eq_true', decide_eq_true_eq] at h5
  obtain ⟨⟨⟨⟨⟨g1, g2⟩, g3⟩, g4⟩, g5⟩, g6⟩ := h5
  simp [Cond.before, Cond.holds, Cond.value, h1, h2, h3, h4, g1, g2, g3, g4, g5, g6]
def isCode : Jvm.Cond → Bool
  | .code _ _ _ _ => true
  | _ => false
theorem all_split {L : List Jvm.Cond} {P : Jvm.Cond → Bool} (h1 : L.all (fun c => isCode c || P c) = true) (h2 : ∀ c ∈ L.filter isCode, P c = true) : L.all P = true := by
  refine List.all_eq_true.mpr fun c hc => ?_
  have h := List.all_eq_true.mp h1 c hc
  rcases Bool.eq_false_or_eq_true (isCode c) with hi | hi
  · exact h2 c (List.mem_filter.mpr ⟨hc, hi⟩)
  · simpa [hi] using h
set_option maxRecDepth 65536 in
theorem w_c0 : (Jvm.Cond.code x code maxLocals ret).before args0 about1 = true := code_word (m := ⟨1, 2⟩) (meth := k1m2) (c := k1c2) (by decide +kernel) rfl rfl rfl (by decide +kernel)
set_option maxRecDepth 65536 in
theorem w_c1 : (Jvm.Cond.code ({ cls := "sevenwide/Symbol", name := "readsAddOnAfter", desc := "(J)Z" } : Jvm.MethodName) prog_24_method_4_code (2 : Nat) (Option.some Jvm.ClassFile.FieldType.boolean)).before args0 about1 = true := code_word (m := ⟨2, 0⟩) (meth := k2m0) (c := k2c0) (by decide +kernel) rfl rfl rfl (by decide +kernel)
set_option maxRecDepth 65536 in
theorem w_c2 : (Jvm.Cond.code ({ cls := "sevenwide/SymbolReadsAddOnAfterPinLaw", name := "inWindow", desc := "(J)Z" } : Jvm.MethodName) method_2_code (2 : Nat) (Option.some Jvm.ClassFile.FieldType.boolean)).before args0 about1 = true := code_word (m := ⟨1, 1⟩) (meth := k1m1) (c := k1c1) (by decide +kernel) rfl rfl rfl (by decide +kernel)
def codes1 : List Jvm.Cond := [Jvm.Cond.code x code maxLocals ret, Jvm.Cond.code ({ cls := "sevenwide/Symbol", name := "readsAddOnAfter", desc := "(J)Z" } : Jvm.MethodName) prog_24_method_4_code (2 : Nat) (Option.some Jvm.ClassFile.FieldType.boolean), Jvm.Cond.code ({ cls := "sevenwide/SymbolReadsAddOnAfterPinLaw", name := "inWindow", desc := "(J)Z" } : Jvm.MethodName) method_2_code (2 : Nat) (Option.some Jvm.ClassFile.FieldType.boolean)]
set_option maxRecDepth 65536 in
theorem codes_eq : words1.filter isCode = codes1 := rfl
theorem w_codes : ∀ c ∈ words1.filter isCode, c.before args0 about1 = true := by
  rw [codes_eq]
  intro c hc
  simp only [codes1, List.mem_cons, List.not_mem_nil, or_false] at hc
  rcases hc with rfl | rfl | rfl
  · exact w_c0
  · exact w_c1
  · exact w_c2
set_option maxRecDepth 65536 in
theorem w_t1 : words1.all (fun c => isCode c || c.before args0 about1) = true := by decide +kernel
theorem w_tables : (allAtoms (Jvm.Cond.code x code maxLocals ret :: tables_1)).before args0 about1 = true := by
  rw [allAtoms_all]
  show words1.all (fun c => c.before args0 about1) = true
  refine all_split ?_ w_codes
  rw [w_t1]
set_option maxRecDepth 65536 in
theorem w_case : (Jvm.Cond.and given_1 narrow_1).before args0 about1 = true := by decide +kernel
theorem w_applies : (headSpec (Jvm.Cond.code x code maxLocals ret :: tables_1) room_1).applies x e0.platform about1 = true :=
  (Spec.applies_iff w_frames).mpr ⟨w_running, w_runnable, w_alone, w_named, w_hears, w_ripe, w_room, w_tables⟩
theorem atStart : AtStart classFile x code maxLocals ret World_1 tables_1 room_1 Calls_1 rest_1 Pre_1 launch0 p0 e0 about1 theMethod args0 below0 :=
  ⟨lists_1, trivial, launch0.admits_env _ _ _, launch0.least_env, fairChoices_fair.cas, fairChoices_fair.clock, w_frames, w_args, w_heap, w_applies, trivial, trivial, w_case⟩
end start1
theorem witness_1 : WitnessClaimed_1 := ⟨start1.p0, start1.e0, start1.about1, start1.theMethod, start1.args0, start1.below0, start1.atStart⟩
end Jvm.Pilot.@@N@@
