import JvmDerived
import JvmDerived.Pilot.@@N@@Statement
import JvmDerived.Pilot.@@N@@Code
set_option linter.unusedVariables false
set_option linter.unusedSimpArgs false
@@BLOCK:NumsL.lean.txt@@
namespace Jvm.RoadKit
open Sem ClassFile Op Lib Jvm.Stand Jvm.Free Jvm.LawKit
section New
variable {p : Program} {l : Launch} {e : Env} {R : Room} {s : State} {m : MethodId} {args : Array Value} {below : List Frame} {meth : Method} {c : Code} {T : State} {locs : List Loc} {cells slots : Nat}
theorem retI (X : Stand p l e R s m args below meth c T locs cells slots) (hx : p.tables.exec = Jvm.exec) {pc : Nat} {Ls : Array Slot} {z : Int32} {rest : List Value} (hret : meth.sig.returnType = some .int) (hd : decode c.code pc = .ok (.ireturn, 1)) {fs : List Frame}
    (hl : ∀ (f : JFrame) (acts : List Action), f.method = m → f.locked = none → f.entered = [] → (doReturn e (T.setTop f) acts (some (.int z))).1 = T.setFrames fs) : Steps p.tables e below (T.setTop (mkF m pc Ls (.int z :: rest))) (T.setFrames fs) := by
  have hm' : T.vm.method? m = some meth := X.method'
  have hn : narrow .int (.int z) = .int z := rfl
  show Steps p.tables e below (T.setTop { method := m, pc := pc, locals := Ls, stack := _ :: rest, locked := none }) _
  jvm_step X.here [X.here.top, hx, hd, hm', hret, hn]
  first | (intro acts; rw [hl _ acts rfl rfl rfl]) | rw [hl _ _ rfl rfl rfl]
  exact Steps.refl _
theorem retA (X : Stand p l e R s m args below meth c T locs cells slots) (hx : p.tables.exec = Jvm.exec) {pc : Nat} {Ls : Array Slot} {z : Value} {t : FieldType} {rest : List Value} (hret : meth.sig.returnType = some t) (ht : t.isReference = true) (hz : z.isRef = true) (hd : decode c.code pc = .ok (.areturn, 1)) {fs : List Frame}
    (hl : ∀ (f : JFrame) (acts : List Action), f.method = m → f.locked = none → f.entered = [] → (doReturn e (T.setTop f) acts (some z)).1 = T.setFrames fs) : Steps p.tables e below (T.setTop (mkF m pc Ls (z :: rest))) (T.setFrames fs) := by
  have hm' : T.vm.method? m = some meth := X.method'
  show Steps p.tables e below (T.setTop { method := m, pc := pc, locals := Ls, stack := _ :: rest, locked := none }) _
  jvm_step X.here [X.here.top, hx, hd, hm', hret, ht, hz]
  first | (intro acts; rw [hl _ acts rfl rfl rfl]) | rw [hl _ _ rfl rfl rfl]
  exact Steps.refl _
end New
end Jvm.RoadKit
namespace Jvm.Pilot.@@N@@
open Jvm Jvm.ClassFile Sem Op Lib Jvm.Free Jvm.Stand Jvm.LawKit Jvm.RoadKit Bundle Jvm.Pilot.@@N@@.Jvm.D
theorem own_tab {x : Int32} {k : Int} (h : ¬ x = Int32.ofInt k) (h1 : -2147483648 ≤ k) (h2 : k < 2147483648) : x.toInt ≠ k := fun q => h (by rw [← q]; exact (Int32.ofInt_toInt x).symm)
theorem own_i2c_and (x : Int32) : x.toUInt32.toUInt16.toUInt32.toInt32 = x &&& 65535 := by
  apply Int32.toBitVec_inj.mp
  apply BitVec.toNat_inj.mp
  have h : ((x &&& 65535).toBitVec.toNat) = x.toBitVec.toNat % 2 ^ 16 := by
    show (x.toBitVec &&& (65535 : Int32).toBitVec).toNat = _
    rw [BitVec.toNat_and, show (65535 : Int32).toBitVec.toNat = 2 ^ 16 - 1 from rfl, Nat.and_two_pow_sub_one_eq_mod]
  rw [h]
  show x.toBitVec.toNat % 2 ^ 16 = _
  rfl
theorem own_i2c (x : Int32) : (x.toUInt32.toUInt16.toUInt32.toInt32).toInt = x.toInt % 65536 := by
  rw [own_i2c_and]; exact Jvm.Kit.i32_mask x 65535 (k := 16) (by decide) (by decide)

theorem own_eqint {args : Array Value} {first s : State} {o : Option Outcome} {idx : List Nat} {t : Term} {k : Int32} (h : (Jvm.Cond.eq t (.int k)).value args first o s idx = some true) : t.eval args first o idx s = some (.int k) := by
  cases ha : t.eval args first o idx s with
  | none => simp [Cond.value, ha] at h
  | some x => cases x <;> simp [Cond.value, ha, Term.eval] at h ⊢; exact h
theorem own_fldne {Z : State} {h : Heap} {a b : Addr} {C n d : String} {v w : Value} (F : Fld Z h a C n d v) (G : Fld Z h b C n d w) (q : v ≠ w) : a ≠ b := by
  rintro rfl
  obtain ⟨c1, _, _, _, f1, h1, h2, _, _, _, _, h3⟩ := F
  obtain ⟨c2, _, _, _, f2, g1, g2, _, _, _, _, g3⟩ := G
  cases h1.symm.trans g1
  cases h2.symm.trans g2
  exact q (Option.some.inj (h3.symm.trans g3))

theorem d1_0 : decode method_2_code 0 = .ok (.iload_n 0, 1) := by decide +kernel
theorem d1_1 : decode method_2_code 1 = .ok (.ifCond .ne 7, 3) := by decide +kernel
theorem d1_4 : decode method_2_code 4 = .ok (.getstatic 7, 3) := by decide +kernel
theorem d1_7 : decode method_2_code 7 = .ok (.areturn, 1) := by decide +kernel
theorem d1_8 : decode method_2_code 8 = .ok (.iload_n 0, 1) := by decide +kernel
theorem d1_9 : decode method_2_code 9 = .ok (.iconst 1, 1) := by decide +kernel
theorem d1_10 : decode method_2_code 10 = .ok (.if_icmp .ne 7, 3) := by decide +kernel
theorem d1_13 : decode method_2_code 13 = .ok (.getstatic 13, 3) := by decide +kernel
theorem d1_16 : decode method_2_code 16 = .ok (.areturn, 1) := by decide +kernel
theorem d1_17 : decode method_2_code 17 = .ok (.iload_n 0, 1) := by decide +kernel
theorem d1_18 : decode method_2_code 18 = .ok (.iconst 2, 1) := by decide +kernel
theorem d1_19 : decode method_2_code 19 = .ok (.if_icmp .ne 7, 3) := by decide +kernel
theorem d1_22 : decode method_2_code 22 = .ok (.getstatic 16, 3) := by decide +kernel
theorem d1_25 : decode method_2_code 25 = .ok (.areturn, 1) := by decide +kernel
theorem d1_26 : decode method_2_code 26 = .ok (.getstatic 19, 3) := by decide +kernel
theorem d1_29 : decode method_2_code 29 = .ok (.areturn, 1) := by decide +kernel
theorem pn_rm1 : plainName "com/example/crossfind/crossfind/core/AgreementAgreesPinLaw" = true := by first | (simp [plainName, overriddenIn]; done) | decide +kernel
theorem ef_rm1 (m : MethodId) (p0 : Int32) : entryFrame m #[(.int p0)] 1 = mkF m 0 #[.val (.int p0)] [] := by first | (simp [entryFrame, mkF, argsToLocals, Value.category]; done) | rfl
def G1 (p0 : Int32) (w_SAME w_NEAR w_CLOSE w_DIFFERENT : Addr) : Addr := if p0 = (0 : Int32) then w_SAME else if p0 = (1 : Int32) then w_NEAR else if p0 = (2 : Int32) then w_CLOSE else w_DIFFERENT
def Q_rm1 (Z : State) (p0 : Int32) (w_SAME : Addr) (w_NEAR : Addr) (w_CLOSE : Addr) (w_DIFFERENT : Addr) (h0 : Heap) (n0 : Nat) (v : Option Value) (h : Heap) (L : List Loc) : Prop := v = some (.ref (G1 p0 w_SAME w_NEAR w_CLOSE w_DIFFERENT)) ∧ Fr n0 L ∧ h = h0
set_option maxRecDepth 65536 in
set_option maxHeartbeats 40000000 in
theorem rm1 (l : Launch) (Z : State) (a0 : Array Value) (hw : ∀ d ∈ tables_1, d.before a0 Z = true) (ws : List Jvm.Cond) (p0 : Int32) (w_SAME : Addr) (w_NEAR : Addr) (w_CLOSE : Addr) (w_DIFFERENT : Addr) (h0 : Heap) (n0 : Nat) (Z0 : n0 ≤ h0.size) (S_SAME : Sta Z h0 "com/example/crossfind/crossfind/core/Evidence$Agreement" "SAME" "Lcom/example/crossfind/crossfind/core/Evidence$Agreement;" (.ref w_SAME)) (S_NEAR : Sta Z h0 "com/example/crossfind/crossfind/core/Evidence$Agreement" "NEAR" "Lcom/example/crossfind/crossfind/core/Evidence$Agreement;" (.ref w_NEAR)) (S_CLOSE : Sta Z h0 "com/example/crossfind/crossfind/core/Evidence$Agreement" "CLOSE" "Lcom/example/crossfind/crossfind/core/Evidence$Agreement;" (.ref w_CLOSE)) (S_DIFFERENT : Sta Z h0 "com/example/crossfind/crossfind/core/Evidence$Agreement" "DIFFERENT" "Lcom/example/crossfind/crossfind/core/Evidence$Agreement;" (.ref w_DIFFERENT)) :
    MetFree l (⟨"com/example/crossfind/crossfind/core/AgreementAgreesPinLaw", "pick", "(I)Lcom/example/crossfind/crossfind/core/Evidence$Agreement;"⟩ : MethodName) (head1 (Jvm.Cond.code (⟨"com/example/crossfind/crossfind/core/AgreementAgreesPinLaw", "pick", "(I)Lcom/example/crossfind/crossfind/core/Evidence$Agreement;"⟩ : MethodName) method_2_code 1 (some (.object "com/example/crossfind/crossfind/core/Evidence$Agreement")) :: ws) ({ frames := 0, cells := 0, slots := 0, locals := 0 } : Room)) (fun a U => a = #[(.int p0)] ∧ Z.Warmed39 U.vm ∧ U.heap = h0) (fun _ _ _ _ _ => True) (fun _ U o U' => ∃ v L, o = .returned v ∧ Q_rm1 Z p0 w_SAME w_NEAR w_CLOSE w_DIFFERENT h0 n0 v U'.heap L ∧ FrameEnd U o U' L ({ frames := 0, cells := 0, slots := 0, locals := 0 } : Room).cells ({ frames := 0, cells := 0, slots := 0, locals := 0 } : Room).slots) := by
  refine MetFree.of_bodySF (plainFor_of_name pn_rm1) hisR ?_
  intro p e s m args below meth c s₁ Bd hml0 hP hK
  obtain ⟨rfl, hZ, hh⟩ := hP
  have hx := Bd.exec
  have hby := Bd.bytes
  have hml : c.maxLocals = 1 := hml0
  have hown : s.vm.findClass "com/example/crossfind/crossfind/core/AgreementAgreesPinLaw" = some m.cls := findClass_of_methodNamed Bd.named
  have hnm := (name_of_methodNamed Bd.named Bd.method).1
  have X0 : Stand p l e ({ frames := 0, cells := 0, slots := 0, locals := 0 } : Room) s m #[(.int p0)] below meth c s₁ [] 0 0 := Stand.of_body Bd
  have e0 : s₁.heap = h0 := by rw [← hh, Bd.state]; rfl
  have N0 := Fr.nil n0
  have q0 : Steps p.tables e below (s₁.setTop (entryFrame m #[(.int p0)] 1)) (s₁.setTop (mkF m 0 #[.val (.int p0)] [])) := castTop (ef_rm1 m p0) (Steps.refl _)
  have q1 : Steps p.tables e below (s₁.setTop (entryFrame m #[(.int p0)] 1)) (s₁.setTop (mkF m 1 #[.val (.int p0)] [(.int p0)])) := q0.trans (by
      show Steps p.tables e below (s₁.setTop (mkF m 0 #[.val (.int p0)] [])) _
      refine XS.iloadN X0.here hx rfl (hb hby d1_0) rfl ?_
      show Steps p.tables e below (s₁.setTop (mkF m 1 #[.val (.int p0)] [(.int p0)])) _
      exact Steps.refl _)
  by_cases hc2 : p0 = (0 : Int32)
  · have q3 : Steps p.tables e below (s₁.setTop (entryFrame m #[(.int p0)] 1)) (s₁.setTop (mkF m 4 #[.val (.int p0)] [])) := q1.trans (by
        show Steps p.tables e below (s₁.setTop (mkF m 1 #[.val (.int p0)] [(.int p0)])) _
        refine XS.ifNo X0.here hx rfl (hb hby d1_1) rfl ((if0 _ _).trans (teq hc2).2) ?_
        show Steps p.tables e below (s₁.setTop (mkF m 4 #[.val (.int p0)] [])) _
        exact Steps.refl _)
    obtain ⟨T4, X4, e4, st4⟩ := getS2 X0 hx hZ hown (host := "") (Or.inl (hw _ (List.mem_of_getElem? (i := 4) rfl))) Via.refl e0 S_SAME (g := (mkF m 4 #[.val (.int p0)] [])) rfl (hb hby d1_4)
    have q5 : Steps p.tables e below (s₁.setTop (entryFrame m #[(.int p0)] 1)) (T4.setTop (mkF m 7 #[.val (.int p0)] [(.ref w_SAME)])) := q3.trans (st4 _ (Steps.refl _))
    obtain ⟨fs, hr, hrun, hended, hW, hsame⟩ := X4.leave (v := some (.ref w_SAME)) (fun h => by rw [Bd.returns] at h; cases h)
    refine ⟨_, _, q5.trans ?_, hrun, hended, _, _, rfl, ?_, ⟨_, rfl⟩, hW, hsame.mono (by decide) (by decide)⟩
    · exact retA X4 hx Bd.returns rfl rfl (hb hby d1_7) hr
    · show Q_rm1 Z p0 w_SAME w_NEAR w_CLOSE w_DIFFERENT h0 n0 _ T4.heap _
      rw [e4]
      exact ⟨(by unfold G1; rw [if_pos hc2]), N0, rfl⟩
  · have q6 : Steps p.tables e below (s₁.setTop (entryFrame m #[(.int p0)] 1)) (s₁.setTop (mkF m 8 #[.val (.int p0)] [])) := q1.trans (by
        show Steps p.tables e below (s₁.setTop (mkF m 1 #[.val (.int p0)] [(.int p0)])) _
        refine XS.ifYes X0.here hx rfl (pc0 := 1) (pc' := 8) rfl (hb hby d1_1) rfl ((if0 _ _).trans (feq hc2).2) (by decide) (by decide) ?_
        show Steps p.tables e below (s₁.setTop (mkF m 8 #[.val (.int p0)] [])) _
        exact Steps.refl _)
    have q7 : Steps p.tables e below (s₁.setTop (entryFrame m #[(.int p0)] 1)) (s₁.setTop (mkF m 10 #[.val (.int p0)] [(.int (1 : Int32)), (.int p0)])) := q6.trans (by
        show Steps p.tables e below (s₁.setTop (mkF m 8 #[.val (.int p0)] [])) _
        refine XS.iloadN X0.here hx rfl (hb hby d1_8) rfl ?_
        show Steps p.tables e below (s₁.setTop (mkF m 9 #[.val (.int p0)] [(.int p0)])) _
        refine XS.iconst X0.here hx rfl (hb hby d1_9) ?_
        show Steps p.tables e below (s₁.setTop (mkF m 10 #[.val (.int p0)] [(.int (1 : Int32)), (.int p0)])) _
        exact Steps.refl _)
    by_cases hc8 : p0 = (1 : Int32)
    · have q9 : Steps p.tables e below (s₁.setTop (entryFrame m #[(.int p0)] 1)) (s₁.setTop (mkF m 13 #[.val (.int p0)] [])) := q7.trans (by
          show Steps p.tables e below (s₁.setTop (mkF m 10 #[.val (.int p0)] [(.int (1 : Int32)), (.int p0)])) _
          refine XS.icmpNo X0.here hx rfl (hb hby d1_10) rfl (teq hc8).2 ?_
          show Steps p.tables e below (s₁.setTop (mkF m 13 #[.val (.int p0)] [])) _
          exact Steps.refl _)
      obtain ⟨T10, X10, e10, st10⟩ := getS2 X0 hx hZ hown (host := "") (Or.inl (hw _ (List.mem_of_getElem? (i := 20) rfl))) Via.refl e0 S_NEAR (g := (mkF m 13 #[.val (.int p0)] [])) rfl (hb hby d1_13)
      have q11 : Steps p.tables e below (s₁.setTop (entryFrame m #[(.int p0)] 1)) (T10.setTop (mkF m 16 #[.val (.int p0)] [(.ref w_NEAR)])) := q9.trans (st10 _ (Steps.refl _))
      obtain ⟨fs, hr, hrun, hended, hW, hsame⟩ := X10.leave (v := some (.ref w_NEAR)) (fun h => by rw [Bd.returns] at h; cases h)
      refine ⟨_, _, q11.trans ?_, hrun, hended, _, _, rfl, ?_, ⟨_, rfl⟩, hW, hsame.mono (by decide) (by decide)⟩
      · exact retA X10 hx Bd.returns rfl rfl (hb hby d1_16) hr
      · show Q_rm1 Z p0 w_SAME w_NEAR w_CLOSE w_DIFFERENT h0 n0 _ T10.heap _
        rw [e10]
        exact ⟨(by unfold G1; rw [if_neg hc2, if_pos hc8]), N0, rfl⟩
    · have q12 : Steps p.tables e below (s₁.setTop (entryFrame m #[(.int p0)] 1)) (s₁.setTop (mkF m 17 #[.val (.int p0)] [])) := q7.trans (by
          show Steps p.tables e below (s₁.setTop (mkF m 10 #[.val (.int p0)] [(.int (1 : Int32)), (.int p0)])) _
          refine XS.icmpYes X0.here hx rfl (pc0 := 10) (pc' := 17) rfl (hb hby d1_10) rfl (feq hc8).2 (by decide) (by decide) ?_
          show Steps p.tables e below (s₁.setTop (mkF m 17 #[.val (.int p0)] [])) _
          exact Steps.refl _)
      have q13 : Steps p.tables e below (s₁.setTop (entryFrame m #[(.int p0)] 1)) (s₁.setTop (mkF m 19 #[.val (.int p0)] [(.int (2 : Int32)), (.int p0)])) := q12.trans (by
          show Steps p.tables e below (s₁.setTop (mkF m 17 #[.val (.int p0)] [])) _
          refine XS.iloadN X0.here hx rfl (hb hby d1_17) rfl ?_
          show Steps p.tables e below (s₁.setTop (mkF m 18 #[.val (.int p0)] [(.int p0)])) _
          refine XS.iconst X0.here hx rfl (hb hby d1_18) ?_
          show Steps p.tables e below (s₁.setTop (mkF m 19 #[.val (.int p0)] [(.int (2 : Int32)), (.int p0)])) _
          exact Steps.refl _)
      by_cases hc14 : p0 = (2 : Int32)
      · have q15 : Steps p.tables e below (s₁.setTop (entryFrame m #[(.int p0)] 1)) (s₁.setTop (mkF m 22 #[.val (.int p0)] [])) := q13.trans (by
            show Steps p.tables e below (s₁.setTop (mkF m 19 #[.val (.int p0)] [(.int (2 : Int32)), (.int p0)])) _
            refine XS.icmpNo X0.here hx rfl (hb hby d1_19) rfl (teq hc14).2 ?_
            show Steps p.tables e below (s₁.setTop (mkF m 22 #[.val (.int p0)] [])) _
            exact Steps.refl _)
        obtain ⟨T16, X16, e16, st16⟩ := getS2 X0 hx hZ hown (host := "") (Or.inl (hw _ (List.mem_of_getElem? (i := 18) rfl))) Via.refl e0 S_CLOSE (g := (mkF m 22 #[.val (.int p0)] [])) rfl (hb hby d1_22)
        have q17 : Steps p.tables e below (s₁.setTop (entryFrame m #[(.int p0)] 1)) (T16.setTop (mkF m 25 #[.val (.int p0)] [(.ref w_CLOSE)])) := q15.trans (st16 _ (Steps.refl _))
        obtain ⟨fs, hr, hrun, hended, hW, hsame⟩ := X16.leave (v := some (.ref w_CLOSE)) (fun h => by rw [Bd.returns] at h; cases h)
        refine ⟨_, _, q17.trans ?_, hrun, hended, _, _, rfl, ?_, ⟨_, rfl⟩, hW, hsame.mono (by decide) (by decide)⟩
        · exact retA X16 hx Bd.returns rfl rfl (hb hby d1_25) hr
        · show Q_rm1 Z p0 w_SAME w_NEAR w_CLOSE w_DIFFERENT h0 n0 _ T16.heap _
          rw [e16]
          exact ⟨(by unfold G1; rw [if_neg hc2, if_neg hc8, if_pos hc14]), N0, rfl⟩
      · have q18 : Steps p.tables e below (s₁.setTop (entryFrame m #[(.int p0)] 1)) (s₁.setTop (mkF m 26 #[.val (.int p0)] [])) := q13.trans (by
            show Steps p.tables e below (s₁.setTop (mkF m 19 #[.val (.int p0)] [(.int (2 : Int32)), (.int p0)])) _
            refine XS.icmpYes X0.here hx rfl (pc0 := 19) (pc' := 26) rfl (hb hby d1_19) rfl (feq hc14).2 (by decide) (by decide) ?_
            show Steps p.tables e below (s₁.setTop (mkF m 26 #[.val (.int p0)] [])) _
            exact Steps.refl _)
        obtain ⟨T19, X19, e19, st19⟩ := getS2 X0 hx hZ hown (host := "") (Or.inl (hw _ (List.mem_of_getElem? (i := 17) rfl))) Via.refl e0 S_DIFFERENT (g := (mkF m 26 #[.val (.int p0)] [])) rfl (hb hby d1_26)
        have q20 : Steps p.tables e below (s₁.setTop (entryFrame m #[(.int p0)] 1)) (T19.setTop (mkF m 29 #[.val (.int p0)] [(.ref w_DIFFERENT)])) := q18.trans (st19 _ (Steps.refl _))
        obtain ⟨fs, hr, hrun, hended, hW, hsame⟩ := X19.leave (v := some (.ref w_DIFFERENT)) (fun h => by rw [Bd.returns] at h; cases h)
        refine ⟨_, _, q20.trans ?_, hrun, hended, _, _, rfl, ?_, ⟨_, rfl⟩, hW, hsame.mono (by decide) (by decide)⟩
        · exact retA X19 hx Bd.returns rfl rfl (hb hby d1_29) hr
        · show Q_rm1 Z p0 w_SAME w_NEAR w_CLOSE w_DIFFERENT h0 n0 _ T19.heap _
          rw [e19]
          exact ⟨(by unfold G1; rw [if_neg hc2, if_neg hc8, if_neg hc14]), N0, rfl⟩

theorem d2_0 : decode prog_8_method_4_code 0 = .ok (.aload_n 0, 1) := by decide +kernel
theorem d2_1 : decode prog_8_method_4_code 1 = .ok (.getstatic 13, 3) := by decide +kernel
theorem d2_4 : decode prog_8_method_4_code 4 = .ok (.if_acmp .eq 7, 3) := by decide +kernel
theorem d2_7 : decode prog_8_method_4_code 7 = .ok (.iconst 1, 1) := by decide +kernel
theorem d2_8 : decode prog_8_method_4_code 8 = .ok (.goto 4, 3) := by decide +kernel
theorem d2_11 : decode prog_8_method_4_code 11 = .ok (.iconst 0, 1) := by decide +kernel
theorem d2_12 : decode prog_8_method_4_code 12 = .ok (.ireturn, 1) := by decide +kernel
theorem pn_rm2 : plainName "com/example/crossfind/crossfind/core/Evidence$Agreement" = true := by first | (simp [plainName, overriddenIn]; done) | decide +kernel
theorem ef_rm2 (m : MethodId) (o0 : Addr) : entryFrame m #[(.ref o0)] 1 = mkF m 0 #[.val (.ref o0)] [] := by first | (simp [entryFrame, mkF, argsToLocals, Value.category]; done) | rfl
def Q_rm2 (Z : State) (o0 : Addr) (w_DIFFERENT : Addr) (h0 : Heap) (n0 : Nat) (v : Option Value) (h : Heap) (L : List Loc) : Prop := v = some (.int (if o0 = w_DIFFERENT then (0 : Int32) else (1 : Int32))) ∧ Fr n0 L ∧ h = h0
set_option maxRecDepth 65536 in
set_option maxHeartbeats 40000000 in
theorem rm2 (l : Launch) (Z : State) (a0 : Array Value) (hw : ∀ d ∈ tables_1, d.before a0 Z = true) (ws : List Jvm.Cond) (o0 : Addr) (w_DIFFERENT : Addr) (h0 : Heap) (n0 : Nat) (Z0 : n0 ≤ h0.size) (S_DIFFERENT : Sta Z h0 "com/example/crossfind/crossfind/core/Evidence$Agreement" "DIFFERENT" "Lcom/example/crossfind/crossfind/core/Evidence$Agreement;" (.ref w_DIFFERENT)) :
    MetFree l (⟨"com/example/crossfind/crossfind/core/Evidence$Agreement", "agrees", "()Z"⟩ : MethodName) (head1 (Jvm.Cond.code (⟨"com/example/crossfind/crossfind/core/Evidence$Agreement", "agrees", "()Z"⟩ : MethodName) prog_8_method_4_code 1 (some .boolean) :: ws) ({ frames := 0, cells := 0, slots := 0, locals := 0 } : Room)) (fun a U => a = #[(.ref o0)] ∧ Z.Warmed39 U.vm ∧ U.heap = h0) (fun _ _ _ _ _ => True) (fun _ U o U' => ∃ v L, o = .returned v ∧ Q_rm2 Z o0 w_DIFFERENT h0 n0 v U'.heap L ∧ FrameEnd U o U' L ({ frames := 0, cells := 0, slots := 0, locals := 0 } : Room).cells ({ frames := 0, cells := 0, slots := 0, locals := 0 } : Room).slots) := by
  refine MetFree.of_bodySF (plainFor_of_name pn_rm2) hisR ?_
  intro p e s m args below meth c s₁ Bd hml0 hP hK
  obtain ⟨rfl, hZ, hh⟩ := hP
  have hx := Bd.exec
  have hby := Bd.bytes
  have hml : c.maxLocals = 1 := hml0
  have hown : s.vm.findClass "com/example/crossfind/crossfind/core/Evidence$Agreement" = some m.cls := findClass_of_methodNamed Bd.named
  have hnm := (name_of_methodNamed Bd.named Bd.method).1
  have X0 : Stand p l e ({ frames := 0, cells := 0, slots := 0, locals := 0 } : Room) s m #[(.ref o0)] below meth c s₁ [] 0 0 := Stand.of_body Bd
  have e0 : s₁.heap = h0 := by rw [← hh, Bd.state]; rfl
  have N0 := Fr.nil n0
  have q0 : Steps p.tables e below (s₁.setTop (entryFrame m #[(.ref o0)] 1)) (s₁.setTop (mkF m 0 #[.val (.ref o0)] [])) := castTop (ef_rm2 m o0) (Steps.refl _)
  have q1 : Steps p.tables e below (s₁.setTop (entryFrame m #[(.ref o0)] 1)) (s₁.setTop (mkF m 1 #[.val (.ref o0)] [(.ref o0)])) := q0.trans (by
      show Steps p.tables e below (s₁.setTop (mkF m 0 #[.val (.ref o0)] [])) _
      refine XS.aloadN X0.here hx rfl (hb hby d2_0) rfl rfl ?_
      show Steps p.tables e below (s₁.setTop (mkF m 1 #[.val (.ref o0)] [(.ref o0)])) _
      exact Steps.refl _)
  obtain ⟨T2, X2, e2, st2⟩ := getS2 X0 hx hZ hown (host := "") (Or.inl (hw _ (List.mem_of_getElem? (i := 12) rfl))) Via.refl e0 S_DIFFERENT (g := (mkF m 1 #[.val (.ref o0)] [(.ref o0)])) rfl (hb hby d2_1)
  have q3 : Steps p.tables e below (s₁.setTop (entryFrame m #[(.ref o0)] 1)) (T2.setTop (mkF m 4 #[.val (.ref o0)] [(.ref w_DIFFERENT), (.ref o0)])) := q1.trans (st2 _ (Steps.refl _))
  by_cases hc4 : o0 = w_DIFFERENT
  · have q5 : Steps p.tables e below (s₁.setTop (entryFrame m #[(.ref o0)] 1)) (T2.setTop (mkF m 11 #[.val (.ref o0)] [])) := q3.trans (by
        show Steps p.tables e below (T2.setTop (mkF m 4 #[.val (.ref o0)] [(.ref w_DIFFERENT), (.ref o0)])) _
        refine Jvm.RoadKit.acmp (g := (mkF m 4 #[.val (.ref o0)] [(.ref w_DIFFERENT), (.ref o0)])) X2 hx rfl rfl rfl (pc0 := 4) (pc' := 11) (same := true) rfl (hb hby d2_4) rfl (decide_eq_true (congrArg Value.ref hc4)) (by decide) (by decide) ?_
        show Steps p.tables e below (T2.setTop (mkF m 11 #[.val (.ref o0)] [])) _
        exact Steps.refl _)
    have q6 : Steps p.tables e below (s₁.setTop (entryFrame m #[(.ref o0)] 1)) (T2.setTop (mkF m 12 #[.val (.ref o0)] [(.int (0 : Int32))])) := q5.trans (by
        show Steps p.tables e below (T2.setTop (mkF m 11 #[.val (.ref o0)] [])) _
        refine XS.iconst X2.here hx rfl (hb hby d2_11) ?_
        show Steps p.tables e below (T2.setTop (mkF m 12 #[.val (.ref o0)] [(.int (0 : Int32))])) _
        exact Steps.refl _)
    obtain ⟨fs, hr, hrun, hended, hW, hsame⟩ := X2.leave (v := some (.int (0 : Int32))) (fun h => by rw [Bd.returns] at h; cases h)
    refine ⟨_, _, q6.trans ?_, hrun, hended, _, _, rfl, ?_, ⟨_, rfl⟩, hW, hsame.mono (by decide) (by decide)⟩
    · exact retN X2 hx (t := .boolean) Bd.returns (by simp) (hb hby d2_12) hr
    · show Q_rm2 Z o0 w_DIFFERENT h0 n0 _ T2.heap _
      rw [e2]
      exact ⟨(by rw [if_pos hc4]), N0, rfl⟩
  · have q7 : Steps p.tables e below (s₁.setTop (entryFrame m #[(.ref o0)] 1)) (T2.setTop (mkF m 7 #[.val (.ref o0)] [])) := q3.trans (by
        show Steps p.tables e below (T2.setTop (mkF m 4 #[.val (.ref o0)] [(.ref w_DIFFERENT), (.ref o0)])) _
        refine Jvm.RoadKit.acmp (g := (mkF m 4 #[.val (.ref o0)] [(.ref w_DIFFERENT), (.ref o0)])) X2 hx rfl rfl rfl (pc0 := 4) (pc' := 7) (same := false) rfl (hb hby d2_4) rfl (decide_eq_false fun q => hc4 (Value.ref.inj q)) (by decide) (by decide) ?_
        show Steps p.tables e below (T2.setTop (mkF m 7 #[.val (.ref o0)] [])) _
        exact Steps.refl _)
    have q8 : Steps p.tables e below (s₁.setTop (entryFrame m #[(.ref o0)] 1)) (T2.setTop (mkF m 12 #[.val (.ref o0)] [(.int (1 : Int32))])) := q7.trans (by
        show Steps p.tables e below (T2.setTop (mkF m 7 #[.val (.ref o0)] [])) _
        refine XS.iconst X2.here hx rfl (hb hby d2_7) ?_
        show Steps p.tables e below (T2.setTop (mkF m 8 #[.val (.ref o0)] [(.int (1 : Int32))])) _
        refine XS.goto X2.here hx rfl (pc0 := 8) (pc' := 12) rfl (hb hby d2_8) (by decide) (by decide) ?_
        show Steps p.tables e below (T2.setTop (mkF m 12 #[.val (.ref o0)] [(.int (1 : Int32))])) _
        exact Steps.refl _)
    obtain ⟨fs, hr, hrun, hended, hW, hsame⟩ := X2.leave (v := some (.int (1 : Int32))) (fun h => by rw [Bd.returns] at h; cases h)
    refine ⟨_, _, q8.trans ?_, hrun, hended, _, _, rfl, ?_, ⟨_, rfl⟩, hW, hsame.mono (by decide) (by decide)⟩
    · exact retN X2 hx (t := .boolean) Bd.returns (by simp) (hb hby d2_12) hr
    · show Q_rm2 Z o0 w_DIFFERENT h0 n0 _ T2.heap _
      rw [e2]
      exact ⟨(by rw [if_neg hc4]), N0, rfl⟩

theorem d3_0 : decode method_3_code 0 = .ok (.iload_n 0, 1) := by decide +kernel
theorem d3_1 : decode method_3_code 1 = .ok (.ifCond .ne 5, 3) := by decide +kernel
theorem d3_4 : decode method_3_code 4 = .ok (.iconst 1, 1) := by decide +kernel
theorem d3_5 : decode method_3_code 5 = .ok (.ireturn, 1) := by decide +kernel
theorem d3_6 : decode method_3_code 6 = .ok (.iload_n 0, 1) := by decide +kernel
theorem d3_7 : decode method_3_code 7 = .ok (.iconst 1, 1) := by decide +kernel
theorem d3_8 : decode method_3_code 8 = .ok (.if_icmp .ne 5, 3) := by decide +kernel
theorem d3_11 : decode method_3_code 11 = .ok (.iconst 1, 1) := by decide +kernel
theorem d3_12 : decode method_3_code 12 = .ok (.ireturn, 1) := by decide +kernel
theorem d3_13 : decode method_3_code 13 = .ok (.iload_n 0, 1) := by decide +kernel
theorem d3_14 : decode method_3_code 14 = .ok (.iconst 2, 1) := by decide +kernel
theorem d3_15 : decode method_3_code 15 = .ok (.if_icmp .ne 5, 3) := by decide +kernel
theorem d3_18 : decode method_3_code 18 = .ok (.iconst 1, 1) := by decide +kernel
theorem d3_19 : decode method_3_code 19 = .ok (.ireturn, 1) := by decide +kernel
theorem d3_20 : decode method_3_code 20 = .ok (.iconst 0, 1) := by decide +kernel
theorem d3_21 : decode method_3_code 21 = .ok (.ireturn, 1) := by decide +kernel
theorem pn_rm3 : plainName "com/example/crossfind/crossfind/core/AgreementAgreesPinLaw" = true := by first | (simp [plainName, overriddenIn]; done) | decide +kernel
theorem ef_rm3 (m : MethodId) (p0 : Int32) : entryFrame m #[(.int p0)] 1 = mkF m 0 #[.val (.int p0)] [] := by first | (simp [entryFrame, mkF, argsToLocals, Value.category]; done) | rfl
def F3 (p0 : Int32) : Int32 := (if p0 = (0 : Int32) then (1 : Int32) else (if p0 = (1 : Int32) then (1 : Int32) else (if p0 = (2 : Int32) then (1 : Int32) else (0 : Int32))))
def Q_rm3 (Z : State) (p0 : Int32) (h0 : Heap) (n0 : Nat) (v : Option Value) (h : Heap) (L : List Loc) : Prop := v = some (.int (F3 p0)) ∧ Fr n0 L ∧ h = h0
set_option maxRecDepth 65536 in
set_option maxHeartbeats 40000000 in
theorem rm3 (l : Launch) (Z : State) (a0 : Array Value) (hw : ∀ d ∈ tables_1, d.before a0 Z = true) (ws : List Jvm.Cond) (p0 : Int32) (h0 : Heap) (n0 : Nat) (Z0 : n0 ≤ h0.size) :
    MetFree l (⟨"com/example/crossfind/crossfind/core/AgreementAgreesPinLaw", "expected", "(I)Z"⟩ : MethodName) (head1 (Jvm.Cond.code (⟨"com/example/crossfind/crossfind/core/AgreementAgreesPinLaw", "expected", "(I)Z"⟩ : MethodName) method_3_code 1 (some .boolean) :: ws) ({ frames := 0, cells := 0, slots := 0, locals := 0 } : Room)) (fun a U => a = #[(.int p0)] ∧ Z.Warmed39 U.vm ∧ U.heap = h0) (fun _ _ _ _ _ => True) (fun _ U o U' => ∃ v L, o = .returned v ∧ Q_rm3 Z p0 h0 n0 v U'.heap L ∧ FrameEnd U o U' L ({ frames := 0, cells := 0, slots := 0, locals := 0 } : Room).cells ({ frames := 0, cells := 0, slots := 0, locals := 0 } : Room).slots) := by
  refine MetFree.of_bodySF (plainFor_of_name pn_rm3) hisR ?_
  intro p e s m args below meth c s₁ Bd hml0 hP hK
  obtain ⟨rfl, hZ, hh⟩ := hP
  have hx := Bd.exec
  have hby := Bd.bytes
  have hml : c.maxLocals = 1 := hml0
  have hown : s.vm.findClass "com/example/crossfind/crossfind/core/AgreementAgreesPinLaw" = some m.cls := findClass_of_methodNamed Bd.named
  have hnm := (name_of_methodNamed Bd.named Bd.method).1
  have X0 : Stand p l e ({ frames := 0, cells := 0, slots := 0, locals := 0 } : Room) s m #[(.int p0)] below meth c s₁ [] 0 0 := Stand.of_body Bd
  have e0 : s₁.heap = h0 := by rw [← hh, Bd.state]; rfl
  have N0 := Fr.nil n0
  have q0 : Steps p.tables e below (s₁.setTop (entryFrame m #[(.int p0)] 1)) (s₁.setTop (mkF m 0 #[.val (.int p0)] [])) := castTop (ef_rm3 m p0) (Steps.refl _)
  obtain ⟨fs, hr, hrun, hended, hW, hsame⟩ := X0.leave (v := some (.int (F3 p0))) (fun h => by rw [Bd.returns] at h; cases h)
  refine ⟨_, _, q0.trans ?_, hrun, hended, _, _, rfl, ?_, ⟨_, rfl⟩, hW, hsame.mono (by decide) (by decide)⟩
  · show Steps p.tables e below (s₁.setTop (mkF m 0 #[.val (.int p0)] [])) _
    refine XS.iloadN X0.here hx rfl (hb hby d3_0) rfl ?_
    show Steps p.tables e below (s₁.setTop (mkF m 1 #[.val (.int p0)] [(.int p0)])) _
    by_cases hc1 : p0 = (0 : Int32)
    · refine XS.ifNo X0.here hx rfl (hb hby d3_1) rfl ((if0 _ _).trans (teq hc1).2) ?_
      show Steps p.tables e below (s₁.setTop (mkF m 4 #[.val (.int p0)] [])) _
      refine XS.iconst X0.here hx rfl (hb hby d3_4) ?_
      show Steps p.tables e below (s₁.setTop (mkF m 5 #[.val (.int p0)] [(.int (1 : Int32))])) _
      have hz : (F3 p0) = (1 : Int32) := by unfold F3; rw [if_pos hc1]
      rw [hz] at hr
      exact retN X0 hx (t := .boolean) Bd.returns (by simp) (hb hby d3_5) hr
    · refine XS.ifYes X0.here hx rfl (pc0 := 1) (pc' := 6) rfl (hb hby d3_1) rfl ((if0 _ _).trans (feq hc1).2) (by decide) (by decide) ?_
      show Steps p.tables e below (s₁.setTop (mkF m 6 #[.val (.int p0)] [])) _
      refine XS.iloadN X0.here hx rfl (hb hby d3_6) rfl ?_
      show Steps p.tables e below (s₁.setTop (mkF m 7 #[.val (.int p0)] [(.int p0)])) _
      refine XS.iconst X0.here hx rfl (hb hby d3_7) ?_
      show Steps p.tables e below (s₁.setTop (mkF m 8 #[.val (.int p0)] [(.int (1 : Int32)), (.int p0)])) _
      by_cases hc2 : p0 = (1 : Int32)
      · refine XS.icmpNo X0.here hx rfl (hb hby d3_8) rfl (teq hc2).2 ?_
        show Steps p.tables e below (s₁.setTop (mkF m 11 #[.val (.int p0)] [])) _
        refine XS.iconst X0.here hx rfl (hb hby d3_11) ?_
        show Steps p.tables e below (s₁.setTop (mkF m 12 #[.val (.int p0)] [(.int (1 : Int32))])) _
        have hz : (F3 p0) = (1 : Int32) := by unfold F3; rw [if_neg hc1, if_pos hc2]
        rw [hz] at hr
        exact retN X0 hx (t := .boolean) Bd.returns (by simp) (hb hby d3_12) hr
      · refine XS.icmpYes X0.here hx rfl (pc0 := 8) (pc' := 13) rfl (hb hby d3_8) rfl (feq hc2).2 (by decide) (by decide) ?_
        show Steps p.tables e below (s₁.setTop (mkF m 13 #[.val (.int p0)] [])) _
        refine XS.iloadN X0.here hx rfl (hb hby d3_13) rfl ?_
        show Steps p.tables e below (s₁.setTop (mkF m 14 #[.val (.int p0)] [(.int p0)])) _
        refine XS.iconst X0.here hx rfl (hb hby d3_14) ?_
        show Steps p.tables e below (s₁.setTop (mkF m 15 #[.val (.int p0)] [(.int (2 : Int32)), (.int p0)])) _
        by_cases hc3 : p0 = (2 : Int32)
        · refine XS.icmpNo X0.here hx rfl (hb hby d3_15) rfl (teq hc3).2 ?_
          show Steps p.tables e below (s₁.setTop (mkF m 18 #[.val (.int p0)] [])) _
          refine XS.iconst X0.here hx rfl (hb hby d3_18) ?_
          show Steps p.tables e below (s₁.setTop (mkF m 19 #[.val (.int p0)] [(.int (1 : Int32))])) _
          have hz : (F3 p0) = (1 : Int32) := by unfold F3; rw [if_neg hc1, if_neg hc2, if_pos hc3]
          rw [hz] at hr
          exact retN X0 hx (t := .boolean) Bd.returns (by simp) (hb hby d3_19) hr
        · refine XS.icmpYes X0.here hx rfl (pc0 := 15) (pc' := 20) rfl (hb hby d3_15) rfl (feq hc3).2 (by decide) (by decide) ?_
          show Steps p.tables e below (s₁.setTop (mkF m 20 #[.val (.int p0)] [])) _
          refine XS.iconst X0.here hx rfl (hb hby d3_20) ?_
          show Steps p.tables e below (s₁.setTop (mkF m 21 #[.val (.int p0)] [(.int (0 : Int32))])) _
          have hz : (F3 p0) = (0 : Int32) := by unfold F3; rw [if_neg hc1, if_neg hc2, if_neg hc3]
          rw [hz] at hr
          exact retN X0 hx (t := .boolean) Bd.returns (by simp) (hb hby d3_21) hr
  · show Q_rm3 Z p0 h0 n0 _ s₁.heap _
    rw [e0]
    exact ⟨rfl, N0, rfl⟩

theorem plain0 (p0 : Int32) (w_SAME : Addr) (w_NEAR : Addr) (w_CLOSE : Addr) (w_DIFFERENT : Addr) (vi : Int32) (r : Addr) (zr : Int32)
    (D_SAME : w_SAME ≠ w_DIFFERENT)
    (D_NEAR : w_NEAR ≠ w_DIFFERENT)
    (D_CLOSE : w_CLOSE ≠ w_DIFFERENT)
    (hvi : vi = (p0 &&& (3 : Int32)))
    (hr0 : r = (G1 vi w_SAME w_NEAR w_CLOSE w_DIFFERENT))
    (hzr : zr = (if (if r = w_DIFFERENT then (0 : Int32) else (1 : Int32)) = (F3 vi) then (1 : Int32) else (0 : Int32))) :
    zr = 1 := by
  rw [hzr, if_pos]
  have hb : vi.toInt = p0.toInt % 4 := by rw [hvi]; exact Jvm.Kit.i32_mask p0 3 (k := 2) (by decide) (by decide)
  have h4 : vi = 0 ∨ vi = 1 ∨ vi = 2 ∨ vi = 3 := by
    simp only [← Int32.toInt_inj, show (0 : Int32).toInt = 0 from rfl, show (1 : Int32).toInt = 1 from rfl, show (2 : Int32).toInt = 2 from rfl, show (3 : Int32).toInt = 3 from rfl]; omega
  clear hvi hb hzr
  rcases h4 with h | h | h | h <;> subst h <;> rw [hr0]
  · rw [show G1 0 w_SAME w_NEAR w_CLOSE w_DIFFERENT = w_SAME from rfl, if_neg D_SAME]; rfl
  · rw [show G1 1 w_SAME w_NEAR w_CLOSE w_DIFFERENT = w_NEAR from rfl, if_neg D_NEAR]; rfl
  · rw [show G1 2 w_SAME w_NEAR w_CLOSE w_DIFFERENT = w_CLOSE from rfl, if_neg D_CLOSE]; rfl
  · rw [show G1 3 w_SAME w_NEAR w_CLOSE w_DIFFERENT = w_DIFFERENT from rfl, if_pos rfl]; rfl

theorem pd_0 : parseMethodDescriptor "(I)Lcom/example/crossfind/crossfind/core/Evidence$Agreement;" = some ⟨[.int], some (.object "com/example/crossfind/crossfind/core/Evidence$Agreement")⟩ := by decide +kernel
theorem pd_1 : parseMethodDescriptor "()Z" = some ⟨[], some .boolean⟩ := by decide +kernel
theorem pd_2 : parseMethodDescriptor "(I)Z" = some ⟨[.int], some .boolean⟩ := by decide +kernel
theorem pn_rm0 : plainName "com/example/crossfind/crossfind/core/AgreementAgreesPinLaw" = true := by first | (simp [plainName, overriddenIn]; done) | decide +kernel
theorem ef_rm0 (m : MethodId) (p0 : Int32) : entryFrame m #[(.int p0)] maxLocals = mkF m 0 #[.val (.int p0), .unset, .unset] [] := by first | (simp [entryFrame, mkF, argsToLocals, Value.category, maxLocals]; done) | rfl
def Q_rm0 (Z : State) (p0 : Int32) (w_SAME : Addr) (w_NEAR : Addr) (w_CLOSE : Addr) (w_DIFFERENT : Addr) (h0 : Heap) (n0 : Nat) (v : Option Value) (h : Heap) (L : List Loc) : Prop := v = some (.int (1 : Int32)) ∧ Fr n0 L
set_option maxRecDepth 65536 in
set_option maxHeartbeats 40000000 in
theorem rm0 (l : Launch) (Z : State) (a0 : Array Value) (hw : ∀ d ∈ tables_1, d.before a0 Z = true) (ws : List Jvm.Cond) (p0 : Int32) (w_SAME : Addr) (w_NEAR : Addr) (w_CLOSE : Addr) (w_DIFFERENT : Addr) (h0 : Heap) (n0 : Nat) (Z0 : n0 ≤ h0.size) (S_SAME : Sta Z h0 "com/example/crossfind/crossfind/core/Evidence$Agreement" "SAME" "Lcom/example/crossfind/crossfind/core/Evidence$Agreement;" (.ref w_SAME)) (S_NEAR : Sta Z h0 "com/example/crossfind/crossfind/core/Evidence$Agreement" "NEAR" "Lcom/example/crossfind/crossfind/core/Evidence$Agreement;" (.ref w_NEAR)) (S_CLOSE : Sta Z h0 "com/example/crossfind/crossfind/core/Evidence$Agreement" "CLOSE" "Lcom/example/crossfind/crossfind/core/Evidence$Agreement;" (.ref w_CLOSE)) (S_DIFFERENT : Sta Z h0 "com/example/crossfind/crossfind/core/Evidence$Agreement" "DIFFERENT" "Lcom/example/crossfind/crossfind/core/Evidence$Agreement;" (.ref w_DIFFERENT)) (E_SAME : Exa Z h0 w_SAME "com/example/crossfind/crossfind/core/Evidence$Agreement") (E_NEAR : Exa Z h0 w_NEAR "com/example/crossfind/crossfind/core/Evidence$Agreement") (E_CLOSE : Exa Z h0 w_CLOSE "com/example/crossfind/crossfind/core/Evidence$Agreement") (E_DIFFERENT : Exa Z h0 w_DIFFERENT "com/example/crossfind/crossfind/core/Evidence$Agreement") (D_SAME : w_SAME ≠ w_DIFFERENT) (D_NEAR : w_NEAR ≠ w_DIFFERENT) (D_CLOSE : w_CLOSE ≠ w_DIFFERENT) :
    MetFree l x (head1 (Jvm.Cond.code x code maxLocals ret :: ws) room_1) (fun a U => a = #[(.int p0)] ∧ Z.Warmed39 U.vm ∧ U.heap = h0) (fun _ _ _ _ _ => True) (fun _ U o U' => ∃ v L, o = .returned v ∧ Q_rm0 Z p0 w_SAME w_NEAR w_CLOSE w_DIFFERENT h0 n0 v U'.heap L ∧ FrameEnd U o U' L room_1.cells room_1.slots) := by
  refine MetFree.of_bodySF (plainFor_of_name pn_rm0) hisR ?_
  intro p e s m args below meth c s₁ Bd hml0 hP hK
  obtain ⟨rfl, hZ, hh⟩ := hP
  have hx := Bd.exec
  have hby := Bd.bytes
  have hml : c.maxLocals = 3 := hml0
  have hown : s.vm.findClass "com/example/crossfind/crossfind/core/AgreementAgreesPinLaw" = some m.cls := findClass_of_methodNamed Bd.named
  have hnm := (name_of_methodNamed Bd.named Bd.method).1
  have X0 : Stand p l e room_1 s m #[(.int p0)] below meth c s₁ [] 0 0 := Stand.of_body Bd
  have e0 : s₁.heap = h0 := by rw [← hh, Bd.state]; rfl
  have N0 := Fr.nil n0
  have q0 : Steps p.tables e below (s₁.setTop (entryFrame m #[(.int p0)] maxLocals)) (s₁.setTop (mkF m 0 #[.val (.int p0), .unset, .unset] [])) := castTop (ef_rm0 m p0) (Steps.refl _)
  have q1 : Steps p.tables e below (s₁.setTop (entryFrame m #[(.int p0)] maxLocals)) (s₁.setTop (mkF m 4 #[.val (.int p0), .val (.int (p0 &&& (3 : Int32))), .unset] [])) := q0.trans (by
      show Steps p.tables e below (s₁.setTop (mkF m 0 #[.val (.int p0), .unset, .unset] [])) _
      refine XS.iloadN X0.here hx rfl (hb hby at_0) rfl ?_
      show Steps p.tables e below (s₁.setTop (mkF m 1 #[.val (.int p0), .unset, .unset] [(.int p0)])) _
      refine XS.iconst X0.here hx rfl (hb hby at_1) ?_
      show Steps p.tables e below (s₁.setTop (mkF m 2 #[.val (.int p0), .unset, .unset] [(.int (3 : Int32)), (.int p0)])) _
      refine XS.iand X0.here hx rfl (hb hby at_2) rfl ?_
      show Steps p.tables e below (s₁.setTop (mkF m 3 #[.val (.int p0), .unset, .unset] [(.int (p0 &&& (3 : Int32)))])) _
      refine XS.istoreN X0.here hx rfl (hb hby at_3) rfl (l' := #[.val (.int p0), .val (.int (p0 &&& (3 : Int32))), .unset]) rfl ?_
      show Steps p.tables e below (s₁.setTop (mkF m 4 #[.val (.int p0), .val (.int (p0 &&& (3 : Int32))), .unset] [])) _
      exact Steps.refl _)
  obtain ⟨vi, hvi⟩ : ∃ v : Int32, v = (p0 &&& (3 : Int32)) := ⟨_, rfl⟩
  rw [← hvi] at q1
  have q2 : Steps p.tables e below (s₁.setTop (entryFrame m #[(.int p0)] maxLocals)) (s₁.setTop (mkF m 5 #[.val (.int p0), .val (.int vi), .unset] [(.int vi)])) := q1.trans (by
      show Steps p.tables e below (s₁.setTop (mkF m 4 #[.val (.int p0), .val (.int vi), .unset] [])) _
      refine XS.iloadN X0.here hx rfl (hb hby at_4) rfl ?_
      show Steps p.tables e below (s₁.setTop (mkF m 5 #[.val (.int p0), .val (.int vi), .unset] [(.int vi)])) _
      exact Steps.refl _)
  obtain ⟨_, _, ⟨T3, L3, k3, n3⟩, -, X3, ⟨Lc3, hQ3, l3, y3, z3⟩, st3⟩ := Jvm.LawKit.callS X0 hx (y := (⟨"com/example/crossfind/crossfind/core/AgreementAgreesPinLaw", "pick", "(I)Lcom/example/crossfind/crossfind/core/Evidence$Agreement;"⟩ : MethodName)) hown (mvT hZ (hw _ (List.mem_of_getElem? (i := 0) rfl))) (mvT hZ (hw _ (List.mem_of_getElem? (i := 1) rfl))) (mvT hZ (hw _ (List.mem_of_getElem? (i := 2) rfl))) (mvT hZ (hw _ (List.mem_of_getElem? (i := 3) rfl))) (by decide) (backOf (W := 0) (rm1 l Z a0 hw [] vi w_SAME w_NEAR w_CLOSE w_DIFFERENT h0 n0 Z0 S_SAME S_NEAR S_CLOSE S_DIFFERENT) hZ (hw _ (List.mem_of_getElem? (i := 3) rfl)) (hw _ (List.mem_of_getElem? (i := 2) rfl)) (by decide) (by decide)) (g := (mkF m 5 #[.val (.int p0), .val (.int vi), .unset] [(.int vi)])) rfl (by rw [hml]; rfl) (argsL := [(.int vi)]) (rest := []) (lenOf pd_0 rfl) rfl (by show 2 * 0 + _ ≤ _; exact Nat.le_of_eq rfl) (hb hby at_5) (fun _ _ => ⟨rfl, e0, (by decide : 0 + 0 ≤ _), (by decide : 0 + 0 ≤ _)⟩)
  dsimp only [Pt.U, Pt.locs, Pt.cells, Pt.slots] at X3 l3 y3 z3 st3 hQ3
  subst l3 y3 z3
  obtain ⟨rfl, N3q, e3⟩ := hQ3
  have N3 := Fr.app N0 N3q
  have q4 : Steps p.tables e below (s₁.setTop (entryFrame m #[(.int p0)] maxLocals)) (T3.setTop (mkF m 8 #[.val (.int p0), .val (.int vi), .unset] [(.ref (G1 vi w_SAME w_NEAR w_CLOSE w_DIFFERENT))])) := q2.trans (st3 _ (Steps.refl _))
  obtain ⟨r, hr0⟩ : ∃ r : Addr, r = (G1 vi w_SAME w_NEAR w_CLOSE w_DIFFERENT) := ⟨_, rfl⟩
  rw [← hr0] at q4
  have E_r : Exa Z h0 r "com/example/crossfind/crossfind/core/Evidence$Agreement" := by
    rw [hr0]; unfold G1
    split
    · exact E_SAME
    split
    · exact E_NEAR
    split
    · exact E_CLOSE
    exact E_DIFFERENT
  have q5 : Steps p.tables e below (s₁.setTop (entryFrame m #[(.int p0)] maxLocals)) (T3.setTop (mkF m 10 #[.val (.int p0), .val (.int vi), .val (.ref r)] [(.ref r)])) := q4.trans (by
      show Steps p.tables e below (T3.setTop (mkF m 8 #[.val (.int p0), .val (.int vi), .unset] [(.ref r)])) _
      refine XS.astoreN X3.here hx rfl (hb hby at_8) rfl rfl (l' := #[.val (.int p0), .val (.int vi), .val (.ref r)]) rfl ?_
      show Steps p.tables e below (T3.setTop (mkF m 9 #[.val (.int p0), .val (.int vi), .val (.ref r)] [])) _
      refine XS.aloadN X3.here hx rfl (hb hby at_9) rfl rfl ?_
      show Steps p.tables e below (T3.setTop (mkF m 10 #[.val (.int p0), .val (.int vi), .val (.ref r)] [(.ref r)])) _
      exact Steps.refl _)
  obtain ⟨cq6, kq6, q6a, q6b, q6c⟩ := isOf hZ e3 E_r
  obtain ⟨_, _, ⟨T6, L6, k6, n6⟩, -, X6, ⟨Lc6, hQ6, l6, y6, z6⟩, st6⟩ := X3.virtualBack hx (y := (⟨"com/example/crossfind/crossfind/core/Evidence$Agreement", "agrees", "()Z"⟩ : MethodName)) (z := (⟨"com/example/crossfind/crossfind/core/Evidence$Agreement", "agrees", "()Z"⟩ : MethodName)) hown (mvT hZ (hw _ (List.mem_of_getElem? (i := 7) rfl))) (mvT hZ (hw _ (List.mem_of_getElem? (i := 8) rfl))) (notFace_of_selects (args := #[]) (mvT hZ (hw _ (List.mem_of_getElem? (i := 10) rfl)))) (mvT hZ (hw _ (List.mem_of_getElem? (i := 10) rfl))) (mvT hZ (hw _ (List.mem_of_getElem? (i := 9) rfl))) (by decide) (backOf (W := 0) (rm2 l Z a0 hw [] r w_DIFFERENT h0 n0 Z0 S_DIFFERENT) hZ (hw _ (List.mem_of_getElem? (i := 11) rfl)) (hw _ (List.mem_of_getElem? (i := 5) rfl)) (by decide) (by decide)) q6a q6c (g := (mkF m 10 #[.val (.int p0), .val (.int vi), .val (.ref r)] [(.ref r)])) rfl (by rw [hml]; rfl) (Steps.refl _) (argsL := []) (rest := []) (lenOf pd_1 rfl) rfl (by show 2 * 0 + _ ≤ _; exact Nat.le_of_eq rfl) (hb hby at_10) (fun _ _ => ⟨rfl, e3, (by decide : 0 + 0 ≤ _), (by decide : 0 + 0 ≤ _)⟩)
  dsimp only [Pt.U, Pt.locs, Pt.cells, Pt.slots] at X6 l6 y6 z6 st6 hQ6
  subst l6 y6 z6
  obtain ⟨rfl, N6q, e6⟩ := hQ6
  have N6 := Fr.app N3 N6q
  have q7 : Steps p.tables e below (s₁.setTop (entryFrame m #[(.int p0)] maxLocals)) (T6.setTop (mkF m 13 #[.val (.int p0), .val (.int vi), .val (.ref r)] [(.int (if r = w_DIFFERENT then (0 : Int32) else (1 : Int32)))])) := q5.trans (st6)
  have q8 : Steps p.tables e below (s₁.setTop (entryFrame m #[(.int p0)] maxLocals)) (T6.setTop (mkF m 14 #[.val (.int p0), .val (.int vi), .val (.ref r)] [(.int vi), (.int (if r = w_DIFFERENT then (0 : Int32) else (1 : Int32)))])) := q7.trans (by
      show Steps p.tables e below (T6.setTop (mkF m 13 #[.val (.int p0), .val (.int vi), .val (.ref r)] [(.int (if r = w_DIFFERENT then (0 : Int32) else (1 : Int32)))])) _
      refine XS.iloadN X6.here hx rfl (hb hby at_13) rfl ?_
      show Steps p.tables e below (T6.setTop (mkF m 14 #[.val (.int p0), .val (.int vi), .val (.ref r)] [(.int vi), (.int (if r = w_DIFFERENT then (0 : Int32) else (1 : Int32)))])) _
      exact Steps.refl _)
  obtain ⟨_, _, ⟨T9, L9, k9, n9⟩, -, X9, ⟨Lc9, hQ9, l9, y9, z9⟩, st9⟩ := Jvm.LawKit.callS X6 hx (y := (⟨"com/example/crossfind/crossfind/core/AgreementAgreesPinLaw", "expected", "(I)Z"⟩ : MethodName)) hown (mvT hZ (hw _ (List.mem_of_getElem? (i := 14) rfl))) (mvT hZ (hw _ (List.mem_of_getElem? (i := 15) rfl))) (mvT hZ (hw _ (List.mem_of_getElem? (i := 2) rfl))) (mvT hZ (hw _ (List.mem_of_getElem? (i := 16) rfl))) (by decide) (backOf (W := 1) (rm3 l Z a0 hw [] vi h0 n0 Z0) hZ (hw _ (List.mem_of_getElem? (i := 16) rfl)) (hw _ (List.mem_of_getElem? (i := 2) rfl)) (by decide) (by decide)) (g := (mkF m 14 #[.val (.int p0), .val (.int vi), .val (.ref r)] [(.int vi), (.int (if r = w_DIFFERENT then (0 : Int32) else (1 : Int32)))])) rfl (by rw [hml]; rfl) (argsL := [(.int vi)]) (rest := [(.int (if r = w_DIFFERENT then (0 : Int32) else (1 : Int32)))]) (lenOf pd_2 rfl) rfl (by show 2 * 0 + _ ≤ _; exact Nat.le_of_eq rfl) (hb hby at_14) (fun _ _ => ⟨rfl, e6, (by decide : 0 + 0 ≤ _), (by decide : 0 + 0 ≤ _)⟩)
  dsimp only [Pt.U, Pt.locs, Pt.cells, Pt.slots] at X9 l9 y9 z9 st9 hQ9
  subst l9 y9 z9
  obtain ⟨rfl, N9q, e9⟩ := hQ9
  have N9 := Fr.app N6 N9q
  have q10 : Steps p.tables e below (s₁.setTop (entryFrame m #[(.int p0)] maxLocals)) (T9.setTop (mkF m 17 #[.val (.int p0), .val (.int vi), .val (.ref r)] [(.int (F3 vi)), (.int (if r = w_DIFFERENT then (0 : Int32) else (1 : Int32)))])) := q8.trans (st9 _ (Steps.refl _))
  obtain ⟨zr, hzr⟩ : ∃ v : Int32, v = (if (if r = w_DIFFERENT then (0 : Int32) else (1 : Int32)) = (F3 vi) then (1 : Int32) else (0 : Int32)) := ⟨_, rfl⟩
  have hz1 : zr = 1 := plain0 p0 w_SAME w_NEAR w_CLOSE w_DIFFERENT vi r zr D_SAME D_NEAR D_CLOSE hvi hr0 hzr
  obtain ⟨fs, hr, hrun, hended, hW, hsame⟩ := X9.leave (v := some (.int (1 : Int32))) (fun h => by rw [Bd.returns] at h; cases h)
  refine ⟨_, _, q10.trans ?_, hrun, hended, _, _, rfl, ?_, ⟨_, rfl⟩, hW, hsame.mono (by decide) (by decide)⟩
  · show Steps p.tables e below (T9.setTop (mkF m 17 #[.val (.int p0), .val (.int vi), .val (.ref r)] [(.int (F3 vi)), (.int (if r = w_DIFFERENT then (0 : Int32) else (1 : Int32)))])) _
    by_cases hc11 : (if r = w_DIFFERENT then (0 : Int32) else (1 : Int32)) = (F3 vi)
    · rw [if_pos hc11] at hzr
      refine XS.icmpNo X9.here hx rfl (hb hby at_17) rfl (teq hc11).2 ?_
      show Steps p.tables e below (T9.setTop (mkF m 20 #[.val (.int p0), .val (.int vi), .val (.ref r)] [])) _
      refine XS.iconst X9.here hx rfl (hb hby at_20) ?_
      show Steps p.tables e below (T9.setTop (mkF m 21 #[.val (.int p0), .val (.int vi), .val (.ref r)] [(.int (1 : Int32))])) _
      refine XS.goto X9.here hx rfl (pc0 := 21) (pc' := 25) rfl (hb hby at_21) (by decide) (by decide) ?_
      show Steps p.tables e below (T9.setTop (mkF m 25 #[.val (.int p0), .val (.int vi), .val (.ref r)] [(.int (1 : Int32))])) _
      exact retN X9 hx (t := .boolean) Bd.returns (by simp) (hb hby at_25) hr
    · rw [if_neg hc11] at hzr
      refine XS.icmpYes X9.here hx rfl (pc0 := 17) (pc' := 24) rfl (hb hby at_17) rfl (feq hc11).2 (by decide) (by decide) ?_
      show Steps p.tables e below (T9.setTop (mkF m 24 #[.val (.int p0), .val (.int vi), .val (.ref r)] [])) _
      refine XS.iconst X9.here hx rfl (hb hby at_24) ?_
      show Steps p.tables e below (T9.setTop (mkF m 25 #[.val (.int p0), .val (.int vi), .val (.ref r)] [(.int (0 : Int32))])) _
      exact absurd (hzr.symm.trans hz1) (by decide)
  · show Q_rm0 Z p0 w_SAME w_NEAR w_CLOSE w_DIFFERENT h0 n0 _ T9.heap _
    rw [e9]
    exact ⟨rfl, N9⟩

set_option maxRecDepth 65536 in
set_option maxHeartbeats 40000000 in
theorem comes_1 {Post : Tables → Env → Array Value → State → Outcome → State → Prop} (hpost : ∀ tb e args s v u, (limb_1_1.after args s (.returned v) u = true ∧ limb_1_2.after args s (.returned v) u = true ∧ True) → FrameEnd s (.returned v) u (Jvm.fieldLocs frame_1_writes args s ++ Jvm.arrayLocs frame_1_arrays args s ++ Jvm.staticLocs frame_1_statics s) 0 0 → Post tb e args s (.returned v) u) :
    ArmFor flags0 classFile x code maxLocals ret World_1 tables_1 room_1 Calls_1 rest_1 Pre_1 Post := by
  intro l hfl _ _ p e ha hc hk s m args below hf hA hF happ hP
  obtain ⟨hcalls, hrest, hpre⟩ := hP
  obtain ⟨-, -, -, hnamed, -, -, -, hat⟩ := (Spec.applies_iff hf).mp happ
  obtain ⟨hg, hn⟩ := and_e (Cond.before_iff.mp (show (Jvm.Cond.and given_1 narrow_1).before args s = true from hpre))
  obtain ⟨hcount, hg0⟩ := and_e hg
  obtain ⟨w0, rfl⟩ : ∃ w0 : Value, args = #[w0] := by
    have hs : args.size = 1 := by simpa [Cond.value, given_1] using hcount
    obtain ⟨L⟩ := args
    match L, hs with
    | [w0], _ => exact ⟨w0, rfl⟩
  have hw := fun d (hd : d ∈ tables_1) => atoms_spec (ws := Jvm.Cond.code x code maxLocals ret :: tables_1) hat d (List.mem_cons_of_mem _ hd)
  have hfit : Fit s := fun {y c} hc i hi => by
    obtain ⟨ha, rfl⟩ := Array.getElem?_eq_some_iff.mp hc
    have q := List.all_eq_true.mp ((Array.all_eq_true_iff_forall_mem.mp hF) _ (Array.getElem_mem ha)) i (List.mem_range.mpr hi)
    simpa [Array.getElem?_eq_getElem hi] using q
  obtain ⟨i0, ei0⟩ := is_v hg0
  obtain rfl : w0 = (.int i0) := Option.some.inj ei0
  obtain ⟨nl1, nr1⟩ := and_e hn
  obtain ⟨nl2, nr2⟩ := and_e nr1
  obtain ⟨nl3, nr3⟩ := and_e nr2
  obtain ⟨nl4, nr4⟩ := and_e nr3
  obtain ⟨nl5, nr5⟩ := and_e nr4
  obtain ⟨nl6, nr6⟩ := and_e nr5
  obtain ⟨nl7, nr7⟩ := and_e nr6
  obtain ⟨w_SAME, ev_SAME⟩ := exa_v nl1
  have E_SAME : Exa s s.heap w_SAME "com/example/crossfind/crossfind/core/Evidence$Agreement" := Exa.start ev_SAME nl1
  have S_SAME : Sta s s.heap "com/example/crossfind/crossfind/core/Evidence$Agreement" "SAME" "Lcom/example/crossfind/crossfind/core/Evidence$Agreement;" (.ref w_SAME) := Sta.start ev_SAME (Or.inr ⟨(hw _ (List.mem_of_getElem? (i := 5) rfl)), (hw _ (List.mem_of_getElem? (i := 6) rfl))⟩)
  obtain ⟨w_DIFFERENT, ev_DIFFERENT⟩ := exa_v nl2
  have E_DIFFERENT : Exa s s.heap w_DIFFERENT "com/example/crossfind/crossfind/core/Evidence$Agreement" := Exa.start ev_DIFFERENT nl2
  have S_DIFFERENT : Sta s s.heap "com/example/crossfind/crossfind/core/Evidence$Agreement" "DIFFERENT" "Lcom/example/crossfind/crossfind/core/Evidence$Agreement;" (.ref w_DIFFERENT) := Sta.start ev_DIFFERENT (Or.inr ⟨(hw _ (List.mem_of_getElem? (i := 5) rfl)), (hw _ (List.mem_of_getElem? (i := 13) rfl))⟩)
  obtain ⟨w_CLOSE, ev_CLOSE⟩ := exa_v nl5
  have E_CLOSE : Exa s s.heap w_CLOSE "com/example/crossfind/crossfind/core/Evidence$Agreement" := Exa.start ev_CLOSE nl5
  have S_CLOSE : Sta s s.heap "com/example/crossfind/crossfind/core/Evidence$Agreement" "CLOSE" "Lcom/example/crossfind/crossfind/core/Evidence$Agreement;" (.ref w_CLOSE) := Sta.start ev_CLOSE (Or.inr ⟨(hw _ (List.mem_of_getElem? (i := 5) rfl)), (hw _ (List.mem_of_getElem? (i := 19) rfl))⟩)
  obtain ⟨w_NEAR, ev_NEAR⟩ := exa_v nl7
  have E_NEAR : Exa s s.heap w_NEAR "com/example/crossfind/crossfind/core/Evidence$Agreement" := Exa.start ev_NEAR nl7
  have S_NEAR : Sta s s.heap "com/example/crossfind/crossfind/core/Evidence$Agreement" "NEAR" "Lcom/example/crossfind/crossfind/core/Evidence$Agreement;" (.ref w_NEAR) := Sta.start ev_NEAR (Or.inr ⟨(hw _ (List.mem_of_getElem? (i := 5) rfl)), (hw _ (List.mem_of_getElem? (i := 21) rfl))⟩)
  have O_SAME_ordinal : Fld s s.heap w_SAME "java/lang/Enum" "ordinal" "I" (.int (0 : Int32)) := Fld.start ((fld_at ev_SAME).symm.trans (own_eqint nl3))
  have O_DIFFERENT_ordinal : Fld s s.heap w_DIFFERENT "java/lang/Enum" "ordinal" "I" (.int (3 : Int32)) := Fld.start ((fld_at ev_DIFFERENT).symm.trans (own_eqint nl4))
  have O_CLOSE_ordinal : Fld s s.heap w_CLOSE "java/lang/Enum" "ordinal" "I" (.int (2 : Int32)) := Fld.start ((fld_at ev_CLOSE).symm.trans (own_eqint nl6))
  have O_NEAR_ordinal : Fld s s.heap w_NEAR "java/lang/Enum" "ordinal" "I" (.int (1 : Int32)) := Fld.start ((fld_at ev_NEAR).symm.trans (own_eqint nr7))
  obtain ⟨n, o, h1, h2, h3, _, L, rfl, ⟨rfl, N⟩, hq⟩ := rm0 l s _ hw tables_1 i0 w_SAME w_NEAR w_CLOSE w_DIFFERENT s.heap s.heap.size (Nat.le_refl _) S_SAME S_NEAR S_CLOSE S_DIFFERENT E_SAME E_NEAR E_CLOSE E_DIFFERENT (own_fldne O_SAME_ordinal O_DIFFERENT_ordinal (by decide)) (own_fldne O_NEAR_ordinal O_DIFFERENT_ordinal (by decide)) (own_fldne O_CLOSE_ordinal O_DIFFERENT_ordinal (by decide)) p e ha hc hk s m _ below hf ((Spec.applies_iff_loose hf).mp happ).1 ⟨rfl, State.Warmed39.refl s, rfl⟩ trivial
  refine ⟨n, _, h1, h2, h3, hpost _ _ _ _ _ _ ⟨Cond.after_iff.mpr rfl, Cond.after_iff.mpr (eq_i res_at (Term.int_eval (1)) rfl), trivial⟩ ⟨hq.1, hq.2.1, (hq.2.2.sift fun y hy => Or.inr (N y hy)).mono (by decide) (by decide)⟩⟩
theorem main_1_1 : Claimed_1_1 := comes_1 fun _ _ _ _ _ _ h hF => ⟨h.1, hF⟩
theorem main_1_2 : Claimed_1_2 := comes_1 fun _ _ _ _ _ _ h hF => ⟨h.2.1, hF⟩
end Jvm.Pilot.@@N@@
namespace Jvm.Pilot.@@N@@
open Jvm Jvm.ClassFile Sem Op Lib Jvm.Free Jvm.Stand Jvm.Pilot.@@N@@.Jvm.D
/-! MADE BY PROGRAM (witnessworld.py) out of the Statement's table words and the real class files: 12 classes; the members and pool entries that the words name. The judged class is class 1, her method 3. -/
namespace start1
open Jvm.ClassFile
def u (s : String) : CpInfo := .utf8 (stringToUtf16 s)
/-- a pool by its gaps: so many unusable entries, then the entry; so many at the end -/
def gap : Nat → List CpInfo → List CpInfo
  | 0, r => r
  | n + 1, r => .unusable :: gap n r
def poolList (es : List (Nat × CpInfo)) (last : Nat) : List CpInfo := es.foldr (fun e r => gap e.1 (e.2 :: r)) (gap last [])
def pool (es : List (Nat × CpInfo)) (last : Nat) : Array CpInfo := ⟨poolList es last⟩
def fileOf (pool : Array CpInfo) (this : Nat) (attrs : Array Attribute := #[]) (ms : Array MethodInfo := #[]) (fl : Nat := 33) (sup : Nat := 0) (ifs : Array Nat := #[]) (fds : Array FieldInfo := #[]) : ClassFile where
  minorVersion := 0
  majorVersion := 65
  constantPool := pool
  accessFlags := fl
  thisClass := this
  superClass := sup
  interfaces := ifs
  fields := fds
  methods := ms
  attributes := attrs
def plain (name : String) (sup : Option ClassId) : Class where
  name := name
  kind := .ordinary
  loader := none
  accessFlags := 33
  super := sup
  interfaces := #[]
  cf := none
  fields := #[]
  methods := #[]
  instanceTypes := #[]
  staticTypes := #[]
  resolved := #[]
  callSites := []
  init := .initialized
  statics := none
  mirror := none

def pool0 : Array CpInfo := pool [(5, u "<init>"), (0, u "()V"), (1, .class_ 10), (1, u "java/lang/Object")] 113

def k0m0 : Method := { name := "<init>", desc := "()V", sig := { parameters := [], returnType := none }, accessFlags := 1, code := none }
/-- java/lang/Object -/
def k0 : Class := { plain "java/lang/Object" none with
  accessFlags := 33
  interfaces := #[]
  cf := some (fileOf pool0 8 #[] #[{ accessFlags := 1, nameIndex := 5, descriptorIndex := 6, attributes := #[] }] 33 0 #[] #[])
  fields := #[]
  methods := #[k0m0]
  instanceTypes := #[]
  staticTypes := #[]
  resolved := Array.replicate 124 none
  statics := none }

def pool1 : Array CpInfo := pool [(2, .class_ 4), (1, u "java/lang/Object"), (0, u "<init>"), (0, u "()V"), (0, .fieldref 8 9), (0, .class_ 10), (0, .nameAndType 11 12), (0, u "com/example/crossfind/crossfind/core/Evidence$Agreement"), (0, u "SAME"), (0, u "Lcom/example/crossfind/crossfind/core/Evidence$Agreement;"), (0, .fieldref 8 14), (0, .nameAndType 15 12), (0, u "NEAR"), (0, .fieldref 8 17), (0, .nameAndType 18 12), (0, u "CLOSE"), (0, .fieldref 8 20), (0, .nameAndType 21 12), (0, u "DIFFERENT"), (0, .methodref 23 24), (0, .class_ 25), (0, .nameAndType 26 27), (0, u "com/example/crossfind/crossfind/core/AgreementAgreesPinLaw"), (0, u "pick"), (0, u "(I)Lcom/example/crossfind/crossfind/core/Evidence$Agreement;"), (0, .methodref 8 29), (0, .nameAndType 30 31), (0, u "agrees"), (0, u "()Z"), (0, .methodref 23 33), (0, .nameAndType 34 35), (0, u "expected"), (0, u "(I)Z"), (3, u "law")] 6

def k1m0 : Method := { name := "<init>", desc := "()V", sig := { parameters := [], returnType := none }, accessFlags := 2, code := none }
def k1c1 : Code := { maxStack := 2, maxLocals := 1, code := method_2_code, exceptionTable := #[], attributes := #[] }
def k1m1 : Method := { name := "pick", desc := "(I)Lcom/example/crossfind/crossfind/core/Evidence$Agreement;", sig := { parameters := [.int], returnType := some (.object "com/example/crossfind/crossfind/core/Evidence$Agreement") }, accessFlags := 10, code := some k1c1 }
def k1c2 : Code := { maxStack := 2, maxLocals := 1, code := method_3_code, exceptionTable := #[], attributes := #[] }
def k1m2 : Method := { name := "expected", desc := "(I)Z", sig := { parameters := [.int], returnType := some .boolean }, accessFlags := 10, code := some k1c2 }
def k1c3 : Code := { maxStack := 2, maxLocals := 3, code := code, exceptionTable := #[], attributes := #[] }
def k1m3 : Method := { name := "law", desc := "(I)Z", sig := { parameters := [.int], returnType := some .boolean }, accessFlags := 9, code := some k1c3 }
/-- com/example/crossfind/crossfind/core/AgreementAgreesPinLaw -/
def k1 : Class := { plain "com/example/crossfind/crossfind/core/AgreementAgreesPinLaw" (some 0) with
  accessFlags := 49
  interfaces := #[]
  cf := some (fileOf pool1 23 #[] #[{ accessFlags := 2, nameIndex := 5, descriptorIndex := 6, attributes := #[] }, { accessFlags := 10, nameIndex := 26, descriptorIndex := 27, attributes := #[] }, { accessFlags := 10, nameIndex := 34, descriptorIndex := 35, attributes := #[] }, { accessFlags := 9, nameIndex := 39, descriptorIndex := 35, attributes := #[] }] 49 2 #[] #[])
  fields := #[]
  methods := #[k1m0, k1m1, k1m2, k1m3]
  instanceTypes := #[]
  staticTypes := #[]
  resolved := Array.replicate 46 none
  statics := none }

def pool2 : Array CpInfo := pool [(1, .class_ 2), (0, u "java/lang/constant/Constable"), (0, .class_ 4), (0, u "java/lang/Object")] 6

/-- java/lang/constant/Constable -/
def k2 : Class := { plain "java/lang/constant/Constable" (some 0) with
  accessFlags := 1537
  interfaces := #[]
  cf := some (fileOf pool2 1 #[] #[] 1537 3 #[] #[])
  fields := #[]
  methods := #[]
  instanceTypes := #[]
  staticTypes := #[]
  resolved := Array.replicate 11 none
  statics := none }

def pool3 : Array CpInfo := pool [(1, .class_ 2), (0, u "java/lang/Comparable"), (0, .class_ 4), (0, u "java/lang/Object")] 7

/-- java/lang/Comparable -/
def k3 : Class := { plain "java/lang/Comparable" (some 0) with
  accessFlags := 1537
  interfaces := #[]
  cf := some (fileOf pool3 1 #[] #[] 1537 3 #[] #[])
  fields := #[]
  methods := #[]
  instanceTypes := #[]
  staticTypes := #[]
  resolved := Array.replicate 12 none
  statics := none }

def pool4 : Array CpInfo := pool [(1, .class_ 2), (0, u "java/io/Serializable"), (0, .class_ 4), (0, u "java/lang/Object")] 2

/-- java/io/Serializable -/
def k4 : Class := { plain "java/io/Serializable" (some 0) with
  accessFlags := 1537
  interfaces := #[]
  cf := some (fileOf pool4 1 #[] #[] 1537 3 #[] #[])
  fields := #[]
  methods := #[]
  instanceTypes := #[]
  staticTypes := #[]
  resolved := Array.replicate 7 none
  statics := none }

def pool5 : Array CpInfo := pool [(2, .class_ 4), (1, u "java/lang/Enum"), (0, u "name"), (0, u "Ljava/lang/String;"), (2, u "ordinal"), (0, u "I"), (1, .class_ 14), (1, u "java/lang/Object"), (4, u "hash"), (86, .class_ 108), (1, u "java/lang/Enum$EnumDesc"), (2, .class_ 112), (0, u "java/lang/constant/Constable"), (0, .class_ 114), (0, u "java/lang/Comparable"), (0, .class_ 116), (0, u "java/io/Serializable")] 87

/-- java/lang/Enum -/
def k5 : Class := { plain "java/lang/Enum" (some 0) with
  accessFlags := 1057
  interfaces := #[2, 3, 4]
  cf := some (fileOf pool5 2 #[.nestMembers #[106]] #[] 1057 12 #[111, 113, 115] #[{ accessFlags := 18, nameIndex := 5, descriptorIndex := 6, attributes := #[] }, { accessFlags := 18, nameIndex := 9, descriptorIndex := 10, attributes := #[] }, { accessFlags := 2, nameIndex := 19, descriptorIndex := 10, attributes := #[] }])
  fields := #[{ name := "name", type := (.object "java/lang/String"), accessFlags := 18, slot := 0, constantValue := 0 }, { name := "ordinal", type := .int, accessFlags := 18, slot := 1, constantValue := 0 }, { name := "hash", type := .int, accessFlags := 2, slot := 2, constantValue := 0 }]
  methods := #[]
  instanceTypes := #[(.object "java/lang/String"), .int, .int]
  staticTypes := #[]
  resolved := Array.replicate 204 none
  statics := none }

def pool6 : Array CpInfo := pool [(1, .class_ 2), (0, u "com/example/crossfind/crossfind/core/Evidence$Agreement"), (2, u "SAME"), (0, u "Lcom/example/crossfind/crossfind/core/Evidence$Agreement;"), (2, u "NEAR"), (2, u "CLOSE"), (0, .fieldref 1 14), (0, .nameAndType 15 6), (0, u "DIFFERENT"), (2, u "$VALUES"), (0, u "[Lcom/example/crossfind/crossfind/core/Evidence$Agreement;"), (6, .class_ 28), (1, u "java/lang/Enum"), (22, u "agrees"), (0, u "()Z"), (6, .class_ 60), (0, u "com/example/crossfind/crossfind/core/Evidence")] 2

def k6c0 : Code := { maxStack := 2, maxLocals := 1, code := prog_8_method_4_code, exceptionTable := #[], attributes := #[] }
def k6m0 : Method := { name := "agrees", desc := "()Z", sig := { parameters := [], returnType := some .boolean }, accessFlags := 0, code := some k6c0 }
/-- com/example/crossfind/crossfind/core/Evidence$Agreement -/
def k6 : Class := { plain "com/example/crossfind/crossfind/core/Evidence$Agreement" (some 5) with
  accessFlags := 16432
  interfaces := #[]
  cf := some (fileOf pool6 1 #[.nestHost 59] #[{ accessFlags := 0, nameIndex := 51, descriptorIndex := 52, attributes := #[] }] 16432 26 #[] #[{ accessFlags := 16409, nameIndex := 5, descriptorIndex := 6, attributes := #[] }, { accessFlags := 16409, nameIndex := 9, descriptorIndex := 6, attributes := #[] }, { accessFlags := 16409, nameIndex := 12, descriptorIndex := 6, attributes := #[] }, { accessFlags := 16409, nameIndex := 15, descriptorIndex := 6, attributes := #[] }, { accessFlags := 4122, nameIndex := 18, descriptorIndex := 19, attributes := #[] }])
  fields := #[{ name := "SAME", type := (.object "com/example/crossfind/crossfind/core/Evidence$Agreement"), accessFlags := 16409, slot := 0, constantValue := 0 }, { name := "NEAR", type := (.object "com/example/crossfind/crossfind/core/Evidence$Agreement"), accessFlags := 16409, slot := 1, constantValue := 0 }, { name := "CLOSE", type := (.object "com/example/crossfind/crossfind/core/Evidence$Agreement"), accessFlags := 16409, slot := 2, constantValue := 0 }, { name := "DIFFERENT", type := (.object "com/example/crossfind/crossfind/core/Evidence$Agreement"), accessFlags := 16409, slot := 3, constantValue := 0 }, { name := "$VALUES", type := (.array (.object "com/example/crossfind/crossfind/core/Evidence$Agreement")), accessFlags := 4122, slot := 4, constantValue := 0 }]
  methods := #[k6m0]
  instanceTypes := #[(.object "java/lang/String"), .int, .int]
  staticTypes := #[(.object "com/example/crossfind/crossfind/core/Evidence$Agreement"), (.object "com/example/crossfind/crossfind/core/Evidence$Agreement"), (.object "com/example/crossfind/crossfind/core/Evidence$Agreement"), (.object "com/example/crossfind/crossfind/core/Evidence$Agreement"), (.array (.object "com/example/crossfind/crossfind/core/Evidence$Agreement"))]
  resolved := Array.replicate 63 none
  statics := some 0 }

def pool7 : Array CpInfo := pool [(1, u "java/lang/Cloneable"), (0, .class_ 1), (0, u "java/lang/Object"), (0, .class_ 3)] 3

/-- java/lang/Cloneable -/
def k7 : Class := { plain "java/lang/Cloneable" (some 0) with
  accessFlags := 1537
  interfaces := #[]
  cf := some (fileOf pool7 2 #[] #[] 1537 4 #[] #[])
  fields := #[]
  methods := #[]
  instanceTypes := #[]
  staticTypes := #[]
  resolved := Array.replicate 8 none
  statics := none }

/-- the primitive byte -/
def k8 : Class := { plain "byte" none with kind := .primitive 'B', accessFlags := 0x411 }
/-- [B -/
def k9 : Class := { plain "[B" (some 0) with kind := .array 8 .byte, interfaces := #[7, 4], accessFlags := 1041 }

/-- the primitive int -/
def k10 : Class := { plain "int" none with kind := .primitive 'I', accessFlags := 0x411 }
/-- [I -/
def k11 : Class := { plain "[I" (some 0) with kind := .array 10 .int, interfaces := #[7, 4], accessFlags := 1041 }

def heap : Heap := #[{ cls := 6, slots := #[.ref 1, .ref 2, .ref 3, .ref 4, .null], vm := .statics 6 },
  { cls := 6, slots := #[.null, .int 0, .int 0], vm := .none },
  { cls := 6, slots := #[.null, .int 1, .int 0], vm := .none },
  { cls := 6, slots := #[.null, .int 2, .int 0], vm := .none },
  { cls := 6, slots := #[.null, .int 3, .int 0], vm := .none }]
def classes : Array Class := #[k0, k1, k2, k3, k4, k5, k6, k7, k8, k9, k10, k11]
def interned : List (Array UInt16 × Addr) := []
def slotsUsed : Nat := 17
def theMethod : MethodId := ⟨1, 3⟩
def args0 : Array Value := #[.int 5]
def aboutOver (below : List Frame) : State where
  vm := { classes := classes, interned := interned.toArray }
  heap := heap
  slotsUsed := slotsUsed
  threads := #[{ frames := .invoking theMethod args0 :: below }]
def below0 : List Frame := [.native { method := ⟨0, 0⟩, args := #[] }]
def about1 : State := aboutOver below0
def p0 : Program := .bare "" "" ""
def e0 : Env := launch0.env 0 0 0
theorem w_frames : about1.frames = Frame.invoking theMethod args0 :: below0 := rfl
set_option maxRecDepth 65536 in
theorem w_args : argsFit about1.vm theMethod args0 = true := by decide +kernel
set_option maxRecDepth 65536 in
theorem w_heap : heapFits about1 = true := by decide +kernel
set_option maxRecDepth 65536 in
theorem w_runnable : about1.curStatus? = some .runnable := by decide +kernel
set_option maxRecDepth 65536 in
theorem w_alone : about1.alone = true := by decide +kernel
set_option maxRecDepth 65536 in
theorem w_named : about1.methodNamed? x = some theMethod := by decide +kernel
set_option maxRecDepth 65536 in
theorem w_hears : about1.hears theMethod below0 = true := by decide +kernel
set_option maxRecDepth 65536 in
theorem w_ripe : about1.ripe theMethod args0 below0 = true := by decide +kernel
theorem w_running : about1.status = .running := rfl
set_option maxRecDepth 65536 in
theorem w_room : about1.hasRoom e0.platform room_1 = true :=
  launch0.hasRoom_least _ room_1 (by decide +kernel) (by decide +kernel) (by decide +kernel) (by decide +kernel) (by decide +kernel) (by decide +kernel)
theorem allAtoms_all (ts : List Jvm.Cond) (a : Array Jvm.Value) (st : Jvm.State) : (allAtoms ts).before a st = ts.all (fun c => c.before a st) := by
  induction ts with
  | nil => rfl
  | cons c t ih =>
    show (Jvm.Cond.and c (allAtoms t)).before a st = _
    rw [Jvm.Cond.before_and, ih, List.all_cons]
def words1 : List Jvm.Cond := Jvm.Cond.code x code maxLocals ret :: tables_1
/-- a 'code' word, met by the world's own term for the bytes: nothing is compared byte by byte -/
theorem code_word {y : MethodName} {bytes : ByteArray} {mx : Nat} {rt : Option FieldType} {a : Array Value} {s : State} {m : MethodId} {meth : Method} {c : Code} (h1 : s.methodNamed? y = some m) (h2 : s.vm.method? m = some meth) (h3 : meth.code = some c) (h4 : c.code = bytes)
    (h5 : (c.maxLocals == mx && c.exceptionTable.isEmpty && decide (c.maxStack ≤ mostOperands) && decide (meth.sig.returnType = rt) && !meth.locks && decide (parseMethodDescriptor y.desc = some meth.sig)) = true) : (Jvm.Cond.code y bytes mx rt).before a s = true := by
  simp only [Bool.and_eq_true, beq_iff_eq, Bool.not_eq_true', decide_eq_true_eq] at h5
  obtain ⟨⟨⟨⟨⟨g1, g2⟩, g3⟩, g4⟩, g5⟩, g6⟩ := h5
  simp [Cond.before, Cond.holds, Cond.value, h1, h2, h3, h4, g1, g2, g3, g4, g5, g6]
def isCode : Jvm.Cond → Bool
  | .code _ _ _ _ => true
  | _ => false
theorem all_split {L : List Jvm.Cond} {P : Jvm.Cond → Bool} (h1 : L.all (fun c => isCode c || P c) = true) (h2 : ∀ c ∈ L.filter isCode, P c = true) : L.all P = true := by
  refine List.all_eq_true.mpr fun c hc => ?_
  have h := List.all_eq_true.mp h1 c hc
  rcases Bool.eq_false_or_eq_true (isCode c) with hi | hi
  · exact h2 c (List.mem_filter.mpr ⟨hc, hi⟩)
  · simpa [hi] using h
set_option maxRecDepth 65536 in
theorem w_c0 : (Jvm.Cond.code x code maxLocals ret).before args0 about1 = true := code_word (m := ⟨1, 3⟩) (meth := k1m3) (c := k1c3) (by decide +kernel) rfl rfl rfl (by decide +kernel)
set_option maxRecDepth 65536 in
theorem w_c1 : (Jvm.Cond.code ({ cls := "com/example/crossfind/crossfind/core/AgreementAgreesPinLaw", name := "pick", desc := "(I)Lcom/example/crossfind/crossfind/core/Evidence$Agreement;" } : Jvm.MethodName) method_2_code (1 : Nat) (Option.some (Jvm.ClassFile.FieldType.object "com/example/crossfind/crossfind/core/Evidence$Agreement"))).before args0 about1 = true := code_word (m := ⟨1, 1⟩) (meth := k1m1) (c := k1c1) (by decide +kernel) rfl rfl rfl (by decide +kernel)
set_option maxRecDepth 65536 in
theorem w_c2 : (Jvm.Cond.code ({ cls := "com/example/crossfind/crossfind/core/Evidence$Agreement", name := "agrees", desc := "()Z" } : Jvm.MethodName) prog_8_method_4_code (1 : Nat) (Option.some Jvm.ClassFile.FieldType.boolean)).before args0 about1 = true := code_word (m := ⟨6, 0⟩) (meth := k6m0) (c := k6c0) (by decide +kernel) rfl rfl rfl (by decide +kernel)
set_option maxRecDepth 65536 in
theorem w_c3 : (Jvm.Cond.code ({ cls := "com/example/crossfind/crossfind/core/AgreementAgreesPinLaw", name := "expected", desc := "(I)Z" } : Jvm.MethodName) method_3_code (1 : Nat) (Option.some Jvm.ClassFile.FieldType.boolean)).before args0 about1 = true := code_word (m := ⟨1, 2⟩) (meth := k1m2) (c := k1c2) (by decide +kernel) rfl rfl rfl (by decide +kernel)
def codes1 : List Jvm.Cond := [Jvm.Cond.code x code maxLocals ret, Jvm.Cond.code ({ cls := "com/example/crossfind/crossfind/core/AgreementAgreesPinLaw", name := "pick", desc := "(I)Lcom/example/crossfind/crossfind/core/Evidence$Agreement;" } : Jvm.MethodName) method_2_code (1 : Nat) (Option.some (Jvm.ClassFile.FieldType.object "com/example/crossfind/crossfind/core/Evidence$Agreement")), Jvm.Cond.code ({ cls := "com/example/crossfind/crossfind/core/Evidence$Agreement", name := "agrees", desc := "()Z" } : Jvm.MethodName) prog_8_method_4_code (1 : Nat) (Option.some Jvm.ClassFile.FieldType.boolean), Jvm.Cond.code ({ cls := "com/example/crossfind/crossfind/core/AgreementAgreesPinLaw", name := "expected", desc := "(I)Z" } : Jvm.MethodName) method_3_code (1 : Nat) (Option.some Jvm.ClassFile.FieldType.boolean)]
set_option maxRecDepth 65536 in
theorem codes_eq : words1.filter isCode = codes1 := rfl
theorem w_codes : ∀ c ∈ words1.filter isCode, c.before args0 about1 = true := by
  rw [codes_eq]
  intro c hc
  simp only [codes1, List.mem_cons, List.not_mem_nil, or_false] at hc
  rcases hc with rfl | rfl | rfl | rfl
  · exact w_c0
  · exact w_c1
  · exact w_c2
  · exact w_c3
set_option maxRecDepth 65536 in
theorem w_t1 : words1.all (fun c => isCode c || c.before args0 about1) = true := by decide +kernel
theorem w_tables : (allAtoms (Jvm.Cond.code x code maxLocals ret :: tables_1)).before args0 about1 = true := by
  rw [allAtoms_all]
  show words1.all (fun c => c.before args0 about1) = true
  refine all_split ?_ w_codes
  rw [w_t1]
set_option maxRecDepth 65536 in
theorem w_case : (Jvm.Cond.and given_1 narrow_1).before args0 about1 = true := by decide +kernel
theorem w_applies : (headSpec (Jvm.Cond.code x code maxLocals ret :: tables_1) room_1).applies x e0.platform about1 = true :=
  (Spec.applies_iff w_frames).mpr ⟨w_running, w_runnable, w_alone, w_named, w_hears, w_ripe, w_room, w_tables⟩
theorem atStart : AtStart classFile x code maxLocals ret World_1 tables_1 room_1 Calls_1 rest_1 Pre_1 launch0 p0 e0 about1 theMethod args0 below0 :=
  ⟨lists_1, trivial, launch0.admits_env _ _ _, launch0.least_env, fairChoices_fair.cas, fairChoices_fair.clock, w_frames, w_args, w_heap, w_applies, trivial, trivial, w_case⟩
end start1
theorem witness_1 : WitnessClaimed_1 := ⟨start1.p0, start1.e0, start1.about1, start1.theMethod, start1.args0, start1.below0, start1.atStart⟩
end Jvm.Pilot.@@N@@
