import JvmDerived
import JvmDerived.Pilot.@@N@@Statement
import JvmDerived.Pilot.@@N@@Code
set_option linter.unusedVariables false
set_option linter.unusedSimpArgs false
@@BLOCK:NumsL.lean.txt@@
namespace Jvm.RoadKit
open Sem ClassFile Op Lib Jvm.Stand Jvm.Free Jvm.LawKit
section New
variable {p : Program} {l : Launch} {e : Env} {R : Room} {s : State} {m : MethodId} {args : Array Value} {below : List Frame} {meth : Method} {c : Code} {T : State} {locs : List Loc} {cells slots : Nat}
theorem retI (X : Stand p l e R s m args below meth c T locs cells slots) (hx : p.tables.exec = Jvm.exec) {pc : Nat} {Ls : Array Slot} {z : Int32} {rest : List Value} (hret : meth.sig.returnType = some .int) (hd : decode c.code pc = .ok (.ireturn, 1)) {fs : List Frame}
    (hl : ∀ (f : JFrame) (acts : List Action), f.method = m → f.locked = none → f.entered = [] → (doReturn e (T.setTop f) acts (some (.int z))).1 = T.setFrames fs) : Steps p.tables e below (T.setTop (mkF m pc Ls (.int z :: rest))) (T.setFrames fs) := by
  have hm' : T.vm.method? m = some meth := X.method'
  have hn : narrow .int (.int z) = .int z := rfl
  show Steps p.tables e below (T.setTop { method := m, pc := pc, locals := Ls, stack := _ :: rest, locked := none }) _
  jvm_step X.here [X.here.top, hx, hd, hm', hret, hn]
  first | (intro acts; rw [hl _ acts rfl rfl rfl]) | rw [hl _ _ rfl rfl rfl]
  exact Steps.refl _
theorem retA (X : Stand p l e R s m args below meth c T locs cells slots) (hx : p.tables.exec = Jvm.exec) {pc : Nat} {Ls : Array Slot} {z : Value} {t : FieldType} {rest : List Value} (hret : meth.sig.returnType = some t) (ht : t.isReference = true) (hz : z.isRef = true) (hd : decode c.code pc = .ok (.areturn, 1)) {fs : List Frame}
    (hl : ∀ (f : JFrame) (acts : List Action), f.method = m → f.locked = none → f.entered = [] → (doReturn e (T.setTop f) acts (some z)).1 = T.setFrames fs) : Steps p.tables e below (T.setTop (mkF m pc Ls (z :: rest))) (T.setFrames fs) := by
  have hm' : T.vm.method? m = some meth := X.method'
  show Steps p.tables e below (T.setTop { method := m, pc := pc, locals := Ls, stack := _ :: rest, locked := none }) _
  jvm_step X.here [X.here.top, hx, hd, hm', hret, ht, hz]
  first | (intro acts; rw [hl _ acts rfl rfl rfl]) | rw [hl _ _ rfl rfl rfl]
  exact Steps.refl _
end New
end Jvm.RoadKit
namespace Jvm.Pilot.@@N@@
open Jvm Jvm.ClassFile Sem Op Lib Jvm.Free Jvm.Stand Jvm.LawKit Jvm.RoadKit Bundle Jvm.Pilot.@@N@@.Jvm.D
theorem own_tab {x : Int32} {k : Int} (h : ¬ x = Int32.ofInt k) (h1 : -2147483648 ≤ k) (h2 : k < 2147483648) : x.toInt ≠ k := fun q => h (by rw [← q]; exact (Int32.ofInt_toInt x).symm)
def own_bn : Nat → Nat → Nat
  | _, 0 => 1
  | 0, _ + 1 => 0
  | n + 1, k + 1 => own_bn n k + own_bn n (k + 1)
theorem own_bn_zero (n : Nat) : own_bn n 0 = 1 := by cases n <;> rfl
theorem own_bn_succ (n k : Nat) : own_bn (n + 1) (k + 1) = own_bn n k + own_bn n (k + 1) := rfl
theorem own_bn_gt (n : Nat) : ∀ k, n < k → own_bn n k = 0 := by
  induction n with
  | zero => intro k h; cases k with | zero => omega | succ k => rfl
  | succ n ih => intro k h; cases k with | zero => omega | succ k => rw [own_bn_succ, ih k (by omega), ih (k + 1) (by omega)]
theorem own_bn_self (n : Nat) : own_bn n n = 1 := by
  induction n with
  | zero => rfl
  | succ n ih => rw [own_bn_succ, ih, own_bn_gt n (n + 1) (by omega)]
theorem own_bn_mul (n : Nat) : ∀ k, (k + 1) * own_bn (n + 1) (k + 1) = (n + 1) * own_bn n k := by
  induction n with
  | zero =>
    intro k
    cases k with
    | zero => rfl
    | succ k => show (k + 1 + 1) * 0 = 1 * 0; omega
  | succ n ih =>
    intro k
    cases k with
    | zero =>
      have := ih 0
      rw [own_bn_zero] at this
      rw [own_bn_succ (n + 1) 0, own_bn_zero, Nat.mul_add, this]; omega
    | succ k =>
      have a := ih k
      have b := ih (k + 1)
      have e : own_bn (n + 1) (k + 1) = own_bn n k + own_bn n (k + 1) := rfl
      have x1 : (k + 1 + 1) * own_bn (n + 1) (k + 1) = (k + 1) * own_bn (n + 1) (k + 1) + own_bn (n + 1) (k + 1) := Nat.succ_mul _ _
      have x2 : (n + 1 + 1) * own_bn (n + 1) (k + 1) = (n + 1) * own_bn (n + 1) (k + 1) + own_bn (n + 1) (k + 1) := Nat.succ_mul _ _
      rw [own_bn_succ (n + 1) (k + 1), Nat.mul_add, b, x1, a, x2, e, Nat.mul_add]
      omega
theorem own_bn_mono (v i : Nat) : ∀ j, own_bn (v + i) i ≤ own_bn (v + (i + j)) (i + j) := by
  intro j
  induction j with
  | zero => exact Nat.le_refl _
  | succ j ih => exact Nat.le_trans ih (Nat.le_add_right _ _)
theorem own_bn_pascal (v i : Nat) : own_bn (v + 1 + (i + 1)) (i + 1) = own_bn (v + 1 + i) i + own_bn (v + (i + 1)) (i + 1) := by
  have : v + 1 + (i + 1) = (v + 1 + i) + 1 := by omega
  rw [this, own_bn_succ]
  have : v + 1 + i = v + (i + 1) := by omega
  rw [this]
def own_cnt : Nat → Int32 → Int32 → Int64 → Int32 → Int32
  | 0, _, _, c, _ => c.toInt32
  | k + 1, d, v, c, i => if i < d then (if (2147483647 : Int64) < ((c * ((v + i).toInt64)) / (i.toInt64)) then (-1 : Int32) else own_cnt k d v ((c * ((v + i).toInt64)) / (i.toInt64)) (i + 1)) else c.toInt32
theorem own_le_mul {a b : Nat} (ha : a ≤ 2147483647) (hb : b ≤ 2147483647) : a * b ≤ 2147483647 * 2147483647 := Nat.mul_le_mul ha hb
theorem own_turn (v i : Int32) (c : Int64) (V I : Nat) (hv : v.toInt = V) (hi : i.toInt = (I : Int) + 1) (hc : c.toInt = (own_bn (V + I) I : Int)) (hb : own_bn (V + I) I ≤ 2147483647) (hs : V + I + 1 ≤ 2147483647) :
    ((c * ((v + i).toInt64)) / (i.toInt64)).toInt = (own_bn (V + (I + 1)) (I + 1) : Int) := by
  have e1 : (v + i).toInt = (V + I + 1 : Nat) := by rw [Jvm.Kit.i32_add (by omega) (by omega)]; omega
  have e2 : (v + i).toInt64.toInt = (V + I + 1 : Nat) := by rw [Int32.toInt_toInt64]; exact e1
  have e3 : i.toInt64.toInt = (I + 1 : Nat) := by rw [Int32.toInt_toInt64, hi]; rfl
  have hm := own_le_mul hb hs
  have m1 : (own_bn (V + I) I : Int) * ((V + I + 1 : Nat) : Int) = ((own_bn (V + I) I * (V + I + 1) : Nat) : Int) := (Int.natCast_mul _ _).symm
  have e4 : (c * (v + i).toInt64).toInt = ((own_bn (V + I) I * (V + I + 1) : Nat) : Int) := by
    rw [Jvm.Kit.i64_mul (by rw [hc, e2, m1]; omega) (by rw [hc, e2, m1]; omega), hc, e2, m1]
  have m2 : own_bn (V + I) I * (V + I + 1) = (I + 1) * own_bn (V + (I + 1)) (I + 1) := by
    have := own_bn_mul (V + I) I
    rw [show V + (I + 1) = V + I + 1 by omega, this, Nat.mul_comm]
  rw [Jvm.Kit.i64_div (by rw [e3]; omega), e4, e3, m2, Int.natCast_mul, Int.mul_tdiv_cancel_left _ (by omega)]
theorem own_cnt_spec (k : Nat) : ∀ (d v i : Int32) (c : Int64) (N V I : Nat), d.toInt = (N : Int) + 1 → v.toInt = V → i.toInt = (I : Int) + 1 → c.toInt = (own_bn (V + I) I : Int) → own_bn (V + I) I ≤ 2147483647 → V + N ≤ 2147483647 → I ≤ N → N ≤ I + k →
    (own_cnt k d v c i).toInt = if own_bn (V + N) N ≤ 2147483647 then (own_bn (V + N) N : Int) else -1 := by
  induction k with
  | zero =>
    intro d v i c N V I hd hv hi hc hb hs h1 h2
    obtain rfl : I = N := by omega
    rw [if_pos hb, ← hc]
    exact Jvm.Kit.i32_of_i64 (by omega) (by omega)
  | succ k ih =>
    intro d v i c N V I hd hv hi hc hb hs h1 h2
    unfold own_cnt
    by_cases q : i < d
    · rw [if_pos q]
      rw [Int32.lt_iff_toInt_lt] at q
      have ht := own_turn v i c V I hv hi hc hb (by omega)
      by_cases r : (2147483647 : Int64) < ((c * ((v + i).toInt64)) / (i.toInt64))
      · rw [if_pos r]
        rw [Int64.lt_iff_toInt_lt, ht, show (2147483647 : Int64).toInt = 2147483647 from rfl] at r
        have hm := own_bn_mono V (I + 1) (N - (I + 1))
        rw [show I + 1 + (N - (I + 1)) = N by omega] at hm
        rw [if_neg (by omega)]; rfl
      · rw [if_neg r]
        rw [Int64.lt_iff_toInt_lt, ht, show (2147483647 : Int64).toInt = 2147483647 from rfl] at r
        have hdl := d.toInt_lt
        refine ih d v (i + 1) _ N V (I + 1) hd hv ?_ ht (by omega) hs (by omega) (by omega)
        rw [Jvm.Kit.i32_add (by rw [show (1 : Int32).toInt = 1 from rfl]; omega) (by rw [show (1 : Int32).toInt = 1 from rfl]; omega), hi, show (1 : Int32).toInt = 1 from rfl]
        omega
    · rw [if_neg q]
      rw [Int32.lt_iff_toInt_lt] at q
      obtain rfl : I = N := by omega
      rw [if_pos hb, ← hc]
      exact Jvm.Kit.i32_of_i64 (by omega) (by omega)
theorem own_count (d v : Int32) (N V : Nat) (hd : d.toInt = (N : Int) + 1) (hv : v.toInt = V) (hs : V + N ≤ 2147483647) (hk : N ≤ 64) : (own_cnt 64 d v 1 1).toInt = if own_bn (V + N) N ≤ 2147483647 then (own_bn (V + N) N : Int) else -1 :=
  own_cnt_spec 64 d v 1 1 N V 0 hd hv rfl (by rw [own_bn_zero]; rfl) (by rw [own_bn_zero]; omega) hs (by omega) (by omega)

theorem own_i64_ne {i : Int32} (h : 1 ≤ i.toInt) : i.toInt64 ≠ 0 := fun q => by
  have := Int32.toInt_toInt64 i
  rw [q, show (0 : Int64).toInt = 0 from rfl] at this; omega
theorem own_dim (p0 vd : Int32) (h : vd = ((1 : Int32) + (p0 &&& (63 : Int32)))) : 1 ≤ vd.toInt ∧ vd.toInt ≤ 64 := by
  have e := Jvm.Kit.i32_mask p0 63 (k := 6) (by decide) (by decide)
  have l1 : (1 : Int32).toInt = 1 := rfl
  rw [h, Jvm.Kit.i32_add (by rw [e, l1]; omega) (by rw [e, l1]; omega), e, l1]; omega
theorem own_dim1 (vd : Int32) (h : 1 ≤ vd.toInt ∧ vd.toInt ≤ 64) (q : ¬ vd = (1 : Int32)) : 1 ≤ (vd - (1 : Int32)).toInt ∧ (vd - (1 : Int32)).toInt ≤ 64 := by
  have l1 : (1 : Int32).toInt = 1 := rfl
  rw [← Int32.toInt_inj, l1] at q
  rw [Jvm.Kit.i32_sub (by rw [l1]; omega) (by rw [l1]; omega), l1]; omega
theorem own_start (p0 p1 vd vv : Int32) (hvd : vd = ((1 : Int32) + (p0 &&& (63 : Int32)))) (hvv : vv = (p1 &&& (2147483647 : Int32))) (hk : ¬ (2147483647 : Int64) < ((vv.toInt64 + vd.toInt64) - (1 : Int64))) :
    ∃ N V : Nat, vd.toInt = (N : Int) + 1 ∧ vv.toInt = V ∧ V + N ≤ 2147483647 ∧ N ≤ 64 := by
  have hB := own_dim p0 vd hvd
  have hv : vv.toInt = p1.toInt % 2 ^ 31 := by rw [hvv]; exact Jvm.Kit.i32_mask p1 2147483647 (k := 31) (by decide) (by decide)
  have e1 : vv.toInt64.toInt = vv.toInt := Int32.toInt_toInt64 vv
  have e2 : vd.toInt64.toInt = vd.toInt := Int32.toInt_toInt64 vd
  have l1 : (1 : Int64).toInt = 1 := rfl
  have e3 : (vv.toInt64 + vd.toInt64).toInt = vv.toInt + vd.toInt := by rw [Jvm.Kit.i64_add (by rw [e1, e2]; omega) (by rw [e1, e2]; omega), e1, e2]
  have e4 : ((vv.toInt64 + vd.toInt64) - (1 : Int64)).toInt = vv.toInt + vd.toInt - 1 := by rw [Jvm.Kit.i64_sub (by rw [e3, l1]; omega) (by rw [e3, l1]; omega), e3, l1]
  rw [Int64.lt_iff_toInt_lt, e4, show (2147483647 : Int64).toInt = 2147483647 from rfl] at hk
  exact ⟨(vd.toInt - 1).toNat, vv.toInt.toNat, by omega, by omega, by omega, by omega⟩
/-- the three counts of the law, Pascal's rule between them -/
theorem own_three (vd vv va vb vc : Int32) (N V : Nat) (hd : vd.toInt = (N : Int) + 1) (hv : vv.toInt = V) (hs : V + N ≤ 2147483647) (hk : N ≤ 64) (h1 : ¬ vd = (1 : Int32)) (h2 : ¬ vv = (0 : Int32)) (hc : vc = own_cnt 64 vd vv 1 1) (ha : va = own_cnt 64 vd (vv - (1 : Int32)) 1 1) (hb : vb = own_cnt 64 (vd - (1 : Int32)) vv 1 1) :
    ∃ A B : Nat, 0 < A ∧ 0 < B ∧ (vc.toInt = if A + B ≤ 2147483647 then ((A + B : Nat) : Int) else -1) ∧ (va.toInt = if A ≤ 2147483647 then (A : Int) else -1) ∧ (vb.toInt = if B ≤ 2147483647 then (B : Int) else -1) := by
  rw [← Int32.toInt_inj, show (1 : Int32).toInt = 1 from rfl] at h1
  rw [← Int32.toInt_inj, show (0 : Int32).toInt = 0 from rfl] at h2
  obtain ⟨n, rfl⟩ : ∃ n, N = n + 1 := ⟨N - 1, by omega⟩
  obtain ⟨u, rfl⟩ : ∃ u, V = u + 1 := ⟨V - 1, by omega⟩
  have l1 : (1 : Int32).toInt = 1 := rfl
  have e1 : (vv - (1 : Int32)).toInt = (u : Nat) := by rw [Jvm.Kit.i32_sub (by rw [l1]; omega) (by rw [l1]; omega), l1]; omega
  have e2 : (vd - (1 : Int32)).toInt = (n : Int) + 1 := by rw [Jvm.Kit.i32_sub (by rw [l1]; omega) (by rw [l1]; omega), l1]; omega
  have c1 := own_count vd vv (n + 1) (u + 1) hd hv hs hk
  have c2 := own_count vd (vv - 1) (n + 1) u hd e1 (by omega) hk
  have c3 := own_count (vd - 1) vv n (u + 1) e2 hv (by omega) (by omega)
  rw [← hc, own_bn_pascal] at c1
  rw [← ha] at c2
  rw [← hb] at c3
  have p1 : 0 < own_bn (u + (n + 1)) (n + 1) := by
    have := own_bn_mono u 0 (n + 1)
    rw [own_bn_zero, Nat.zero_add] at this; omega
  have p2 : 0 < own_bn (u + 1 + n) n := by
    have := own_bn_mono (u + 1) 0 n
    rw [own_bn_zero, Nat.zero_add] at this; omega
  exact ⟨_, _, p1, p2, by rw [c1, Nat.add_comm], c2, c3⟩

theorem d1_0 : decode prog_31_method_2_code 0 = .ok (.lconst 1, 1) := by decide +kernel
theorem d1_1 : decode prog_31_method_2_code 1 = .ok (.lstore_n 2, 1) := by decide +kernel
theorem d1_2 : decode prog_31_method_2_code 2 = .ok (.iconst 1, 1) := by decide +kernel
theorem d1_3 : decode prog_31_method_2_code 3 = .ok (.istore 4, 2) := by decide +kernel
theorem d1_5 : decode prog_31_method_2_code 5 = .ok (.iload 4, 2) := by decide +kernel
theorem d1_7 : decode prog_31_method_2_code 7 = .ok (.iload_n 0, 1) := by decide +kernel
theorem d1_8 : decode prog_31_method_2_code 8 = .ok (.if_icmp .ge 31, 3) := by decide +kernel
theorem d1_11 : decode prog_31_method_2_code 11 = .ok (.lload_n 2, 1) := by decide +kernel
theorem d1_12 : decode prog_31_method_2_code 12 = .ok (.iload_n 1, 1) := by decide +kernel
theorem d1_13 : decode prog_31_method_2_code 13 = .ok (.iload 4, 2) := by decide +kernel
theorem d1_15 : decode prog_31_method_2_code 15 = .ok (.iadd, 1) := by decide +kernel
theorem d1_16 : decode prog_31_method_2_code 16 = .ok (.i2l, 1) := by decide +kernel
theorem d1_17 : decode prog_31_method_2_code 17 = .ok (.lmul, 1) := by decide +kernel
theorem d1_18 : decode prog_31_method_2_code 18 = .ok (.iload 4, 2) := by decide +kernel
theorem d1_20 : decode prog_31_method_2_code 20 = .ok (.i2l, 1) := by decide +kernel
theorem d1_21 : decode prog_31_method_2_code 21 = .ok (.ldiv, 1) := by decide +kernel
theorem d1_22 : decode prog_31_method_2_code 22 = .ok (.lstore_n 2, 1) := by decide +kernel
theorem d1_23 : decode prog_31_method_2_code 23 = .ok (.lload_n 2, 1) := by decide +kernel
theorem d1_24 : decode prog_31_method_2_code 24 = .ok (.ldc2_w 54, 3) := by decide +kernel
theorem d1_27 : decode prog_31_method_2_code 27 = .ok (.lcmp, 1) := by decide +kernel
theorem d1_28 : decode prog_31_method_2_code 28 = .ok (.ifCond .le 5, 3) := by decide +kernel
theorem d1_31 : decode prog_31_method_2_code 31 = .ok (.iconst (-1), 1) := by decide +kernel
theorem d1_32 : decode prog_31_method_2_code 32 = .ok (.ireturn, 1) := by decide +kernel
theorem d1_33 : decode prog_31_method_2_code 33 = .ok (.iinc 4 1, 3) := by decide +kernel
theorem d1_36 : decode prog_31_method_2_code 36 = .ok (.goto (-31), 3) := by decide +kernel
theorem d1_39 : decode prog_31_method_2_code 39 = .ok (.lload_n 2, 1) := by decide +kernel
theorem d1_40 : decode prog_31_method_2_code 40 = .ok (.l2i, 1) := by decide +kernel
theorem d1_41 : decode prog_31_method_2_code 41 = .ok (.ireturn, 1) := by decide +kernel
theorem pn_rm1 : plainName "com/example/pareto_workflow_scheduler/paretoworkflowscheduler/algorithm/ReferencePoints" = true := by first | (simp [plainName, overriddenIn]; done) | decide +kernel
theorem ef_rm1 (m : MethodId) (p0 : Int32) (p1 : Int32) : entryFrame m #[(.int p0), (.int p1)] 5 = mkF m 0 #[.val (.int p0), .val (.int p1), .unset, .unset, .unset] [] := by first | (simp [entryFrame, mkF, argsToLocals, Value.category]; done) | rfl
def Q_rm1 (Z : State) (p0 : Int32) (p1 : Int32) (h0 : Heap) (n0 : Nat) (v : Option Value) (h : Heap) (L : List Loc) : Prop := v = some (.int (own_cnt 64 p0 p1 1 1)) ∧ Fr n0 L ∧ h = h0
set_option maxRecDepth 65536 in
set_option maxHeartbeats 40000000 in
theorem rm1 (l : Launch) (Z : State) (a0 : Array Value) (hw : ∀ d ∈ tables_1, d.before a0 Z = true) (ws : List Jvm.Cond) (p0 : Int32) (p1 : Int32) (h0 : Heap) (n0 : Nat) (Z0 : n0 ≤ h0.size) (hd1 : 1 ≤ p0.toInt) (hd2 : p0.toInt ≤ 64) :
    MetFree l (⟨"com/example/pareto_workflow_scheduler/paretoworkflowscheduler/algorithm/ReferencePoints", "count", "(II)I"⟩ : MethodName) (head1 (Jvm.Cond.code (⟨"com/example/pareto_workflow_scheduler/paretoworkflowscheduler/algorithm/ReferencePoints", "count", "(II)I"⟩ : MethodName) prog_31_method_2_code 5 (some .int) :: ws) ({ frames := 0, cells := 0, slots := 0, locals := 0 } : Room)) (fun a U => a = #[(.int p0), (.int p1)] ∧ Z.Warmed39 U.vm ∧ U.heap = h0) (fun _ _ _ _ _ => True) (fun _ U o U' => ∃ v L, o = .returned v ∧ Q_rm1 Z p0 p1 h0 n0 v U'.heap L ∧ FrameEnd U o U' L ({ frames := 0, cells := 0, slots := 0, locals := 0 } : Room).cells ({ frames := 0, cells := 0, slots := 0, locals := 0 } : Room).slots) := by
  refine MetFree.of_bodySF (plainFor_of_name pn_rm1) hisR ?_
  intro p e s m args below meth c s₁ Bd hml0 hP hK
  obtain ⟨rfl, hZ, hh⟩ := hP
  have hx := Bd.exec
  have hby := Bd.bytes
  have hml : c.maxLocals = 5 := hml0
  have hown : s.vm.findClass "com/example/pareto_workflow_scheduler/paretoworkflowscheduler/algorithm/ReferencePoints" = some m.cls := findClass_of_methodNamed Bd.named
  have hnm := (name_of_methodNamed Bd.named Bd.method).1
  have X0 : Stand p l e ({ frames := 0, cells := 0, slots := 0, locals := 0 } : Room) s m #[(.int p0), (.int p1)] below meth c s₁ [] 0 0 := Stand.of_body Bd
  have e0 : s₁.heap = h0 := by rw [← hh, Bd.state]; rfl
  have N0 := Fr.nil n0
  have q0 : Steps p.tables e below (s₁.setTop (entryFrame m #[(.int p0), (.int p1)] 5)) (s₁.setTop (mkF m 0 #[.val (.int p0), .val (.int p1), .unset, .unset, .unset] [])) := castTop (ef_rm1 m p0 p1) (Steps.refl _)
  have q1 : Steps p.tables e below (s₁.setTop (entryFrame m #[(.int p0), (.int p1)] 5)) (s₁.setTop (mkF m 5 #[.val (.int p0), .val (.int p1), .val (.long (1 : Int64)), .second, .val (.int (1 : Int32))] [])) := q0.trans (by
      show Steps p.tables e below (s₁.setTop (mkF m 0 #[.val (.int p0), .val (.int p1), .unset, .unset, .unset] [])) _
      refine XS.lconst X0.here hx rfl (hb hby d1_0) ?_
      show Steps p.tables e below (s₁.setTop (mkF m 1 #[.val (.int p0), .val (.int p1), .unset, .unset, .unset] [(.long (1 : Int64))])) _
      refine XS.lstoreN X0.here hx rfl (hb hby d1_1) rfl (l' := #[.val (.int p0), .val (.int p1), .val (.long (1 : Int64)), .second, .unset]) rfl ?_
      show Steps p.tables e below (s₁.setTop (mkF m 2 #[.val (.int p0), .val (.int p1), .val (.long (1 : Int64)), .second, .unset] [])) _
      refine XS.iconst X0.here hx rfl (hb hby d1_2) ?_
      show Steps p.tables e below (s₁.setTop (mkF m 3 #[.val (.int p0), .val (.int p1), .val (.long (1 : Int64)), .second, .unset] [(.int (1 : Int32))])) _
      refine XS.istore X0.here hx rfl (hb hby d1_3) rfl (l' := #[.val (.int p0), .val (.int p1), .val (.long (1 : Int64)), .second, .val (.int (1 : Int32))]) rfl ?_
      show Steps p.tables e below (s₁.setTop (mkF m 5 #[.val (.int p0), .val (.int p1), .val (.long (1 : Int64)), .second, .val (.int (1 : Int32))] [])) _
      exact Steps.refl _)
  obtain ⟨fs, hr, hrun, hended, hW, hsame⟩ := X0.leave (v := some (.int (own_cnt 64 p0 p1 1 1))) (fun h => by rw [Bd.returns] at h; cases h)
  refine ⟨_, _, q1.trans ?_, hrun, hended, _, _, rfl, ?_, ⟨_, rfl⟩, hW, hsame.mono (by decide) (by decide)⟩
  · have loop : ∀ (k : Nat) (cc : Int64) (i : Int32), 1 ≤ i.toInt → p0.toInt ≤ i.toInt + (k : Int) → (∀ (f : JFrame) (acts : List Action), f.method = m → f.locked = none → f.entered = [] → (doReturn e (s₁.setTop f) acts (some (.int (own_cnt k p0 p1 cc i)))).1 = s₁.setFrames fs) → Steps p.tables e below (s₁.setTop (mkF m 5 #[.val (.int p0), .val (.int p1), .val (.long cc), .second, .val (.int i)] [])) (s₁.setFrames fs) := by
      intro k
      induction k with
      | zero =>
        intro cc i h1 h2 hr
        have hc0 : ¬ (i < p0) := by rw [Int32.lt_iff_toInt_lt]; omega
        show Steps p.tables e below (s₁.setTop (mkF m 5 #[.val (.int p0), .val (.int p1), .val (.long cc), .second, .val (.int i)] [])) _
        refine XS.iload X0.here hx rfl (hb hby d1_5) rfl ?_
        show Steps p.tables e below (s₁.setTop (mkF m 7 #[.val (.int p0), .val (.int p1), .val (.long cc), .second, .val (.int i)] [(.int i)])) _
        refine XS.iloadN X0.here hx rfl (hb hby d1_7) rfl ?_
        show Steps p.tables e below (s₁.setTop (mkF m 8 #[.val (.int p0), .val (.int p1), .val (.long cc), .second, .val (.int i)] [(.int p0), (.int i)])) _
        refine XS.icmpYes X0.here hx rfl (pc0 := 8) (pc' := 39) rfl (hb hby d1_8) rfl (flt hc0).2.1 (by decide) (by decide) ?_
        show Steps p.tables e below (s₁.setTop (mkF m 39 #[.val (.int p0), .val (.int p1), .val (.long cc), .second, .val (.int i)] [])) _
        refine XS.lloadN X0.here hx rfl (hb hby d1_39) rfl ?_
        show Steps p.tables e below (s₁.setTop (mkF m 40 #[.val (.int p0), .val (.int p1), .val (.long cc), .second, .val (.int i)] [(.long cc)])) _
        refine XS.l2i X0.here hx rfl (hb hby d1_40) rfl ?_
        show Steps p.tables e below (s₁.setTop (mkF m 41 #[.val (.int p0), .val (.int p1), .val (.long cc), .second, .val (.int i)] [(.int (cc.toInt32))])) _
        exact retI X0 hx Bd.returns (hb hby d1_41) hr
      | succ k ih =>
        intro cc i h1 h2 hr
        show Steps p.tables e below (s₁.setTop (mkF m 5 #[.val (.int p0), .val (.int p1), .val (.long cc), .second, .val (.int i)] [])) _
        refine XS.iload X0.here hx rfl (hb hby d1_5) rfl ?_
        show Steps p.tables e below (s₁.setTop (mkF m 7 #[.val (.int p0), .val (.int p1), .val (.long cc), .second, .val (.int i)] [(.int i)])) _
        refine XS.iloadN X0.here hx rfl (hb hby d1_7) rfl ?_
        show Steps p.tables e below (s₁.setTop (mkF m 8 #[.val (.int p0), .val (.int p1), .val (.long cc), .second, .val (.int i)] [(.int p0), (.int i)])) _
        by_cases hc2 : i < p0
        · refine XS.icmpNo X0.here hx rfl (hb hby d1_8) rfl (tlt hc2).2.1 ?_
          show Steps p.tables e below (s₁.setTop (mkF m 11 #[.val (.int p0), .val (.int p1), .val (.long cc), .second, .val (.int i)] [])) _
          refine XS.lloadN X0.here hx rfl (hb hby d1_11) rfl ?_
          show Steps p.tables e below (s₁.setTop (mkF m 12 #[.val (.int p0), .val (.int p1), .val (.long cc), .second, .val (.int i)] [(.long cc)])) _
          refine XS.iloadN X0.here hx rfl (hb hby d1_12) rfl ?_
          show Steps p.tables e below (s₁.setTop (mkF m 13 #[.val (.int p0), .val (.int p1), .val (.long cc), .second, .val (.int i)] [(.int p1), (.long cc)])) _
          refine XS.iload X0.here hx rfl (hb hby d1_13) rfl ?_
          show Steps p.tables e below (s₁.setTop (mkF m 15 #[.val (.int p0), .val (.int p1), .val (.long cc), .second, .val (.int i)] [(.int i), (.int p1), (.long cc)])) _
          refine XS.iadd X0.here hx rfl (hb hby d1_15) rfl ?_
          show Steps p.tables e below (s₁.setTop (mkF m 16 #[.val (.int p0), .val (.int p1), .val (.long cc), .second, .val (.int i)] [(.int (p1 + i)), (.long cc)])) _
          refine XS.i2l X0.here hx rfl (hb hby d1_16) rfl ?_
          show Steps p.tables e below (s₁.setTop (mkF m 17 #[.val (.int p0), .val (.int p1), .val (.long cc), .second, .val (.int i)] [(.long ((p1 + i).toInt64)), (.long cc)])) _
          refine XS.lmul X0.here hx rfl (hb hby d1_17) rfl ?_
          show Steps p.tables e below (s₁.setTop (mkF m 18 #[.val (.int p0), .val (.int p1), .val (.long cc), .second, .val (.int i)] [(.long (cc * ((p1 + i).toInt64)))])) _
          refine XS.iload X0.here hx rfl (hb hby d1_18) rfl ?_
          show Steps p.tables e below (s₁.setTop (mkF m 20 #[.val (.int p0), .val (.int p1), .val (.long cc), .second, .val (.int i)] [(.int i), (.long (cc * ((p1 + i).toInt64)))])) _
          refine XS.i2l X0.here hx rfl (hb hby d1_20) rfl ?_
          show Steps p.tables e below (s₁.setTop (mkF m 21 #[.val (.int p0), .val (.int p1), .val (.long cc), .second, .val (.int i)] [(.long (i.toInt64)), (.long (cc * ((p1 + i).toInt64)))])) _
          refine XS.ldiv X0.here hx rfl (hb hby d1_21) rfl (own_i64_ne h1) ?_
          show Steps p.tables e below (s₁.setTop (mkF m 22 #[.val (.int p0), .val (.int p1), .val (.long cc), .second, .val (.int i)] [(.long ((cc * ((p1 + i).toInt64)) / (i.toInt64)))])) _
          refine XS.lstoreN X0.here hx rfl (hb hby d1_22) rfl (l' := #[.val (.int p0), .val (.int p1), .val (.long ((cc * ((p1 + i).toInt64)) / (i.toInt64))), .second, .val (.int i)]) rfl ?_
          show Steps p.tables e below (s₁.setTop (mkF m 23 #[.val (.int p0), .val (.int p1), .val (.long ((cc * ((p1 + i).toInt64)) / (i.toInt64))), .second, .val (.int i)] [])) _
          refine XS.lloadN X0.here hx rfl (hb hby d1_23) rfl ?_
          show Steps p.tables e below (s₁.setTop (mkF m 24 #[.val (.int p0), .val (.int p1), .val (.long ((cc * ((p1 + i).toInt64)) / (i.toInt64))), .second, .val (.int i)] [(.long ((cc * ((p1 + i).toInt64)) / (i.toInt64)))])) _
          refine X0.ldc2Long hx hown (mvT hZ (hw _ (List.mem_of_getElem? (i := 6) rfl))) (g := (mkF m 24 #[.val (.int p0), .val (.int p1), .val (.long ((cc * ((p1 + i).toInt64)) / (i.toInt64))), .second, .val (.int i)] [(.long ((cc * ((p1 + i).toInt64)) / (i.toInt64)))])) rfl (hb hby d1_24) _ ?_
          show Steps p.tables e below (s₁.setTop (mkF m 27 #[.val (.int p0), .val (.int p1), .val (.long ((cc * ((p1 + i).toInt64)) / (i.toInt64))), .second, .val (.int i)] [(.long (2147483647 : Int64)), (.long ((cc * ((p1 + i).toInt64)) / (i.toInt64)))])) _
          refine XS.lcmp X0.here hx rfl (hb hby d1_27) rfl ?_
          show Steps p.tables e below (s₁.setTop (mkF m 28 #[.val (.int p0), .val (.int p1), .val (.long ((cc * ((p1 + i).toInt64)) / (i.toInt64))), .second, .val (.int i)] [(.int (lcmpW ((cc * ((p1 + i).toInt64)) / (i.toInt64)) (2147483647 : Int64)))])) _
          by_cases hc3 : (2147483647 : Int64) < ((cc * ((p1 + i).toInt64)) / (i.toInt64))
          · refine XS.ifNo X0.here hx rfl (hb hby d1_28) rfl ((if0 _ _).trans (tlt ((lw_gt ((cc * ((p1 + i).toInt64)) / (i.toInt64)) (2147483647 : Int64)).mpr hc3)).2.2.2) ?_
            show Steps p.tables e below (s₁.setTop (mkF m 31 #[.val (.int p0), .val (.int p1), .val (.long ((cc * ((p1 + i).toInt64)) / (i.toInt64))), .second, .val (.int i)] [])) _
            refine XS.iconst X0.here hx rfl (hb hby d1_31) ?_
            show Steps p.tables e below (s₁.setTop (mkF m 32 #[.val (.int p0), .val (.int p1), .val (.long ((cc * ((p1 + i).toInt64)) / (i.toInt64))), .second, .val (.int i)] [(.int (-1 : Int32))])) _
            have hz : own_cnt (k + 1) p0 p1 cc i = (-1 : Int32) := by rw [own_cnt, if_pos hc2, if_pos hc3]
            rw [hz] at hr
            exact retI X0 hx Bd.returns (hb hby d1_32) hr
          · refine XS.ifYes X0.here hx rfl (pc0 := 28) (pc' := 33) rfl (hb hby d1_28) rfl ((if0 _ _).trans (flt (fun q => hc3 ((lw_gt ((cc * ((p1 + i).toInt64)) / (i.toInt64)) (2147483647 : Int64)).mp q))).2.2.2) (by decide) (by decide) ?_
            show Steps p.tables e below (s₁.setTop (mkF m 33 #[.val (.int p0), .val (.int p1), .val (.long ((cc * ((p1 + i).toInt64)) / (i.toInt64))), .second, .val (.int i)] [])) _
            refine XS.iinc X0.here hx rfl (hb hby d1_33) rfl (l' := #[.val (.int p0), .val (.int p1), .val (.long ((cc * ((p1 + i).toInt64)) / (i.toInt64))), .second, .val (.int (i + (1 : Int32)))]) rfl ?_
            show Steps p.tables e below (s₁.setTop (mkF m 36 #[.val (.int p0), .val (.int p1), .val (.long ((cc * ((p1 + i).toInt64)) / (i.toInt64))), .second, .val (.int (i + (1 : Int32)))] [])) _
            refine XS.goto X0.here hx rfl (pc0 := 36) (pc' := 5) rfl (hb hby d1_36) (by decide) (by decide) ?_
            show Steps p.tables e below (s₁.setTop (mkF m 5 #[.val (.int p0), .val (.int p1), .val (.long ((cc * ((p1 + i).toInt64)) / (i.toInt64))), .second, .val (.int (i + (1 : Int32)))] [])) _
            have hz : own_cnt (k + 1) p0 p1 cc i = own_cnt k p0 p1 ((cc * ((p1 + i).toInt64)) / (i.toInt64)) (i + (1 : Int32)) := by rw [own_cnt, if_pos hc2, if_neg hc3]
            rw [hz] at hr
            have e1 : (i + (1 : Int32)).toInt = i.toInt + 1 := by
              rw [Int32.lt_iff_toInt_lt] at hc2
              have hl := p0.toInt_lt
              exact Jvm.Kit.i32_add (by rw [show (1 : Int32).toInt = 1 from rfl]; omega) (by rw [show (1 : Int32).toInt = 1 from rfl]; omega)
            exact ih _ _ (by rw [e1]; omega) (by rw [e1]; omega) hr
        · refine XS.icmpYes X0.here hx rfl (pc0 := 8) (pc' := 39) rfl (hb hby d1_8) rfl (flt hc2).2.1 (by decide) (by decide) ?_
          show Steps p.tables e below (s₁.setTop (mkF m 39 #[.val (.int p0), .val (.int p1), .val (.long cc), .second, .val (.int i)] [])) _
          refine XS.lloadN X0.here hx rfl (hb hby d1_39) rfl ?_
          show Steps p.tables e below (s₁.setTop (mkF m 40 #[.val (.int p0), .val (.int p1), .val (.long cc), .second, .val (.int i)] [(.long cc)])) _
          refine XS.l2i X0.here hx rfl (hb hby d1_40) rfl ?_
          show Steps p.tables e below (s₁.setTop (mkF m 41 #[.val (.int p0), .val (.int p1), .val (.long cc), .second, .val (.int i)] [(.int (cc.toInt32))])) _
          have hz : own_cnt (k + 1) p0 p1 cc i = (cc.toInt32) := by rw [own_cnt, if_neg hc2]
          rw [hz] at hr
          exact retI X0 hx Bd.returns (hb hby d1_41) hr
    exact loop 64 1 1 (by decide) (by show _ ≤ (1 : Int) + 64; omega) hr
  · show Q_rm1 Z p0 p1 h0 n0 _ s₁.heap _
    rw [e0]
    exact ⟨rfl, N0, rfl⟩

theorem plainA (p0 : Int32) (p1 : Int32) (vd : Int32) (vv : Int32) (zr : Int32)
    (hc4 : (2147483647 : Int64) < (((vv.toInt64) + (vd.toInt64)) - (1 : Int64)))
    (hvd : vd = ((1 : Int32) + (p0 &&& (63 : Int32))))
    (hvv : vv = (p1 &&& (2147483647 : Int32)))
    (hzr : zr = (1 : Int32)) :
    zr = 1 := by
  exact hzr

theorem plainB (p0 : Int32) (p1 : Int32) (vd : Int32) (vv : Int32) (vc : Int32) (zr : Int32)
    (hc4 : ¬ ((2147483647 : Int64) < (((vv.toInt64) + (vd.toInt64)) - (1 : Int64))))
    (hc13 : vd = (1 : Int32))
    (hvd : vd = ((1 : Int32) + (p0 &&& (63 : Int32))))
    (hvv : vv = (p1 &&& (2147483647 : Int32)))
    (hvc : vc = (own_cnt 64 vd vv 1 1))
    (hzr : zr = (if vc = (1 : Int32) then (1 : Int32) else (0 : Int32))) :
    zr = 1 := by
  obtain ⟨N, V, hN, hV, hs, hk⟩ := own_start p0 p1 vd vv hvd hvv hc4
  have c1 := own_count vd vv N V hN hV hs hk
  have h1 := hc13
  rw [← Int32.toInt_inj, show (1 : Int32).toInt = 1 from rfl] at h1
  obtain rfl : N = 0 := by omega
  rw [own_bn_zero, if_pos (by omega)] at c1
  rw [hzr, if_pos]
  rw [hvc]; exact Int32.toInt_inj.mp c1

theorem plainC (p0 : Int32) (p1 : Int32) (vd : Int32) (vv : Int32) (vc : Int32) (zr : Int32)
    (hc4 : ¬ ((2147483647 : Int64) < (((vv.toInt64) + (vd.toInt64)) - (1 : Int64))))
    (hc13 : ¬ (vd = (1 : Int32)))
    (hc19 : vv = (0 : Int32))
    (hvd : vd = ((1 : Int32) + (p0 &&& (63 : Int32))))
    (hvv : vv = (p1 &&& (2147483647 : Int32)))
    (hvc : vc = (own_cnt 64 vd vv 1 1))
    (hzr : zr = (if vc = (1 : Int32) then (1 : Int32) else (0 : Int32))) :
    zr = 1 := by
  obtain ⟨N, V, hN, hV, hs, hk⟩ := own_start p0 p1 vd vv hvd hvv hc4
  have c1 := own_count vd vv N V hN hV hs hk
  have h1 := hc19
  rw [← Int32.toInt_inj, show (0 : Int32).toInt = 0 from rfl] at h1
  obtain rfl : V = 0 := by omega
  rw [Nat.zero_add, own_bn_self, if_pos (by omega)] at c1
  rw [hzr, if_pos]
  rw [hvc]; exact Int32.toInt_inj.mp c1

theorem plainD (p0 : Int32) (p1 : Int32) (vd : Int32) (vv : Int32) (vc : Int32) (va : Int32) (vb : Int32) (zr : Int32)
    (hc4 : ¬ ((2147483647 : Int64) < (((vv.toInt64) + (vd.toInt64)) - (1 : Int64))))
    (hc13 : ¬ (vd = (1 : Int32)))
    (hc19 : ¬ (vv = (0 : Int32)))
    (hc33 : va < (0 : Int32))
    (hvd : vd = ((1 : Int32) + (p0 &&& (63 : Int32))))
    (hvv : vv = (p1 &&& (2147483647 : Int32)))
    (hvc : vc = (own_cnt 64 vd vv 1 1))
    (hva : va = (own_cnt 64 vd (vv - (1 : Int32)) 1 1))
    (hvb : vb = (own_cnt 64 (vd - (1 : Int32)) vv 1 1))
    (hzr : zr = (if vc = (-1 : Int32) then (1 : Int32) else (0 : Int32))) :
    zr = 1 := by
  obtain ⟨N, V, hN, hV, hs, hk⟩ := own_start p0 p1 vd vv hvd hvv hc4
  obtain ⟨A, B, pA, pB, cC, cA, cB⟩ := own_three vd vv va vb vc N V hN hV hs hk hc13 hc19 hvc hva hvb
  have h1 := hc33
  rw [Int32.lt_iff_toInt_lt, show (0 : Int32).toInt = 0 from rfl] at h1
  rw [hzr, if_pos]
  apply Int32.toInt_inj.mp
  rw [cC]
  split at cA
  · omega
  · rw [if_neg (by omega)]; rfl

theorem plainE (p0 : Int32) (p1 : Int32) (vd : Int32) (vv : Int32) (vc : Int32) (va : Int32) (vb : Int32) (zr : Int32)
    (hc4 : ¬ ((2147483647 : Int64) < (((vv.toInt64) + (vd.toInt64)) - (1 : Int64))))
    (hc13 : ¬ (vd = (1 : Int32)))
    (hc19 : ¬ (vv = (0 : Int32)))
    (hc33 : ¬ (va < (0 : Int32)))
    (hc39 : vb < (0 : Int32))
    (hvd : vd = ((1 : Int32) + (p0 &&& (63 : Int32))))
    (hvv : vv = (p1 &&& (2147483647 : Int32)))
    (hvc : vc = (own_cnt 64 vd vv 1 1))
    (hva : va = (own_cnt 64 vd (vv - (1 : Int32)) 1 1))
    (hvb : vb = (own_cnt 64 (vd - (1 : Int32)) vv 1 1))
    (hzr : zr = (if vc = (-1 : Int32) then (1 : Int32) else (0 : Int32))) :
    zr = 1 := by
  obtain ⟨N, V, hN, hV, hs, hk⟩ := own_start p0 p1 vd vv hvd hvv hc4
  obtain ⟨A, B, pA, pB, cC, cA, cB⟩ := own_three vd vv va vb vc N V hN hV hs hk hc13 hc19 hvc hva hvb
  have h1 := hc39
  rw [Int32.lt_iff_toInt_lt, show (0 : Int32).toInt = 0 from rfl] at h1
  rw [hzr, if_pos]
  apply Int32.toInt_inj.mp
  rw [cC]
  split at cB
  · omega
  · rw [if_neg (by omega)]; rfl

theorem plainF (p0 : Int32) (p1 : Int32) (vd : Int32) (vv : Int32) (vc : Int32) (va : Int32) (vb : Int32) (vs : Int64) (zr : Int32)
    (hc4 : ¬ ((2147483647 : Int64) < (((vv.toInt64) + (vd.toInt64)) - (1 : Int64))))
    (hc13 : ¬ (vd = (1 : Int32)))
    (hc19 : ¬ (vv = (0 : Int32)))
    (hc33 : ¬ (va < (0 : Int32)))
    (hc39 : ¬ (vb < (0 : Int32)))
    (hc46 : (2147483647 : Int64) < vs)
    (hvd : vd = ((1 : Int32) + (p0 &&& (63 : Int32))))
    (hvv : vv = (p1 &&& (2147483647 : Int32)))
    (hvc : vc = (own_cnt 64 vd vv 1 1))
    (hva : va = (own_cnt 64 vd (vv - (1 : Int32)) 1 1))
    (hvb : vb = (own_cnt 64 (vd - (1 : Int32)) vv 1 1))
    (hvs : vs = ((va.toInt64) + (vb.toInt64)))
    (hzr : zr = (if vc = (-1 : Int32) then (1 : Int32) else (0 : Int32))) :
    zr = 1 := by
  obtain ⟨N, V, hN, hV, hs, hk⟩ := own_start p0 p1 vd vv hvd hvv hc4
  obtain ⟨A, B, pA, pB, cC, cA, cB⟩ := own_three vd vv va vb vc N V hN hV hs hk hc13 hc19 hvc hva hvb
  have h1 := hc33
  have h2 := hc39
  have h3 := hc46
  rw [Int32.lt_iff_toInt_lt, show (0 : Int32).toInt = 0 from rfl] at h1 h2
  have cA' : va.toInt = A ∧ A ≤ 2147483647 := by
    split at cA
    · exact ⟨cA, by omega⟩
    · omega
  have cB' : vb.toInt = B ∧ B ≤ 2147483647 := by
    split at cB
    · exact ⟨cB, by omega⟩
    · omega
  have e : vs.toInt = va.toInt + vb.toInt := by
    rw [hvs, Jvm.Kit.i64_add (by rw [Int32.toInt_toInt64, Int32.toInt_toInt64]; omega) (by rw [Int32.toInt_toInt64, Int32.toInt_toInt64]; omega), Int32.toInt_toInt64, Int32.toInt_toInt64]
  rw [Int64.lt_iff_toInt_lt, e, show (2147483647 : Int64).toInt = 2147483647 from rfl] at h3
  rw [hzr, if_pos]
  apply Int32.toInt_inj.mp
  rw [cC, if_neg (by omega)]; rfl

theorem plainG (p0 : Int32) (p1 : Int32) (vd : Int32) (vv : Int32) (vc : Int32) (va : Int32) (vb : Int32) (vs : Int64) (zr : Int32)
    (hc4 : ¬ ((2147483647 : Int64) < (((vv.toInt64) + (vd.toInt64)) - (1 : Int64))))
    (hc13 : ¬ (vd = (1 : Int32)))
    (hc19 : ¬ (vv = (0 : Int32)))
    (hc33 : ¬ (va < (0 : Int32)))
    (hc39 : ¬ (vb < (0 : Int32)))
    (hc46 : ¬ ((2147483647 : Int64) < vs))
    (hvd : vd = ((1 : Int32) + (p0 &&& (63 : Int32))))
    (hvv : vv = (p1 &&& (2147483647 : Int32)))
    (hvc : vc = (own_cnt 64 vd vv 1 1))
    (hva : va = (own_cnt 64 vd (vv - (1 : Int32)) 1 1))
    (hvb : vb = (own_cnt 64 (vd - (1 : Int32)) vv 1 1))
    (hvs : vs = ((va.toInt64) + (vb.toInt64)))
    (hzr : zr = (if (vc.toInt64) = vs then (1 : Int32) else (0 : Int32))) :
    zr = 1 := by
  obtain ⟨N, V, hN, hV, hs, hk⟩ := own_start p0 p1 vd vv hvd hvv hc4
  obtain ⟨A, B, pA, pB, cC, cA, cB⟩ := own_three vd vv va vb vc N V hN hV hs hk hc13 hc19 hvc hva hvb
  have h1 := hc33
  have h2 := hc39
  have h3 := hc46
  rw [Int32.lt_iff_toInt_lt, show (0 : Int32).toInt = 0 from rfl] at h1 h2
  have cA' : va.toInt = A ∧ A ≤ 2147483647 := by
    split at cA
    · exact ⟨cA, by omega⟩
    · omega
  have cB' : vb.toInt = B ∧ B ≤ 2147483647 := by
    split at cB
    · exact ⟨cB, by omega⟩
    · omega
  have e : vs.toInt = va.toInt + vb.toInt := by
    rw [hvs, Jvm.Kit.i64_add (by rw [Int32.toInt_toInt64, Int32.toInt_toInt64]; omega) (by rw [Int32.toInt_toInt64, Int32.toInt_toInt64]; omega), Int32.toInt_toInt64, Int32.toInt_toInt64]
  rw [Int64.lt_iff_toInt_lt, e, show (2147483647 : Int64).toInt = 2147483647 from rfl] at h3
  rw [hzr, if_pos]
  apply Int64.toInt_inj.mp
  rw [Int32.toInt_toInt64, e, cC, if_pos (by omega)]; omega

theorem pd_0 : parseMethodDescriptor "(II)I" = some ⟨[.int, .int], some .int⟩ := by decide +kernel
theorem pn_rm0 : plainName "com/example/pareto_workflow_scheduler/paretoworkflowscheduler/algorithm/ReferencePointsCountPinLaw" = true := by first | (simp [plainName, overriddenIn]; done) | decide +kernel
theorem ef_rm0 (m : MethodId) (p0 : Int32) (p1 : Int32) : entryFrame m #[(.int p0), (.int p1)] maxLocals = mkF m 0 #[.val (.int p0), .val (.int p1), .unset, .unset, .unset, .unset, .unset, .unset, .unset] [] := by first | (simp [entryFrame, mkF, argsToLocals, Value.category, maxLocals]; done) | rfl
def Q_rm0 (Z : State) (p0 : Int32) (p1 : Int32) (h0 : Heap) (n0 : Nat) (v : Option Value) (h : Heap) (L : List Loc) : Prop := v = some (.int (1 : Int32)) ∧ Fr n0 L
set_option maxRecDepth 65536 in
set_option maxHeartbeats 40000000 in
theorem rm0 (l : Launch) (Z : State) (a0 : Array Value) (hw : ∀ d ∈ tables_1, d.before a0 Z = true) (ws : List Jvm.Cond) (p0 : Int32) (p1 : Int32) (h0 : Heap) (n0 : Nat) (Z0 : n0 ≤ h0.size) :
    MetFree l x (head1 (Jvm.Cond.code x code maxLocals ret :: ws) room_1) (fun a U => a = #[(.int p0), (.int p1)] ∧ Z.Warmed39 U.vm ∧ U.heap = h0) (fun _ _ _ _ _ => True) (fun _ U o U' => ∃ v L, o = .returned v ∧ Q_rm0 Z p0 p1 h0 n0 v U'.heap L ∧ FrameEnd U o U' L room_1.cells room_1.slots) := by
  refine MetFree.of_bodySF (plainFor_of_name pn_rm0) hisR ?_
  intro p e s m args below meth c s₁ Bd hml0 hP hK
  obtain ⟨rfl, hZ, hh⟩ := hP
  have hx := Bd.exec
  have hby := Bd.bytes
  have hml : c.maxLocals = 9 := hml0
  have hown : s.vm.findClass "com/example/pareto_workflow_scheduler/paretoworkflowscheduler/algorithm/ReferencePointsCountPinLaw" = some m.cls := findClass_of_methodNamed Bd.named
  have hnm := (name_of_methodNamed Bd.named Bd.method).1
  have X0 : Stand p l e room_1 s m #[(.int p0), (.int p1)] below meth c s₁ [] 0 0 := Stand.of_body Bd
  have e0 : s₁.heap = h0 := by rw [← hh, Bd.state]; rfl
  have N0 := Fr.nil n0
  have q0 : Steps p.tables e below (s₁.setTop (entryFrame m #[(.int p0), (.int p1)] maxLocals)) (s₁.setTop (mkF m 0 #[.val (.int p0), .val (.int p1), .unset, .unset, .unset, .unset, .unset, .unset, .unset] [])) := castTop (ef_rm0 m p0 p1) (Steps.refl _)
  have q1 : Steps p.tables e below (s₁.setTop (entryFrame m #[(.int p0), (.int p1)] maxLocals)) (s₁.setTop (mkF m 7 #[.val (.int p0), .val (.int p1), .val (.int ((1 : Int32) + (p0 &&& (63 : Int32)))), .unset, .unset, .unset, .unset, .unset, .unset] [])) := q0.trans (by
      show Steps p.tables e below (s₁.setTop (mkF m 0 #[.val (.int p0), .val (.int p1), .unset, .unset, .unset, .unset, .unset, .unset, .unset] [])) _
      refine XS.iconst X0.here hx rfl (hb hby at_0) ?_
      show Steps p.tables e below (s₁.setTop (mkF m 1 #[.val (.int p0), .val (.int p1), .unset, .unset, .unset, .unset, .unset, .unset, .unset] [(.int (1 : Int32))])) _
      refine XS.iloadN X0.here hx rfl (hb hby at_1) rfl ?_
      show Steps p.tables e below (s₁.setTop (mkF m 2 #[.val (.int p0), .val (.int p1), .unset, .unset, .unset, .unset, .unset, .unset, .unset] [(.int p0), (.int (1 : Int32))])) _
      refine XS.bipush X0.here hx rfl (hb hby at_2) ?_
      show Steps p.tables e below (s₁.setTop (mkF m 4 #[.val (.int p0), .val (.int p1), .unset, .unset, .unset, .unset, .unset, .unset, .unset] [(.int (63 : Int32)), (.int p0), (.int (1 : Int32))])) _
      refine XS.iand X0.here hx rfl (hb hby at_4) rfl ?_
      show Steps p.tables e below (s₁.setTop (mkF m 5 #[.val (.int p0), .val (.int p1), .unset, .unset, .unset, .unset, .unset, .unset, .unset] [(.int (p0 &&& (63 : Int32))), (.int (1 : Int32))])) _
      refine XS.iadd X0.here hx rfl (hb hby at_5) rfl ?_
      show Steps p.tables e below (s₁.setTop (mkF m 6 #[.val (.int p0), .val (.int p1), .unset, .unset, .unset, .unset, .unset, .unset, .unset] [(.int ((1 : Int32) + (p0 &&& (63 : Int32))))])) _
      refine XS.istoreN X0.here hx rfl (hb hby at_6) rfl (l' := #[.val (.int p0), .val (.int p1), .val (.int ((1 : Int32) + (p0 &&& (63 : Int32)))), .unset, .unset, .unset, .unset, .unset, .unset]) rfl ?_
      show Steps p.tables e below (s₁.setTop (mkF m 7 #[.val (.int p0), .val (.int p1), .val (.int ((1 : Int32) + (p0 &&& (63 : Int32)))), .unset, .unset, .unset, .unset, .unset, .unset] [])) _
      exact Steps.refl _)
  obtain ⟨vd, hvd⟩ : ∃ v : Int32, v = ((1 : Int32) + (p0 &&& (63 : Int32))) := ⟨_, rfl⟩
  rw [← hvd] at q1
  have q2 : Steps p.tables e below (s₁.setTop (entryFrame m #[(.int p0), (.int p1)] maxLocals)) (s₁.setTop (mkF m 12 #[.val (.int p0), .val (.int p1), .val (.int vd), .val (.int (p1 &&& (2147483647 : Int32))), .unset, .unset, .unset, .unset, .unset] [])) := q1.trans (by
      show Steps p.tables e below (s₁.setTop (mkF m 7 #[.val (.int p0), .val (.int p1), .val (.int vd), .unset, .unset, .unset, .unset, .unset, .unset] [])) _
      refine XS.iloadN X0.here hx rfl (hb hby at_7) rfl ?_
      show Steps p.tables e below (s₁.setTop (mkF m 8 #[.val (.int p0), .val (.int p1), .val (.int vd), .unset, .unset, .unset, .unset, .unset, .unset] [(.int p1)])) _
      refine X0.ldcInt hx hown (mvT hZ (hw _ (List.mem_of_getElem? (i := 0) rfl))) (g := (mkF m 8 #[.val (.int p0), .val (.int p1), .val (.int vd), .unset, .unset, .unset, .unset, .unset, .unset] [(.int p1)])) rfl (hb hby at_8) _ ?_
      show Steps p.tables e below (s₁.setTop (mkF m 10 #[.val (.int p0), .val (.int p1), .val (.int vd), .unset, .unset, .unset, .unset, .unset, .unset] [(.int (2147483647 : Int32)), (.int p1)])) _
      refine XS.iand X0.here hx rfl (hb hby at_10) rfl ?_
      show Steps p.tables e below (s₁.setTop (mkF m 11 #[.val (.int p0), .val (.int p1), .val (.int vd), .unset, .unset, .unset, .unset, .unset, .unset] [(.int (p1 &&& (2147483647 : Int32)))])) _
      refine XS.istoreN X0.here hx rfl (hb hby at_11) rfl (l' := #[.val (.int p0), .val (.int p1), .val (.int vd), .val (.int (p1 &&& (2147483647 : Int32))), .unset, .unset, .unset, .unset, .unset]) rfl ?_
      show Steps p.tables e below (s₁.setTop (mkF m 12 #[.val (.int p0), .val (.int p1), .val (.int vd), .val (.int (p1 &&& (2147483647 : Int32))), .unset, .unset, .unset, .unset, .unset] [])) _
      exact Steps.refl _)
  obtain ⟨vv, hvv⟩ : ∃ v : Int32, v = (p1 &&& (2147483647 : Int32)) := ⟨_, rfl⟩
  rw [← hvv] at q2
  have q3 : Steps p.tables e below (s₁.setTop (entryFrame m #[(.int p0), (.int p1)] maxLocals)) (s₁.setTop (mkF m 23 #[.val (.int p0), .val (.int p1), .val (.int vd), .val (.int vv), .unset, .unset, .unset, .unset, .unset] [(.int (lcmpW (((vv.toInt64) + (vd.toInt64)) - (1 : Int64)) (2147483647 : Int64)))])) := q2.trans (by
      show Steps p.tables e below (s₁.setTop (mkF m 12 #[.val (.int p0), .val (.int p1), .val (.int vd), .val (.int vv), .unset, .unset, .unset, .unset, .unset] [])) _
      refine XS.iloadN X0.here hx rfl (hb hby at_12) rfl ?_
      show Steps p.tables e below (s₁.setTop (mkF m 13 #[.val (.int p0), .val (.int p1), .val (.int vd), .val (.int vv), .unset, .unset, .unset, .unset, .unset] [(.int vv)])) _
      refine XS.i2l X0.here hx rfl (hb hby at_13) rfl ?_
      show Steps p.tables e below (s₁.setTop (mkF m 14 #[.val (.int p0), .val (.int p1), .val (.int vd), .val (.int vv), .unset, .unset, .unset, .unset, .unset] [(.long (vv.toInt64))])) _
      refine XS.iloadN X0.here hx rfl (hb hby at_14) rfl ?_
      show Steps p.tables e below (s₁.setTop (mkF m 15 #[.val (.int p0), .val (.int p1), .val (.int vd), .val (.int vv), .unset, .unset, .unset, .unset, .unset] [(.int vd), (.long (vv.toInt64))])) _
      refine XS.i2l X0.here hx rfl (hb hby at_15) rfl ?_
      show Steps p.tables e below (s₁.setTop (mkF m 16 #[.val (.int p0), .val (.int p1), .val (.int vd), .val (.int vv), .unset, .unset, .unset, .unset, .unset] [(.long (vd.toInt64)), (.long (vv.toInt64))])) _
      refine XS.ladd X0.here hx rfl (hb hby at_16) rfl ?_
      show Steps p.tables e below (s₁.setTop (mkF m 17 #[.val (.int p0), .val (.int p1), .val (.int vd), .val (.int vv), .unset, .unset, .unset, .unset, .unset] [(.long ((vv.toInt64) + (vd.toInt64)))])) _
      refine XS.lconst X0.here hx rfl (hb hby at_17) ?_
      show Steps p.tables e below (s₁.setTop (mkF m 18 #[.val (.int p0), .val (.int p1), .val (.int vd), .val (.int vv), .unset, .unset, .unset, .unset, .unset] [(.long (1 : Int64)), (.long ((vv.toInt64) + (vd.toInt64)))])) _
      refine XS.lsub X0.here hx rfl (hb hby at_18) rfl ?_
      show Steps p.tables e below (s₁.setTop (mkF m 19 #[.val (.int p0), .val (.int p1), .val (.int vd), .val (.int vv), .unset, .unset, .unset, .unset, .unset] [(.long (((vv.toInt64) + (vd.toInt64)) - (1 : Int64)))])) _
      refine X0.ldc2Long hx hown (mvT hZ (hw _ (List.mem_of_getElem? (i := 1) rfl))) (g := (mkF m 19 #[.val (.int p0), .val (.int p1), .val (.int vd), .val (.int vv), .unset, .unset, .unset, .unset, .unset] [(.long (((vv.toInt64) + (vd.toInt64)) - (1 : Int64)))])) rfl (hb hby at_19) _ ?_
      show Steps p.tables e below (s₁.setTop (mkF m 22 #[.val (.int p0), .val (.int p1), .val (.int vd), .val (.int vv), .unset, .unset, .unset, .unset, .unset] [(.long (2147483647 : Int64)), (.long (((vv.toInt64) + (vd.toInt64)) - (1 : Int64)))])) _
      refine XS.lcmp X0.here hx rfl (hb hby at_22) rfl ?_
      show Steps p.tables e below (s₁.setTop (mkF m 23 #[.val (.int p0), .val (.int p1), .val (.int vd), .val (.int vv), .unset, .unset, .unset, .unset, .unset] [(.int (lcmpW (((vv.toInt64) + (vd.toInt64)) - (1 : Int64)) (2147483647 : Int64)))])) _
      exact Steps.refl _)
  by_cases hc4 : (2147483647 : Int64) < (((vv.toInt64) + (vd.toInt64)) - (1 : Int64))
  · have q5 : Steps p.tables e below (s₁.setTop (entryFrame m #[(.int p0), (.int p1)] maxLocals)) (s₁.setTop (mkF m 26 #[.val (.int p0), .val (.int p1), .val (.int vd), .val (.int vv), .unset, .unset, .unset, .unset, .unset] [])) := q3.trans (by
        show Steps p.tables e below (s₁.setTop (mkF m 23 #[.val (.int p0), .val (.int p1), .val (.int vd), .val (.int vv), .unset, .unset, .unset, .unset, .unset] [(.int (lcmpW (((vv.toInt64) + (vd.toInt64)) - (1 : Int64)) (2147483647 : Int64)))])) _
        refine XS.ifNo X0.here hx rfl (hb hby at_23) rfl ((if0 _ _).trans (tlt ((lw_gt (((vv.toInt64) + (vd.toInt64)) - (1 : Int64)) (2147483647 : Int64)).mpr hc4)).2.2.2) ?_
        show Steps p.tables e below (s₁.setTop (mkF m 26 #[.val (.int p0), .val (.int p1), .val (.int vd), .val (.int vv), .unset, .unset, .unset, .unset, .unset] [])) _
        exact Steps.refl _)
    have q6 : Steps p.tables e below (s₁.setTop (entryFrame m #[(.int p0), (.int p1)] maxLocals)) (s₁.setTop (mkF m 27 #[.val (.int p0), .val (.int p1), .val (.int vd), .val (.int vv), .unset, .unset, .unset, .unset, .unset] [(.int (1 : Int32))])) := q5.trans (by
        show Steps p.tables e below (s₁.setTop (mkF m 26 #[.val (.int p0), .val (.int p1), .val (.int vd), .val (.int vv), .unset, .unset, .unset, .unset, .unset] [])) _
        refine XS.iconst X0.here hx rfl (hb hby at_26) ?_
        show Steps p.tables e below (s₁.setTop (mkF m 27 #[.val (.int p0), .val (.int p1), .val (.int vd), .val (.int vv), .unset, .unset, .unset, .unset, .unset] [(.int (1 : Int32))])) _
        exact Steps.refl _)
    obtain ⟨zr, hzr⟩ : ∃ v : Int32, v = (1 : Int32) := ⟨_, rfl⟩
    have hz1 : zr = 1 := plainA p0 p1 vd vv zr hc4 hvd hvv hzr
    obtain ⟨fs, hr, hrun, hended, hW, hsame⟩ := X0.leave (v := some (.int (1 : Int32))) (fun h => by rw [Bd.returns] at h; cases h)
    refine ⟨_, _, q6.trans ?_, hrun, hended, _, _, rfl, ?_, ⟨_, rfl⟩, hW, hsame.mono (by decide) (by decide)⟩
    · show Steps p.tables e below (s₁.setTop (mkF m 27 #[.val (.int p0), .val (.int p1), .val (.int vd), .val (.int vv), .unset, .unset, .unset, .unset, .unset] [(.int (1 : Int32))])) _
      exact retN X0 hx (t := .boolean) Bd.returns (by simp) (hb hby at_27) hr
    · show Q_rm0 Z p0 p1 h0 n0 _ s₁.heap _
      rw [e0]
      exact ⟨rfl, N0⟩
  · have q7 : Steps p.tables e below (s₁.setTop (entryFrame m #[(.int p0), (.int p1)] maxLocals)) (s₁.setTop (mkF m 28 #[.val (.int p0), .val (.int p1), .val (.int vd), .val (.int vv), .unset, .unset, .unset, .unset, .unset] [])) := q3.trans (by
        show Steps p.tables e below (s₁.setTop (mkF m 23 #[.val (.int p0), .val (.int p1), .val (.int vd), .val (.int vv), .unset, .unset, .unset, .unset, .unset] [(.int (lcmpW (((vv.toInt64) + (vd.toInt64)) - (1 : Int64)) (2147483647 : Int64)))])) _
        refine XS.ifYes X0.here hx rfl (pc0 := 23) (pc' := 28) rfl (hb hby at_23) rfl ((if0 _ _).trans (flt (fun q => hc4 ((lw_gt (((vv.toInt64) + (vd.toInt64)) - (1 : Int64)) (2147483647 : Int64)).mp q))).2.2.2) (by decide) (by decide) ?_
        show Steps p.tables e below (s₁.setTop (mkF m 28 #[.val (.int p0), .val (.int p1), .val (.int vd), .val (.int vv), .unset, .unset, .unset, .unset, .unset] [])) _
        exact Steps.refl _)
    have q8 : Steps p.tables e below (s₁.setTop (entryFrame m #[(.int p0), (.int p1)] maxLocals)) (s₁.setTop (mkF m 30 #[.val (.int p0), .val (.int p1), .val (.int vd), .val (.int vv), .unset, .unset, .unset, .unset, .unset] [(.int vv), (.int vd)])) := q7.trans (by
        show Steps p.tables e below (s₁.setTop (mkF m 28 #[.val (.int p0), .val (.int p1), .val (.int vd), .val (.int vv), .unset, .unset, .unset, .unset, .unset] [])) _
        refine XS.iloadN X0.here hx rfl (hb hby at_28) rfl ?_
        show Steps p.tables e below (s₁.setTop (mkF m 29 #[.val (.int p0), .val (.int p1), .val (.int vd), .val (.int vv), .unset, .unset, .unset, .unset, .unset] [(.int vd)])) _
        refine XS.iloadN X0.here hx rfl (hb hby at_29) rfl ?_
        show Steps p.tables e below (s₁.setTop (mkF m 30 #[.val (.int p0), .val (.int p1), .val (.int vd), .val (.int vv), .unset, .unset, .unset, .unset, .unset] [(.int vv), (.int vd)])) _
        exact Steps.refl _)
    have hB := own_dim p0 vd hvd
    obtain ⟨_, _, ⟨T9, L9, k9, n9⟩, -, X9, ⟨Lc9, hQ9, l9, y9, z9⟩, st9⟩ := Jvm.LawKit.callS X0 hx (y := (⟨"com/example/pareto_workflow_scheduler/paretoworkflowscheduler/algorithm/ReferencePoints", "count", "(II)I"⟩ : MethodName)) hown (mvT hZ (hw _ (List.mem_of_getElem? (i := 2) rfl))) (mvT hZ (hw _ (List.mem_of_getElem? (i := 3) rfl))) (mvT hZ (hw _ (List.mem_of_getElem? (i := 4) rfl))) (mvT hZ (hw _ (List.mem_of_getElem? (i := 5) rfl))) (by decide) (backOf (W := 0) (rm1 l Z a0 hw [] vd vv h0 n0 Z0 hB.1 hB.2) hZ (hw _ (List.mem_of_getElem? (i := 5) rfl)) (hw _ (List.mem_of_getElem? (i := 4) rfl)) (by decide) (by decide)) (g := (mkF m 30 #[.val (.int p0), .val (.int p1), .val (.int vd), .val (.int vv), .unset, .unset, .unset, .unset, .unset] [(.int vv), (.int vd)])) rfl (by rw [hml]; rfl) (argsL := [(.int vd), (.int vv)]) (rest := []) (lenOf pd_0 rfl) rfl (by show 2 * 0 + _ ≤ _; exact Nat.le_of_eq rfl) (hb hby at_30) (fun _ _ => ⟨rfl, e0, (by decide : 0 + 0 ≤ _), (by decide : 0 + 0 ≤ _)⟩)
    dsimp only [Pt.U, Pt.locs, Pt.cells, Pt.slots] at X9 l9 y9 z9 st9 hQ9
    subst l9 y9 z9
    obtain ⟨rfl, N9q, e9⟩ := hQ9
    have N9 := Fr.app N0 N9q
    have q10 : Steps p.tables e below (s₁.setTop (entryFrame m #[(.int p0), (.int p1)] maxLocals)) (T9.setTop (mkF m 33 #[.val (.int p0), .val (.int p1), .val (.int vd), .val (.int vv), .unset, .unset, .unset, .unset, .unset] [(.int (own_cnt 64 vd vv 1 1))])) := q8.trans (st9 _ (Steps.refl _))
    have q11 : Steps p.tables e below (s₁.setTop (entryFrame m #[(.int p0), (.int p1)] maxLocals)) (T9.setTop (mkF m 35 #[.val (.int p0), .val (.int p1), .val (.int vd), .val (.int vv), .val (.int (own_cnt 64 vd vv 1 1)), .unset, .unset, .unset, .unset] [])) := q10.trans (by
        show Steps p.tables e below (T9.setTop (mkF m 33 #[.val (.int p0), .val (.int p1), .val (.int vd), .val (.int vv), .unset, .unset, .unset, .unset, .unset] [(.int (own_cnt 64 vd vv 1 1))])) _
        refine XS.istore X9.here hx rfl (hb hby at_33) rfl (l' := #[.val (.int p0), .val (.int p1), .val (.int vd), .val (.int vv), .val (.int (own_cnt 64 vd vv 1 1)), .unset, .unset, .unset, .unset]) rfl ?_
        show Steps p.tables e below (T9.setTop (mkF m 35 #[.val (.int p0), .val (.int p1), .val (.int vd), .val (.int vv), .val (.int (own_cnt 64 vd vv 1 1)), .unset, .unset, .unset, .unset] [])) _
        exact Steps.refl _)
    obtain ⟨vc, hvc⟩ : ∃ v : Int32, v = (own_cnt 64 vd vv 1 1) := ⟨_, rfl⟩
    rw [← hvc] at q11
    have q12 : Steps p.tables e below (s₁.setTop (entryFrame m #[(.int p0), (.int p1)] maxLocals)) (T9.setTop (mkF m 37 #[.val (.int p0), .val (.int p1), .val (.int vd), .val (.int vv), .val (.int vc), .unset, .unset, .unset, .unset] [(.int (1 : Int32)), (.int vd)])) := q11.trans (by
        show Steps p.tables e below (T9.setTop (mkF m 35 #[.val (.int p0), .val (.int p1), .val (.int vd), .val (.int vv), .val (.int vc), .unset, .unset, .unset, .unset] [])) _
        refine XS.iloadN X9.here hx rfl (hb hby at_35) rfl ?_
        show Steps p.tables e below (T9.setTop (mkF m 36 #[.val (.int p0), .val (.int p1), .val (.int vd), .val (.int vv), .val (.int vc), .unset, .unset, .unset, .unset] [(.int vd)])) _
        refine XS.iconst X9.here hx rfl (hb hby at_36) ?_
        show Steps p.tables e below (T9.setTop (mkF m 37 #[.val (.int p0), .val (.int p1), .val (.int vd), .val (.int vv), .val (.int vc), .unset, .unset, .unset, .unset] [(.int (1 : Int32)), (.int vd)])) _
        exact Steps.refl _)
    by_cases hc13 : vd = (1 : Int32)
    · have q14 : Steps p.tables e below (s₁.setTop (entryFrame m #[(.int p0), (.int p1)] maxLocals)) (T9.setTop (mkF m 44 #[.val (.int p0), .val (.int p1), .val (.int vd), .val (.int vv), .val (.int vc), .unset, .unset, .unset, .unset] [])) := q12.trans (by
          show Steps p.tables e below (T9.setTop (mkF m 37 #[.val (.int p0), .val (.int p1), .val (.int vd), .val (.int vv), .val (.int vc), .unset, .unset, .unset, .unset] [(.int (1 : Int32)), (.int vd)])) _
          refine XS.icmpYes X9.here hx rfl (pc0 := 37) (pc' := 44) rfl (hb hby at_37) rfl (teq hc13).1 (by decide) (by decide) ?_
          show Steps p.tables e below (T9.setTop (mkF m 44 #[.val (.int p0), .val (.int p1), .val (.int vd), .val (.int vv), .val (.int vc), .unset, .unset, .unset, .unset] [])) _
          exact Steps.refl _)
      have q15 : Steps p.tables e below (s₁.setTop (entryFrame m #[(.int p0), (.int p1)] maxLocals)) (T9.setTop (mkF m 47 #[.val (.int p0), .val (.int p1), .val (.int vd), .val (.int vv), .val (.int vc), .unset, .unset, .unset, .unset] [(.int (1 : Int32)), (.int vc)])) := q14.trans (by
          show Steps p.tables e below (T9.setTop (mkF m 44 #[.val (.int p0), .val (.int p1), .val (.int vd), .val (.int vv), .val (.int vc), .unset, .unset, .unset, .unset] [])) _
          refine XS.iload X9.here hx rfl (hb hby at_44) rfl ?_
          show Steps p.tables e below (T9.setTop (mkF m 46 #[.val (.int p0), .val (.int p1), .val (.int vd), .val (.int vv), .val (.int vc), .unset, .unset, .unset, .unset] [(.int vc)])) _
          refine XS.iconst X9.here hx rfl (hb hby at_46) ?_
          show Steps p.tables e below (T9.setTop (mkF m 47 #[.val (.int p0), .val (.int p1), .val (.int vd), .val (.int vv), .val (.int vc), .unset, .unset, .unset, .unset] [(.int (1 : Int32)), (.int vc)])) _
          exact Steps.refl _)
      obtain ⟨zr, hzr⟩ : ∃ v : Int32, v = (if vc = (1 : Int32) then (1 : Int32) else (0 : Int32)) := ⟨_, rfl⟩
      have hz1 : zr = 1 := plainB p0 p1 vd vv vc zr hc4 hc13 hvd hvv hvc hzr
      obtain ⟨fs, hr, hrun, hended, hW, hsame⟩ := X9.leave (v := some (.int (1 : Int32))) (fun h => by rw [Bd.returns] at h; cases h)
      refine ⟨_, _, q15.trans ?_, hrun, hended, _, _, rfl, ?_, ⟨_, rfl⟩, hW, hsame.mono (by decide) (by decide)⟩
      · show Steps p.tables e below (T9.setTop (mkF m 47 #[.val (.int p0), .val (.int p1), .val (.int vd), .val (.int vv), .val (.int vc), .unset, .unset, .unset, .unset] [(.int (1 : Int32)), (.int vc)])) _
        by_cases hc16 : vc = (1 : Int32)
        · rw [if_pos hc16] at hzr
          refine XS.icmpNo X9.here hx rfl (hb hby at_47) rfl (teq hc16).2 ?_
          show Steps p.tables e below (T9.setTop (mkF m 50 #[.val (.int p0), .val (.int p1), .val (.int vd), .val (.int vv), .val (.int vc), .unset, .unset, .unset, .unset] [])) _
          refine XS.iconst X9.here hx rfl (hb hby at_50) ?_
          show Steps p.tables e below (T9.setTop (mkF m 51 #[.val (.int p0), .val (.int p1), .val (.int vd), .val (.int vv), .val (.int vc), .unset, .unset, .unset, .unset] [(.int (1 : Int32))])) _
          refine XS.goto X9.here hx rfl (pc0 := 51) (pc' := 55) rfl (hb hby at_51) (by decide) (by decide) ?_
          show Steps p.tables e below (T9.setTop (mkF m 55 #[.val (.int p0), .val (.int p1), .val (.int vd), .val (.int vv), .val (.int vc), .unset, .unset, .unset, .unset] [(.int (1 : Int32))])) _
          exact retN X9 hx (t := .boolean) Bd.returns (by simp) (hb hby at_55) hr
        · rw [if_neg hc16] at hzr
          refine XS.icmpYes X9.here hx rfl (pc0 := 47) (pc' := 54) rfl (hb hby at_47) rfl (feq hc16).2 (by decide) (by decide) ?_
          show Steps p.tables e below (T9.setTop (mkF m 54 #[.val (.int p0), .val (.int p1), .val (.int vd), .val (.int vv), .val (.int vc), .unset, .unset, .unset, .unset] [])) _
          refine XS.iconst X9.here hx rfl (hb hby at_54) ?_
          show Steps p.tables e below (T9.setTop (mkF m 55 #[.val (.int p0), .val (.int p1), .val (.int vd), .val (.int vv), .val (.int vc), .unset, .unset, .unset, .unset] [(.int (0 : Int32))])) _
          exact absurd (hzr.symm.trans hz1) (by decide)
      · show Q_rm0 Z p0 p1 h0 n0 _ T9.heap _
        rw [e9]
        exact ⟨rfl, N9⟩
    · have q17 : Steps p.tables e below (s₁.setTop (entryFrame m #[(.int p0), (.int p1)] maxLocals)) (T9.setTop (mkF m 40 #[.val (.int p0), .val (.int p1), .val (.int vd), .val (.int vv), .val (.int vc), .unset, .unset, .unset, .unset] [])) := q12.trans (by
          show Steps p.tables e below (T9.setTop (mkF m 37 #[.val (.int p0), .val (.int p1), .val (.int vd), .val (.int vv), .val (.int vc), .unset, .unset, .unset, .unset] [(.int (1 : Int32)), (.int vd)])) _
          refine XS.icmpNo X9.here hx rfl (hb hby at_37) rfl (feq hc13).1 ?_
          show Steps p.tables e below (T9.setTop (mkF m 40 #[.val (.int p0), .val (.int p1), .val (.int vd), .val (.int vv), .val (.int vc), .unset, .unset, .unset, .unset] [])) _
          exact Steps.refl _)
      have q18 : Steps p.tables e below (s₁.setTop (entryFrame m #[(.int p0), (.int p1)] maxLocals)) (T9.setTop (mkF m 41 #[.val (.int p0), .val (.int p1), .val (.int vd), .val (.int vv), .val (.int vc), .unset, .unset, .unset, .unset] [(.int vv)])) := q17.trans (by
          show Steps p.tables e below (T9.setTop (mkF m 40 #[.val (.int p0), .val (.int p1), .val (.int vd), .val (.int vv), .val (.int vc), .unset, .unset, .unset, .unset] [])) _
          refine XS.iloadN X9.here hx rfl (hb hby at_40) rfl ?_
          show Steps p.tables e below (T9.setTop (mkF m 41 #[.val (.int p0), .val (.int p1), .val (.int vd), .val (.int vv), .val (.int vc), .unset, .unset, .unset, .unset] [(.int vv)])) _
          exact Steps.refl _)
      by_cases hc19 : vv = (0 : Int32)
      · have q20 : Steps p.tables e below (s₁.setTop (entryFrame m #[(.int p0), (.int p1)] maxLocals)) (T9.setTop (mkF m 44 #[.val (.int p0), .val (.int p1), .val (.int vd), .val (.int vv), .val (.int vc), .unset, .unset, .unset, .unset] [])) := q18.trans (by
            show Steps p.tables e below (T9.setTop (mkF m 41 #[.val (.int p0), .val (.int p1), .val (.int vd), .val (.int vv), .val (.int vc), .unset, .unset, .unset, .unset] [(.int vv)])) _
            refine XS.ifNo X9.here hx rfl (hb hby at_41) rfl ((if0 _ _).trans (teq hc19).2) ?_
            show Steps p.tables e below (T9.setTop (mkF m 44 #[.val (.int p0), .val (.int p1), .val (.int vd), .val (.int vv), .val (.int vc), .unset, .unset, .unset, .unset] [])) _
            exact Steps.refl _)
        have q21 : Steps p.tables e below (s₁.setTop (entryFrame m #[(.int p0), (.int p1)] maxLocals)) (T9.setTop (mkF m 47 #[.val (.int p0), .val (.int p1), .val (.int vd), .val (.int vv), .val (.int vc), .unset, .unset, .unset, .unset] [(.int (1 : Int32)), (.int vc)])) := q20.trans (by
            show Steps p.tables e below (T9.setTop (mkF m 44 #[.val (.int p0), .val (.int p1), .val (.int vd), .val (.int vv), .val (.int vc), .unset, .unset, .unset, .unset] [])) _
            refine XS.iload X9.here hx rfl (hb hby at_44) rfl ?_
            show Steps p.tables e below (T9.setTop (mkF m 46 #[.val (.int p0), .val (.int p1), .val (.int vd), .val (.int vv), .val (.int vc), .unset, .unset, .unset, .unset] [(.int vc)])) _
            refine XS.iconst X9.here hx rfl (hb hby at_46) ?_
            show Steps p.tables e below (T9.setTop (mkF m 47 #[.val (.int p0), .val (.int p1), .val (.int vd), .val (.int vv), .val (.int vc), .unset, .unset, .unset, .unset] [(.int (1 : Int32)), (.int vc)])) _
            exact Steps.refl _)
        obtain ⟨zr, hzr⟩ : ∃ v : Int32, v = (if vc = (1 : Int32) then (1 : Int32) else (0 : Int32)) := ⟨_, rfl⟩
        have hz1 : zr = 1 := plainC p0 p1 vd vv vc zr hc4 hc13 hc19 hvd hvv hvc hzr
        obtain ⟨fs, hr, hrun, hended, hW, hsame⟩ := X9.leave (v := some (.int (1 : Int32))) (fun h => by rw [Bd.returns] at h; cases h)
        refine ⟨_, _, q21.trans ?_, hrun, hended, _, _, rfl, ?_, ⟨_, rfl⟩, hW, hsame.mono (by decide) (by decide)⟩
        · show Steps p.tables e below (T9.setTop (mkF m 47 #[.val (.int p0), .val (.int p1), .val (.int vd), .val (.int vv), .val (.int vc), .unset, .unset, .unset, .unset] [(.int (1 : Int32)), (.int vc)])) _
          by_cases hc22 : vc = (1 : Int32)
          · rw [if_pos hc22] at hzr
            refine XS.icmpNo X9.here hx rfl (hb hby at_47) rfl (teq hc22).2 ?_
            show Steps p.tables e below (T9.setTop (mkF m 50 #[.val (.int p0), .val (.int p1), .val (.int vd), .val (.int vv), .val (.int vc), .unset, .unset, .unset, .unset] [])) _
            refine XS.iconst X9.here hx rfl (hb hby at_50) ?_
            show Steps p.tables e below (T9.setTop (mkF m 51 #[.val (.int p0), .val (.int p1), .val (.int vd), .val (.int vv), .val (.int vc), .unset, .unset, .unset, .unset] [(.int (1 : Int32))])) _
            refine XS.goto X9.here hx rfl (pc0 := 51) (pc' := 55) rfl (hb hby at_51) (by decide) (by decide) ?_
            show Steps p.tables e below (T9.setTop (mkF m 55 #[.val (.int p0), .val (.int p1), .val (.int vd), .val (.int vv), .val (.int vc), .unset, .unset, .unset, .unset] [(.int (1 : Int32))])) _
            exact retN X9 hx (t := .boolean) Bd.returns (by simp) (hb hby at_55) hr
          · rw [if_neg hc22] at hzr
            refine XS.icmpYes X9.here hx rfl (pc0 := 47) (pc' := 54) rfl (hb hby at_47) rfl (feq hc22).2 (by decide) (by decide) ?_
            show Steps p.tables e below (T9.setTop (mkF m 54 #[.val (.int p0), .val (.int p1), .val (.int vd), .val (.int vv), .val (.int vc), .unset, .unset, .unset, .unset] [])) _
            refine XS.iconst X9.here hx rfl (hb hby at_54) ?_
            show Steps p.tables e below (T9.setTop (mkF m 55 #[.val (.int p0), .val (.int p1), .val (.int vd), .val (.int vv), .val (.int vc), .unset, .unset, .unset, .unset] [(.int (0 : Int32))])) _
            exact absurd (hzr.symm.trans hz1) (by decide)
        · show Q_rm0 Z p0 p1 h0 n0 _ T9.heap _
          rw [e9]
          exact ⟨rfl, N9⟩
      · have q23 : Steps p.tables e below (s₁.setTop (entryFrame m #[(.int p0), (.int p1)] maxLocals)) (T9.setTop (mkF m 56 #[.val (.int p0), .val (.int p1), .val (.int vd), .val (.int vv), .val (.int vc), .unset, .unset, .unset, .unset] [])) := q18.trans (by
            show Steps p.tables e below (T9.setTop (mkF m 41 #[.val (.int p0), .val (.int p1), .val (.int vd), .val (.int vv), .val (.int vc), .unset, .unset, .unset, .unset] [(.int vv)])) _
            refine XS.ifYes X9.here hx rfl (pc0 := 41) (pc' := 56) rfl (hb hby at_41) rfl ((if0 _ _).trans (feq hc19).2) (by decide) (by decide) ?_
            show Steps p.tables e below (T9.setTop (mkF m 56 #[.val (.int p0), .val (.int p1), .val (.int vd), .val (.int vv), .val (.int vc), .unset, .unset, .unset, .unset] [])) _
            exact Steps.refl _)
        have q24 : Steps p.tables e below (s₁.setTop (entryFrame m #[(.int p0), (.int p1)] maxLocals)) (T9.setTop (mkF m 60 #[.val (.int p0), .val (.int p1), .val (.int vd), .val (.int vv), .val (.int vc), .unset, .unset, .unset, .unset] [(.int (vv - (1 : Int32))), (.int vd)])) := q23.trans (by
            show Steps p.tables e below (T9.setTop (mkF m 56 #[.val (.int p0), .val (.int p1), .val (.int vd), .val (.int vv), .val (.int vc), .unset, .unset, .unset, .unset] [])) _
            refine XS.iloadN X9.here hx rfl (hb hby at_56) rfl ?_
            show Steps p.tables e below (T9.setTop (mkF m 57 #[.val (.int p0), .val (.int p1), .val (.int vd), .val (.int vv), .val (.int vc), .unset, .unset, .unset, .unset] [(.int vd)])) _
            refine XS.iloadN X9.here hx rfl (hb hby at_57) rfl ?_
            show Steps p.tables e below (T9.setTop (mkF m 58 #[.val (.int p0), .val (.int p1), .val (.int vd), .val (.int vv), .val (.int vc), .unset, .unset, .unset, .unset] [(.int vv), (.int vd)])) _
            refine XS.iconst X9.here hx rfl (hb hby at_58) ?_
            show Steps p.tables e below (T9.setTop (mkF m 59 #[.val (.int p0), .val (.int p1), .val (.int vd), .val (.int vv), .val (.int vc), .unset, .unset, .unset, .unset] [(.int (1 : Int32)), (.int vv), (.int vd)])) _
            refine XS.isub X9.here hx rfl (hb hby at_59) rfl ?_
            show Steps p.tables e below (T9.setTop (mkF m 60 #[.val (.int p0), .val (.int p1), .val (.int vd), .val (.int vv), .val (.int vc), .unset, .unset, .unset, .unset] [(.int (vv - (1 : Int32))), (.int vd)])) _
            exact Steps.refl _)
        obtain ⟨_, _, ⟨T25, L25, k25, n25⟩, -, X25, ⟨Lc25, hQ25, l25, y25, z25⟩, st25⟩ := Jvm.LawKit.callS X9 hx (y := (⟨"com/example/pareto_workflow_scheduler/paretoworkflowscheduler/algorithm/ReferencePoints", "count", "(II)I"⟩ : MethodName)) hown (mvT hZ (hw _ (List.mem_of_getElem? (i := 2) rfl))) (mvT hZ (hw _ (List.mem_of_getElem? (i := 3) rfl))) (mvT hZ (hw _ (List.mem_of_getElem? (i := 4) rfl))) (mvT hZ (hw _ (List.mem_of_getElem? (i := 5) rfl))) (by decide) (backOf (W := 0) (rm1 l Z a0 hw [] vd (vv - (1 : Int32)) h0 n0 Z0 hB.1 hB.2) hZ (hw _ (List.mem_of_getElem? (i := 5) rfl)) (hw _ (List.mem_of_getElem? (i := 4) rfl)) (by decide) (by decide)) (g := (mkF m 60 #[.val (.int p0), .val (.int p1), .val (.int vd), .val (.int vv), .val (.int vc), .unset, .unset, .unset, .unset] [(.int (vv - (1 : Int32))), (.int vd)])) rfl (by rw [hml]; rfl) (argsL := [(.int vd), (.int (vv - (1 : Int32)))]) (rest := []) (lenOf pd_0 rfl) rfl (by show 2 * 0 + _ ≤ _; exact Nat.le_of_eq rfl) (hb hby at_60) (fun _ _ => ⟨rfl, e9, (by decide : 0 + 0 ≤ _), (by decide : 0 + 0 ≤ _)⟩)
        dsimp only [Pt.U, Pt.locs, Pt.cells, Pt.slots] at X25 l25 y25 z25 st25 hQ25
        subst l25 y25 z25
        obtain ⟨rfl, N25q, e25⟩ := hQ25
        have N25 := Fr.app N9 N25q
        have q26 : Steps p.tables e below (s₁.setTop (entryFrame m #[(.int p0), (.int p1)] maxLocals)) (T25.setTop (mkF m 63 #[.val (.int p0), .val (.int p1), .val (.int vd), .val (.int vv), .val (.int vc), .unset, .unset, .unset, .unset] [(.int (own_cnt 64 vd (vv - (1 : Int32)) 1 1))])) := q24.trans (st25 _ (Steps.refl _))
        have q27 : Steps p.tables e below (s₁.setTop (entryFrame m #[(.int p0), (.int p1)] maxLocals)) (T25.setTop (mkF m 65 #[.val (.int p0), .val (.int p1), .val (.int vd), .val (.int vv), .val (.int vc), .val (.int (own_cnt 64 vd (vv - (1 : Int32)) 1 1)), .unset, .unset, .unset] [])) := q26.trans (by
            show Steps p.tables e below (T25.setTop (mkF m 63 #[.val (.int p0), .val (.int p1), .val (.int vd), .val (.int vv), .val (.int vc), .unset, .unset, .unset, .unset] [(.int (own_cnt 64 vd (vv - (1 : Int32)) 1 1))])) _
            refine XS.istore X25.here hx rfl (hb hby at_63) rfl (l' := #[.val (.int p0), .val (.int p1), .val (.int vd), .val (.int vv), .val (.int vc), .val (.int (own_cnt 64 vd (vv - (1 : Int32)) 1 1)), .unset, .unset, .unset]) rfl ?_
            show Steps p.tables e below (T25.setTop (mkF m 65 #[.val (.int p0), .val (.int p1), .val (.int vd), .val (.int vv), .val (.int vc), .val (.int (own_cnt 64 vd (vv - (1 : Int32)) 1 1)), .unset, .unset, .unset] [])) _
            exact Steps.refl _)
        obtain ⟨va, hva⟩ : ∃ v : Int32, v = (own_cnt 64 vd (vv - (1 : Int32)) 1 1) := ⟨_, rfl⟩
        rw [← hva] at q27
        have q28 : Steps p.tables e below (s₁.setTop (entryFrame m #[(.int p0), (.int p1)] maxLocals)) (T25.setTop (mkF m 69 #[.val (.int p0), .val (.int p1), .val (.int vd), .val (.int vv), .val (.int vc), .val (.int va), .unset, .unset, .unset] [(.int vv), (.int (vd - (1 : Int32)))])) := q27.trans (by
            show Steps p.tables e below (T25.setTop (mkF m 65 #[.val (.int p0), .val (.int p1), .val (.int vd), .val (.int vv), .val (.int vc), .val (.int va), .unset, .unset, .unset] [])) _
            refine XS.iloadN X25.here hx rfl (hb hby at_65) rfl ?_
            show Steps p.tables e below (T25.setTop (mkF m 66 #[.val (.int p0), .val (.int p1), .val (.int vd), .val (.int vv), .val (.int vc), .val (.int va), .unset, .unset, .unset] [(.int vd)])) _
            refine XS.iconst X25.here hx rfl (hb hby at_66) ?_
            show Steps p.tables e below (T25.setTop (mkF m 67 #[.val (.int p0), .val (.int p1), .val (.int vd), .val (.int vv), .val (.int vc), .val (.int va), .unset, .unset, .unset] [(.int (1 : Int32)), (.int vd)])) _
            refine XS.isub X25.here hx rfl (hb hby at_67) rfl ?_
            show Steps p.tables e below (T25.setTop (mkF m 68 #[.val (.int p0), .val (.int p1), .val (.int vd), .val (.int vv), .val (.int vc), .val (.int va), .unset, .unset, .unset] [(.int (vd - (1 : Int32)))])) _
            refine XS.iloadN X25.here hx rfl (hb hby at_68) rfl ?_
            show Steps p.tables e below (T25.setTop (mkF m 69 #[.val (.int p0), .val (.int p1), .val (.int vd), .val (.int vv), .val (.int vc), .val (.int va), .unset, .unset, .unset] [(.int vv), (.int (vd - (1 : Int32)))])) _
            exact Steps.refl _)
        have hB' := own_dim1 vd hB hc13
        obtain ⟨_, _, ⟨T29, L29, k29, n29⟩, -, X29, ⟨Lc29, hQ29, l29, y29, z29⟩, st29⟩ := Jvm.LawKit.callS X25 hx (y := (⟨"com/example/pareto_workflow_scheduler/paretoworkflowscheduler/algorithm/ReferencePoints", "count", "(II)I"⟩ : MethodName)) hown (mvT hZ (hw _ (List.mem_of_getElem? (i := 2) rfl))) (mvT hZ (hw _ (List.mem_of_getElem? (i := 3) rfl))) (mvT hZ (hw _ (List.mem_of_getElem? (i := 4) rfl))) (mvT hZ (hw _ (List.mem_of_getElem? (i := 5) rfl))) (by decide) (backOf (W := 0) (rm1 l Z a0 hw [] (vd - (1 : Int32)) vv h0 n0 Z0 hB'.1 hB'.2) hZ (hw _ (List.mem_of_getElem? (i := 5) rfl)) (hw _ (List.mem_of_getElem? (i := 4) rfl)) (by decide) (by decide)) (g := (mkF m 69 #[.val (.int p0), .val (.int p1), .val (.int vd), .val (.int vv), .val (.int vc), .val (.int va), .unset, .unset, .unset] [(.int vv), (.int (vd - (1 : Int32)))])) rfl (by rw [hml]; rfl) (argsL := [(.int (vd - (1 : Int32))), (.int vv)]) (rest := []) (lenOf pd_0 rfl) rfl (by show 2 * 0 + _ ≤ _; exact Nat.le_of_eq rfl) (hb hby at_69) (fun _ _ => ⟨rfl, e25, (by decide : 0 + 0 ≤ _), (by decide : 0 + 0 ≤ _)⟩)
        dsimp only [Pt.U, Pt.locs, Pt.cells, Pt.slots] at X29 l29 y29 z29 st29 hQ29
        subst l29 y29 z29
        obtain ⟨rfl, N29q, e29⟩ := hQ29
        have N29 := Fr.app N25 N29q
        have q30 : Steps p.tables e below (s₁.setTop (entryFrame m #[(.int p0), (.int p1)] maxLocals)) (T29.setTop (mkF m 72 #[.val (.int p0), .val (.int p1), .val (.int vd), .val (.int vv), .val (.int vc), .val (.int va), .unset, .unset, .unset] [(.int (own_cnt 64 (vd - (1 : Int32)) vv 1 1))])) := q28.trans (st29 _ (Steps.refl _))
        have q31 : Steps p.tables e below (s₁.setTop (entryFrame m #[(.int p0), (.int p1)] maxLocals)) (T29.setTop (mkF m 74 #[.val (.int p0), .val (.int p1), .val (.int vd), .val (.int vv), .val (.int vc), .val (.int va), .val (.int (own_cnt 64 (vd - (1 : Int32)) vv 1 1)), .unset, .unset] [])) := q30.trans (by
            show Steps p.tables e below (T29.setTop (mkF m 72 #[.val (.int p0), .val (.int p1), .val (.int vd), .val (.int vv), .val (.int vc), .val (.int va), .unset, .unset, .unset] [(.int (own_cnt 64 (vd - (1 : Int32)) vv 1 1))])) _
            refine XS.istore X29.here hx rfl (hb hby at_72) rfl (l' := #[.val (.int p0), .val (.int p1), .val (.int vd), .val (.int vv), .val (.int vc), .val (.int va), .val (.int (own_cnt 64 (vd - (1 : Int32)) vv 1 1)), .unset, .unset]) rfl ?_
            show Steps p.tables e below (T29.setTop (mkF m 74 #[.val (.int p0), .val (.int p1), .val (.int vd), .val (.int vv), .val (.int vc), .val (.int va), .val (.int (own_cnt 64 (vd - (1 : Int32)) vv 1 1)), .unset, .unset] [])) _
            exact Steps.refl _)
        obtain ⟨vb, hvb⟩ : ∃ v : Int32, v = (own_cnt 64 (vd - (1 : Int32)) vv 1 1) := ⟨_, rfl⟩
        rw [← hvb] at q31
        have q32 : Steps p.tables e below (s₁.setTop (entryFrame m #[(.int p0), (.int p1)] maxLocals)) (T29.setTop (mkF m 76 #[.val (.int p0), .val (.int p1), .val (.int vd), .val (.int vv), .val (.int vc), .val (.int va), .val (.int vb), .unset, .unset] [(.int va)])) := q31.trans (by
            show Steps p.tables e below (T29.setTop (mkF m 74 #[.val (.int p0), .val (.int p1), .val (.int vd), .val (.int vv), .val (.int vc), .val (.int va), .val (.int vb), .unset, .unset] [])) _
            refine XS.iload X29.here hx rfl (hb hby at_74) rfl ?_
            show Steps p.tables e below (T29.setTop (mkF m 76 #[.val (.int p0), .val (.int p1), .val (.int vd), .val (.int vv), .val (.int vc), .val (.int va), .val (.int vb), .unset, .unset] [(.int va)])) _
            exact Steps.refl _)
        by_cases hc33 : va < (0 : Int32)
        · have q34 : Steps p.tables e below (s₁.setTop (entryFrame m #[(.int p0), (.int p1)] maxLocals)) (T29.setTop (mkF m 84 #[.val (.int p0), .val (.int p1), .val (.int vd), .val (.int vv), .val (.int vc), .val (.int va), .val (.int vb), .unset, .unset] [])) := q32.trans (by
              show Steps p.tables e below (T29.setTop (mkF m 76 #[.val (.int p0), .val (.int p1), .val (.int vd), .val (.int vv), .val (.int vc), .val (.int va), .val (.int vb), .unset, .unset] [(.int va)])) _
              refine XS.ifYes X29.here hx rfl (pc0 := 76) (pc' := 84) rfl (hb hby at_76) rfl ((if0 _ _).trans (tlt hc33).1) (by decide) (by decide) ?_
              show Steps p.tables e below (T29.setTop (mkF m 84 #[.val (.int p0), .val (.int p1), .val (.int vd), .val (.int vv), .val (.int vc), .val (.int va), .val (.int vb), .unset, .unset] [])) _
              exact Steps.refl _)
          have q35 : Steps p.tables e below (s₁.setTop (entryFrame m #[(.int p0), (.int p1)] maxLocals)) (T29.setTop (mkF m 87 #[.val (.int p0), .val (.int p1), .val (.int vd), .val (.int vv), .val (.int vc), .val (.int va), .val (.int vb), .unset, .unset] [(.int (-1 : Int32)), (.int vc)])) := q34.trans (by
              show Steps p.tables e below (T29.setTop (mkF m 84 #[.val (.int p0), .val (.int p1), .val (.int vd), .val (.int vv), .val (.int vc), .val (.int va), .val (.int vb), .unset, .unset] [])) _
              refine XS.iload X29.here hx rfl (hb hby at_84) rfl ?_
              show Steps p.tables e below (T29.setTop (mkF m 86 #[.val (.int p0), .val (.int p1), .val (.int vd), .val (.int vv), .val (.int vc), .val (.int va), .val (.int vb), .unset, .unset] [(.int vc)])) _
              refine XS.iconst X29.here hx rfl (hb hby at_86) ?_
              show Steps p.tables e below (T29.setTop (mkF m 87 #[.val (.int p0), .val (.int p1), .val (.int vd), .val (.int vv), .val (.int vc), .val (.int va), .val (.int vb), .unset, .unset] [(.int (-1 : Int32)), (.int vc)])) _
              exact Steps.refl _)
          obtain ⟨zr, hzr⟩ : ∃ v : Int32, v = (if vc = (-1 : Int32) then (1 : Int32) else (0 : Int32)) := ⟨_, rfl⟩
          have hz1 : zr = 1 := plainD p0 p1 vd vv vc va vb zr hc4 hc13 hc19 hc33 hvd hvv hvc hva hvb hzr
          obtain ⟨fs, hr, hrun, hended, hW, hsame⟩ := X29.leave (v := some (.int (1 : Int32))) (fun h => by rw [Bd.returns] at h; cases h)
          refine ⟨_, _, q35.trans ?_, hrun, hended, _, _, rfl, ?_, ⟨_, rfl⟩, hW, hsame.mono (by decide) (by decide)⟩
          · show Steps p.tables e below (T29.setTop (mkF m 87 #[.val (.int p0), .val (.int p1), .val (.int vd), .val (.int vv), .val (.int vc), .val (.int va), .val (.int vb), .unset, .unset] [(.int (-1 : Int32)), (.int vc)])) _
            by_cases hc36 : vc = (-1 : Int32)
            · rw [if_pos hc36] at hzr
              refine XS.icmpNo X29.here hx rfl (hb hby at_87) rfl (teq hc36).2 ?_
              show Steps p.tables e below (T29.setTop (mkF m 90 #[.val (.int p0), .val (.int p1), .val (.int vd), .val (.int vv), .val (.int vc), .val (.int va), .val (.int vb), .unset, .unset] [])) _
              refine XS.iconst X29.here hx rfl (hb hby at_90) ?_
              show Steps p.tables e below (T29.setTop (mkF m 91 #[.val (.int p0), .val (.int p1), .val (.int vd), .val (.int vv), .val (.int vc), .val (.int va), .val (.int vb), .unset, .unset] [(.int (1 : Int32))])) _
              refine XS.goto X29.here hx rfl (pc0 := 91) (pc' := 95) rfl (hb hby at_91) (by decide) (by decide) ?_
              show Steps p.tables e below (T29.setTop (mkF m 95 #[.val (.int p0), .val (.int p1), .val (.int vd), .val (.int vv), .val (.int vc), .val (.int va), .val (.int vb), .unset, .unset] [(.int (1 : Int32))])) _
              exact retN X29 hx (t := .boolean) Bd.returns (by simp) (hb hby at_95) hr
            · rw [if_neg hc36] at hzr
              refine XS.icmpYes X29.here hx rfl (pc0 := 87) (pc' := 94) rfl (hb hby at_87) rfl (feq hc36).2 (by decide) (by decide) ?_
              show Steps p.tables e below (T29.setTop (mkF m 94 #[.val (.int p0), .val (.int p1), .val (.int vd), .val (.int vv), .val (.int vc), .val (.int va), .val (.int vb), .unset, .unset] [])) _
              refine XS.iconst X29.here hx rfl (hb hby at_94) ?_
              show Steps p.tables e below (T29.setTop (mkF m 95 #[.val (.int p0), .val (.int p1), .val (.int vd), .val (.int vv), .val (.int vc), .val (.int va), .val (.int vb), .unset, .unset] [(.int (0 : Int32))])) _
              exact absurd (hzr.symm.trans hz1) (by decide)
          · show Q_rm0 Z p0 p1 h0 n0 _ T29.heap _
            rw [e29]
            exact ⟨rfl, N29⟩
        · have q37 : Steps p.tables e below (s₁.setTop (entryFrame m #[(.int p0), (.int p1)] maxLocals)) (T29.setTop (mkF m 79 #[.val (.int p0), .val (.int p1), .val (.int vd), .val (.int vv), .val (.int vc), .val (.int va), .val (.int vb), .unset, .unset] [])) := q32.trans (by
              show Steps p.tables e below (T29.setTop (mkF m 76 #[.val (.int p0), .val (.int p1), .val (.int vd), .val (.int vv), .val (.int vc), .val (.int va), .val (.int vb), .unset, .unset] [(.int va)])) _
              refine XS.ifNo X29.here hx rfl (hb hby at_76) rfl ((if0 _ _).trans (flt hc33).1) ?_
              show Steps p.tables e below (T29.setTop (mkF m 79 #[.val (.int p0), .val (.int p1), .val (.int vd), .val (.int vv), .val (.int vc), .val (.int va), .val (.int vb), .unset, .unset] [])) _
              exact Steps.refl _)
          have q38 : Steps p.tables e below (s₁.setTop (entryFrame m #[(.int p0), (.int p1)] maxLocals)) (T29.setTop (mkF m 81 #[.val (.int p0), .val (.int p1), .val (.int vd), .val (.int vv), .val (.int vc), .val (.int va), .val (.int vb), .unset, .unset] [(.int vb)])) := q37.trans (by
              show Steps p.tables e below (T29.setTop (mkF m 79 #[.val (.int p0), .val (.int p1), .val (.int vd), .val (.int vv), .val (.int vc), .val (.int va), .val (.int vb), .unset, .unset] [])) _
              refine XS.iload X29.here hx rfl (hb hby at_79) rfl ?_
              show Steps p.tables e below (T29.setTop (mkF m 81 #[.val (.int p0), .val (.int p1), .val (.int vd), .val (.int vv), .val (.int vc), .val (.int va), .val (.int vb), .unset, .unset] [(.int vb)])) _
              exact Steps.refl _)
          by_cases hc39 : vb < (0 : Int32)
          · have q40 : Steps p.tables e below (s₁.setTop (entryFrame m #[(.int p0), (.int p1)] maxLocals)) (T29.setTop (mkF m 84 #[.val (.int p0), .val (.int p1), .val (.int vd), .val (.int vv), .val (.int vc), .val (.int va), .val (.int vb), .unset, .unset] [])) := q38.trans (by
                show Steps p.tables e below (T29.setTop (mkF m 81 #[.val (.int p0), .val (.int p1), .val (.int vd), .val (.int vv), .val (.int vc), .val (.int va), .val (.int vb), .unset, .unset] [(.int vb)])) _
                refine XS.ifNo X29.here hx rfl (hb hby at_81) rfl ((if0 _ _).trans (tlt hc39).2.1) ?_
                show Steps p.tables e below (T29.setTop (mkF m 84 #[.val (.int p0), .val (.int p1), .val (.int vd), .val (.int vv), .val (.int vc), .val (.int va), .val (.int vb), .unset, .unset] [])) _
                exact Steps.refl _)
            have q41 : Steps p.tables e below (s₁.setTop (entryFrame m #[(.int p0), (.int p1)] maxLocals)) (T29.setTop (mkF m 87 #[.val (.int p0), .val (.int p1), .val (.int vd), .val (.int vv), .val (.int vc), .val (.int va), .val (.int vb), .unset, .unset] [(.int (-1 : Int32)), (.int vc)])) := q40.trans (by
                show Steps p.tables e below (T29.setTop (mkF m 84 #[.val (.int p0), .val (.int p1), .val (.int vd), .val (.int vv), .val (.int vc), .val (.int va), .val (.int vb), .unset, .unset] [])) _
                refine XS.iload X29.here hx rfl (hb hby at_84) rfl ?_
                show Steps p.tables e below (T29.setTop (mkF m 86 #[.val (.int p0), .val (.int p1), .val (.int vd), .val (.int vv), .val (.int vc), .val (.int va), .val (.int vb), .unset, .unset] [(.int vc)])) _
                refine XS.iconst X29.here hx rfl (hb hby at_86) ?_
                show Steps p.tables e below (T29.setTop (mkF m 87 #[.val (.int p0), .val (.int p1), .val (.int vd), .val (.int vv), .val (.int vc), .val (.int va), .val (.int vb), .unset, .unset] [(.int (-1 : Int32)), (.int vc)])) _
                exact Steps.refl _)
            obtain ⟨zr, hzr⟩ : ∃ v : Int32, v = (if vc = (-1 : Int32) then (1 : Int32) else (0 : Int32)) := ⟨_, rfl⟩
            have hz1 : zr = 1 := plainE p0 p1 vd vv vc va vb zr hc4 hc13 hc19 hc33 hc39 hvd hvv hvc hva hvb hzr
            obtain ⟨fs, hr, hrun, hended, hW, hsame⟩ := X29.leave (v := some (.int (1 : Int32))) (fun h => by rw [Bd.returns] at h; cases h)
            refine ⟨_, _, q41.trans ?_, hrun, hended, _, _, rfl, ?_, ⟨_, rfl⟩, hW, hsame.mono (by decide) (by decide)⟩
            · show Steps p.tables e below (T29.setTop (mkF m 87 #[.val (.int p0), .val (.int p1), .val (.int vd), .val (.int vv), .val (.int vc), .val (.int va), .val (.int vb), .unset, .unset] [(.int (-1 : Int32)), (.int vc)])) _
              by_cases hc42 : vc = (-1 : Int32)
              · rw [if_pos hc42] at hzr
                refine XS.icmpNo X29.here hx rfl (hb hby at_87) rfl (teq hc42).2 ?_
                show Steps p.tables e below (T29.setTop (mkF m 90 #[.val (.int p0), .val (.int p1), .val (.int vd), .val (.int vv), .val (.int vc), .val (.int va), .val (.int vb), .unset, .unset] [])) _
                refine XS.iconst X29.here hx rfl (hb hby at_90) ?_
                show Steps p.tables e below (T29.setTop (mkF m 91 #[.val (.int p0), .val (.int p1), .val (.int vd), .val (.int vv), .val (.int vc), .val (.int va), .val (.int vb), .unset, .unset] [(.int (1 : Int32))])) _
                refine XS.goto X29.here hx rfl (pc0 := 91) (pc' := 95) rfl (hb hby at_91) (by decide) (by decide) ?_
                show Steps p.tables e below (T29.setTop (mkF m 95 #[.val (.int p0), .val (.int p1), .val (.int vd), .val (.int vv), .val (.int vc), .val (.int va), .val (.int vb), .unset, .unset] [(.int (1 : Int32))])) _
                exact retN X29 hx (t := .boolean) Bd.returns (by simp) (hb hby at_95) hr
              · rw [if_neg hc42] at hzr
                refine XS.icmpYes X29.here hx rfl (pc0 := 87) (pc' := 94) rfl (hb hby at_87) rfl (feq hc42).2 (by decide) (by decide) ?_
                show Steps p.tables e below (T29.setTop (mkF m 94 #[.val (.int p0), .val (.int p1), .val (.int vd), .val (.int vv), .val (.int vc), .val (.int va), .val (.int vb), .unset, .unset] [])) _
                refine XS.iconst X29.here hx rfl (hb hby at_94) ?_
                show Steps p.tables e below (T29.setTop (mkF m 95 #[.val (.int p0), .val (.int p1), .val (.int vd), .val (.int vv), .val (.int vc), .val (.int va), .val (.int vb), .unset, .unset] [(.int (0 : Int32))])) _
                exact absurd (hzr.symm.trans hz1) (by decide)
            · show Q_rm0 Z p0 p1 h0 n0 _ T29.heap _
              rw [e29]
              exact ⟨rfl, N29⟩
          · have q43 : Steps p.tables e below (s₁.setTop (entryFrame m #[(.int p0), (.int p1)] maxLocals)) (T29.setTop (mkF m 96 #[.val (.int p0), .val (.int p1), .val (.int vd), .val (.int vv), .val (.int vc), .val (.int va), .val (.int vb), .unset, .unset] [])) := q38.trans (by
                show Steps p.tables e below (T29.setTop (mkF m 81 #[.val (.int p0), .val (.int p1), .val (.int vd), .val (.int vv), .val (.int vc), .val (.int va), .val (.int vb), .unset, .unset] [(.int vb)])) _
                refine XS.ifYes X29.here hx rfl (pc0 := 81) (pc' := 96) rfl (hb hby at_81) rfl ((if0 _ _).trans (flt hc39).2.1) (by decide) (by decide) ?_
                show Steps p.tables e below (T29.setTop (mkF m 96 #[.val (.int p0), .val (.int p1), .val (.int vd), .val (.int vv), .val (.int vc), .val (.int va), .val (.int vb), .unset, .unset] [])) _
                exact Steps.refl _)
            have q44 : Steps p.tables e below (s₁.setTop (entryFrame m #[(.int p0), (.int p1)] maxLocals)) (T29.setTop (mkF m 105 #[.val (.int p0), .val (.int p1), .val (.int vd), .val (.int vv), .val (.int vc), .val (.int va), .val (.int vb), .val (.long ((va.toInt64) + (vb.toInt64))), .second] [])) := q43.trans (by
                show Steps p.tables e below (T29.setTop (mkF m 96 #[.val (.int p0), .val (.int p1), .val (.int vd), .val (.int vv), .val (.int vc), .val (.int va), .val (.int vb), .unset, .unset] [])) _
                refine XS.iload X29.here hx rfl (hb hby at_96) rfl ?_
                show Steps p.tables e below (T29.setTop (mkF m 98 #[.val (.int p0), .val (.int p1), .val (.int vd), .val (.int vv), .val (.int vc), .val (.int va), .val (.int vb), .unset, .unset] [(.int va)])) _
                refine XS.i2l X29.here hx rfl (hb hby at_98) rfl ?_
                show Steps p.tables e below (T29.setTop (mkF m 99 #[.val (.int p0), .val (.int p1), .val (.int vd), .val (.int vv), .val (.int vc), .val (.int va), .val (.int vb), .unset, .unset] [(.long (va.toInt64))])) _
                refine XS.iload X29.here hx rfl (hb hby at_99) rfl ?_
                show Steps p.tables e below (T29.setTop (mkF m 101 #[.val (.int p0), .val (.int p1), .val (.int vd), .val (.int vv), .val (.int vc), .val (.int va), .val (.int vb), .unset, .unset] [(.int vb), (.long (va.toInt64))])) _
                refine XS.i2l X29.here hx rfl (hb hby at_101) rfl ?_
                show Steps p.tables e below (T29.setTop (mkF m 102 #[.val (.int p0), .val (.int p1), .val (.int vd), .val (.int vv), .val (.int vc), .val (.int va), .val (.int vb), .unset, .unset] [(.long (vb.toInt64)), (.long (va.toInt64))])) _
                refine XS.ladd X29.here hx rfl (hb hby at_102) rfl ?_
                show Steps p.tables e below (T29.setTop (mkF m 103 #[.val (.int p0), .val (.int p1), .val (.int vd), .val (.int vv), .val (.int vc), .val (.int va), .val (.int vb), .unset, .unset] [(.long ((va.toInt64) + (vb.toInt64)))])) _
                refine XS.lstore X29.here hx rfl (hb hby at_103) rfl (l' := #[.val (.int p0), .val (.int p1), .val (.int vd), .val (.int vv), .val (.int vc), .val (.int va), .val (.int vb), .val (.long ((va.toInt64) + (vb.toInt64))), .second]) rfl ?_
                show Steps p.tables e below (T29.setTop (mkF m 105 #[.val (.int p0), .val (.int p1), .val (.int vd), .val (.int vv), .val (.int vc), .val (.int va), .val (.int vb), .val (.long ((va.toInt64) + (vb.toInt64))), .second] [])) _
                exact Steps.refl _)
            obtain ⟨vs, hvs⟩ : ∃ v : Int64, v = ((va.toInt64) + (vb.toInt64)) := ⟨_, rfl⟩
            rw [← hvs] at q44
            have q45 : Steps p.tables e below (s₁.setTop (entryFrame m #[(.int p0), (.int p1)] maxLocals)) (T29.setTop (mkF m 111 #[.val (.int p0), .val (.int p1), .val (.int vd), .val (.int vv), .val (.int vc), .val (.int va), .val (.int vb), .val (.long vs), .second] [(.int (lcmpW vs (2147483647 : Int64)))])) := q44.trans (by
                show Steps p.tables e below (T29.setTop (mkF m 105 #[.val (.int p0), .val (.int p1), .val (.int vd), .val (.int vv), .val (.int vc), .val (.int va), .val (.int vb), .val (.long vs), .second] [])) _
                refine XS.lload X29.here hx rfl (hb hby at_105) rfl ?_
                show Steps p.tables e below (T29.setTop (mkF m 107 #[.val (.int p0), .val (.int p1), .val (.int vd), .val (.int vv), .val (.int vc), .val (.int va), .val (.int vb), .val (.long vs), .second] [(.long vs)])) _
                refine X29.ldc2Long hx hown (mvT hZ (hw _ (List.mem_of_getElem? (i := 1) rfl))) (g := (mkF m 107 #[.val (.int p0), .val (.int p1), .val (.int vd), .val (.int vv), .val (.int vc), .val (.int va), .val (.int vb), .val (.long vs), .second] [(.long vs)])) rfl (hb hby at_107) _ ?_
                show Steps p.tables e below (T29.setTop (mkF m 110 #[.val (.int p0), .val (.int p1), .val (.int vd), .val (.int vv), .val (.int vc), .val (.int va), .val (.int vb), .val (.long vs), .second] [(.long (2147483647 : Int64)), (.long vs)])) _
                refine XS.lcmp X29.here hx rfl (hb hby at_110) rfl ?_
                show Steps p.tables e below (T29.setTop (mkF m 111 #[.val (.int p0), .val (.int p1), .val (.int vd), .val (.int vv), .val (.int vc), .val (.int va), .val (.int vb), .val (.long vs), .second] [(.int (lcmpW vs (2147483647 : Int64)))])) _
                exact Steps.refl _)
            by_cases hc46 : (2147483647 : Int64) < vs
            · have q47 : Steps p.tables e below (s₁.setTop (entryFrame m #[(.int p0), (.int p1)] maxLocals)) (T29.setTop (mkF m 114 #[.val (.int p0), .val (.int p1), .val (.int vd), .val (.int vv), .val (.int vc), .val (.int va), .val (.int vb), .val (.long vs), .second] [])) := q45.trans (by
                  show Steps p.tables e below (T29.setTop (mkF m 111 #[.val (.int p0), .val (.int p1), .val (.int vd), .val (.int vv), .val (.int vc), .val (.int va), .val (.int vb), .val (.long vs), .second] [(.int (lcmpW vs (2147483647 : Int64)))])) _
                  refine XS.ifNo X29.here hx rfl (hb hby at_111) rfl ((if0 _ _).trans (tlt ((lw_gt vs (2147483647 : Int64)).mpr hc46)).2.2.2) ?_
                  show Steps p.tables e below (T29.setTop (mkF m 114 #[.val (.int p0), .val (.int p1), .val (.int vd), .val (.int vv), .val (.int vc), .val (.int va), .val (.int vb), .val (.long vs), .second] [])) _
                  exact Steps.refl _)
              have q48 : Steps p.tables e below (s₁.setTop (entryFrame m #[(.int p0), (.int p1)] maxLocals)) (T29.setTop (mkF m 117 #[.val (.int p0), .val (.int p1), .val (.int vd), .val (.int vv), .val (.int vc), .val (.int va), .val (.int vb), .val (.long vs), .second] [(.int (-1 : Int32)), (.int vc)])) := q47.trans (by
                  show Steps p.tables e below (T29.setTop (mkF m 114 #[.val (.int p0), .val (.int p1), .val (.int vd), .val (.int vv), .val (.int vc), .val (.int va), .val (.int vb), .val (.long vs), .second] [])) _
                  refine XS.iload X29.here hx rfl (hb hby at_114) rfl ?_
                  show Steps p.tables e below (T29.setTop (mkF m 116 #[.val (.int p0), .val (.int p1), .val (.int vd), .val (.int vv), .val (.int vc), .val (.int va), .val (.int vb), .val (.long vs), .second] [(.int vc)])) _
                  refine XS.iconst X29.here hx rfl (hb hby at_116) ?_
                  show Steps p.tables e below (T29.setTop (mkF m 117 #[.val (.int p0), .val (.int p1), .val (.int vd), .val (.int vv), .val (.int vc), .val (.int va), .val (.int vb), .val (.long vs), .second] [(.int (-1 : Int32)), (.int vc)])) _
                  exact Steps.refl _)
              obtain ⟨zr, hzr⟩ : ∃ v : Int32, v = (if vc = (-1 : Int32) then (1 : Int32) else (0 : Int32)) := ⟨_, rfl⟩
              have hz1 : zr = 1 := plainF p0 p1 vd vv vc va vb vs zr hc4 hc13 hc19 hc33 hc39 hc46 hvd hvv hvc hva hvb hvs hzr
              obtain ⟨fs, hr, hrun, hended, hW, hsame⟩ := X29.leave (v := some (.int (1 : Int32))) (fun h => by rw [Bd.returns] at h; cases h)
              refine ⟨_, _, q48.trans ?_, hrun, hended, _, _, rfl, ?_, ⟨_, rfl⟩, hW, hsame.mono (by decide) (by decide)⟩
              · show Steps p.tables e below (T29.setTop (mkF m 117 #[.val (.int p0), .val (.int p1), .val (.int vd), .val (.int vv), .val (.int vc), .val (.int va), .val (.int vb), .val (.long vs), .second] [(.int (-1 : Int32)), (.int vc)])) _
                by_cases hc49 : vc = (-1 : Int32)
                · rw [if_pos hc49] at hzr
                  refine XS.icmpNo X29.here hx rfl (hb hby at_117) rfl (teq hc49).2 ?_
                  show Steps p.tables e below (T29.setTop (mkF m 120 #[.val (.int p0), .val (.int p1), .val (.int vd), .val (.int vv), .val (.int vc), .val (.int va), .val (.int vb), .val (.long vs), .second] [])) _
                  refine XS.iconst X29.here hx rfl (hb hby at_120) ?_
                  show Steps p.tables e below (T29.setTop (mkF m 121 #[.val (.int p0), .val (.int p1), .val (.int vd), .val (.int vv), .val (.int vc), .val (.int va), .val (.int vb), .val (.long vs), .second] [(.int (1 : Int32))])) _
                  refine XS.goto X29.here hx rfl (pc0 := 121) (pc' := 125) rfl (hb hby at_121) (by decide) (by decide) ?_
                  show Steps p.tables e below (T29.setTop (mkF m 125 #[.val (.int p0), .val (.int p1), .val (.int vd), .val (.int vv), .val (.int vc), .val (.int va), .val (.int vb), .val (.long vs), .second] [(.int (1 : Int32))])) _
                  exact retN X29 hx (t := .boolean) Bd.returns (by simp) (hb hby at_125) hr
                · rw [if_neg hc49] at hzr
                  refine XS.icmpYes X29.here hx rfl (pc0 := 117) (pc' := 124) rfl (hb hby at_117) rfl (feq hc49).2 (by decide) (by decide) ?_
                  show Steps p.tables e below (T29.setTop (mkF m 124 #[.val (.int p0), .val (.int p1), .val (.int vd), .val (.int vv), .val (.int vc), .val (.int va), .val (.int vb), .val (.long vs), .second] [])) _
                  refine XS.iconst X29.here hx rfl (hb hby at_124) ?_
                  show Steps p.tables e below (T29.setTop (mkF m 125 #[.val (.int p0), .val (.int p1), .val (.int vd), .val (.int vv), .val (.int vc), .val (.int va), .val (.int vb), .val (.long vs), .second] [(.int (0 : Int32))])) _
                  exact absurd (hzr.symm.trans hz1) (by decide)
              · show Q_rm0 Z p0 p1 h0 n0 _ T29.heap _
                rw [e29]
                exact ⟨rfl, N29⟩
            · have q50 : Steps p.tables e below (s₁.setTop (entryFrame m #[(.int p0), (.int p1)] maxLocals)) (T29.setTop (mkF m 126 #[.val (.int p0), .val (.int p1), .val (.int vd), .val (.int vv), .val (.int vc), .val (.int va), .val (.int vb), .val (.long vs), .second] [])) := q45.trans (by
                  show Steps p.tables e below (T29.setTop (mkF m 111 #[.val (.int p0), .val (.int p1), .val (.int vd), .val (.int vv), .val (.int vc), .val (.int va), .val (.int vb), .val (.long vs), .second] [(.int (lcmpW vs (2147483647 : Int64)))])) _
                  refine XS.ifYes X29.here hx rfl (pc0 := 111) (pc' := 126) rfl (hb hby at_111) rfl ((if0 _ _).trans (flt (fun q => hc46 ((lw_gt vs (2147483647 : Int64)).mp q))).2.2.2) (by decide) (by decide) ?_
                  show Steps p.tables e below (T29.setTop (mkF m 126 #[.val (.int p0), .val (.int p1), .val (.int vd), .val (.int vv), .val (.int vc), .val (.int va), .val (.int vb), .val (.long vs), .second] [])) _
                  exact Steps.refl _)
              have q51 : Steps p.tables e below (s₁.setTop (entryFrame m #[(.int p0), (.int p1)] maxLocals)) (T29.setTop (mkF m 132 #[.val (.int p0), .val (.int p1), .val (.int vd), .val (.int vv), .val (.int vc), .val (.int va), .val (.int vb), .val (.long vs), .second] [(.int (lcmpW (vc.toInt64) vs))])) := q50.trans (by
                  show Steps p.tables e below (T29.setTop (mkF m 126 #[.val (.int p0), .val (.int p1), .val (.int vd), .val (.int vv), .val (.int vc), .val (.int va), .val (.int vb), .val (.long vs), .second] [])) _
                  refine XS.iload X29.here hx rfl (hb hby at_126) rfl ?_
                  show Steps p.tables e below (T29.setTop (mkF m 128 #[.val (.int p0), .val (.int p1), .val (.int vd), .val (.int vv), .val (.int vc), .val (.int va), .val (.int vb), .val (.long vs), .second] [(.int vc)])) _
                  refine XS.i2l X29.here hx rfl (hb hby at_128) rfl ?_
                  show Steps p.tables e below (T29.setTop (mkF m 129 #[.val (.int p0), .val (.int p1), .val (.int vd), .val (.int vv), .val (.int vc), .val (.int va), .val (.int vb), .val (.long vs), .second] [(.long (vc.toInt64))])) _
                  refine XS.lload X29.here hx rfl (hb hby at_129) rfl ?_
                  show Steps p.tables e below (T29.setTop (mkF m 131 #[.val (.int p0), .val (.int p1), .val (.int vd), .val (.int vv), .val (.int vc), .val (.int va), .val (.int vb), .val (.long vs), .second] [(.long vs), (.long (vc.toInt64))])) _
                  refine XS.lcmp X29.here hx rfl (hb hby at_131) rfl ?_
                  show Steps p.tables e below (T29.setTop (mkF m 132 #[.val (.int p0), .val (.int p1), .val (.int vd), .val (.int vv), .val (.int vc), .val (.int va), .val (.int vb), .val (.long vs), .second] [(.int (lcmpW (vc.toInt64) vs))])) _
                  exact Steps.refl _)
              obtain ⟨zr, hzr⟩ : ∃ v : Int32, v = (if (vc.toInt64) = vs then (1 : Int32) else (0 : Int32)) := ⟨_, rfl⟩
              have hz1 : zr = 1 := plainG p0 p1 vd vv vc va vb vs zr hc4 hc13 hc19 hc33 hc39 hc46 hvd hvv hvc hva hvb hvs hzr
              obtain ⟨fs, hr, hrun, hended, hW, hsame⟩ := X29.leave (v := some (.int (1 : Int32))) (fun h => by rw [Bd.returns] at h; cases h)
              refine ⟨_, _, q51.trans ?_, hrun, hended, _, _, rfl, ?_, ⟨_, rfl⟩, hW, hsame.mono (by decide) (by decide)⟩
              · show Steps p.tables e below (T29.setTop (mkF m 132 #[.val (.int p0), .val (.int p1), .val (.int vd), .val (.int vv), .val (.int vc), .val (.int va), .val (.int vb), .val (.long vs), .second] [(.int (lcmpW (vc.toInt64) vs))])) _
                by_cases hc52 : (vc.toInt64) = vs
                · rw [if_pos hc52] at hzr
                  refine XS.ifNo X29.here hx rfl (hb hby at_132) rfl ((if0 _ _).trans (teq ((lw_eq (vc.toInt64) vs).mpr hc52)).2) ?_
                  show Steps p.tables e below (T29.setTop (mkF m 135 #[.val (.int p0), .val (.int p1), .val (.int vd), .val (.int vv), .val (.int vc), .val (.int va), .val (.int vb), .val (.long vs), .second] [])) _
                  refine XS.iconst X29.here hx rfl (hb hby at_135) ?_
                  show Steps p.tables e below (T29.setTop (mkF m 136 #[.val (.int p0), .val (.int p1), .val (.int vd), .val (.int vv), .val (.int vc), .val (.int va), .val (.int vb), .val (.long vs), .second] [(.int (1 : Int32))])) _
                  refine XS.goto X29.here hx rfl (pc0 := 136) (pc' := 140) rfl (hb hby at_136) (by decide) (by decide) ?_
                  show Steps p.tables e below (T29.setTop (mkF m 140 #[.val (.int p0), .val (.int p1), .val (.int vd), .val (.int vv), .val (.int vc), .val (.int va), .val (.int vb), .val (.long vs), .second] [(.int (1 : Int32))])) _
                  exact retN X29 hx (t := .boolean) Bd.returns (by simp) (hb hby at_140) hr
                · rw [if_neg hc52] at hzr
                  refine XS.ifYes X29.here hx rfl (pc0 := 132) (pc' := 139) rfl (hb hby at_132) rfl ((if0 _ _).trans (feq (fun q => hc52 ((lw_eq (vc.toInt64) vs).mp q))).2) (by decide) (by decide) ?_
                  show Steps p.tables e below (T29.setTop (mkF m 139 #[.val (.int p0), .val (.int p1), .val (.int vd), .val (.int vv), .val (.int vc), .val (.int va), .val (.int vb), .val (.long vs), .second] [])) _
                  refine XS.iconst X29.here hx rfl (hb hby at_139) ?_
                  show Steps p.tables e below (T29.setTop (mkF m 140 #[.val (.int p0), .val (.int p1), .val (.int vd), .val (.int vv), .val (.int vc), .val (.int va), .val (.int vb), .val (.long vs), .second] [(.int (0 : Int32))])) _
                  exact absurd (hzr.symm.trans hz1) (by decide)
              · show Q_rm0 Z p0 p1 h0 n0 _ T29.heap _
                rw [e29]
                exact ⟨rfl, N29⟩

set_option maxRecDepth 65536 in
set_option maxHeartbeats 40000000 in
theorem comes_1 {Post : Tables → Env → Array Value → State → Outcome → State → Prop} (hpost : ∀ tb e args s v u, (limb_1_1.after args s (.returned v) u = true ∧ limb_1_2.after args s (.returned v) u = true ∧ True) → FrameEnd s (.returned v) u (Jvm.fieldLocs frame_1_writes args s ++ Jvm.arrayLocs frame_1_arrays args s ++ Jvm.staticLocs frame_1_statics s) 0 0 → Post tb e args s (.returned v) u) :
    ArmFor flags0 classFile x code maxLocals ret World_1 tables_1 room_1 Calls_1 rest_1 Pre_1 Post := by
  intro l hfl _ _ p e ha hc hk s m args below hf hA hF happ hP
  obtain ⟨hcalls, hrest, hpre⟩ := hP
  obtain ⟨-, -, -, hnamed, -, -, -, hat⟩ := (Spec.applies_iff hf).mp happ
  obtain ⟨hg, hn⟩ := and_e (Cond.before_iff.mp (show (Jvm.Cond.and given_1 narrow_1).before args s = true from hpre))
  obtain ⟨hcount, hg0⟩ := and_e hg
  obtain ⟨ga0, hg1⟩ := and_e hg0
  obtain ⟨w0, w1, rfl⟩ : ∃ w0 w1 : Value, args = #[w0, w1] := by
    have hs : args.size = 2 := by simpa [Cond.value, given_1] using hcount
    obtain ⟨L⟩ := args
    match L, hs with
    | [w0, w1], _ => exact ⟨w0, w1, rfl⟩
  have hw := fun d (hd : d ∈ tables_1) => atoms_spec (ws := Jvm.Cond.code x code maxLocals ret :: tables_1) hat d (List.mem_cons_of_mem _ hd)
  have hfit : Fit s := fun {y c} hc i hi => by
    obtain ⟨ha, rfl⟩ := Array.getElem?_eq_some_iff.mp hc
    have q := List.all_eq_true.mp ((Array.all_eq_true_iff_forall_mem.mp hF) _ (Array.getElem_mem ha)) i (List.mem_range.mpr hi)
    simpa [Array.getElem?_eq_getElem hi] using q
  obtain ⟨i0, ei0⟩ := is_v ga0
  obtain rfl : w0 = (.int i0) := Option.some.inj ei0
  obtain ⟨i1, ei1⟩ := is_v hg1
  obtain rfl : w1 = (.int i1) := Option.some.inj ei1
  obtain ⟨n, o, h1, h2, h3, _, L, rfl, ⟨rfl, N⟩, hq⟩ := rm0 l s _ hw tables_1 i0 i1 s.heap s.heap.size (Nat.le_refl _)  p e ha hc hk s m _ below hf ((Spec.applies_iff_loose hf).mp happ).1 ⟨rfl, State.Warmed39.refl s, rfl⟩ trivial
  refine ⟨n, _, h1, h2, h3, hpost _ _ _ _ _ _ ⟨Cond.after_iff.mpr rfl, Cond.after_iff.mpr (eq_i res_at (Term.int_eval (1)) rfl), trivial⟩ ⟨hq.1, hq.2.1, (hq.2.2.sift fun y hy => Or.inr (N y hy)).mono (by decide) (by decide)⟩⟩
theorem main_1_1 : Claimed_1_1 := comes_1 fun _ _ _ _ _ _ h hF => ⟨h.1, hF⟩
theorem main_1_2 : Claimed_1_2 := comes_1 fun _ _ _ _ _ _ h hF => ⟨h.2.1, hF⟩
end Jvm.Pilot.@@N@@
namespace Jvm.Pilot.@@N@@
open Jvm Jvm.ClassFile Sem Op Lib Jvm.Free Jvm.Stand Jvm.Pilot.@@N@@.Jvm.D
/-! MADE BY PROGRAM (witnessworld.py) out of the Statement's table words and the real class files: 10 classes; the members and pool entries that the words name. The judged class is class 1, her method 1. -/
namespace start1
open Jvm.ClassFile
def u (s : String) : CpInfo := .utf8 (stringToUtf16 s)
/-- a pool by its gaps: so many unusable entries, then the entry; so many at the end -/
def gap : Nat → List CpInfo → List CpInfo
  | 0, r => r
  | n + 1, r => .unusable :: gap n r
def poolList (es : List (Nat × CpInfo)) (last : Nat) : List CpInfo := es.foldr (fun e r => gap e.1 (e.2 :: r)) (gap last [])
def pool (es : List (Nat × CpInfo)) (last : Nat) : Array CpInfo := ⟨poolList es last⟩
def fileOf (pool : Array CpInfo) (this : Nat) (attrs : Array Attribute := #[]) (ms : Array MethodInfo := #[]) (fl : Nat := 33) (sup : Nat := 0) (ifs : Array Nat := #[]) (fds : Array FieldInfo := #[]) : ClassFile where
  minorVersion := 0
  majorVersion := 65
  constantPool := pool
  accessFlags := fl
  thisClass := this
  superClass := sup
  interfaces := ifs
  fields := fds
  methods := ms
  attributes := attrs
def plain (name : String) (sup : Option ClassId) : Class where
  name := name
  kind := .ordinary
  loader := none
  accessFlags := 33
  super := sup
  interfaces := #[]
  cf := none
  fields := #[]
  methods := #[]
  instanceTypes := #[]
  staticTypes := #[]
  resolved := #[]
  callSites := []
  init := .initialized
  statics := none
  mirror := none

def pool0 : Array CpInfo := pool [(5, u "<init>"), (0, u "()V"), (1, .class_ 10), (1, u "java/lang/Object")] 113

def k0m0 : Method := { name := "<init>", desc := "()V", sig := { parameters := [], returnType := none }, accessFlags := 1, code := none }
/-- java/lang/Object -/
def k0 : Class := { plain "java/lang/Object" none with
  accessFlags := 33
  interfaces := #[]
  cf := some (fileOf pool0 8 #[] #[{ accessFlags := 1, nameIndex := 5, descriptorIndex := 6, attributes := #[] }] 33 0 #[] #[])
  fields := #[]
  methods := #[k0m0]
  instanceTypes := #[]
  staticTypes := #[]
  resolved := Array.replicate 124 none
  statics := none }

def pool1 : Array CpInfo := pool [(2, .class_ 4), (1, u "java/lang/Object"), (0, u "<init>"), (0, u "()V"), (0, .integer 2147483647), (2, .long 2147483647), (1, .methodref 13 14), (0, .class_ 15), (0, .nameAndType 16 17), (0, u "com/example/pareto_workflow_scheduler/paretoworkflowscheduler/algorithm/ReferencePoints"), (0, u "count"), (0, u "(II)I"), (0, .class_ 19), (0, u "com/example/pareto_workflow_scheduler/paretoworkflowscheduler/algorithm/ReferencePointsCountPinLaw"), (2, u "law"), (0, u "(II)Z")] 3

def k1m0 : Method := { name := "<init>", desc := "()V", sig := { parameters := [], returnType := none }, accessFlags := 1, code := none }
def k1c1 : Code := { maxStack := 4, maxLocals := 9, code := code, exceptionTable := #[], attributes := #[] }
def k1m1 : Method := { name := "law", desc := "(II)Z", sig := { parameters := [.int, .int], returnType := some .boolean }, accessFlags := 9, code := some k1c1 }
/-- com/example/pareto_workflow_scheduler/paretoworkflowscheduler/algorithm/ReferencePointsCountPinLaw -/
def k1 : Class := { plain "com/example/pareto_workflow_scheduler/paretoworkflowscheduler/algorithm/ReferencePointsCountPinLaw" (some 0) with
  accessFlags := 49
  interfaces := #[]
  cf := some (fileOf pool1 18 #[] #[{ accessFlags := 1, nameIndex := 5, descriptorIndex := 6, attributes := #[] }, { accessFlags := 9, nameIndex := 22, descriptorIndex := 23, attributes := #[] }] 49 2 #[] #[])
  fields := #[]
  methods := #[k1m0, k1m1]
  instanceTypes := #[]
  staticTypes := #[]
  resolved := Array.replicate 27 none
  statics := none }

def pool2 : Array CpInfo := pool [(1, .class_ 2), (0, u "com/example/pareto_workflow_scheduler/paretoworkflowscheduler/algorithm/Survival"), (0, .class_ 4), (0, u "java/lang/Object"), (7, .class_ 13), (0, u "com/example/pareto_workflow_scheduler/paretoworkflowscheduler/algorithm/Survival$Generation")] 2

/-- com/example/pareto_workflow_scheduler/paretoworkflowscheduler/algorithm/Survival -/
def k2 : Class := { plain "com/example/pareto_workflow_scheduler/paretoworkflowscheduler/algorithm/Survival" (some 0) with
  accessFlags := 1536
  interfaces := #[]
  cf := some (fileOf pool2 1 #[.nestMembers #[12]] #[] 1536 3 #[] #[])
  fields := #[]
  methods := #[]
  instanceTypes := #[]
  staticTypes := #[]
  resolved := Array.replicate 16 none
  statics := none }

def pool3 : Array CpInfo := pool [(2, .class_ 4), (1, u "java/lang/Object"), (9, .class_ 16), (1, u "com/example/pareto_workflow_scheduler/paretoworkflowscheduler/algorithm/ReferencePoints"), (0, u "objectives"), (0, u "Ljava/util/List;"), (20, u "criteria"), (10, u "points"), (0, u "[[D"), (2, .long 2147483647), (3, u "count"), (0, u "(II)I"), (170, .class_ 231), (0, u "com/example/pareto_workflow_scheduler/paretoworkflowscheduler/algorithm/Survival"), (0, u "OFF_AXIS_WEIGHT"), (0, u "D")] 69

def k3c0 : Code := { maxStack := 4, maxLocals := 5, code := prog_31_method_2_code, exceptionTable := #[], attributes := #[] }
def k3m0 : Method := { name := "count", desc := "(II)I", sig := { parameters := [.int, .int], returnType := some .int }, accessFlags := 8, code := some k3c0 }
/-- com/example/pareto_workflow_scheduler/paretoworkflowscheduler/algorithm/ReferencePoints -/
def k3 : Class := { plain "com/example/pareto_workflow_scheduler/paretoworkflowscheduler/algorithm/ReferencePoints" (some 0) with
  accessFlags := 48
  interfaces := #[2]
  cf := some (fileOf pool3 14 #[] #[{ accessFlags := 8, nameIndex := 58, descriptorIndex := 59, attributes := #[] }] 48 2 #[230] #[{ accessFlags := 26, nameIndex := 232, descriptorIndex := 233, attributes := #[] }, { accessFlags := 18, nameIndex := 17, descriptorIndex := 18, attributes := #[] }, { accessFlags := 18, nameIndex := 39, descriptorIndex := 18, attributes := #[] }, { accessFlags := 18, nameIndex := 50, descriptorIndex := 51, attributes := #[] }])
  fields := #[{ name := "OFF_AXIS_WEIGHT", type := .double, accessFlags := 26, slot := 0, constantValue := 0 }, { name := "objectives", type := (.object "java/util/List"), accessFlags := 18, slot := 0, constantValue := 0 }, { name := "criteria", type := (.object "java/util/List"), accessFlags := 18, slot := 1, constantValue := 0 }, { name := "points", type := (.array (.array .double)), accessFlags := 18, slot := 2, constantValue := 0 }]
  methods := #[k3m0]
  instanceTypes := #[(.object "java/util/List"), (.object "java/util/List"), (.array (.array .double))]
  staticTypes := #[.double]
  resolved := Array.replicate 303 none
  statics := none }

def pool4 : Array CpInfo := pool [(1, u "java/lang/Cloneable"), (0, .class_ 1), (0, u "java/lang/Object"), (0, .class_ 3)] 3

/-- java/lang/Cloneable -/
def k4 : Class := { plain "java/lang/Cloneable" (some 0) with
  accessFlags := 1537
  interfaces := #[]
  cf := some (fileOf pool4 2 #[] #[] 1537 4 #[] #[])
  fields := #[]
  methods := #[]
  instanceTypes := #[]
  staticTypes := #[]
  resolved := Array.replicate 8 none
  statics := none }

def pool5 : Array CpInfo := pool [(1, u "java/io/Serializable"), (0, .class_ 1), (0, u "java/lang/Object"), (0, .class_ 3)] 3

/-- java/io/Serializable -/
def k5 : Class := { plain "java/io/Serializable" (some 0) with
  accessFlags := 1537
  interfaces := #[]
  cf := some (fileOf pool5 2 #[] #[] 1537 4 #[] #[])
  fields := #[]
  methods := #[]
  instanceTypes := #[]
  staticTypes := #[]
  resolved := Array.replicate 8 none
  statics := none }

/-- the primitive byte -/
def k6 : Class := { plain "byte" none with kind := .primitive 'B', accessFlags := 0x411 }
/-- [B -/
def k7 : Class := { plain "[B" (some 0) with kind := .array 6 .byte, interfaces := #[4, 5], accessFlags := 1041 }

/-- the primitive int -/
def k8 : Class := { plain "int" none with kind := .primitive 'I', accessFlags := 0x411 }
/-- [I -/
def k9 : Class := { plain "[I" (some 0) with kind := .array 8 .int, interfaces := #[4, 5], accessFlags := 1041 }

def heap : Heap := #[]
def classes : Array Class := #[k0, k1, k2, k3, k4, k5, k6, k7, k8, k9]
def interned : List (Array UInt16 × Addr) := []
def slotsUsed : Nat := 0
def theMethod : MethodId := ⟨1, 1⟩
def args0 : Array Value := #[.int 5, .int 3]
def aboutOver (below : List Frame) : State where
  vm := { classes := classes, interned := interned.toArray }
  heap := heap
  slotsUsed := slotsUsed
  threads := #[{ frames := .invoking theMethod args0 :: below }]
def below0 : List Frame := [.native { method := ⟨0, 0⟩, args := #[] }]
def about1 : State := aboutOver below0
def p0 : Program := .bare "" "" ""
def e0 : Env := launch0.env 0 0 0
theorem w_frames : about1.frames = Frame.invoking theMethod args0 :: below0 := rfl
set_option maxRecDepth 65536 in
theorem w_args : argsFit about1.vm theMethod args0 = true := by decide +kernel
set_option maxRecDepth 65536 in
theorem w_heap : heapFits about1 = true := by decide +kernel
set_option maxRecDepth 65536 in
theorem w_runnable : about1.curStatus? = some .runnable := by decide +kernel
set_option maxRecDepth 65536 in
theorem w_alone : about1.alone = true := by decide +kernel
set_option maxRecDepth 65536 in
theorem w_named : about1.methodNamed? x = some theMethod := by decide +kernel
set_option maxRecDepth 65536 in
theorem w_hears : about1.hears theMethod below0 = true := by decide +kernel
set_option maxRecDepth 65536 in
theorem w_ripe : about1.ripe theMethod args0 below0 = true := by decide +kernel
theorem w_running : about1.status = .running := rfl
set_option maxRecDepth 65536 in
theorem w_room : about1.hasRoom e0.platform room_1 = true :=
  launch0.hasRoom_least _ room_1 (by decide +kernel) (by decide +kernel) (by decide +kernel) (by decide +kernel) (by decide +kernel) (by decide +kernel)
theorem allAtoms_all (ts : List Jvm.Cond) (a : Array Jvm.Value) (st : Jvm.State) : (allAtoms ts).before a st = ts.all (fun c => c.before a st) := by
  induction ts with
  | nil => rfl
  | cons c t ih =>
    show (Jvm.Cond.and c (allAtoms t)).before a st = _
    rw [Jvm.Cond.before_and, ih, List.all_cons]
def words1 : List Jvm.Cond := Jvm.Cond.code x code maxLocals ret :: tables_1
/-- a 'code' word, met by the world's own term for the bytes: nothing is compared byte by byte -/
theorem code_word {y : MethodName} {bytes : ByteArray} {mx : Nat} {rt : Option FieldType} {a : Array Value} {s : State} {m : MethodId} {meth : Method} {c : Code} (h1 : s.methodNamed? y = some m) (h2 : s.vm.method? m = some meth) (h3 : meth.code = some c) (h4 : c.code = bytes)
    (h5 : (c.maxLocals == mx && c.exceptionTable.isEmpty && decide (c.maxStack ≤ mostOperands) && decide (meth.sig.returnType = rt) && !meth.locks && decide (parseMethodDescriptor y.desc = some meth.sig)) = true) : (Jvm.Cond.code y bytes mx rt).before a s = true := by
  simp only [Bool.and_eq_true, beq_iff_eq, Bool.not_eq_true', decide_eq_true_eq] at h5
  obtain ⟨⟨⟨⟨⟨g1, g2⟩, g3⟩, g4⟩, g5⟩, g6⟩ := h5
  simp [Cond.before, Cond.holds, Cond.value, h1, h2, h3, h4, g1, g2, g3, g4, g5, g6]
def isCode : Jvm.Cond → Bool
  | .code _ _ _ _ => true
  | _ => false
theorem all_split {L : List Jvm.Cond} {P : Jvm.Cond → Bool} (h1 : L.all (fun c => isCode c || P c) = true) (h2 : ∀ c ∈ L.filter isCode, P c = true) : L.all P = true := by
  refine List.all_eq_true.mpr fun c hc => ?_
  have h := List.all_eq_true.mp h1 c hc
  rcases Bool.eq_false_or_eq_true (isCode c) with hi | hi
  · exact h2 c (List.mem_filter.mpr ⟨hc, hi⟩)
  · simpa [hi] using h
set_option maxRecDepth 65536 in
theorem w_c0 : (Jvm.Cond.code x code maxLocals ret).before args0 about1 = true := code_word (m := ⟨1, 1⟩) (meth := k1m1) (c := k1c1) (by decide +kernel) rfl rfl rfl (by decide +kernel)
set_option maxRecDepth 65536 in
theorem w_c1 : (Jvm.Cond.code ({ cls := "com/example/pareto_workflow_scheduler/paretoworkflowscheduler/algorithm/ReferencePoints", name := "count", desc := "(II)I" } : Jvm.MethodName) prog_31_method_2_code (5 : Nat) (Option.some Jvm.ClassFile.FieldType.int)).before args0 about1 = true := code_word (m := ⟨3, 0⟩) (meth := k3m0) (c := k3c0) (by decide +kernel) rfl rfl rfl (by decide +kernel)
def codes1 : List Jvm.Cond := [Jvm.Cond.code x code maxLocals ret, Jvm.Cond.code ({ cls := "com/example/pareto_workflow_scheduler/paretoworkflowscheduler/algorithm/ReferencePoints", name := "count", desc := "(II)I" } : Jvm.MethodName) prog_31_method_2_code (5 : Nat) (Option.some Jvm.ClassFile.FieldType.int)]
set_option maxRecDepth 65536 in
theorem codes_eq : words1.filter isCode = codes1 := rfl
theorem w_codes : ∀ c ∈ words1.filter isCode, c.before args0 about1 = true := by
  rw [codes_eq]
  intro c hc
  simp only [codes1, List.mem_cons, List.not_mem_nil, or_false] at hc
  rcases hc with rfl | rfl
  · exact w_c0
  · exact w_c1
set_option maxRecDepth 65536 in
theorem w_t1 : words1.all (fun c => isCode c || c.before args0 about1) = true := by decide +kernel
theorem w_tables : (allAtoms (Jvm.Cond.code x code maxLocals ret :: tables_1)).before args0 about1 = true := by
  rw [allAtoms_all]
  show words1.all (fun c => c.before args0 about1) = true
  refine all_split ?_ w_codes
  rw [w_t1]
set_option maxRecDepth 65536 in
theorem w_case : (Jvm.Cond.and given_1 narrow_1).before args0 about1 = true := by decide +kernel
theorem w_applies : (headSpec (Jvm.Cond.code x code maxLocals ret :: tables_1) room_1).applies x e0.platform about1 = true :=
  (Spec.applies_iff w_frames).mpr ⟨w_running, w_runnable, w_alone, w_named, w_hears, w_ripe, w_room, w_tables⟩
theorem atStart : AtStart classFile x code maxLocals ret World_1 tables_1 room_1 Calls_1 rest_1 Pre_1 launch0 p0 e0 about1 theMethod args0 below0 :=
  ⟨lists_1, trivial, launch0.admits_env _ _ _, launch0.least_env, fairChoices_fair.cas, fairChoices_fair.clock, w_frames, w_args, w_heap, w_applies, trivial, trivial, w_case⟩
end start1
theorem witness_1 : WitnessClaimed_1 := ⟨start1.p0, start1.e0, start1.about1, start1.theMethod, start1.args0, start1.below0, start1.atStart⟩
end Jvm.Pilot.@@N@@
