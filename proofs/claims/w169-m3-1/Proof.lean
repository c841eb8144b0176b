import JvmDerived
import JvmDerived.Pilot.@@N@@Statement
import JvmDerived.Pilot.@@N@@Code
set_option linter.unusedVariables false
set_option linter.unusedSimpArgs false
@@BLOCK:NumsL.lean.txt@@
namespace Jvm.Own
open Sem ClassFile Op Lib Jvm.Stand Jvm.Free Jvm.LawKit Jvm.RoadKit
section Arrays
variable {p : Program} {l : Launch} {e : Env} {R : Room} {s : State} {m : MethodId} {args : Array Value} {below : List Frame} {meth : Method} {c : Code} {T : State} {locs : List Loc} {cells slots : Nat} {Z : State} {h h' h0 : Heap} {a b : Addr} {ty : FieldType} {vs : List Value} {xs : List Int32} {v : Value} {sl : Nat} {ws : List Addr}
/-- the array at a: of the kind ty, its components vs -/
def AV (Z : State) (h : Heap) (a : Addr) (ty : FieldType) (vs : List Value) : Prop := ∃ c : Cell, Arr Z h a c ty ∧ c.slots = vs.toArray ∧ vs.length < 2147483648
/-- an int array -/
def IA (Z : State) (h : Heap) (a : Addr) (xs : List Int32) : Prop := AV Z h a .int (xs.map Value.int)
theorem AV.lt (F : AV Z h a ty vs) : a < h.size := by obtain ⟨c, A, -⟩ := F; exact A.lt
theorem AV.ext (F : AV Z h a ty vs) (E : Ext h h') : AV Z h' a ty vs := by obtain ⟨c, A, r⟩ := F; exact ⟨c, A.ext E, r⟩
theorem AV.other (F : AV Z h b ty vs) (W : Wr h h' a sl v) (q : b ≠ a) : AV Z h' b ty vs := by obtain ⟨c, A, r⟩ := F; exact ⟨c, A.other W q, r⟩
theorem AV.keep (F : AV Z h a ty vs) (K : Keep h h' ws) (q : a ∉ ws) : AV Z h' a ty vs := by obtain ⟨c, A, r⟩ := F; exact ⟨c, ⟨K.2.1 a c A.1 q, A.2⟩, r⟩
theorem AV.wr (F : AV Z h a ty vs) (W : Wr h h' a sl v) : AV Z h' a ty (vs.set sl v) := by
  obtain ⟨c, A, q, n⟩ := F
  exact ⟨_, A.same W, by simp [Cell.setSlot, q], by simpa using n⟩
theorem clamp_lt (z : Int32) : z.toNatClampNeg < 2147483648 := by
  have := z.toInt_lt
  simp only [Int32.toNatClampNeg]; omega
theorem AV.new {k : ClassId} {z : Int32} (A : Arr Z h a (newA k ty z) ty) (q : List.replicate z.toNatClampNeg (defaultValue ty) = vs) : AV Z h a ty vs := by
  subst q
  exact ⟨_, A, by simp [newA], by rw [List.length_replicate]; exact clamp_lt z⟩
theorem IA.lt (F : IA Z h a xs) : a < h.size := AV.lt F
theorem IA.ext (F : IA Z h a xs) (E : Ext h h') : IA Z h' a xs := AV.ext F E
theorem IA.other (F : IA Z h b xs) (W : Wr h h' a sl v) (q : b ≠ a) : IA Z h' b xs := AV.other F W q
theorem IA.keep (F : IA Z h a xs) (K : Keep h h' ws) (q : a ∉ ws) : IA Z h' a xs := AV.keep F K q
theorem IA.new {k : ClassId} {z : Int32} (A : Arr Z h a (newA k .int z) .int) {n : Nat} (q : z.toNatClampNeg = n) : IA Z h a (List.replicate n (0 : Int32)) := AV.new A (by subst q; rw [List.map_replicate]; rfl)
theorem IA.wr {x : Int32} (F : IA Z h a xs) (W : Wr h h' a sl (.int x)) : IA Z h' a (xs.set sl x) := by
  have := AV.wr F W
  rw [← List.map_set] at this; exact this
/-- the place j of an int array; the array with x there -/
def gi (xs : List Int32) (j : Int32) : Int32 := xs.getD j.toNatClampNeg 0
def si (xs : List Int32) (j x : Int32) : List Int32 := xs.set j.toNatClampNeg x
theorem si_len (xs : List Int32) (j x : Int32) : (si xs j x).length = xs.length := by simp [si]
theorem clamp_of {j : Int32} {n : Nat} (hj : 0 ≤ j.toInt ∧ j.toInt < (n : Int)) : j.toNatClampNeg < n ∧ ¬ j < 0 := by
  obtain ⟨h1, h2⟩ := hj
  refine ⟨by simp only [Int32.toNatClampNeg]; omega, ?_⟩
  rw [Int32.lt_iff_toInt_lt]; show ¬ _ < (0 : Int); omega
theorem inb_of' {cl : Cell} {j : Int32} {n : Nat} (hn : cl.slots.size = n) (hj : 0 ≤ j.toInt ∧ j.toInt < (n : Int)) : ¬ (j < 0 ∨ cl.slots.size ≤ j.toNatClampNeg) := by
  obtain ⟨h1, h2⟩ := clamp_of hj
  rintro (q | q)
  · exact h2 q
  · omega
theorem ldI (X : Stand p l e R s m args below meth c T locs cells slots) (hx : p.tables.exec = Jvm.exec) (hZ : Z.Warmed39 s.vm) (eT : T.heap = h) (F : IA Z h a xs) {j : Int32} (n : Nat) (hl : xs.length = n) (hj : 0 ≤ j.toInt ∧ j.toInt < (n : Int)) {g : JFrame} (hg : g.method = m) {rest : List Value} (hs : g.stack = .int j :: .ref a :: rest) (hd : decode c.code g.pc = .ok (.iaload, 1)) :
    ∀ target, Steps p.tables e below (T.setTop { g with pc := g.pc + 1, stack := .int (gi xs j) :: rest }) target → Steps p.tables e below (T.setTop g) target := by
  obtain ⟨cl, A, q, r⟩ := F
  have hsz : cl.slots.size = n := by rw [q]; simp [hl]
  have hi := (clamp_of hj).1
  refine X.iaload hx (v := .int (gi xs j)) (by rw [eT]; exact A.1) (State.isArrayOf_alike hZ.alike A.2.1) A.2.2 (inb_of' hsz hj) ?_ hg hs hd
  rw [q]
  have : j.toNatClampNeg < xs.length := by omega
  simp [gi, List.getD_eq_getElem?_getD, this]
theorem lnV (X : Stand p l e R s m args below meth c T locs cells slots) (hx : p.tables.exec = Jvm.exec) (hZ : Z.Warmed39 s.vm) (eT : T.heap = h) (F : AV Z h a ty vs) {z : Int32} (hz : vs.length.toInt32 = z) {g : JFrame} (hg : g.method = m) {rest : List Value} (hs : g.stack = .ref a :: rest) (hd : decode c.code g.pc = .ok (.arraylength, 1)) :
    ∀ target, Steps p.tables e below (T.setTop { g with pc := g.pc + 1, stack := .int z :: rest }) target → Steps p.tables e below (T.setTop g) target := by
  obtain ⟨cl, A, q, r⟩ := F
  intro target k
  refine X.arraylength hx (by rw [eT]; exact A.1) (State.isArrayOf_alike hZ.alike A.2.1) hg hs hd _ ?_
  have : cl.slots.size.toInt32 = z := by rw [q]; simpa using hz
  rw [this]; exact k
theorem lnI (X : Stand p l e R s m args below meth c T locs cells slots) (hx : p.tables.exec = Jvm.exec) (hZ : Z.Warmed39 s.vm) (eT : T.heap = h) (F : IA Z h a xs) {z : Int32} (hz : xs.length.toInt32 = z) {g : JFrame} (hg : g.method = m) {rest : List Value} (hs : g.stack = .ref a :: rest) (hd : decode c.code g.pc = .ok (.arraylength, 1)) :
    ∀ target, Steps p.tables e below (T.setTop { g with pc := g.pc + 1, stack := .int z :: rest }) target → Steps p.tables e below (T.setTop g) target :=
  lnV X hx hZ eT F (by rw [List.length_map]; exact hz) hg hs hd
theorem stIA (X : Stand p l e R s m args below meth c T locs cells slots) (hx : p.tables.exec = Jvm.exec) (hZ : Z.Warmed39 s.vm) (eT : T.heap = h) (F : IA Z h a xs) {j x : Int32} (n : Nat) (hl : xs.length = n) (hj : 0 ≤ j.toInt ∧ j.toInt < (n : Int)) {g : JFrame} (hg : g.method = m) {rest : List Value} (hs : g.stack = .int x :: .int j :: .ref a :: rest) (hd : decode c.code g.pc = .ok (.iastore, 1)) :
    ∃ T' h', Stand p l e R s m args below meth c T' (locs ++ [⟨a, j.toNatClampNeg⟩]) cells slots ∧ T'.heap = h' ∧ Wr h h' a j.toNatClampNeg (.int x) ∧ IA Z h' a (si xs j x) ∧ ∀ target, Steps p.tables e below (T'.setTop { g with pc := g.pc + 1, stack := rest }) target → Steps p.tables e below (T.setTop g) target := by
  have F0 := F
  obtain ⟨cl, A, q, r⟩ := F
  have hsz : cl.slots.size = n := by rw [q]; simp [hl]
  obtain ⟨T', h', X', e', W, st⟩ := stI X hx hZ eT A (inb_of' hsz hj) hg hs hd
  exact ⟨T', h', X', e', W, IA.wr F0 W, st⟩
/-- a place read or written, where it lies in the array; a fresh array of at most cap places -/
def rd (xs : List Int32) (j : Int32) : Option Int32 := if 0 ≤ j.toInt ∧ j.toInt < (xs.length : Int) then some (gi xs j) else none
def wt (xs : List Int32) (j x : Int32) : Option (List Int32) := if 0 ≤ j.toInt ∧ j.toInt < (xs.length : Int) then some (si xs j x) else none
def mk (cap : Nat) (n : Int32) : Option (List Int32) := if 0 ≤ n.toInt ∧ n.toInt ≤ (cap : Int) then some (List.replicate n.toNatClampNeg 0) else none
def ln (xs : List Int32) : Int32 := xs.length.toInt32
theorem rd_some {xs : List Int32} {j v : Int32} (q : rd xs j = some v) : (0 ≤ j.toInt ∧ j.toInt < (xs.length : Int)) ∧ gi xs j = v := by
  unfold rd at q
  split at q
  · next h => exact ⟨h, Option.some.inj q⟩
  · cases q
theorem wt_some {xs ys : List Int32} {j x : Int32} (q : wt xs j x = some ys) : (0 ≤ j.toInt ∧ j.toInt < (xs.length : Int)) ∧ si xs j x = ys := by
  unfold wt at q
  split at q
  · next h => exact ⟨h, Option.some.inj q⟩
  · cases q
theorem mk_some {cap : Nat} {n : Int32} {ys : List Int32} (q : mk cap n = some ys) : ¬ n < 0 ∧ n.toNatClampNeg ≤ cap ∧ ys = List.replicate n.toNatClampNeg 0 := by
  unfold mk at q
  split at q
  · next h =>
    refine ⟨?_, ?_, (Option.some.inj q).symm⟩
    · rw [Int32.lt_iff_toInt_lt]; show ¬ _ < (0 : Int); omega
    · simp only [Int32.toNatClampNeg]; omega
  · cases q
theorem ldO (X : Stand p l e R s m args below meth c T locs cells slots) (hx : p.tables.exec = Jvm.exec) (hZ : Z.Warmed39 s.vm) (eT : T.heap = h) (F : IA Z h a xs) {j x : Int32} (q : rd xs j = some x) {g : JFrame} (hg : g.method = m) {rest : List Value} (hs : g.stack = .int j :: .ref a :: rest) (hd : decode c.code g.pc = .ok (.iaload, 1)) :
    ∀ target, Steps p.tables e below (T.setTop { g with pc := g.pc + 1, stack := .int x :: rest }) target → Steps p.tables e below (T.setTop g) target := by
  obtain ⟨hb, rfl⟩ := rd_some q
  exact ldI X hx hZ eT F xs.length rfl hb hg hs hd
theorem stO (X : Stand p l e R s m args below meth c T locs cells slots) (hx : p.tables.exec = Jvm.exec) (hZ : Z.Warmed39 s.vm) (eT : T.heap = h) (F : IA Z h a xs) {j x : Int32} {ys : List Int32} (q : wt xs j x = some ys) {g : JFrame} (hg : g.method = m) {rest : List Value} (hs : g.stack = .int x :: .int j :: .ref a :: rest) (hd : decode c.code g.pc = .ok (.iastore, 1)) :
    ∃ T' h', Stand p l e R s m args below meth c T' (locs ++ [⟨a, j.toNatClampNeg⟩]) cells slots ∧ T'.heap = h' ∧ Wr h h' a j.toNatClampNeg (.int x) ∧ IA Z h' a ys ∧ ∀ target, Steps p.tables e below (T'.setTop { g with pc := g.pc + 1, stack := rest }) target → Steps p.tables e below (T.setTop g) target := by
  obtain ⟨hb, rfl⟩ := wt_some q
  exact stIA X hx hZ eT F xs.length rfl hb hg hs hd
/-- an array of references to objects of the class C -/
def RA (Z : State) (h : Heap) (a : Addr) (C : String) (vs : List Value) : Prop := ∃ c : Cell, Arr Z h a c (.object C) ∧ c.slots = vs.toArray ∧ vs.length < 2147483648 ∧ Ovr Z c.cls C
variable {C : String}
theorem RA.lt (F : RA Z h a C vs) : a < h.size := by obtain ⟨c, A, -⟩ := F; exact A.lt
theorem RA.ext (F : RA Z h a C vs) (E : Ext h h') : RA Z h' a C vs := by obtain ⟨c, A, r⟩ := F; exact ⟨c, A.ext E, r⟩
theorem RA.other (F : RA Z h b C vs) (W : Wr h h' a sl v) (q : b ≠ a) : RA Z h' b C vs := by obtain ⟨c, A, r⟩ := F; exact ⟨c, A.other W q, r⟩
theorem RA.new {k : ClassId} {z : Int32} (A : Arr Z h a (newA k (.object C) z) (.object C)) (O : Ovr Z k C) (q : List.replicate z.toNatClampNeg Value.null = vs) : RA Z h a C vs := by
  subst q
  exact ⟨_, A, by simp [newA, defaultValue], by rw [List.length_replicate]; exact clamp_lt z, O⟩
theorem stRA (X : Stand p l e R s m args below meth c T locs cells slots) (hx : p.tables.exec = Jvm.exec) (hZ : Z.Warmed39 s.vm) (eT : T.heap = h) (F : RA Z h a C vs) {j : Int32} {y : Addr} (n : Nat) (hl : vs.length = n) (hj : 0 ≤ j.toInt ∧ j.toInt < (n : Int)) (I : Ins Z h y C true) {g : JFrame} (hg : g.method = m) {rest : List Value} (hs : g.stack = .ref y :: .int j :: .ref a :: rest) (hd : decode c.code g.pc = .ok (.aastore, 1)) :
    ∃ T' h', Stand p l e R s m args below meth c T' (locs ++ [⟨a, j.toNatClampNeg⟩]) cells slots ∧ T'.heap = h' ∧ Wr h h' a j.toNatClampNeg (.ref y) ∧ RA Z h' a C (vs.set j.toNatClampNeg (.ref y)) ∧ ∀ target, Steps p.tables e below (T'.setTop { g with pc := g.pc + 1, stack := rest }) target → Steps p.tables e below (T.setTop g) target := by
  obtain ⟨cl, A, q, r, O⟩ := F
  have hsz : cl.slots.size = n := by rw [q]; simp [hl]
  obtain ⟨T', h', X', e', W, st⟩ := stR X hx hZ eT A (inb_of' hsz hj) rfl (Sto.of A O I) hg hs hd
  exact ⟨T', h', X', e', W, ⟨_, A.same W, by simp [Cell.setSlot, q], by simpa using r, O⟩, st⟩
theorem ldRA (X : Stand p l e R s m args below meth c T locs cells slots) (hx : p.tables.exec = Jvm.exec) (hZ : Z.Warmed39 s.vm) (eT : T.heap = h) (F : RA Z h a C vs) {j : Int32} (n : Nat) (hl : vs.length = n) (hj : 0 ≤ j.toInt ∧ j.toInt < (n : Int)) (hv : vs[j.toNatClampNeg]? = some v) {g : JFrame} (hg : g.method = m) {rest : List Value} (hs : g.stack = .int j :: .ref a :: rest) (hd : decode c.code g.pc = .ok (.aaload, 1)) :
    ∀ target, Steps p.tables e below (T.setTop { g with pc := g.pc + 1, stack := v :: rest }) target → Steps p.tables e below (T.setTop g) target := by
  obtain ⟨cl, A, q, r, O⟩ := F
  have hsz : cl.slots.size = n := by rw [q]; simp [hl]
  exact X.aaload hx (by rw [eT]; exact A.1) (State.isArrayOf_alike hZ.alike A.2.1) rfl A.2.2 (inb_of' hsz hj) (by rw [q]; simpa using hv) hg hs hd
def ga (as : List Addr) (j : Int32) : Addr := as.getD j.toNatClampNeg 0
theorem ga_at {as : List Addr} {j : Int32} {n : Nat} (hl : as.length = n) (hj : 0 ≤ j.toInt ∧ j.toInt < (n : Int)) : (as.map Value.ref)[j.toNatClampNeg]? = some (.ref (ga as j)) := by
  have : j.toNatClampNeg < as.length := by rw [hl]; exact (clamp_of hj).1
  simp [ga, List.getD_eq_getElem?_getD, this]
theorem ga_all {as : List Addr} {j : Int32} {n : Nat} {P : Addr → Prop} (hl : as.length = n) (hj : 0 ≤ j.toInt ∧ j.toInt < (n : Int)) (q : ∀ x ∈ as, P x) : P (ga as j) := by
  have h : j.toNatClampNeg < as.length := by rw [hl]; exact (clamp_of hj).1
  have : ga as j = as[j.toNatClampNeg] := by simp [ga, List.getD_eq_getElem?_getD, h]
  rw [this]; exact q _ (List.getElem_mem h)
theorem size_wr (W : Wr h h' a sl v) {n : Nat} (q : n ≤ h.size) : n ≤ h'.size := by rw [W.size]; exact q
end Arrays
end Jvm.Own
namespace Jvm.RoadKit
open Sem ClassFile Op Lib Jvm.Stand Jvm.Free Jvm.LawKit
section New
variable {p : Program} {l : Launch} {e : Env} {R : Room} {s : State} {m : MethodId} {args : Array Value} {below : List Frame} {meth : Method} {c : Code} {T : State} {locs : List Loc} {cells slots : Nat}
theorem retI (X : Stand p l e R s m args below meth c T locs cells slots) (hx : p.tables.exec = Jvm.exec) {pc : Nat} {Ls : Array Slot} {z : Int32} {rest : List Value} (hret : meth.sig.returnType = some .int) (hd : decode c.code pc = .ok (.ireturn, 1)) {fs : List Frame}
    (hl : ∀ (f : JFrame) (acts : List Action), f.method = m → f.locked = none → f.entered = [] → (doReturn e (T.setTop f) acts (some (.int z))).1 = T.setFrames fs) : Steps p.tables e below (T.setTop (mkF m pc Ls (.int z :: rest))) (T.setFrames fs) := by
  have hm' : T.vm.method? m = some meth := X.method'
  have hn : narrow .int (.int z) = .int z := rfl
  show Steps p.tables e below (T.setTop { method := m, pc := pc, locals := Ls, stack := _ :: rest, locked := none }) _
  jvm_step X.here [X.here.top, hx, hd, hm', hret, hn]
  first | (intro acts; rw [hl _ acts rfl rfl rfl]) | rw [hl _ _ rfl rfl rfl]
  exact Steps.refl _
theorem retA (X : Stand p l e R s m args below meth c T locs cells slots) (hx : p.tables.exec = Jvm.exec) {pc : Nat} {Ls : Array Slot} {z : Value} {t : FieldType} {rest : List Value} (hret : meth.sig.returnType = some t) (ht : t.isReference = true) (hz : z.isRef = true) (hd : decode c.code pc = .ok (.areturn, 1)) {fs : List Frame}
    (hl : ∀ (f : JFrame) (acts : List Action), f.method = m → f.locked = none → f.entered = [] → (doReturn e (T.setTop f) acts (some z)).1 = T.setFrames fs) : Steps p.tables e below (T.setTop (mkF m pc Ls (z :: rest))) (T.setFrames fs) := by
  have hm' : T.vm.method? m = some meth := X.method'
  show Steps p.tables e below (T.setTop { method := m, pc := pc, locals := Ls, stack := _ :: rest, locked := none }) _
  jvm_step X.here [X.here.top, hx, hd, hm', hret, ht, hz]
  first | (intro acts; rw [hl _ acts rfl rfl rfl]) | rw [hl _ _ rfl rfl rfl]
  exact Steps.refl _
end New
end Jvm.RoadKit
namespace Jvm.Pilot.@@N@@
open Jvm Jvm.ClassFile Sem Op Lib Jvm.Free Jvm.Stand Jvm.LawKit Jvm.RoadKit Bundle Jvm.Pilot.@@N@@.Jvm.D
theorem own_tab {x : Int32} {k : Int} (h : ¬ x = Int32.ofInt k) (h1 : -2147483648 ≤ k) (h2 : k < 2147483648) : x.toInt ≠ k := fun q => h (by rw [← q]; exact (Int32.ofInt_toInt x).symm)

theorem own_i2c_and (x : Int32) : x.toUInt32.toUInt16.toUInt32.toInt32 = x &&& 65535 := by
  apply Int32.toBitVec_inj.mp
  apply BitVec.toNat_inj.mp
  have h : ((x &&& 65535).toBitVec.toNat) = x.toBitVec.toNat % 2 ^ 16 := by
    show (x.toBitVec &&& (65535 : Int32).toBitVec).toNat = _
    rw [BitVec.toNat_and, show (65535 : Int32).toBitVec.toNat = 2 ^ 16 - 1 from rfl, Nat.and_two_pow_sub_one_eq_mod]
  rw [h]
  show x.toBitVec.toNat % 2 ^ 16 = _
  rfl
theorem own_i2c (x : Int32) : (x.toUInt32.toUInt16.toUInt32.toInt32).toInt = x.toInt % 65536 := by
  rw [own_i2c_and]; exact Jvm.Kit.i32_mask x 65535 (k := 16) (by decide) (by decide)
theorem own_rem {x y : Int32} (hx : 0 ≤ x.toInt) (hy : 0 < y.toInt) : (x - (x / y) * y).toInt = x.toInt % y.toInt := by
  have hxl := x.toInt_lt
  have e1 : (x / y).toInt = x.toInt / y.toInt := by rw [Jvm.Kit.i32_div (by omega), Int.tdiv_eq_ediv_of_nonneg hx]
  have m1 : x.toInt / y.toInt * y.toInt = x.toInt - x.toInt % y.toInt := by
    have := Int.mul_ediv_add_emod x.toInt y.toInt
    rw [Int.mul_comm] at this; omega
  have m2 : 0 ≤ x.toInt % y.toInt := Int.emod_nonneg _ (by omega)
  have m3 : x.toInt % y.toInt ≤ x.toInt := by
    have := Int.mul_nonneg (Int.ediv_nonneg hx (by omega : 0 ≤ y.toInt)) (by omega : 0 ≤ y.toInt); omega
  have e2 : ((x / y) * y).toInt = x.toInt - x.toInt % y.toInt := by rw [Jvm.Kit.i32_mul (by rw [e1, m1]; omega) (by rw [e1, m1]; omega), e1, m1]
  rw [Jvm.Kit.i32_sub (by rw [e2]; omega) (by rw [e2]; omega), e2]; omega
theorem own_pos (x : Int32) : (x &&& 2147483647).toInt = x.toInt % 2147483648 := Jvm.Kit.i32_mask x 2147483647 (k := 31) (by decide) (by decide)

theorem d1_0 : decode prog_61_method_2_code 0 = .ok (.iload_n 0, 1) := by decide +kernel
theorem d1_1 : decode prog_61_method_2_code 1 = .ok (.sipush 1000, 3) := by decide +kernel
theorem d1_4 : decode prog_61_method_2_code 4 = .ok (.if_icmp .lt 10, 3) := by decide +kernel
theorem d1_7 : decode prog_61_method_2_code 7 = .ok (.iload_n 0, 1) := by decide +kernel
theorem d1_8 : decode prog_61_method_2_code 8 = .ok (.sipush 1003, 3) := by decide +kernel
theorem d1_11 : decode prog_61_method_2_code 11 = .ok (.if_icmp .le 31, 3) := by decide +kernel
theorem d1_14 : decode prog_61_method_2_code 14 = .ok (.iload_n 0, 1) := by decide +kernel
theorem d1_15 : decode prog_61_method_2_code 15 = .ok (.sipush 1007, 3) := by decide +kernel
theorem d1_18 : decode prog_61_method_2_code 18 = .ok (.if_icmp .lt 10, 3) := by decide +kernel
theorem d1_21 : decode prog_61_method_2_code 21 = .ok (.iload_n 0, 1) := by decide +kernel
theorem d1_22 : decode prog_61_method_2_code 22 = .ok (.sipush 1014, 3) := by decide +kernel
theorem d1_25 : decode prog_61_method_2_code 25 = .ok (.if_icmp .le 17, 3) := by decide +kernel
theorem d1_28 : decode prog_61_method_2_code 28 = .ok (.iload_n 0, 1) := by decide +kernel
theorem d1_29 : decode prog_61_method_2_code 29 = .ok (.sipush 3000, 3) := by decide +kernel
theorem d1_32 : decode prog_61_method_2_code 32 = .ok (.if_icmp .lt 14, 3) := by decide +kernel
theorem d1_35 : decode prog_61_method_2_code 35 = .ok (.iload_n 0, 1) := by decide +kernel
theorem d1_36 : decode prog_61_method_2_code 36 = .ok (.sipush 4999, 3) := by decide +kernel
theorem d1_39 : decode prog_61_method_2_code 39 = .ok (.if_icmp .gt 7, 3) := by decide +kernel
theorem d1_42 : decode prog_61_method_2_code 42 = .ok (.iconst 1, 1) := by decide +kernel
theorem d1_43 : decode prog_61_method_2_code 43 = .ok (.goto 4, 3) := by decide +kernel
theorem d1_46 : decode prog_61_method_2_code 46 = .ok (.iconst 0, 1) := by decide +kernel
theorem d1_47 : decode prog_61_method_2_code 47 = .ok (.ireturn, 1) := by decide +kernel
theorem pn_rm1 : plainName "com/example/lettr/lettr/transport/CloseStatus" = true := by first | (simp [plainName, overriddenIn]; done) | decide +kernel
theorem ef_rm1 (m : MethodId) (p0 : Int32) : entryFrame m #[(.int p0)] 1 = mkF m 0 #[.val (.int p0)] [] := by first | (simp [entryFrame, mkF, argsToLocals, Value.category]; done) | rfl
def F1 (p0 : Int32) : Int32 := (if p0 < (1000 : Int32) then (if p0 < (1007 : Int32) then (if p0 < (3000 : Int32) then (0 : Int32) else (if (4999 : Int32) < p0 then (0 : Int32) else (1 : Int32))) else (if (1014 : Int32) < p0 then (if p0 < (3000 : Int32) then (0 : Int32) else (if (4999 : Int32) < p0 then (0 : Int32) else (1 : Int32))) else (1 : Int32))) else (if (1003 : Int32) < p0 then (if p0 < (1007 : Int32) then (if p0 < (3000 : Int32) then (0 : Int32) else (if (4999 : Int32) < p0 then (0 : Int32) else (1 : Int32))) else (if (1014 : Int32) < p0 then (if p0 < (3000 : Int32) then (0 : Int32) else (if (4999 : Int32) < p0 then (0 : Int32) else (1 : Int32))) else (1 : Int32))) else (1 : Int32)))
def Q_rm1 (Z : State) (p0 : Int32) (h0 : Heap) (n0 : Nat) (v : Option Value) (h : Heap) (L : List Loc) : Prop := v = some (.int (F1 p0)) ∧ Fr n0 L ∧ h = h0
set_option maxRecDepth 65536 in
set_option maxHeartbeats 40000000 in
theorem rm1 (l : Launch) (Z : State) (a0 : Array Value) (hw : ∀ d ∈ tables_1, d.before a0 Z = true) (ws : List Jvm.Cond) (p0 : Int32) (h0 : Heap) (n0 : Nat) (Z0 : n0 ≤ h0.size) :
    MetFree l (⟨"com/example/lettr/lettr/transport/CloseStatus", "isSendable", "(I)Z"⟩ : MethodName) (head1 (Jvm.Cond.code (⟨"com/example/lettr/lettr/transport/CloseStatus", "isSendable", "(I)Z"⟩ : MethodName) prog_61_method_2_code 1 (some .boolean) :: ws) ({ frames := 0, cells := 0, slots := 0, locals := 0 } : Room)) (fun a U => a = #[(.int p0)] ∧ Z.Warmed39 U.vm ∧ U.heap = h0) (fun _ _ _ _ _ => True) (fun _ U o U' => ∃ v L, o = .returned v ∧ Q_rm1 Z p0 h0 n0 v U'.heap L ∧ FrameEnd U o U' L ({ frames := 0, cells := 0, slots := 0, locals := 0 } : Room).cells ({ frames := 0, cells := 0, slots := 0, locals := 0 } : Room).slots) := by
  refine MetFree.of_bodySF (plainFor_of_name pn_rm1) hisR ?_
  intro p e s m args below meth c s₁ Bd hml0 hP hK
  obtain ⟨rfl, hZ, hh⟩ := hP
  have hx := Bd.exec
  have hby := Bd.bytes
  have hml : c.maxLocals = 1 := hml0
  have hown : s.vm.findClass "com/example/lettr/lettr/transport/CloseStatus" = some m.cls := findClass_of_methodNamed Bd.named
  have hnm := (name_of_methodNamed Bd.named Bd.method).1
  have X0 : Stand p l e ({ frames := 0, cells := 0, slots := 0, locals := 0 } : Room) s m #[(.int p0)] below meth c s₁ [] 0 0 := Stand.of_body Bd
  have e0 : s₁.heap = h0 := by rw [← hh, Bd.state]; rfl
  have N0 := Fr.nil n0
  have q0 : Steps p.tables e below (s₁.setTop (entryFrame m #[(.int p0)] 1)) (s₁.setTop (mkF m 0 #[.val (.int p0)] [])) := castTop (ef_rm1 m p0) (Steps.refl _)
  obtain ⟨fs, hr, hrun, hended, hW, hsame⟩ := X0.leave (v := some (.int (F1 p0))) (fun h => by rw [Bd.returns] at h; cases h)
  refine ⟨_, _, q0.trans ?_, hrun, hended, _, _, rfl, ?_, ⟨_, rfl⟩, hW, hsame.mono (by decide) (by decide)⟩
  · show Steps p.tables e below (s₁.setTop (mkF m 0 #[.val (.int p0)] [])) _
    refine XS.iloadN X0.here hx rfl (hb hby d1_0) rfl ?_
    show Steps p.tables e below (s₁.setTop (mkF m 1 #[.val (.int p0)] [(.int p0)])) _
    refine XS.sipush X0.here hx rfl (hb hby d1_1) ?_
    show Steps p.tables e below (s₁.setTop (mkF m 4 #[.val (.int p0)] [(.int (1000 : Int32)), (.int p0)])) _
    by_cases hc1 : p0 < (1000 : Int32)
    · refine XS.icmpYes X0.here hx rfl (pc0 := 4) (pc' := 14) rfl (hb hby d1_4) rfl (tlt hc1).1 (by decide) (by decide) ?_
      show Steps p.tables e below (s₁.setTop (mkF m 14 #[.val (.int p0)] [])) _
      refine XS.iloadN X0.here hx rfl (hb hby d1_14) rfl ?_
      show Steps p.tables e below (s₁.setTop (mkF m 15 #[.val (.int p0)] [(.int p0)])) _
      refine XS.sipush X0.here hx rfl (hb hby d1_15) ?_
      show Steps p.tables e below (s₁.setTop (mkF m 18 #[.val (.int p0)] [(.int (1007 : Int32)), (.int p0)])) _
      by_cases hc2 : p0 < (1007 : Int32)
      · refine XS.icmpYes X0.here hx rfl (pc0 := 18) (pc' := 28) rfl (hb hby d1_18) rfl (tlt hc2).1 (by decide) (by decide) ?_
        show Steps p.tables e below (s₁.setTop (mkF m 28 #[.val (.int p0)] [])) _
        refine XS.iloadN X0.here hx rfl (hb hby d1_28) rfl ?_
        show Steps p.tables e below (s₁.setTop (mkF m 29 #[.val (.int p0)] [(.int p0)])) _
        refine XS.sipush X0.here hx rfl (hb hby d1_29) ?_
        show Steps p.tables e below (s₁.setTop (mkF m 32 #[.val (.int p0)] [(.int (3000 : Int32)), (.int p0)])) _
        by_cases hc3 : p0 < (3000 : Int32)
        · refine XS.icmpYes X0.here hx rfl (pc0 := 32) (pc' := 46) rfl (hb hby d1_32) rfl (tlt hc3).1 (by decide) (by decide) ?_
          show Steps p.tables e below (s₁.setTop (mkF m 46 #[.val (.int p0)] [])) _
          refine XS.iconst X0.here hx rfl (hb hby d1_46) ?_
          show Steps p.tables e below (s₁.setTop (mkF m 47 #[.val (.int p0)] [(.int (0 : Int32))])) _
          have hz : (F1 p0) = (0 : Int32) := by unfold F1; rw [if_pos hc1, if_pos hc2, if_pos hc3]
          rw [hz] at hr
          exact retN X0 hx (t := .boolean) Bd.returns (by simp) (hb hby d1_47) hr
        · refine XS.icmpNo X0.here hx rfl (hb hby d1_32) rfl (flt hc3).1 ?_
          show Steps p.tables e below (s₁.setTop (mkF m 35 #[.val (.int p0)] [])) _
          refine XS.iloadN X0.here hx rfl (hb hby d1_35) rfl ?_
          show Steps p.tables e below (s₁.setTop (mkF m 36 #[.val (.int p0)] [(.int p0)])) _
          refine XS.sipush X0.here hx rfl (hb hby d1_36) ?_
          show Steps p.tables e below (s₁.setTop (mkF m 39 #[.val (.int p0)] [(.int (4999 : Int32)), (.int p0)])) _
          by_cases hc4 : (4999 : Int32) < p0
          · refine XS.icmpYes X0.here hx rfl (pc0 := 39) (pc' := 46) rfl (hb hby d1_39) rfl (tlt hc4).2.2.1 (by decide) (by decide) ?_
            show Steps p.tables e below (s₁.setTop (mkF m 46 #[.val (.int p0)] [])) _
            refine XS.iconst X0.here hx rfl (hb hby d1_46) ?_
            show Steps p.tables e below (s₁.setTop (mkF m 47 #[.val (.int p0)] [(.int (0 : Int32))])) _
            have hz : (F1 p0) = (0 : Int32) := by unfold F1; rw [if_pos hc1, if_pos hc2, if_neg hc3, if_pos hc4]
            rw [hz] at hr
            exact retN X0 hx (t := .boolean) Bd.returns (by simp) (hb hby d1_47) hr
          · refine XS.icmpNo X0.here hx rfl (hb hby d1_39) rfl (flt hc4).2.2.1 ?_
            show Steps p.tables e below (s₁.setTop (mkF m 42 #[.val (.int p0)] [])) _
            refine XS.iconst X0.here hx rfl (hb hby d1_42) ?_
            show Steps p.tables e below (s₁.setTop (mkF m 43 #[.val (.int p0)] [(.int (1 : Int32))])) _
            refine XS.goto X0.here hx rfl (pc0 := 43) (pc' := 47) rfl (hb hby d1_43) (by decide) (by decide) ?_
            show Steps p.tables e below (s₁.setTop (mkF m 47 #[.val (.int p0)] [(.int (1 : Int32))])) _
            have hz : (F1 p0) = (1 : Int32) := by unfold F1; rw [if_pos hc1, if_pos hc2, if_neg hc3, if_neg hc4]
            rw [hz] at hr
            exact retN X0 hx (t := .boolean) Bd.returns (by simp) (hb hby d1_47) hr
      · refine XS.icmpNo X0.here hx rfl (hb hby d1_18) rfl (flt hc2).1 ?_
        show Steps p.tables e below (s₁.setTop (mkF m 21 #[.val (.int p0)] [])) _
        refine XS.iloadN X0.here hx rfl (hb hby d1_21) rfl ?_
        show Steps p.tables e below (s₁.setTop (mkF m 22 #[.val (.int p0)] [(.int p0)])) _
        refine XS.sipush X0.here hx rfl (hb hby d1_22) ?_
        show Steps p.tables e below (s₁.setTop (mkF m 25 #[.val (.int p0)] [(.int (1014 : Int32)), (.int p0)])) _
        by_cases hc5 : (1014 : Int32) < p0
        · refine XS.icmpNo X0.here hx rfl (hb hby d1_25) rfl (tlt hc5).2.2.2 ?_
          show Steps p.tables e below (s₁.setTop (mkF m 28 #[.val (.int p0)] [])) _
          refine XS.iloadN X0.here hx rfl (hb hby d1_28) rfl ?_
          show Steps p.tables e below (s₁.setTop (mkF m 29 #[.val (.int p0)] [(.int p0)])) _
          refine XS.sipush X0.here hx rfl (hb hby d1_29) ?_
          show Steps p.tables e below (s₁.setTop (mkF m 32 #[.val (.int p0)] [(.int (3000 : Int32)), (.int p0)])) _
          by_cases hc6 : p0 < (3000 : Int32)
          · refine XS.icmpYes X0.here hx rfl (pc0 := 32) (pc' := 46) rfl (hb hby d1_32) rfl (tlt hc6).1 (by decide) (by decide) ?_
            show Steps p.tables e below (s₁.setTop (mkF m 46 #[.val (.int p0)] [])) _
            refine XS.iconst X0.here hx rfl (hb hby d1_46) ?_
            show Steps p.tables e below (s₁.setTop (mkF m 47 #[.val (.int p0)] [(.int (0 : Int32))])) _
            have hz : (F1 p0) = (0 : Int32) := by unfold F1; rw [if_pos hc1, if_neg hc2, if_pos hc5, if_pos hc6]
            rw [hz] at hr
            exact retN X0 hx (t := .boolean) Bd.returns (by simp) (hb hby d1_47) hr
          · refine XS.icmpNo X0.here hx rfl (hb hby d1_32) rfl (flt hc6).1 ?_
            show Steps p.tables e below (s₁.setTop (mkF m 35 #[.val (.int p0)] [])) _
            refine XS.iloadN X0.here hx rfl (hb hby d1_35) rfl ?_
            show Steps p.tables e below (s₁.setTop (mkF m 36 #[.val (.int p0)] [(.int p0)])) _
            refine XS.sipush X0.here hx rfl (hb hby d1_36) ?_
            show Steps p.tables e below (s₁.setTop (mkF m 39 #[.val (.int p0)] [(.int (4999 : Int32)), (.int p0)])) _
            by_cases hc7 : (4999 : Int32) < p0
            · refine XS.icmpYes X0.here hx rfl (pc0 := 39) (pc' := 46) rfl (hb hby d1_39) rfl (tlt hc7).2.2.1 (by decide) (by decide) ?_
              show Steps p.tables e below (s₁.setTop (mkF m 46 #[.val (.int p0)] [])) _
              refine XS.iconst X0.here hx rfl (hb hby d1_46) ?_
              show Steps p.tables e below (s₁.setTop (mkF m 47 #[.val (.int p0)] [(.int (0 : Int32))])) _
              have hz : (F1 p0) = (0 : Int32) := by unfold F1; rw [if_pos hc1, if_neg hc2, if_pos hc5, if_neg hc6, if_pos hc7]
              rw [hz] at hr
              exact retN X0 hx (t := .boolean) Bd.returns (by simp) (hb hby d1_47) hr
            · refine XS.icmpNo X0.here hx rfl (hb hby d1_39) rfl (flt hc7).2.2.1 ?_
              show Steps p.tables e below (s₁.setTop (mkF m 42 #[.val (.int p0)] [])) _
              refine XS.iconst X0.here hx rfl (hb hby d1_42) ?_
              show Steps p.tables e below (s₁.setTop (mkF m 43 #[.val (.int p0)] [(.int (1 : Int32))])) _
              refine XS.goto X0.here hx rfl (pc0 := 43) (pc' := 47) rfl (hb hby d1_43) (by decide) (by decide) ?_
              show Steps p.tables e below (s₁.setTop (mkF m 47 #[.val (.int p0)] [(.int (1 : Int32))])) _
              have hz : (F1 p0) = (1 : Int32) := by unfold F1; rw [if_pos hc1, if_neg hc2, if_pos hc5, if_neg hc6, if_neg hc7]
              rw [hz] at hr
              exact retN X0 hx (t := .boolean) Bd.returns (by simp) (hb hby d1_47) hr
        · refine XS.icmpYes X0.here hx rfl (pc0 := 25) (pc' := 42) rfl (hb hby d1_25) rfl (flt hc5).2.2.2 (by decide) (by decide) ?_
          show Steps p.tables e below (s₁.setTop (mkF m 42 #[.val (.int p0)] [])) _
          refine XS.iconst X0.here hx rfl (hb hby d1_42) ?_
          show Steps p.tables e below (s₁.setTop (mkF m 43 #[.val (.int p0)] [(.int (1 : Int32))])) _
          refine XS.goto X0.here hx rfl (pc0 := 43) (pc' := 47) rfl (hb hby d1_43) (by decide) (by decide) ?_
          show Steps p.tables e below (s₁.setTop (mkF m 47 #[.val (.int p0)] [(.int (1 : Int32))])) _
          have hz : (F1 p0) = (1 : Int32) := by unfold F1; rw [if_pos hc1, if_neg hc2, if_neg hc5]
          rw [hz] at hr
          exact retN X0 hx (t := .boolean) Bd.returns (by simp) (hb hby d1_47) hr
    · refine XS.icmpNo X0.here hx rfl (hb hby d1_4) rfl (flt hc1).1 ?_
      show Steps p.tables e below (s₁.setTop (mkF m 7 #[.val (.int p0)] [])) _
      refine XS.iloadN X0.here hx rfl (hb hby d1_7) rfl ?_
      show Steps p.tables e below (s₁.setTop (mkF m 8 #[.val (.int p0)] [(.int p0)])) _
      refine XS.sipush X0.here hx rfl (hb hby d1_8) ?_
      show Steps p.tables e below (s₁.setTop (mkF m 11 #[.val (.int p0)] [(.int (1003 : Int32)), (.int p0)])) _
      by_cases hc8 : (1003 : Int32) < p0
      · refine XS.icmpNo X0.here hx rfl (hb hby d1_11) rfl (tlt hc8).2.2.2 ?_
        show Steps p.tables e below (s₁.setTop (mkF m 14 #[.val (.int p0)] [])) _
        refine XS.iloadN X0.here hx rfl (hb hby d1_14) rfl ?_
        show Steps p.tables e below (s₁.setTop (mkF m 15 #[.val (.int p0)] [(.int p0)])) _
        refine XS.sipush X0.here hx rfl (hb hby d1_15) ?_
        show Steps p.tables e below (s₁.setTop (mkF m 18 #[.val (.int p0)] [(.int (1007 : Int32)), (.int p0)])) _
        by_cases hc9 : p0 < (1007 : Int32)
        · refine XS.icmpYes X0.here hx rfl (pc0 := 18) (pc' := 28) rfl (hb hby d1_18) rfl (tlt hc9).1 (by decide) (by decide) ?_
          show Steps p.tables e below (s₁.setTop (mkF m 28 #[.val (.int p0)] [])) _
          refine XS.iloadN X0.here hx rfl (hb hby d1_28) rfl ?_
          show Steps p.tables e below (s₁.setTop (mkF m 29 #[.val (.int p0)] [(.int p0)])) _
          refine XS.sipush X0.here hx rfl (hb hby d1_29) ?_
          show Steps p.tables e below (s₁.setTop (mkF m 32 #[.val (.int p0)] [(.int (3000 : Int32)), (.int p0)])) _
          by_cases hc10 : p0 < (3000 : Int32)
          · refine XS.icmpYes X0.here hx rfl (pc0 := 32) (pc' := 46) rfl (hb hby d1_32) rfl (tlt hc10).1 (by decide) (by decide) ?_
            show Steps p.tables e below (s₁.setTop (mkF m 46 #[.val (.int p0)] [])) _
            refine XS.iconst X0.here hx rfl (hb hby d1_46) ?_
            show Steps p.tables e below (s₁.setTop (mkF m 47 #[.val (.int p0)] [(.int (0 : Int32))])) _
            have hz : (F1 p0) = (0 : Int32) := by unfold F1; rw [if_neg hc1, if_pos hc8, if_pos hc9, if_pos hc10]
            rw [hz] at hr
            exact retN X0 hx (t := .boolean) Bd.returns (by simp) (hb hby d1_47) hr
          · refine XS.icmpNo X0.here hx rfl (hb hby d1_32) rfl (flt hc10).1 ?_
            show Steps p.tables e below (s₁.setTop (mkF m 35 #[.val (.int p0)] [])) _
            refine XS.iloadN X0.here hx rfl (hb hby d1_35) rfl ?_
            show Steps p.tables e below (s₁.setTop (mkF m 36 #[.val (.int p0)] [(.int p0)])) _
            refine XS.sipush X0.here hx rfl (hb hby d1_36) ?_
            show Steps p.tables e below (s₁.setTop (mkF m 39 #[.val (.int p0)] [(.int (4999 : Int32)), (.int p0)])) _
            by_cases hc11 : (4999 : Int32) < p0
            · refine XS.icmpYes X0.here hx rfl (pc0 := 39) (pc' := 46) rfl (hb hby d1_39) rfl (tlt hc11).2.2.1 (by decide) (by decide) ?_
              show Steps p.tables e below (s₁.setTop (mkF m 46 #[.val (.int p0)] [])) _
              refine XS.iconst X0.here hx rfl (hb hby d1_46) ?_
              show Steps p.tables e below (s₁.setTop (mkF m 47 #[.val (.int p0)] [(.int (0 : Int32))])) _
              have hz : (F1 p0) = (0 : Int32) := by unfold F1; rw [if_neg hc1, if_pos hc8, if_pos hc9, if_neg hc10, if_pos hc11]
              rw [hz] at hr
              exact retN X0 hx (t := .boolean) Bd.returns (by simp) (hb hby d1_47) hr
            · refine XS.icmpNo X0.here hx rfl (hb hby d1_39) rfl (flt hc11).2.2.1 ?_
              show Steps p.tables e below (s₁.setTop (mkF m 42 #[.val (.int p0)] [])) _
              refine XS.iconst X0.here hx rfl (hb hby d1_42) ?_
              show Steps p.tables e below (s₁.setTop (mkF m 43 #[.val (.int p0)] [(.int (1 : Int32))])) _
              refine XS.goto X0.here hx rfl (pc0 := 43) (pc' := 47) rfl (hb hby d1_43) (by decide) (by decide) ?_
              show Steps p.tables e below (s₁.setTop (mkF m 47 #[.val (.int p0)] [(.int (1 : Int32))])) _
              have hz : (F1 p0) = (1 : Int32) := by unfold F1; rw [if_neg hc1, if_pos hc8, if_pos hc9, if_neg hc10, if_neg hc11]
              rw [hz] at hr
              exact retN X0 hx (t := .boolean) Bd.returns (by simp) (hb hby d1_47) hr
        · refine XS.icmpNo X0.here hx rfl (hb hby d1_18) rfl (flt hc9).1 ?_
          show Steps p.tables e below (s₁.setTop (mkF m 21 #[.val (.int p0)] [])) _
          refine XS.iloadN X0.here hx rfl (hb hby d1_21) rfl ?_
          show Steps p.tables e below (s₁.setTop (mkF m 22 #[.val (.int p0)] [(.int p0)])) _
          refine XS.sipush X0.here hx rfl (hb hby d1_22) ?_
          show Steps p.tables e below (s₁.setTop (mkF m 25 #[.val (.int p0)] [(.int (1014 : Int32)), (.int p0)])) _
          by_cases hc12 : (1014 : Int32) < p0
          · refine XS.icmpNo X0.here hx rfl (hb hby d1_25) rfl (tlt hc12).2.2.2 ?_
            show Steps p.tables e below (s₁.setTop (mkF m 28 #[.val (.int p0)] [])) _
            refine XS.iloadN X0.here hx rfl (hb hby d1_28) rfl ?_
            show Steps p.tables e below (s₁.setTop (mkF m 29 #[.val (.int p0)] [(.int p0)])) _
            refine XS.sipush X0.here hx rfl (hb hby d1_29) ?_
            show Steps p.tables e below (s₁.setTop (mkF m 32 #[.val (.int p0)] [(.int (3000 : Int32)), (.int p0)])) _
            by_cases hc13 : p0 < (3000 : Int32)
            · refine XS.icmpYes X0.here hx rfl (pc0 := 32) (pc' := 46) rfl (hb hby d1_32) rfl (tlt hc13).1 (by decide) (by decide) ?_
              show Steps p.tables e below (s₁.setTop (mkF m 46 #[.val (.int p0)] [])) _
              refine XS.iconst X0.here hx rfl (hb hby d1_46) ?_
              show Steps p.tables e below (s₁.setTop (mkF m 47 #[.val (.int p0)] [(.int (0 : Int32))])) _
              have hz : (F1 p0) = (0 : Int32) := by unfold F1; rw [if_neg hc1, if_pos hc8, if_neg hc9, if_pos hc12, if_pos hc13]
              rw [hz] at hr
              exact retN X0 hx (t := .boolean) Bd.returns (by simp) (hb hby d1_47) hr
            · refine XS.icmpNo X0.here hx rfl (hb hby d1_32) rfl (flt hc13).1 ?_
              show Steps p.tables e below (s₁.setTop (mkF m 35 #[.val (.int p0)] [])) _
              refine XS.iloadN X0.here hx rfl (hb hby d1_35) rfl ?_
              show Steps p.tables e below (s₁.setTop (mkF m 36 #[.val (.int p0)] [(.int p0)])) _
              refine XS.sipush X0.here hx rfl (hb hby d1_36) ?_
              show Steps p.tables e below (s₁.setTop (mkF m 39 #[.val (.int p0)] [(.int (4999 : Int32)), (.int p0)])) _
              by_cases hc14 : (4999 : Int32) < p0
              · refine XS.icmpYes X0.here hx rfl (pc0 := 39) (pc' := 46) rfl (hb hby d1_39) rfl (tlt hc14).2.2.1 (by decide) (by decide) ?_
                show Steps p.tables e below (s₁.setTop (mkF m 46 #[.val (.int p0)] [])) _
                refine XS.iconst X0.here hx rfl (hb hby d1_46) ?_
                show Steps p.tables e below (s₁.setTop (mkF m 47 #[.val (.int p0)] [(.int (0 : Int32))])) _
                have hz : (F1 p0) = (0 : Int32) := by unfold F1; rw [if_neg hc1, if_pos hc8, if_neg hc9, if_pos hc12, if_neg hc13, if_pos hc14]
                rw [hz] at hr
                exact retN X0 hx (t := .boolean) Bd.returns (by simp) (hb hby d1_47) hr
              · refine XS.icmpNo X0.here hx rfl (hb hby d1_39) rfl (flt hc14).2.2.1 ?_
                show Steps p.tables e below (s₁.setTop (mkF m 42 #[.val (.int p0)] [])) _
                refine XS.iconst X0.here hx rfl (hb hby d1_42) ?_
                show Steps p.tables e below (s₁.setTop (mkF m 43 #[.val (.int p0)] [(.int (1 : Int32))])) _
                refine XS.goto X0.here hx rfl (pc0 := 43) (pc' := 47) rfl (hb hby d1_43) (by decide) (by decide) ?_
                show Steps p.tables e below (s₁.setTop (mkF m 47 #[.val (.int p0)] [(.int (1 : Int32))])) _
                have hz : (F1 p0) = (1 : Int32) := by unfold F1; rw [if_neg hc1, if_pos hc8, if_neg hc9, if_pos hc12, if_neg hc13, if_neg hc14]
                rw [hz] at hr
                exact retN X0 hx (t := .boolean) Bd.returns (by simp) (hb hby d1_47) hr
          · refine XS.icmpYes X0.here hx rfl (pc0 := 25) (pc' := 42) rfl (hb hby d1_25) rfl (flt hc12).2.2.2 (by decide) (by decide) ?_
            show Steps p.tables e below (s₁.setTop (mkF m 42 #[.val (.int p0)] [])) _
            refine XS.iconst X0.here hx rfl (hb hby d1_42) ?_
            show Steps p.tables e below (s₁.setTop (mkF m 43 #[.val (.int p0)] [(.int (1 : Int32))])) _
            refine XS.goto X0.here hx rfl (pc0 := 43) (pc' := 47) rfl (hb hby d1_43) (by decide) (by decide) ?_
            show Steps p.tables e below (s₁.setTop (mkF m 47 #[.val (.int p0)] [(.int (1 : Int32))])) _
            have hz : (F1 p0) = (1 : Int32) := by unfold F1; rw [if_neg hc1, if_pos hc8, if_neg hc9, if_neg hc12]
            rw [hz] at hr
            exact retN X0 hx (t := .boolean) Bd.returns (by simp) (hb hby d1_47) hr
      · refine XS.icmpYes X0.here hx rfl (pc0 := 11) (pc' := 42) rfl (hb hby d1_11) rfl (flt hc8).2.2.2 (by decide) (by decide) ?_
        show Steps p.tables e below (s₁.setTop (mkF m 42 #[.val (.int p0)] [])) _
        refine XS.iconst X0.here hx rfl (hb hby d1_42) ?_
        show Steps p.tables e below (s₁.setTop (mkF m 43 #[.val (.int p0)] [(.int (1 : Int32))])) _
        refine XS.goto X0.here hx rfl (pc0 := 43) (pc' := 47) rfl (hb hby d1_43) (by decide) (by decide) ?_
        show Steps p.tables e below (s₁.setTop (mkF m 47 #[.val (.int p0)] [(.int (1 : Int32))])) _
        have hz : (F1 p0) = (1 : Int32) := by unfold F1; rw [if_neg hc1, if_neg hc8]
        rw [hz] at hr
        exact retN X0 hx (t := .boolean) Bd.returns (by simp) (hb hby d1_47) hr
  · show Q_rm1 Z p0 h0 n0 _ s₁.heap _
    rw [e0]
    exact ⟨rfl, N0, rfl⟩

theorem d2_0 : decode method_2_code 0 = .ok (.iload_n 0, 1) := by decide +kernel
theorem d2_1 : decode method_2_code 1 = .ok (.sipush 1000, 3) := by decide +kernel
theorem d2_4 : decode method_2_code 4 = .ok (.if_icmp .ge 5, 3) := by decide +kernel
theorem d2_7 : decode method_2_code 7 = .ok (.iconst 1, 1) := by decide +kernel
theorem d2_8 : decode method_2_code 8 = .ok (.ireturn, 1) := by decide +kernel
theorem d2_9 : decode method_2_code 9 = .ok (.iload_n 0, 1) := by decide +kernel
theorem d2_10 : decode method_2_code 10 = .ok (.sipush 1004, 3) := by decide +kernel
theorem d2_13 : decode method_2_code 13 = .ok (.if_icmp .lt 12, 3) := by decide +kernel
theorem d2_16 : decode method_2_code 16 = .ok (.iload_n 0, 1) := by decide +kernel
theorem d2_17 : decode method_2_code 17 = .ok (.sipush 1006, 3) := by decide +kernel
theorem d2_20 : decode method_2_code 20 = .ok (.if_icmp .gt 5, 3) := by decide +kernel
theorem d2_23 : decode method_2_code 23 = .ok (.iconst 1, 1) := by decide +kernel
theorem d2_24 : decode method_2_code 24 = .ok (.ireturn, 1) := by decide +kernel
theorem d2_25 : decode method_2_code 25 = .ok (.iload_n 0, 1) := by decide +kernel
theorem d2_26 : decode method_2_code 26 = .ok (.sipush 1015, 3) := by decide +kernel
theorem d2_29 : decode method_2_code 29 = .ok (.if_icmp .lt 12, 3) := by decide +kernel
theorem d2_32 : decode method_2_code 32 = .ok (.iload_n 0, 1) := by decide +kernel
theorem d2_33 : decode method_2_code 33 = .ok (.sipush 2999, 3) := by decide +kernel
theorem d2_36 : decode method_2_code 36 = .ok (.if_icmp .gt 5, 3) := by decide +kernel
theorem d2_39 : decode method_2_code 39 = .ok (.iconst 1, 1) := by decide +kernel
theorem d2_40 : decode method_2_code 40 = .ok (.ireturn, 1) := by decide +kernel
theorem d2_41 : decode method_2_code 41 = .ok (.iload_n 0, 1) := by decide +kernel
theorem d2_42 : decode method_2_code 42 = .ok (.sipush 4999, 3) := by decide +kernel
theorem d2_45 : decode method_2_code 45 = .ok (.if_icmp .le 7, 3) := by decide +kernel
theorem d2_48 : decode method_2_code 48 = .ok (.iconst 1, 1) := by decide +kernel
theorem d2_49 : decode method_2_code 49 = .ok (.goto 4, 3) := by decide +kernel
theorem d2_52 : decode method_2_code 52 = .ok (.iconst 0, 1) := by decide +kernel
theorem d2_53 : decode method_2_code 53 = .ok (.ireturn, 1) := by decide +kernel
theorem pn_rm2 : plainName "com/example/lettr/lettr/transport/CloseStatusIsSendablePinLaw" = true := by first | (simp [plainName, overriddenIn]; done) | decide +kernel
theorem ef_rm2 (m : MethodId) (p0 : Int32) : entryFrame m #[(.int p0)] 1 = mkF m 0 #[.val (.int p0)] [] := by first | (simp [entryFrame, mkF, argsToLocals, Value.category]; done) | rfl
def F2 (p0 : Int32) : Int32 := (if p0 < (1000 : Int32) then (1 : Int32) else (if p0 < (1004 : Int32) then (if p0 < (1015 : Int32) then (if (4999 : Int32) < p0 then (1 : Int32) else (0 : Int32)) else (if (2999 : Int32) < p0 then (if (4999 : Int32) < p0 then (1 : Int32) else (0 : Int32)) else (1 : Int32))) else (if (1006 : Int32) < p0 then (if p0 < (1015 : Int32) then (if (4999 : Int32) < p0 then (1 : Int32) else (0 : Int32)) else (if (2999 : Int32) < p0 then (if (4999 : Int32) < p0 then (1 : Int32) else (0 : Int32)) else (1 : Int32))) else (1 : Int32))))
def Q_rm2 (Z : State) (p0 : Int32) (h0 : Heap) (n0 : Nat) (v : Option Value) (h : Heap) (L : List Loc) : Prop := v = some (.int (F2 p0)) ∧ Fr n0 L ∧ h = h0
set_option maxRecDepth 65536 in
set_option maxHeartbeats 40000000 in
theorem rm2 (l : Launch) (Z : State) (a0 : Array Value) (hw : ∀ d ∈ tables_1, d.before a0 Z = true) (ws : List Jvm.Cond) (p0 : Int32) (h0 : Heap) (n0 : Nat) (Z0 : n0 ≤ h0.size) :
    MetFree l (⟨"com/example/lettr/lettr/transport/CloseStatusIsSendablePinLaw", "forbidden", "(I)Z"⟩ : MethodName) (head1 (Jvm.Cond.code (⟨"com/example/lettr/lettr/transport/CloseStatusIsSendablePinLaw", "forbidden", "(I)Z"⟩ : MethodName) method_2_code 1 (some .boolean) :: ws) ({ frames := 0, cells := 0, slots := 0, locals := 0 } : Room)) (fun a U => a = #[(.int p0)] ∧ Z.Warmed39 U.vm ∧ U.heap = h0) (fun _ _ _ _ _ => True) (fun _ U o U' => ∃ v L, o = .returned v ∧ Q_rm2 Z p0 h0 n0 v U'.heap L ∧ FrameEnd U o U' L ({ frames := 0, cells := 0, slots := 0, locals := 0 } : Room).cells ({ frames := 0, cells := 0, slots := 0, locals := 0 } : Room).slots) := by
  refine MetFree.of_bodySF (plainFor_of_name pn_rm2) hisR ?_
  intro p e s m args below meth c s₁ Bd hml0 hP hK
  obtain ⟨rfl, hZ, hh⟩ := hP
  have hx := Bd.exec
  have hby := Bd.bytes
  have hml : c.maxLocals = 1 := hml0
  have hown : s.vm.findClass "com/example/lettr/lettr/transport/CloseStatusIsSendablePinLaw" = some m.cls := findClass_of_methodNamed Bd.named
  have hnm := (name_of_methodNamed Bd.named Bd.method).1
  have X0 : Stand p l e ({ frames := 0, cells := 0, slots := 0, locals := 0 } : Room) s m #[(.int p0)] below meth c s₁ [] 0 0 := Stand.of_body Bd
  have e0 : s₁.heap = h0 := by rw [← hh, Bd.state]; rfl
  have N0 := Fr.nil n0
  have q0 : Steps p.tables e below (s₁.setTop (entryFrame m #[(.int p0)] 1)) (s₁.setTop (mkF m 0 #[.val (.int p0)] [])) := castTop (ef_rm2 m p0) (Steps.refl _)
  obtain ⟨fs, hr, hrun, hended, hW, hsame⟩ := X0.leave (v := some (.int (F2 p0))) (fun h => by rw [Bd.returns] at h; cases h)
  refine ⟨_, _, q0.trans ?_, hrun, hended, _, _, rfl, ?_, ⟨_, rfl⟩, hW, hsame.mono (by decide) (by decide)⟩
  · show Steps p.tables e below (s₁.setTop (mkF m 0 #[.val (.int p0)] [])) _
    refine XS.iloadN X0.here hx rfl (hb hby d2_0) rfl ?_
    show Steps p.tables e below (s₁.setTop (mkF m 1 #[.val (.int p0)] [(.int p0)])) _
    refine XS.sipush X0.here hx rfl (hb hby d2_1) ?_
    show Steps p.tables e below (s₁.setTop (mkF m 4 #[.val (.int p0)] [(.int (1000 : Int32)), (.int p0)])) _
    by_cases hc1 : p0 < (1000 : Int32)
    · refine XS.icmpNo X0.here hx rfl (hb hby d2_4) rfl (tlt hc1).2.1 ?_
      show Steps p.tables e below (s₁.setTop (mkF m 7 #[.val (.int p0)] [])) _
      refine XS.iconst X0.here hx rfl (hb hby d2_7) ?_
      show Steps p.tables e below (s₁.setTop (mkF m 8 #[.val (.int p0)] [(.int (1 : Int32))])) _
      have hz : (F2 p0) = (1 : Int32) := by unfold F2; rw [if_pos hc1]
      rw [hz] at hr
      exact retN X0 hx (t := .boolean) Bd.returns (by simp) (hb hby d2_8) hr
    · refine XS.icmpYes X0.here hx rfl (pc0 := 4) (pc' := 9) rfl (hb hby d2_4) rfl (flt hc1).2.1 (by decide) (by decide) ?_
      show Steps p.tables e below (s₁.setTop (mkF m 9 #[.val (.int p0)] [])) _
      refine XS.iloadN X0.here hx rfl (hb hby d2_9) rfl ?_
      show Steps p.tables e below (s₁.setTop (mkF m 10 #[.val (.int p0)] [(.int p0)])) _
      refine XS.sipush X0.here hx rfl (hb hby d2_10) ?_
      show Steps p.tables e below (s₁.setTop (mkF m 13 #[.val (.int p0)] [(.int (1004 : Int32)), (.int p0)])) _
      by_cases hc2 : p0 < (1004 : Int32)
      · refine XS.icmpYes X0.here hx rfl (pc0 := 13) (pc' := 25) rfl (hb hby d2_13) rfl (tlt hc2).1 (by decide) (by decide) ?_
        show Steps p.tables e below (s₁.setTop (mkF m 25 #[.val (.int p0)] [])) _
        refine XS.iloadN X0.here hx rfl (hb hby d2_25) rfl ?_
        show Steps p.tables e below (s₁.setTop (mkF m 26 #[.val (.int p0)] [(.int p0)])) _
        refine XS.sipush X0.here hx rfl (hb hby d2_26) ?_
        show Steps p.tables e below (s₁.setTop (mkF m 29 #[.val (.int p0)] [(.int (1015 : Int32)), (.int p0)])) _
        by_cases hc3 : p0 < (1015 : Int32)
        · refine XS.icmpYes X0.here hx rfl (pc0 := 29) (pc' := 41) rfl (hb hby d2_29) rfl (tlt hc3).1 (by decide) (by decide) ?_
          show Steps p.tables e below (s₁.setTop (mkF m 41 #[.val (.int p0)] [])) _
          refine XS.iloadN X0.here hx rfl (hb hby d2_41) rfl ?_
          show Steps p.tables e below (s₁.setTop (mkF m 42 #[.val (.int p0)] [(.int p0)])) _
          refine XS.sipush X0.here hx rfl (hb hby d2_42) ?_
          show Steps p.tables e below (s₁.setTop (mkF m 45 #[.val (.int p0)] [(.int (4999 : Int32)), (.int p0)])) _
          by_cases hc4 : (4999 : Int32) < p0
          · refine XS.icmpNo X0.here hx rfl (hb hby d2_45) rfl (tlt hc4).2.2.2 ?_
            show Steps p.tables e below (s₁.setTop (mkF m 48 #[.val (.int p0)] [])) _
            refine XS.iconst X0.here hx rfl (hb hby d2_48) ?_
            show Steps p.tables e below (s₁.setTop (mkF m 49 #[.val (.int p0)] [(.int (1 : Int32))])) _
            refine XS.goto X0.here hx rfl (pc0 := 49) (pc' := 53) rfl (hb hby d2_49) (by decide) (by decide) ?_
            show Steps p.tables e below (s₁.setTop (mkF m 53 #[.val (.int p0)] [(.int (1 : Int32))])) _
            have hz : (F2 p0) = (1 : Int32) := by unfold F2; rw [if_neg hc1, if_pos hc2, if_pos hc3, if_pos hc4]
            rw [hz] at hr
            exact retN X0 hx (t := .boolean) Bd.returns (by simp) (hb hby d2_53) hr
          · refine XS.icmpYes X0.here hx rfl (pc0 := 45) (pc' := 52) rfl (hb hby d2_45) rfl (flt hc4).2.2.2 (by decide) (by decide) ?_
            show Steps p.tables e below (s₁.setTop (mkF m 52 #[.val (.int p0)] [])) _
            refine XS.iconst X0.here hx rfl (hb hby d2_52) ?_
            show Steps p.tables e below (s₁.setTop (mkF m 53 #[.val (.int p0)] [(.int (0 : Int32))])) _
            have hz : (F2 p0) = (0 : Int32) := by unfold F2; rw [if_neg hc1, if_pos hc2, if_pos hc3, if_neg hc4]
            rw [hz] at hr
            exact retN X0 hx (t := .boolean) Bd.returns (by simp) (hb hby d2_53) hr
        · refine XS.icmpNo X0.here hx rfl (hb hby d2_29) rfl (flt hc3).1 ?_
          show Steps p.tables e below (s₁.setTop (mkF m 32 #[.val (.int p0)] [])) _
          refine XS.iloadN X0.here hx rfl (hb hby d2_32) rfl ?_
          show Steps p.tables e below (s₁.setTop (mkF m 33 #[.val (.int p0)] [(.int p0)])) _
          refine XS.sipush X0.here hx rfl (hb hby d2_33) ?_
          show Steps p.tables e below (s₁.setTop (mkF m 36 #[.val (.int p0)] [(.int (2999 : Int32)), (.int p0)])) _
          by_cases hc5 : (2999 : Int32) < p0
          · refine XS.icmpYes X0.here hx rfl (pc0 := 36) (pc' := 41) rfl (hb hby d2_36) rfl (tlt hc5).2.2.1 (by decide) (by decide) ?_
            show Steps p.tables e below (s₁.setTop (mkF m 41 #[.val (.int p0)] [])) _
            refine XS.iloadN X0.here hx rfl (hb hby d2_41) rfl ?_
            show Steps p.tables e below (s₁.setTop (mkF m 42 #[.val (.int p0)] [(.int p0)])) _
            refine XS.sipush X0.here hx rfl (hb hby d2_42) ?_
            show Steps p.tables e below (s₁.setTop (mkF m 45 #[.val (.int p0)] [(.int (4999 : Int32)), (.int p0)])) _
            by_cases hc6 : (4999 : Int32) < p0
            · refine XS.icmpNo X0.here hx rfl (hb hby d2_45) rfl (tlt hc6).2.2.2 ?_
              show Steps p.tables e below (s₁.setTop (mkF m 48 #[.val (.int p0)] [])) _
              refine XS.iconst X0.here hx rfl (hb hby d2_48) ?_
              show Steps p.tables e below (s₁.setTop (mkF m 49 #[.val (.int p0)] [(.int (1 : Int32))])) _
              refine XS.goto X0.here hx rfl (pc0 := 49) (pc' := 53) rfl (hb hby d2_49) (by decide) (by decide) ?_
              show Steps p.tables e below (s₁.setTop (mkF m 53 #[.val (.int p0)] [(.int (1 : Int32))])) _
              have hz : (F2 p0) = (1 : Int32) := by unfold F2; rw [if_neg hc1, if_pos hc2, if_neg hc3, if_pos hc5, if_pos hc6]
              rw [hz] at hr
              exact retN X0 hx (t := .boolean) Bd.returns (by simp) (hb hby d2_53) hr
            · refine XS.icmpYes X0.here hx rfl (pc0 := 45) (pc' := 52) rfl (hb hby d2_45) rfl (flt hc6).2.2.2 (by decide) (by decide) ?_
              show Steps p.tables e below (s₁.setTop (mkF m 52 #[.val (.int p0)] [])) _
              refine XS.iconst X0.here hx rfl (hb hby d2_52) ?_
              show Steps p.tables e below (s₁.setTop (mkF m 53 #[.val (.int p0)] [(.int (0 : Int32))])) _
              have hz : (F2 p0) = (0 : Int32) := by unfold F2; rw [if_neg hc1, if_pos hc2, if_neg hc3, if_pos hc5, if_neg hc6]
              rw [hz] at hr
              exact retN X0 hx (t := .boolean) Bd.returns (by simp) (hb hby d2_53) hr
          · refine XS.icmpNo X0.here hx rfl (hb hby d2_36) rfl (flt hc5).2.2.1 ?_
            show Steps p.tables e below (s₁.setTop (mkF m 39 #[.val (.int p0)] [])) _
            refine XS.iconst X0.here hx rfl (hb hby d2_39) ?_
            show Steps p.tables e below (s₁.setTop (mkF m 40 #[.val (.int p0)] [(.int (1 : Int32))])) _
            have hz : (F2 p0) = (1 : Int32) := by unfold F2; rw [if_neg hc1, if_pos hc2, if_neg hc3, if_neg hc5]
            rw [hz] at hr
            exact retN X0 hx (t := .boolean) Bd.returns (by simp) (hb hby d2_40) hr
      · refine XS.icmpNo X0.here hx rfl (hb hby d2_13) rfl (flt hc2).1 ?_
        show Steps p.tables e below (s₁.setTop (mkF m 16 #[.val (.int p0)] [])) _
        refine XS.iloadN X0.here hx rfl (hb hby d2_16) rfl ?_
        show Steps p.tables e below (s₁.setTop (mkF m 17 #[.val (.int p0)] [(.int p0)])) _
        refine XS.sipush X0.here hx rfl (hb hby d2_17) ?_
        show Steps p.tables e below (s₁.setTop (mkF m 20 #[.val (.int p0)] [(.int (1006 : Int32)), (.int p0)])) _
        by_cases hc7 : (1006 : Int32) < p0
        · refine XS.icmpYes X0.here hx rfl (pc0 := 20) (pc' := 25) rfl (hb hby d2_20) rfl (tlt hc7).2.2.1 (by decide) (by decide) ?_
          show Steps p.tables e below (s₁.setTop (mkF m 25 #[.val (.int p0)] [])) _
          refine XS.iloadN X0.here hx rfl (hb hby d2_25) rfl ?_
          show Steps p.tables e below (s₁.setTop (mkF m 26 #[.val (.int p0)] [(.int p0)])) _
          refine XS.sipush X0.here hx rfl (hb hby d2_26) ?_
          show Steps p.tables e below (s₁.setTop (mkF m 29 #[.val (.int p0)] [(.int (1015 : Int32)), (.int p0)])) _
          by_cases hc8 : p0 < (1015 : Int32)
          · refine XS.icmpYes X0.here hx rfl (pc0 := 29) (pc' := 41) rfl (hb hby d2_29) rfl (tlt hc8).1 (by decide) (by decide) ?_
            show Steps p.tables e below (s₁.setTop (mkF m 41 #[.val (.int p0)] [])) _
            refine XS.iloadN X0.here hx rfl (hb hby d2_41) rfl ?_
            show Steps p.tables e below (s₁.setTop (mkF m 42 #[.val (.int p0)] [(.int p0)])) _
            refine XS.sipush X0.here hx rfl (hb hby d2_42) ?_
            show Steps p.tables e below (s₁.setTop (mkF m 45 #[.val (.int p0)] [(.int (4999 : Int32)), (.int p0)])) _
            by_cases hc9 : (4999 : Int32) < p0
            · refine XS.icmpNo X0.here hx rfl (hb hby d2_45) rfl (tlt hc9).2.2.2 ?_
              show Steps p.tables e below (s₁.setTop (mkF m 48 #[.val (.int p0)] [])) _
              refine XS.iconst X0.here hx rfl (hb hby d2_48) ?_
              show Steps p.tables e below (s₁.setTop (mkF m 49 #[.val (.int p0)] [(.int (1 : Int32))])) _
              refine XS.goto X0.here hx rfl (pc0 := 49) (pc' := 53) rfl (hb hby d2_49) (by decide) (by decide) ?_
              show Steps p.tables e below (s₁.setTop (mkF m 53 #[.val (.int p0)] [(.int (1 : Int32))])) _
              have hz : (F2 p0) = (1 : Int32) := by unfold F2; rw [if_neg hc1, if_neg hc2, if_pos hc7, if_pos hc8, if_pos hc9]
              rw [hz] at hr
              exact retN X0 hx (t := .boolean) Bd.returns (by simp) (hb hby d2_53) hr
            · refine XS.icmpYes X0.here hx rfl (pc0 := 45) (pc' := 52) rfl (hb hby d2_45) rfl (flt hc9).2.2.2 (by decide) (by decide) ?_
              show Steps p.tables e below (s₁.setTop (mkF m 52 #[.val (.int p0)] [])) _
              refine XS.iconst X0.here hx rfl (hb hby d2_52) ?_
              show Steps p.tables e below (s₁.setTop (mkF m 53 #[.val (.int p0)] [(.int (0 : Int32))])) _
              have hz : (F2 p0) = (0 : Int32) := by unfold F2; rw [if_neg hc1, if_neg hc2, if_pos hc7, if_pos hc8, if_neg hc9]
              rw [hz] at hr
              exact retN X0 hx (t := .boolean) Bd.returns (by simp) (hb hby d2_53) hr
          · refine XS.icmpNo X0.here hx rfl (hb hby d2_29) rfl (flt hc8).1 ?_
            show Steps p.tables e below (s₁.setTop (mkF m 32 #[.val (.int p0)] [])) _
            refine XS.iloadN X0.here hx rfl (hb hby d2_32) rfl ?_
            show Steps p.tables e below (s₁.setTop (mkF m 33 #[.val (.int p0)] [(.int p0)])) _
            refine XS.sipush X0.here hx rfl (hb hby d2_33) ?_
            show Steps p.tables e below (s₁.setTop (mkF m 36 #[.val (.int p0)] [(.int (2999 : Int32)), (.int p0)])) _
            by_cases hc10 : (2999 : Int32) < p0
            · refine XS.icmpYes X0.here hx rfl (pc0 := 36) (pc' := 41) rfl (hb hby d2_36) rfl (tlt hc10).2.2.1 (by decide) (by decide) ?_
              show Steps p.tables e below (s₁.setTop (mkF m 41 #[.val (.int p0)] [])) _
              refine XS.iloadN X0.here hx rfl (hb hby d2_41) rfl ?_
              show Steps p.tables e below (s₁.setTop (mkF m 42 #[.val (.int p0)] [(.int p0)])) _
              refine XS.sipush X0.here hx rfl (hb hby d2_42) ?_
              show Steps p.tables e below (s₁.setTop (mkF m 45 #[.val (.int p0)] [(.int (4999 : Int32)), (.int p0)])) _
              by_cases hc11 : (4999 : Int32) < p0
              · refine XS.icmpNo X0.here hx rfl (hb hby d2_45) rfl (tlt hc11).2.2.2 ?_
                show Steps p.tables e below (s₁.setTop (mkF m 48 #[.val (.int p0)] [])) _
                refine XS.iconst X0.here hx rfl (hb hby d2_48) ?_
                show Steps p.tables e below (s₁.setTop (mkF m 49 #[.val (.int p0)] [(.int (1 : Int32))])) _
                refine XS.goto X0.here hx rfl (pc0 := 49) (pc' := 53) rfl (hb hby d2_49) (by decide) (by decide) ?_
                show Steps p.tables e below (s₁.setTop (mkF m 53 #[.val (.int p0)] [(.int (1 : Int32))])) _
                have hz : (F2 p0) = (1 : Int32) := by unfold F2; rw [if_neg hc1, if_neg hc2, if_pos hc7, if_neg hc8, if_pos hc10, if_pos hc11]
                rw [hz] at hr
                exact retN X0 hx (t := .boolean) Bd.returns (by simp) (hb hby d2_53) hr
              · refine XS.icmpYes X0.here hx rfl (pc0 := 45) (pc' := 52) rfl (hb hby d2_45) rfl (flt hc11).2.2.2 (by decide) (by decide) ?_
                show Steps p.tables e below (s₁.setTop (mkF m 52 #[.val (.int p0)] [])) _
                refine XS.iconst X0.here hx rfl (hb hby d2_52) ?_
                show Steps p.tables e below (s₁.setTop (mkF m 53 #[.val (.int p0)] [(.int (0 : Int32))])) _
                have hz : (F2 p0) = (0 : Int32) := by unfold F2; rw [if_neg hc1, if_neg hc2, if_pos hc7, if_neg hc8, if_pos hc10, if_neg hc11]
                rw [hz] at hr
                exact retN X0 hx (t := .boolean) Bd.returns (by simp) (hb hby d2_53) hr
            · refine XS.icmpNo X0.here hx rfl (hb hby d2_36) rfl (flt hc10).2.2.1 ?_
              show Steps p.tables e below (s₁.setTop (mkF m 39 #[.val (.int p0)] [])) _
              refine XS.iconst X0.here hx rfl (hb hby d2_39) ?_
              show Steps p.tables e below (s₁.setTop (mkF m 40 #[.val (.int p0)] [(.int (1 : Int32))])) _
              have hz : (F2 p0) = (1 : Int32) := by unfold F2; rw [if_neg hc1, if_neg hc2, if_pos hc7, if_neg hc8, if_neg hc10]
              rw [hz] at hr
              exact retN X0 hx (t := .boolean) Bd.returns (by simp) (hb hby d2_40) hr
        · refine XS.icmpNo X0.here hx rfl (hb hby d2_20) rfl (flt hc7).2.2.1 ?_
          show Steps p.tables e below (s₁.setTop (mkF m 23 #[.val (.int p0)] [])) _
          refine XS.iconst X0.here hx rfl (hb hby d2_23) ?_
          show Steps p.tables e below (s₁.setTop (mkF m 24 #[.val (.int p0)] [(.int (1 : Int32))])) _
          have hz : (F2 p0) = (1 : Int32) := by unfold F2; rw [if_neg hc1, if_neg hc2, if_neg hc7]
          rw [hz] at hr
          exact retN X0 hx (t := .boolean) Bd.returns (by simp) (hb hby d2_24) hr
  · show Q_rm2 Z p0 h0 n0 _ s₁.heap _
    rw [e0]
    exact ⟨rfl, N0, rfl⟩

theorem own_idx (p1 vi : Int32) (h : vi = ((p1 &&& (2147483647 : Int32)) - ((p1 &&& (2147483647 : Int32)) / (6 : Int32)) * (6 : Int32))) : 0 ≤ vi.toInt ∧ vi.toInt < ((6 : Nat) : Int) := by
  have h0 := own_pos p1
  rw [h, own_rem (by omega) (by decide), show (6 : Int32).toInt = 6 from rfl]
  omega
theorem own_two (x : Int32) : (F1 x = 1 ∧ F2 x = 0) ∨ (F1 x = 0 ∧ F2 x = 1) := by
  unfold F1 F2
  simp only [Int32.lt_iff_toInt_lt]
  simp only [show (0 : Int32).toInt = 0 from rfl, show (1 : Int32).toInt = 1 from rfl, show (1000 : Int32).toInt = 1000 from rfl, show (1003 : Int32).toInt = 1003 from rfl, show (1004 : Int32).toInt = 1004 from rfl, show (1006 : Int32).toInt = 1006 from rfl, show (1007 : Int32).toInt = 1007 from rfl, show (1014 : Int32).toInt = 1014 from rfl, show (1015 : Int32).toInt = 1015 from rfl, show (2999 : Int32).toInt = 2999 from rfl, show (3000 : Int32).toInt = 3000 from rfl, show (4999 : Int32).toInt = 4999 from rfl]
  repeat' split
  all_goals first | exact Or.inl ⟨rfl, rfl⟩ | exact Or.inr ⟨rfl, rfl⟩ | (exfalso; omega)

theorem plain0 (p0 : Int32) (p1 : Int32) (p2 : Int32) (vi : Int32) (vn : Int32) (v31 : Int32) (v34 : Int32) (v43 : Int32) (v46 : Int32) (zr : Int32)
    (hvi : vi = ((p1 &&& (2147483647 : Int32)) - ((p1 &&& (2147483647 : Int32)) / (6 : Int32)) * (6 : Int32)))
    (hvn : vn = ((Own.gi [(1000 : Int32), (1004 : Int32), (1007 : Int32), (1015 : Int32), (3000 : Int32), (5000 : Int32)] vi) + ((p2 &&& (7 : Int32)) - (4 : Int32))))
    (hv31 : v31 = (if (F2 p0) = (0 : Int32) then (1 : Int32) else (0 : Int32)))
    (hv34 : v34 = (if (F1 p0) = v31 then (1 : Int32) else (0 : Int32)))
    (hv43 : v43 = (if (F2 vn) = (0 : Int32) then (1 : Int32) else (0 : Int32)))
    (hv46 : v46 = (if (F1 vn) = v43 then (1 : Int32) else (0 : Int32)))
    (hzr : zr = (if v34 = (0 : Int32) then (0 : Int32) else (if v46 = (0 : Int32) then (0 : Int32) else (1 : Int32)))) :
    zr = 1 := by
  clear hvi hvn
  rcases own_two p0 with ⟨a1, a2⟩ | ⟨a1, a2⟩ <;> rcases own_two vn with ⟨b1, b2⟩ | ⟨b1, b2⟩ <;> simp only [a1, a2, b1, b2] at * <;> simp at * <;> subst_vars <;> simp

theorem pd_0 : parseMethodDescriptor "(I)Z" = some ⟨[.int], some .boolean⟩ := by decide +kernel
theorem pn_rm0 : plainName "com/example/lettr/lettr/transport/CloseStatusIsSendablePinLaw" = true := by first | (simp [plainName, overriddenIn]; done) | decide +kernel
theorem ef_rm0 (m : MethodId) (p0 : Int32) (p1 : Int32) (p2 : Int32) : entryFrame m #[(.int p0), (.int p1), (.int p2)] maxLocals = mkF m 0 #[.val (.int p0), .val (.int p1), .val (.int p2), .unset, .unset, .unset, .unset, .unset] [] := by first | (simp [entryFrame, mkF, argsToLocals, Value.category, maxLocals]; done) | rfl
def Q_rm0 (Z : State) (p0 : Int32) (p1 : Int32) (p2 : Int32) (h0 : Heap) (n0 : Nat) (v : Option Value) (h : Heap) (L : List Loc) : Prop := v = some (.int (1 : Int32)) ∧ Fr n0 L
set_option maxRecDepth 65536 in
set_option maxHeartbeats 40000000 in
theorem rm0 (l : Launch) (Z : State) (a0 : Array Value) (hw : ∀ d ∈ tables_1, d.before a0 Z = true) (ws : List Jvm.Cond) (p0 : Int32) (p1 : Int32) (p2 : Int32) (h0 : Heap) (n0 : Nat) (Z0 : n0 ≤ h0.size) :
    MetFree l x (head1 (Jvm.Cond.code x code maxLocals ret :: ws) room_1) (fun a U => a = #[(.int p0), (.int p1), (.int p2)] ∧ Z.Warmed39 U.vm ∧ U.heap = h0) (fun _ _ _ _ _ => True) (fun _ U o U' => ∃ v L, o = .returned v ∧ Q_rm0 Z p0 p1 p2 h0 n0 v U'.heap L ∧ FrameEnd U o U' L room_1.cells room_1.slots) := by
  refine MetFree.of_bodySF (plainFor_of_name pn_rm0) hisR ?_
  intro p e s m args below meth c s₁ Bd hml0 hP hK
  obtain ⟨rfl, hZ, hh⟩ := hP
  have hx := Bd.exec
  have hby := Bd.bytes
  have hml : c.maxLocals = 8 := hml0
  have hown : s.vm.findClass "com/example/lettr/lettr/transport/CloseStatusIsSendablePinLaw" = some m.cls := findClass_of_methodNamed Bd.named
  have hnm := (name_of_methodNamed Bd.named Bd.method).1
  have X0 : Stand p l e room_1 s m #[(.int p0), (.int p1), (.int p2)] below meth c s₁ [] 0 0 := Stand.of_body Bd
  have e0 : s₁.heap = h0 := by rw [← hh, Bd.state]; rfl
  have N0 := Fr.nil n0
  have q0 : Steps p.tables e below (s₁.setTop (entryFrame m #[(.int p0), (.int p1), (.int p2)] maxLocals)) (s₁.setTop (mkF m 0 #[.val (.int p0), .val (.int p1), .val (.int p2), .unset, .unset, .unset, .unset, .unset] [])) := castTop (ef_rm0 m p0 p1 p2) (Steps.refl _)
  have q1 : Steps p.tables e below (s₁.setTop (entryFrame m #[(.int p0), (.int p1), (.int p2)] maxLocals)) (s₁.setTop (mkF m 2 #[.val (.int p0), .val (.int p1), .val (.int p2), .unset, .unset, .unset, .unset, .unset] [(.int (6 : Int32))])) := q0.trans (by
      show Steps p.tables e below (s₁.setTop (mkF m 0 #[.val (.int p0), .val (.int p1), .val (.int p2), .unset, .unset, .unset, .unset, .unset] [])) _
      refine XS.bipush X0.here hx rfl (hb hby at_0) ?_
      show Steps p.tables e below (s₁.setTop (mkF m 2 #[.val (.int p0), .val (.int p1), .val (.int p2), .unset, .unset, .unset, .unset, .unset] [(.int (6 : Int32))])) _
      exact Steps.refl _)
  obtain ⟨T2, h2, k2, X2, e2, E2, A2, st2⟩ := newP X0 hx hZ (hw _ (List.mem_of_getElem? (i := 0) rfl)) e0 (g := (mkF m 2 #[.val (.int p0), .val (.int p1), .val (.int p2), .unset, .unset, .unset, .unset, .unset] [(.int (6 : Int32))])) rfl (hb hby at_2) rfl (by decide) (cap := 6) (by decide) (by decide) (by decide) (by decide)
  obtain ⟨b, g2⟩ : ∃ z, z = h0.size := ⟨_, rfl⟩
  rw [← g2] at A2 st2
  have ge_b : n0 ≤ b := Nat.le_trans Z0 (Nat.le_of_eq g2.symm)
  have Z2 : n0 ≤ h2.size := Nat.le_trans Z0 E2.1
  have I_b : Own.IA Z h2 b [(0 : Int32), (0 : Int32), (0 : Int32), (0 : Int32), (0 : Int32), (0 : Int32)] := Own.IA.new A2 (n := 6) (by decide)
  have q3 : Steps p.tables e below (s₁.setTop (entryFrame m #[(.int p0), (.int p1), (.int p2)] maxLocals)) (T2.setTop (mkF m 4 #[.val (.int p0), .val (.int p1), .val (.int p2), .unset, .unset, .unset, .unset, .unset] [(.ref b)])) := q1.trans (st2 _ (Steps.refl _))
  have q4 : Steps p.tables e below (s₁.setTop (entryFrame m #[(.int p0), (.int p1), (.int p2)] maxLocals)) (T2.setTop (mkF m 9 #[.val (.int p0), .val (.int p1), .val (.int p2), .unset, .unset, .unset, .unset, .unset] [(.int (1000 : Int32)), (.int (0 : Int32)), (.ref b), (.ref b)])) := q3.trans (by
      show Steps p.tables e below (T2.setTop (mkF m 4 #[.val (.int p0), .val (.int p1), .val (.int p2), .unset, .unset, .unset, .unset, .unset] [(.ref b)])) _
      refine XS.dup X2.here hx rfl (hb hby at_4) rfl rfl ?_
      show Steps p.tables e below (T2.setTop (mkF m 5 #[.val (.int p0), .val (.int p1), .val (.int p2), .unset, .unset, .unset, .unset, .unset] [(.ref b), (.ref b)])) _
      refine XS.iconst X2.here hx rfl (hb hby at_5) ?_
      show Steps p.tables e below (T2.setTop (mkF m 6 #[.val (.int p0), .val (.int p1), .val (.int p2), .unset, .unset, .unset, .unset, .unset] [(.int (0 : Int32)), (.ref b), (.ref b)])) _
      refine XS.sipush X2.here hx rfl (hb hby at_6) ?_
      show Steps p.tables e below (T2.setTop (mkF m 9 #[.val (.int p0), .val (.int p1), .val (.int p2), .unset, .unset, .unset, .unset, .unset] [(.int (1000 : Int32)), (.int (0 : Int32)), (.ref b), (.ref b)])) _
      exact Steps.refl _)
  obtain ⟨T5, h5, X5, e5, W5, J5, st5⟩ := Own.stIA X2 hx hZ e2 I_b (j := (0 : Int32)) 6 rfl (by decide) (g := (mkF m 9 #[.val (.int p0), .val (.int p1), .val (.int p2), .unset, .unset, .unset, .unset, .unset] [(.int (1000 : Int32)), (.int (0 : Int32)), (.ref b), (.ref b)])) rfl rfl (hb hby at_9)
  have N5 := Fr.snoc X5 N0 ge_b
  have Z5 : n0 ≤ h5.size := Own.size_wr W5 Z2
  have Ib_5 : Own.IA Z h5 b [(1000 : Int32), (0 : Int32), (0 : Int32), (0 : Int32), (0 : Int32), (0 : Int32)] := J5
  have q6 : Steps p.tables e below (s₁.setTop (entryFrame m #[(.int p0), (.int p1), (.int p2)] maxLocals)) (T5.setTop (mkF m 10 #[.val (.int p0), .val (.int p1), .val (.int p2), .unset, .unset, .unset, .unset, .unset] [(.ref b)])) := q4.trans (st5 _ (Steps.refl _))
  have q7 : Steps p.tables e below (s₁.setTop (entryFrame m #[(.int p0), (.int p1), (.int p2)] maxLocals)) (T5.setTop (mkF m 15 #[.val (.int p0), .val (.int p1), .val (.int p2), .unset, .unset, .unset, .unset, .unset] [(.int (1004 : Int32)), (.int (1 : Int32)), (.ref b), (.ref b)])) := q6.trans (by
      show Steps p.tables e below (T5.setTop (mkF m 10 #[.val (.int p0), .val (.int p1), .val (.int p2), .unset, .unset, .unset, .unset, .unset] [(.ref b)])) _
      refine XS.dup X5.here hx rfl (hb hby at_10) rfl rfl ?_
      show Steps p.tables e below (T5.setTop (mkF m 11 #[.val (.int p0), .val (.int p1), .val (.int p2), .unset, .unset, .unset, .unset, .unset] [(.ref b), (.ref b)])) _
      refine XS.iconst X5.here hx rfl (hb hby at_11) ?_
      show Steps p.tables e below (T5.setTop (mkF m 12 #[.val (.int p0), .val (.int p1), .val (.int p2), .unset, .unset, .unset, .unset, .unset] [(.int (1 : Int32)), (.ref b), (.ref b)])) _
      refine XS.sipush X5.here hx rfl (hb hby at_12) ?_
      show Steps p.tables e below (T5.setTop (mkF m 15 #[.val (.int p0), .val (.int p1), .val (.int p2), .unset, .unset, .unset, .unset, .unset] [(.int (1004 : Int32)), (.int (1 : Int32)), (.ref b), (.ref b)])) _
      exact Steps.refl _)
  obtain ⟨T8, h8, X8, e8, W8, J8, st8⟩ := Own.stIA X5 hx hZ e5 Ib_5 (j := (1 : Int32)) 6 rfl (by decide) (g := (mkF m 15 #[.val (.int p0), .val (.int p1), .val (.int p2), .unset, .unset, .unset, .unset, .unset] [(.int (1004 : Int32)), (.int (1 : Int32)), (.ref b), (.ref b)])) rfl rfl (hb hby at_15)
  have N8 := Fr.snoc X8 N5 ge_b
  have Z8 : n0 ≤ h8.size := Own.size_wr W8 Z5
  have Ib_8 : Own.IA Z h8 b [(1000 : Int32), (1004 : Int32), (0 : Int32), (0 : Int32), (0 : Int32), (0 : Int32)] := J8
  have q9 : Steps p.tables e below (s₁.setTop (entryFrame m #[(.int p0), (.int p1), (.int p2)] maxLocals)) (T8.setTop (mkF m 16 #[.val (.int p0), .val (.int p1), .val (.int p2), .unset, .unset, .unset, .unset, .unset] [(.ref b)])) := q7.trans (st8 _ (Steps.refl _))
  have q10 : Steps p.tables e below (s₁.setTop (entryFrame m #[(.int p0), (.int p1), (.int p2)] maxLocals)) (T8.setTop (mkF m 21 #[.val (.int p0), .val (.int p1), .val (.int p2), .unset, .unset, .unset, .unset, .unset] [(.int (1007 : Int32)), (.int (2 : Int32)), (.ref b), (.ref b)])) := q9.trans (by
      show Steps p.tables e below (T8.setTop (mkF m 16 #[.val (.int p0), .val (.int p1), .val (.int p2), .unset, .unset, .unset, .unset, .unset] [(.ref b)])) _
      refine XS.dup X8.here hx rfl (hb hby at_16) rfl rfl ?_
      show Steps p.tables e below (T8.setTop (mkF m 17 #[.val (.int p0), .val (.int p1), .val (.int p2), .unset, .unset, .unset, .unset, .unset] [(.ref b), (.ref b)])) _
      refine XS.iconst X8.here hx rfl (hb hby at_17) ?_
      show Steps p.tables e below (T8.setTop (mkF m 18 #[.val (.int p0), .val (.int p1), .val (.int p2), .unset, .unset, .unset, .unset, .unset] [(.int (2 : Int32)), (.ref b), (.ref b)])) _
      refine XS.sipush X8.here hx rfl (hb hby at_18) ?_
      show Steps p.tables e below (T8.setTop (mkF m 21 #[.val (.int p0), .val (.int p1), .val (.int p2), .unset, .unset, .unset, .unset, .unset] [(.int (1007 : Int32)), (.int (2 : Int32)), (.ref b), (.ref b)])) _
      exact Steps.refl _)
  obtain ⟨T11, h11, X11, e11, W11, J11, st11⟩ := Own.stIA X8 hx hZ e8 Ib_8 (j := (2 : Int32)) 6 rfl (by decide) (g := (mkF m 21 #[.val (.int p0), .val (.int p1), .val (.int p2), .unset, .unset, .unset, .unset, .unset] [(.int (1007 : Int32)), (.int (2 : Int32)), (.ref b), (.ref b)])) rfl rfl (hb hby at_21)
  have N11 := Fr.snoc X11 N8 ge_b
  have Z11 : n0 ≤ h11.size := Own.size_wr W11 Z8
  have Ib_11 : Own.IA Z h11 b [(1000 : Int32), (1004 : Int32), (1007 : Int32), (0 : Int32), (0 : Int32), (0 : Int32)] := J11
  have q12 : Steps p.tables e below (s₁.setTop (entryFrame m #[(.int p0), (.int p1), (.int p2)] maxLocals)) (T11.setTop (mkF m 22 #[.val (.int p0), .val (.int p1), .val (.int p2), .unset, .unset, .unset, .unset, .unset] [(.ref b)])) := q10.trans (st11 _ (Steps.refl _))
  have q13 : Steps p.tables e below (s₁.setTop (entryFrame m #[(.int p0), (.int p1), (.int p2)] maxLocals)) (T11.setTop (mkF m 27 #[.val (.int p0), .val (.int p1), .val (.int p2), .unset, .unset, .unset, .unset, .unset] [(.int (1015 : Int32)), (.int (3 : Int32)), (.ref b), (.ref b)])) := q12.trans (by
      show Steps p.tables e below (T11.setTop (mkF m 22 #[.val (.int p0), .val (.int p1), .val (.int p2), .unset, .unset, .unset, .unset, .unset] [(.ref b)])) _
      refine XS.dup X11.here hx rfl (hb hby at_22) rfl rfl ?_
      show Steps p.tables e below (T11.setTop (mkF m 23 #[.val (.int p0), .val (.int p1), .val (.int p2), .unset, .unset, .unset, .unset, .unset] [(.ref b), (.ref b)])) _
      refine XS.iconst X11.here hx rfl (hb hby at_23) ?_
      show Steps p.tables e below (T11.setTop (mkF m 24 #[.val (.int p0), .val (.int p1), .val (.int p2), .unset, .unset, .unset, .unset, .unset] [(.int (3 : Int32)), (.ref b), (.ref b)])) _
      refine XS.sipush X11.here hx rfl (hb hby at_24) ?_
      show Steps p.tables e below (T11.setTop (mkF m 27 #[.val (.int p0), .val (.int p1), .val (.int p2), .unset, .unset, .unset, .unset, .unset] [(.int (1015 : Int32)), (.int (3 : Int32)), (.ref b), (.ref b)])) _
      exact Steps.refl _)
  obtain ⟨T14, h14, X14, e14, W14, J14, st14⟩ := Own.stIA X11 hx hZ e11 Ib_11 (j := (3 : Int32)) 6 rfl (by decide) (g := (mkF m 27 #[.val (.int p0), .val (.int p1), .val (.int p2), .unset, .unset, .unset, .unset, .unset] [(.int (1015 : Int32)), (.int (3 : Int32)), (.ref b), (.ref b)])) rfl rfl (hb hby at_27)
  have N14 := Fr.snoc X14 N11 ge_b
  have Z14 : n0 ≤ h14.size := Own.size_wr W14 Z11
  have Ib_14 : Own.IA Z h14 b [(1000 : Int32), (1004 : Int32), (1007 : Int32), (1015 : Int32), (0 : Int32), (0 : Int32)] := J14
  have q15 : Steps p.tables e below (s₁.setTop (entryFrame m #[(.int p0), (.int p1), (.int p2)] maxLocals)) (T14.setTop (mkF m 28 #[.val (.int p0), .val (.int p1), .val (.int p2), .unset, .unset, .unset, .unset, .unset] [(.ref b)])) := q13.trans (st14 _ (Steps.refl _))
  have q16 : Steps p.tables e below (s₁.setTop (entryFrame m #[(.int p0), (.int p1), (.int p2)] maxLocals)) (T14.setTop (mkF m 33 #[.val (.int p0), .val (.int p1), .val (.int p2), .unset, .unset, .unset, .unset, .unset] [(.int (3000 : Int32)), (.int (4 : Int32)), (.ref b), (.ref b)])) := q15.trans (by
      show Steps p.tables e below (T14.setTop (mkF m 28 #[.val (.int p0), .val (.int p1), .val (.int p2), .unset, .unset, .unset, .unset, .unset] [(.ref b)])) _
      refine XS.dup X14.here hx rfl (hb hby at_28) rfl rfl ?_
      show Steps p.tables e below (T14.setTop (mkF m 29 #[.val (.int p0), .val (.int p1), .val (.int p2), .unset, .unset, .unset, .unset, .unset] [(.ref b), (.ref b)])) _
      refine XS.iconst X14.here hx rfl (hb hby at_29) ?_
      show Steps p.tables e below (T14.setTop (mkF m 30 #[.val (.int p0), .val (.int p1), .val (.int p2), .unset, .unset, .unset, .unset, .unset] [(.int (4 : Int32)), (.ref b), (.ref b)])) _
      refine XS.sipush X14.here hx rfl (hb hby at_30) ?_
      show Steps p.tables e below (T14.setTop (mkF m 33 #[.val (.int p0), .val (.int p1), .val (.int p2), .unset, .unset, .unset, .unset, .unset] [(.int (3000 : Int32)), (.int (4 : Int32)), (.ref b), (.ref b)])) _
      exact Steps.refl _)
  obtain ⟨T17, h17, X17, e17, W17, J17, st17⟩ := Own.stIA X14 hx hZ e14 Ib_14 (j := (4 : Int32)) 6 rfl (by decide) (g := (mkF m 33 #[.val (.int p0), .val (.int p1), .val (.int p2), .unset, .unset, .unset, .unset, .unset] [(.int (3000 : Int32)), (.int (4 : Int32)), (.ref b), (.ref b)])) rfl rfl (hb hby at_33)
  have N17 := Fr.snoc X17 N14 ge_b
  have Z17 : n0 ≤ h17.size := Own.size_wr W17 Z14
  have Ib_17 : Own.IA Z h17 b [(1000 : Int32), (1004 : Int32), (1007 : Int32), (1015 : Int32), (3000 : Int32), (0 : Int32)] := J17
  have q18 : Steps p.tables e below (s₁.setTop (entryFrame m #[(.int p0), (.int p1), (.int p2)] maxLocals)) (T17.setTop (mkF m 34 #[.val (.int p0), .val (.int p1), .val (.int p2), .unset, .unset, .unset, .unset, .unset] [(.ref b)])) := q16.trans (st17 _ (Steps.refl _))
  have q19 : Steps p.tables e below (s₁.setTop (entryFrame m #[(.int p0), (.int p1), (.int p2)] maxLocals)) (T17.setTop (mkF m 39 #[.val (.int p0), .val (.int p1), .val (.int p2), .unset, .unset, .unset, .unset, .unset] [(.int (5000 : Int32)), (.int (5 : Int32)), (.ref b), (.ref b)])) := q18.trans (by
      show Steps p.tables e below (T17.setTop (mkF m 34 #[.val (.int p0), .val (.int p1), .val (.int p2), .unset, .unset, .unset, .unset, .unset] [(.ref b)])) _
      refine XS.dup X17.here hx rfl (hb hby at_34) rfl rfl ?_
      show Steps p.tables e below (T17.setTop (mkF m 35 #[.val (.int p0), .val (.int p1), .val (.int p2), .unset, .unset, .unset, .unset, .unset] [(.ref b), (.ref b)])) _
      refine XS.iconst X17.here hx rfl (hb hby at_35) ?_
      show Steps p.tables e below (T17.setTop (mkF m 36 #[.val (.int p0), .val (.int p1), .val (.int p2), .unset, .unset, .unset, .unset, .unset] [(.int (5 : Int32)), (.ref b), (.ref b)])) _
      refine XS.sipush X17.here hx rfl (hb hby at_36) ?_
      show Steps p.tables e below (T17.setTop (mkF m 39 #[.val (.int p0), .val (.int p1), .val (.int p2), .unset, .unset, .unset, .unset, .unset] [(.int (5000 : Int32)), (.int (5 : Int32)), (.ref b), (.ref b)])) _
      exact Steps.refl _)
  obtain ⟨T20, h20, X20, e20, W20, J20, st20⟩ := Own.stIA X17 hx hZ e17 Ib_17 (j := (5 : Int32)) 6 rfl (by decide) (g := (mkF m 39 #[.val (.int p0), .val (.int p1), .val (.int p2), .unset, .unset, .unset, .unset, .unset] [(.int (5000 : Int32)), (.int (5 : Int32)), (.ref b), (.ref b)])) rfl rfl (hb hby at_39)
  have N20 := Fr.snoc X20 N17 ge_b
  have Z20 : n0 ≤ h20.size := Own.size_wr W20 Z17
  have Ib_20 : Own.IA Z h20 b [(1000 : Int32), (1004 : Int32), (1007 : Int32), (1015 : Int32), (3000 : Int32), (5000 : Int32)] := J20
  have q21 : Steps p.tables e below (s₁.setTop (entryFrame m #[(.int p0), (.int p1), (.int p2)] maxLocals)) (T20.setTop (mkF m 40 #[.val (.int p0), .val (.int p1), .val (.int p2), .unset, .unset, .unset, .unset, .unset] [(.ref b)])) := q19.trans (st20 _ (Steps.refl _))
  have q22 : Steps p.tables e below (s₁.setTop (entryFrame m #[(.int p0), (.int p1), (.int p2)] maxLocals)) (T20.setTop (mkF m 50 #[.val (.int p0), .val (.int p1), .val (.int p2), .val (.ref b), .val (.int ((p1 &&& (2147483647 : Int32)) - ((p1 &&& (2147483647 : Int32)) / (6 : Int32)) * (6 : Int32))), .unset, .unset, .unset] [])) := q21.trans (by
      show Steps p.tables e below (T20.setTop (mkF m 40 #[.val (.int p0), .val (.int p1), .val (.int p2), .unset, .unset, .unset, .unset, .unset] [(.ref b)])) _
      refine XS.astoreN X20.here hx rfl (hb hby at_40) rfl rfl (l' := #[.val (.int p0), .val (.int p1), .val (.int p2), .val (.ref b), .unset, .unset, .unset, .unset]) rfl ?_
      show Steps p.tables e below (T20.setTop (mkF m 41 #[.val (.int p0), .val (.int p1), .val (.int p2), .val (.ref b), .unset, .unset, .unset, .unset] [])) _
      refine XS.iloadN X20.here hx rfl (hb hby at_41) rfl ?_
      show Steps p.tables e below (T20.setTop (mkF m 42 #[.val (.int p0), .val (.int p1), .val (.int p2), .val (.ref b), .unset, .unset, .unset, .unset] [(.int p1)])) _
      refine X20.ldcInt hx hown (mvT hZ (hw _ (List.mem_of_getElem? (i := 1) rfl))) (g := (mkF m 42 #[.val (.int p0), .val (.int p1), .val (.int p2), .val (.ref b), .unset, .unset, .unset, .unset] [(.int p1)])) rfl (hb hby at_42) _ ?_
      show Steps p.tables e below (T20.setTop (mkF m 44 #[.val (.int p0), .val (.int p1), .val (.int p2), .val (.ref b), .unset, .unset, .unset, .unset] [(.int (2147483647 : Int32)), (.int p1)])) _
      refine XS.iand X20.here hx rfl (hb hby at_44) rfl ?_
      show Steps p.tables e below (T20.setTop (mkF m 45 #[.val (.int p0), .val (.int p1), .val (.int p2), .val (.ref b), .unset, .unset, .unset, .unset] [(.int (p1 &&& (2147483647 : Int32)))])) _
      refine XS.bipush X20.here hx rfl (hb hby at_45) ?_
      show Steps p.tables e below (T20.setTop (mkF m 47 #[.val (.int p0), .val (.int p1), .val (.int p2), .val (.ref b), .unset, .unset, .unset, .unset] [(.int (6 : Int32)), (.int (p1 &&& (2147483647 : Int32)))])) _
      refine XS.irem X20.here hx rfl (hb hby at_47) rfl (by decide) ?_
      show Steps p.tables e below (T20.setTop (mkF m 48 #[.val (.int p0), .val (.int p1), .val (.int p2), .val (.ref b), .unset, .unset, .unset, .unset] [(.int ((p1 &&& (2147483647 : Int32)) - ((p1 &&& (2147483647 : Int32)) / (6 : Int32)) * (6 : Int32)))])) _
      refine XS.istore X20.here hx rfl (hb hby at_48) rfl (l' := #[.val (.int p0), .val (.int p1), .val (.int p2), .val (.ref b), .val (.int ((p1 &&& (2147483647 : Int32)) - ((p1 &&& (2147483647 : Int32)) / (6 : Int32)) * (6 : Int32))), .unset, .unset, .unset]) rfl ?_
      show Steps p.tables e below (T20.setTop (mkF m 50 #[.val (.int p0), .val (.int p1), .val (.int p2), .val (.ref b), .val (.int ((p1 &&& (2147483647 : Int32)) - ((p1 &&& (2147483647 : Int32)) / (6 : Int32)) * (6 : Int32))), .unset, .unset, .unset] [])) _
      exact Steps.refl _)
  obtain ⟨vi, hvi⟩ : ∃ v : Int32, v = ((p1 &&& (2147483647 : Int32)) - ((p1 &&& (2147483647 : Int32)) / (6 : Int32)) * (6 : Int32)) := ⟨_, rfl⟩
  rw [← hvi] at q22
  have q23 : Steps p.tables e below (s₁.setTop (entryFrame m #[(.int p0), (.int p1), (.int p2)] maxLocals)) (T20.setTop (mkF m 63 #[.val (.int p0), .val (.int p1), .val (.int p2), .val (.ref b), .val (.int vi), .val (.int ((Own.gi [(1000 : Int32), (1004 : Int32), (1007 : Int32), (1015 : Int32), (3000 : Int32), (5000 : Int32)] vi) + ((p2 &&& (7 : Int32)) - (4 : Int32)))), .unset, .unset] [])) := q22.trans (by
      show Steps p.tables e below (T20.setTop (mkF m 50 #[.val (.int p0), .val (.int p1), .val (.int p2), .val (.ref b), .val (.int vi), .unset, .unset, .unset] [])) _
      refine XS.aloadN X20.here hx rfl (hb hby at_50) rfl rfl ?_
      show Steps p.tables e below (T20.setTop (mkF m 51 #[.val (.int p0), .val (.int p1), .val (.int p2), .val (.ref b), .val (.int vi), .unset, .unset, .unset] [(.ref b)])) _
      refine XS.iload X20.here hx rfl (hb hby at_51) rfl ?_
      show Steps p.tables e below (T20.setTop (mkF m 53 #[.val (.int p0), .val (.int p1), .val (.int p2), .val (.ref b), .val (.int vi), .unset, .unset, .unset] [(.int vi), (.ref b)])) _
      refine Own.ldI X20 hx hZ e20 Ib_20 6 rfl (own_idx p1 vi hvi) (g := (mkF m 53 #[.val (.int p0), .val (.int p1), .val (.int p2), .val (.ref b), .val (.int vi), .unset, .unset, .unset] [(.int vi), (.ref b)])) rfl rfl (hb hby at_53) _ ?_
      show Steps p.tables e below (T20.setTop (mkF m 54 #[.val (.int p0), .val (.int p1), .val (.int p2), .val (.ref b), .val (.int vi), .unset, .unset, .unset] [(.int (Own.gi [(1000 : Int32), (1004 : Int32), (1007 : Int32), (1015 : Int32), (3000 : Int32), (5000 : Int32)] vi))])) _
      refine XS.iloadN X20.here hx rfl (hb hby at_54) rfl ?_
      show Steps p.tables e below (T20.setTop (mkF m 55 #[.val (.int p0), .val (.int p1), .val (.int p2), .val (.ref b), .val (.int vi), .unset, .unset, .unset] [(.int p2), (.int (Own.gi [(1000 : Int32), (1004 : Int32), (1007 : Int32), (1015 : Int32), (3000 : Int32), (5000 : Int32)] vi))])) _
      refine XS.bipush X20.here hx rfl (hb hby at_55) ?_
      show Steps p.tables e below (T20.setTop (mkF m 57 #[.val (.int p0), .val (.int p1), .val (.int p2), .val (.ref b), .val (.int vi), .unset, .unset, .unset] [(.int (7 : Int32)), (.int p2), (.int (Own.gi [(1000 : Int32), (1004 : Int32), (1007 : Int32), (1015 : Int32), (3000 : Int32), (5000 : Int32)] vi))])) _
      refine XS.iand X20.here hx rfl (hb hby at_57) rfl ?_
      show Steps p.tables e below (T20.setTop (mkF m 58 #[.val (.int p0), .val (.int p1), .val (.int p2), .val (.ref b), .val (.int vi), .unset, .unset, .unset] [(.int (p2 &&& (7 : Int32))), (.int (Own.gi [(1000 : Int32), (1004 : Int32), (1007 : Int32), (1015 : Int32), (3000 : Int32), (5000 : Int32)] vi))])) _
      refine XS.iconst X20.here hx rfl (hb hby at_58) ?_
      show Steps p.tables e below (T20.setTop (mkF m 59 #[.val (.int p0), .val (.int p1), .val (.int p2), .val (.ref b), .val (.int vi), .unset, .unset, .unset] [(.int (4 : Int32)), (.int (p2 &&& (7 : Int32))), (.int (Own.gi [(1000 : Int32), (1004 : Int32), (1007 : Int32), (1015 : Int32), (3000 : Int32), (5000 : Int32)] vi))])) _
      refine XS.isub X20.here hx rfl (hb hby at_59) rfl ?_
      show Steps p.tables e below (T20.setTop (mkF m 60 #[.val (.int p0), .val (.int p1), .val (.int p2), .val (.ref b), .val (.int vi), .unset, .unset, .unset] [(.int ((p2 &&& (7 : Int32)) - (4 : Int32))), (.int (Own.gi [(1000 : Int32), (1004 : Int32), (1007 : Int32), (1015 : Int32), (3000 : Int32), (5000 : Int32)] vi))])) _
      refine XS.iadd X20.here hx rfl (hb hby at_60) rfl ?_
      show Steps p.tables e below (T20.setTop (mkF m 61 #[.val (.int p0), .val (.int p1), .val (.int p2), .val (.ref b), .val (.int vi), .unset, .unset, .unset] [(.int ((Own.gi [(1000 : Int32), (1004 : Int32), (1007 : Int32), (1015 : Int32), (3000 : Int32), (5000 : Int32)] vi) + ((p2 &&& (7 : Int32)) - (4 : Int32))))])) _
      refine XS.istore X20.here hx rfl (hb hby at_61) rfl (l' := #[.val (.int p0), .val (.int p1), .val (.int p2), .val (.ref b), .val (.int vi), .val (.int ((Own.gi [(1000 : Int32), (1004 : Int32), (1007 : Int32), (1015 : Int32), (3000 : Int32), (5000 : Int32)] vi) + ((p2 &&& (7 : Int32)) - (4 : Int32)))), .unset, .unset]) rfl ?_
      show Steps p.tables e below (T20.setTop (mkF m 63 #[.val (.int p0), .val (.int p1), .val (.int p2), .val (.ref b), .val (.int vi), .val (.int ((Own.gi [(1000 : Int32), (1004 : Int32), (1007 : Int32), (1015 : Int32), (3000 : Int32), (5000 : Int32)] vi) + ((p2 &&& (7 : Int32)) - (4 : Int32)))), .unset, .unset] [])) _
      exact Steps.refl _)
  obtain ⟨vn, hvn⟩ : ∃ v : Int32, v = ((Own.gi [(1000 : Int32), (1004 : Int32), (1007 : Int32), (1015 : Int32), (3000 : Int32), (5000 : Int32)] vi) + ((p2 &&& (7 : Int32)) - (4 : Int32))) := ⟨_, rfl⟩
  rw [← hvn] at q23
  have q24 : Steps p.tables e below (s₁.setTop (entryFrame m #[(.int p0), (.int p1), (.int p2)] maxLocals)) (T20.setTop (mkF m 64 #[.val (.int p0), .val (.int p1), .val (.int p2), .val (.ref b), .val (.int vi), .val (.int vn), .unset, .unset] [(.int p0)])) := q23.trans (by
      show Steps p.tables e below (T20.setTop (mkF m 63 #[.val (.int p0), .val (.int p1), .val (.int p2), .val (.ref b), .val (.int vi), .val (.int vn), .unset, .unset] [])) _
      refine XS.iloadN X20.here hx rfl (hb hby at_63) rfl ?_
      show Steps p.tables e below (T20.setTop (mkF m 64 #[.val (.int p0), .val (.int p1), .val (.int p2), .val (.ref b), .val (.int vi), .val (.int vn), .unset, .unset] [(.int p0)])) _
      exact Steps.refl _)
  obtain ⟨_, _, ⟨T25, L25, k25, n25⟩, -, X25, ⟨Lc25, hQ25, l25, y25, z25⟩, st25⟩ := Jvm.LawKit.callS X20 hx (y := (⟨"com/example/lettr/lettr/transport/CloseStatus", "isSendable", "(I)Z"⟩ : MethodName)) hown (mvT hZ (hw _ (List.mem_of_getElem? (i := 2) rfl))) (mvT hZ (hw _ (List.mem_of_getElem? (i := 3) rfl))) (mvT hZ (hw _ (List.mem_of_getElem? (i := 4) rfl))) (mvT hZ (hw _ (List.mem_of_getElem? (i := 5) rfl))) (by decide) (backOf (W := 0) (rm1 l Z a0 hw [] p0 h20 n0 Z20) hZ (hw _ (List.mem_of_getElem? (i := 5) rfl)) (hw _ (List.mem_of_getElem? (i := 4) rfl)) (by decide) (by decide)) (g := (mkF m 64 #[.val (.int p0), .val (.int p1), .val (.int p2), .val (.ref b), .val (.int vi), .val (.int vn), .unset, .unset] [(.int p0)])) rfl (by rw [hml]; rfl) (argsL := [(.int p0)]) (rest := []) (lenOf pd_0 rfl) rfl (by show 2 * 0 + _ ≤ _; exact Nat.le_of_eq rfl) (hb hby at_64) (fun _ _ => ⟨rfl, e20, (by decide : 1 + 0 ≤ _), (by decide : 6 + 0 ≤ _)⟩)
  dsimp only [Pt.U, Pt.locs, Pt.cells, Pt.slots] at X25 l25 y25 z25 st25 hQ25
  subst l25 y25 z25
  obtain ⟨rfl, N25q, e25⟩ := hQ25
  have N25 := Fr.app N20 N25q
  have q26 : Steps p.tables e below (s₁.setTop (entryFrame m #[(.int p0), (.int p1), (.int p2)] maxLocals)) (T25.setTop (mkF m 67 #[.val (.int p0), .val (.int p1), .val (.int p2), .val (.ref b), .val (.int vi), .val (.int vn), .unset, .unset] [(.int (F1 p0))])) := q24.trans (st25 _ (Steps.refl _))
  have q27 : Steps p.tables e below (s₁.setTop (entryFrame m #[(.int p0), (.int p1), (.int p2)] maxLocals)) (T25.setTop (mkF m 68 #[.val (.int p0), .val (.int p1), .val (.int p2), .val (.ref b), .val (.int vi), .val (.int vn), .unset, .unset] [(.int p0), (.int (F1 p0))])) := q26.trans (by
      show Steps p.tables e below (T25.setTop (mkF m 67 #[.val (.int p0), .val (.int p1), .val (.int p2), .val (.ref b), .val (.int vi), .val (.int vn), .unset, .unset] [(.int (F1 p0))])) _
      refine XS.iloadN X25.here hx rfl (hb hby at_67) rfl ?_
      show Steps p.tables e below (T25.setTop (mkF m 68 #[.val (.int p0), .val (.int p1), .val (.int p2), .val (.ref b), .val (.int vi), .val (.int vn), .unset, .unset] [(.int p0), (.int (F1 p0))])) _
      exact Steps.refl _)
  obtain ⟨_, _, ⟨T28, L28, k28, n28⟩, -, X28, ⟨Lc28, hQ28, l28, y28, z28⟩, st28⟩ := Jvm.LawKit.callS X25 hx (y := (⟨"com/example/lettr/lettr/transport/CloseStatusIsSendablePinLaw", "forbidden", "(I)Z"⟩ : MethodName)) hown (mvT hZ (hw _ (List.mem_of_getElem? (i := 6) rfl))) (mvT hZ (hw _ (List.mem_of_getElem? (i := 7) rfl))) (mvT hZ (hw _ (List.mem_of_getElem? (i := 8) rfl))) (mvT hZ (hw _ (List.mem_of_getElem? (i := 9) rfl))) (by decide) (backOf (W := 1) (rm2 l Z a0 hw [] p0 h20 n0 Z20) hZ (hw _ (List.mem_of_getElem? (i := 9) rfl)) (hw _ (List.mem_of_getElem? (i := 8) rfl)) (by decide) (by decide)) (g := (mkF m 68 #[.val (.int p0), .val (.int p1), .val (.int p2), .val (.ref b), .val (.int vi), .val (.int vn), .unset, .unset] [(.int p0), (.int (F1 p0))])) rfl (by rw [hml]; rfl) (argsL := [(.int p0)]) (rest := [(.int (F1 p0))]) (lenOf pd_0 rfl) rfl (by show 2 * 0 + _ ≤ _; exact Nat.le_of_eq rfl) (hb hby at_68) (fun _ _ => ⟨rfl, e25, (by decide : 1 + 0 ≤ _), (by decide : 6 + 0 ≤ _)⟩)
  dsimp only [Pt.U, Pt.locs, Pt.cells, Pt.slots] at X28 l28 y28 z28 st28 hQ28
  subst l28 y28 z28
  obtain ⟨rfl, N28q, e28⟩ := hQ28
  have N28 := Fr.app N25 N28q
  have q29 : Steps p.tables e below (s₁.setTop (entryFrame m #[(.int p0), (.int p1), (.int p2)] maxLocals)) (T28.setTop (mkF m 71 #[.val (.int p0), .val (.int p1), .val (.int p2), .val (.ref b), .val (.int vi), .val (.int vn), .unset, .unset] [(.int (F2 p0)), (.int (F1 p0))])) := q27.trans (st28 _ (Steps.refl _))
  obtain ⟨v31, hv31⟩ : ∃ v : Int32, v = (if (F2 p0) = (0 : Int32) then (1 : Int32) else (0 : Int32)) := ⟨_, rfl⟩
  have q32 : Steps p.tables e below (s₁.setTop (entryFrame m #[(.int p0), (.int p1), (.int p2)] maxLocals)) (T28.setTop (mkF m 79 #[.val (.int p0), .val (.int p1), .val (.int p2), .val (.ref b), .val (.int vi), .val (.int vn), .unset, .unset] [(.int v31), (.int (F1 p0))])) := by
    refine q29.trans ?_
    show Steps p.tables e below (T28.setTop (mkF m 71 #[.val (.int p0), .val (.int p1), .val (.int p2), .val (.ref b), .val (.int vi), .val (.int vn), .unset, .unset] [(.int (F2 p0)), (.int (F1 p0))])) _
    by_cases hc30 : (F2 p0) = (0 : Int32)
    · rw [if_pos hc30] at hv31
      refine XS.ifNo X28.here hx rfl (hb hby at_71) rfl ((if0 _ _).trans (teq hc30).2) ?_
      show Steps p.tables e below (T28.setTop (mkF m 74 #[.val (.int p0), .val (.int p1), .val (.int p2), .val (.ref b), .val (.int vi), .val (.int vn), .unset, .unset] [(.int (F1 p0))])) _
      refine XS.iconst X28.here hx rfl (hb hby at_74) ?_
      show Steps p.tables e below (T28.setTop (mkF m 75 #[.val (.int p0), .val (.int p1), .val (.int p2), .val (.ref b), .val (.int vi), .val (.int vn), .unset, .unset] [(.int (1 : Int32)), (.int (F1 p0))])) _
      refine XS.goto X28.here hx rfl (pc0 := 75) (pc' := 79) rfl (hb hby at_75) (by decide) (by decide) ?_
      show Steps p.tables e below (T28.setTop (mkF m 79 #[.val (.int p0), .val (.int p1), .val (.int p2), .val (.ref b), .val (.int vi), .val (.int vn), .unset, .unset] [(.int (1 : Int32)), (.int (F1 p0))])) _
      rw [hv31]
      exact Steps.refl _
    · rw [if_neg hc30] at hv31
      refine XS.ifYes X28.here hx rfl (pc0 := 71) (pc' := 78) rfl (hb hby at_71) rfl ((if0 _ _).trans (feq hc30).2) (by decide) (by decide) ?_
      show Steps p.tables e below (T28.setTop (mkF m 78 #[.val (.int p0), .val (.int p1), .val (.int p2), .val (.ref b), .val (.int vi), .val (.int vn), .unset, .unset] [(.int (F1 p0))])) _
      refine XS.iconst X28.here hx rfl (hb hby at_78) ?_
      show Steps p.tables e below (T28.setTop (mkF m 79 #[.val (.int p0), .val (.int p1), .val (.int p2), .val (.ref b), .val (.int vi), .val (.int vn), .unset, .unset] [(.int (0 : Int32)), (.int (F1 p0))])) _
      rw [hv31]
      exact Steps.refl _
  obtain ⟨v34, hv34⟩ : ∃ v : Int32, v = (if (F1 p0) = v31 then (1 : Int32) else (0 : Int32)) := ⟨_, rfl⟩
  have q35 : Steps p.tables e below (s₁.setTop (entryFrame m #[(.int p0), (.int p1), (.int p2)] maxLocals)) (T28.setTop (mkF m 87 #[.val (.int p0), .val (.int p1), .val (.int p2), .val (.ref b), .val (.int vi), .val (.int vn), .unset, .unset] [(.int v34)])) := by
    refine q32.trans ?_
    show Steps p.tables e below (T28.setTop (mkF m 79 #[.val (.int p0), .val (.int p1), .val (.int p2), .val (.ref b), .val (.int vi), .val (.int vn), .unset, .unset] [(.int v31), (.int (F1 p0))])) _
    by_cases hc33 : (F1 p0) = v31
    · rw [if_pos hc33] at hv34
      refine XS.icmpNo X28.here hx rfl (hb hby at_79) rfl (teq hc33).2 ?_
      show Steps p.tables e below (T28.setTop (mkF m 82 #[.val (.int p0), .val (.int p1), .val (.int p2), .val (.ref b), .val (.int vi), .val (.int vn), .unset, .unset] [])) _
      refine XS.iconst X28.here hx rfl (hb hby at_82) ?_
      show Steps p.tables e below (T28.setTop (mkF m 83 #[.val (.int p0), .val (.int p1), .val (.int p2), .val (.ref b), .val (.int vi), .val (.int vn), .unset, .unset] [(.int (1 : Int32))])) _
      refine XS.goto X28.here hx rfl (pc0 := 83) (pc' := 87) rfl (hb hby at_83) (by decide) (by decide) ?_
      show Steps p.tables e below (T28.setTop (mkF m 87 #[.val (.int p0), .val (.int p1), .val (.int p2), .val (.ref b), .val (.int vi), .val (.int vn), .unset, .unset] [(.int (1 : Int32))])) _
      rw [hv34]
      exact Steps.refl _
    · rw [if_neg hc33] at hv34
      refine XS.icmpYes X28.here hx rfl (pc0 := 79) (pc' := 86) rfl (hb hby at_79) rfl (feq hc33).2 (by decide) (by decide) ?_
      show Steps p.tables e below (T28.setTop (mkF m 86 #[.val (.int p0), .val (.int p1), .val (.int p2), .val (.ref b), .val (.int vi), .val (.int vn), .unset, .unset] [])) _
      refine XS.iconst X28.here hx rfl (hb hby at_86) ?_
      show Steps p.tables e below (T28.setTop (mkF m 87 #[.val (.int p0), .val (.int p1), .val (.int p2), .val (.ref b), .val (.int vi), .val (.int vn), .unset, .unset] [(.int (0 : Int32))])) _
      rw [hv34]
      exact Steps.refl _
  have q36 : Steps p.tables e below (s₁.setTop (entryFrame m #[(.int p0), (.int p1), (.int p2)] maxLocals)) (T28.setTop (mkF m 91 #[.val (.int p0), .val (.int p1), .val (.int p2), .val (.ref b), .val (.int vi), .val (.int vn), .val (.int v34), .unset] [(.int vn)])) := q35.trans (by
      show Steps p.tables e below (T28.setTop (mkF m 87 #[.val (.int p0), .val (.int p1), .val (.int p2), .val (.ref b), .val (.int vi), .val (.int vn), .unset, .unset] [(.int v34)])) _
      refine XS.istore X28.here hx rfl (hb hby at_87) rfl (l' := #[.val (.int p0), .val (.int p1), .val (.int p2), .val (.ref b), .val (.int vi), .val (.int vn), .val (.int v34), .unset]) rfl ?_
      show Steps p.tables e below (T28.setTop (mkF m 89 #[.val (.int p0), .val (.int p1), .val (.int p2), .val (.ref b), .val (.int vi), .val (.int vn), .val (.int v34), .unset] [])) _
      refine XS.iload X28.here hx rfl (hb hby at_89) rfl ?_
      show Steps p.tables e below (T28.setTop (mkF m 91 #[.val (.int p0), .val (.int p1), .val (.int p2), .val (.ref b), .val (.int vi), .val (.int vn), .val (.int v34), .unset] [(.int vn)])) _
      exact Steps.refl _)
  obtain ⟨_, _, ⟨T37, L37, k37, n37⟩, -, X37, ⟨Lc37, hQ37, l37, y37, z37⟩, st37⟩ := Jvm.LawKit.callS X28 hx (y := (⟨"com/example/lettr/lettr/transport/CloseStatus", "isSendable", "(I)Z"⟩ : MethodName)) hown (mvT hZ (hw _ (List.mem_of_getElem? (i := 2) rfl))) (mvT hZ (hw _ (List.mem_of_getElem? (i := 3) rfl))) (mvT hZ (hw _ (List.mem_of_getElem? (i := 4) rfl))) (mvT hZ (hw _ (List.mem_of_getElem? (i := 5) rfl))) (by decide) (backOf (W := 0) (rm1 l Z a0 hw [] vn h20 n0 Z20) hZ (hw _ (List.mem_of_getElem? (i := 5) rfl)) (hw _ (List.mem_of_getElem? (i := 4) rfl)) (by decide) (by decide)) (g := (mkF m 91 #[.val (.int p0), .val (.int p1), .val (.int p2), .val (.ref b), .val (.int vi), .val (.int vn), .val (.int v34), .unset] [(.int vn)])) rfl (by rw [hml]; rfl) (argsL := [(.int vn)]) (rest := []) (lenOf pd_0 rfl) rfl (by show 2 * 0 + _ ≤ _; exact Nat.le_of_eq rfl) (hb hby at_91) (fun _ _ => ⟨rfl, e28, (by decide : 1 + 0 ≤ _), (by decide : 6 + 0 ≤ _)⟩)
  dsimp only [Pt.U, Pt.locs, Pt.cells, Pt.slots] at X37 l37 y37 z37 st37 hQ37
  subst l37 y37 z37
  obtain ⟨rfl, N37q, e37⟩ := hQ37
  have N37 := Fr.app N28 N37q
  have q38 : Steps p.tables e below (s₁.setTop (entryFrame m #[(.int p0), (.int p1), (.int p2)] maxLocals)) (T37.setTop (mkF m 94 #[.val (.int p0), .val (.int p1), .val (.int p2), .val (.ref b), .val (.int vi), .val (.int vn), .val (.int v34), .unset] [(.int (F1 vn))])) := q36.trans (st37 _ (Steps.refl _))
  have q39 : Steps p.tables e below (s₁.setTop (entryFrame m #[(.int p0), (.int p1), (.int p2)] maxLocals)) (T37.setTop (mkF m 96 #[.val (.int p0), .val (.int p1), .val (.int p2), .val (.ref b), .val (.int vi), .val (.int vn), .val (.int v34), .unset] [(.int vn), (.int (F1 vn))])) := q38.trans (by
      show Steps p.tables e below (T37.setTop (mkF m 94 #[.val (.int p0), .val (.int p1), .val (.int p2), .val (.ref b), .val (.int vi), .val (.int vn), .val (.int v34), .unset] [(.int (F1 vn))])) _
      refine XS.iload X37.here hx rfl (hb hby at_94) rfl ?_
      show Steps p.tables e below (T37.setTop (mkF m 96 #[.val (.int p0), .val (.int p1), .val (.int p2), .val (.ref b), .val (.int vi), .val (.int vn), .val (.int v34), .unset] [(.int vn), (.int (F1 vn))])) _
      exact Steps.refl _)
  obtain ⟨_, _, ⟨T40, L40, k40, n40⟩, -, X40, ⟨Lc40, hQ40, l40, y40, z40⟩, st40⟩ := Jvm.LawKit.callS X37 hx (y := (⟨"com/example/lettr/lettr/transport/CloseStatusIsSendablePinLaw", "forbidden", "(I)Z"⟩ : MethodName)) hown (mvT hZ (hw _ (List.mem_of_getElem? (i := 6) rfl))) (mvT hZ (hw _ (List.mem_of_getElem? (i := 7) rfl))) (mvT hZ (hw _ (List.mem_of_getElem? (i := 8) rfl))) (mvT hZ (hw _ (List.mem_of_getElem? (i := 9) rfl))) (by decide) (backOf (W := 1) (rm2 l Z a0 hw [] vn h20 n0 Z20) hZ (hw _ (List.mem_of_getElem? (i := 9) rfl)) (hw _ (List.mem_of_getElem? (i := 8) rfl)) (by decide) (by decide)) (g := (mkF m 96 #[.val (.int p0), .val (.int p1), .val (.int p2), .val (.ref b), .val (.int vi), .val (.int vn), .val (.int v34), .unset] [(.int vn), (.int (F1 vn))])) rfl (by rw [hml]; rfl) (argsL := [(.int vn)]) (rest := [(.int (F1 vn))]) (lenOf pd_0 rfl) rfl (by show 2 * 0 + _ ≤ _; exact Nat.le_of_eq rfl) (hb hby at_96) (fun _ _ => ⟨rfl, e37, (by decide : 1 + 0 ≤ _), (by decide : 6 + 0 ≤ _)⟩)
  dsimp only [Pt.U, Pt.locs, Pt.cells, Pt.slots] at X40 l40 y40 z40 st40 hQ40
  subst l40 y40 z40
  obtain ⟨rfl, N40q, e40⟩ := hQ40
  have N40 := Fr.app N37 N40q
  have q41 : Steps p.tables e below (s₁.setTop (entryFrame m #[(.int p0), (.int p1), (.int p2)] maxLocals)) (T40.setTop (mkF m 99 #[.val (.int p0), .val (.int p1), .val (.int p2), .val (.ref b), .val (.int vi), .val (.int vn), .val (.int v34), .unset] [(.int (F2 vn)), (.int (F1 vn))])) := q39.trans (st40 _ (Steps.refl _))
  obtain ⟨v43, hv43⟩ : ∃ v : Int32, v = (if (F2 vn) = (0 : Int32) then (1 : Int32) else (0 : Int32)) := ⟨_, rfl⟩
  have q44 : Steps p.tables e below (s₁.setTop (entryFrame m #[(.int p0), (.int p1), (.int p2)] maxLocals)) (T40.setTop (mkF m 107 #[.val (.int p0), .val (.int p1), .val (.int p2), .val (.ref b), .val (.int vi), .val (.int vn), .val (.int v34), .unset] [(.int v43), (.int (F1 vn))])) := by
    refine q41.trans ?_
    show Steps p.tables e below (T40.setTop (mkF m 99 #[.val (.int p0), .val (.int p1), .val (.int p2), .val (.ref b), .val (.int vi), .val (.int vn), .val (.int v34), .unset] [(.int (F2 vn)), (.int (F1 vn))])) _
    by_cases hc42 : (F2 vn) = (0 : Int32)
    · rw [if_pos hc42] at hv43
      refine XS.ifNo X40.here hx rfl (hb hby at_99) rfl ((if0 _ _).trans (teq hc42).2) ?_
      show Steps p.tables e below (T40.setTop (mkF m 102 #[.val (.int p0), .val (.int p1), .val (.int p2), .val (.ref b), .val (.int vi), .val (.int vn), .val (.int v34), .unset] [(.int (F1 vn))])) _
      refine XS.iconst X40.here hx rfl (hb hby at_102) ?_
      show Steps p.tables e below (T40.setTop (mkF m 103 #[.val (.int p0), .val (.int p1), .val (.int p2), .val (.ref b), .val (.int vi), .val (.int vn), .val (.int v34), .unset] [(.int (1 : Int32)), (.int (F1 vn))])) _
      refine XS.goto X40.here hx rfl (pc0 := 103) (pc' := 107) rfl (hb hby at_103) (by decide) (by decide) ?_
      show Steps p.tables e below (T40.setTop (mkF m 107 #[.val (.int p0), .val (.int p1), .val (.int p2), .val (.ref b), .val (.int vi), .val (.int vn), .val (.int v34), .unset] [(.int (1 : Int32)), (.int (F1 vn))])) _
      rw [hv43]
      exact Steps.refl _
    · rw [if_neg hc42] at hv43
      refine XS.ifYes X40.here hx rfl (pc0 := 99) (pc' := 106) rfl (hb hby at_99) rfl ((if0 _ _).trans (feq hc42).2) (by decide) (by decide) ?_
      show Steps p.tables e below (T40.setTop (mkF m 106 #[.val (.int p0), .val (.int p1), .val (.int p2), .val (.ref b), .val (.int vi), .val (.int vn), .val (.int v34), .unset] [(.int (F1 vn))])) _
      refine XS.iconst X40.here hx rfl (hb hby at_106) ?_
      show Steps p.tables e below (T40.setTop (mkF m 107 #[.val (.int p0), .val (.int p1), .val (.int p2), .val (.ref b), .val (.int vi), .val (.int vn), .val (.int v34), .unset] [(.int (0 : Int32)), (.int (F1 vn))])) _
      rw [hv43]
      exact Steps.refl _
  obtain ⟨v46, hv46⟩ : ∃ v : Int32, v = (if (F1 vn) = v43 then (1 : Int32) else (0 : Int32)) := ⟨_, rfl⟩
  have q47 : Steps p.tables e below (s₁.setTop (entryFrame m #[(.int p0), (.int p1), (.int p2)] maxLocals)) (T40.setTop (mkF m 115 #[.val (.int p0), .val (.int p1), .val (.int p2), .val (.ref b), .val (.int vi), .val (.int vn), .val (.int v34), .unset] [(.int v46)])) := by
    refine q44.trans ?_
    show Steps p.tables e below (T40.setTop (mkF m 107 #[.val (.int p0), .val (.int p1), .val (.int p2), .val (.ref b), .val (.int vi), .val (.int vn), .val (.int v34), .unset] [(.int v43), (.int (F1 vn))])) _
    by_cases hc45 : (F1 vn) = v43
    · rw [if_pos hc45] at hv46
      refine XS.icmpNo X40.here hx rfl (hb hby at_107) rfl (teq hc45).2 ?_
      show Steps p.tables e below (T40.setTop (mkF m 110 #[.val (.int p0), .val (.int p1), .val (.int p2), .val (.ref b), .val (.int vi), .val (.int vn), .val (.int v34), .unset] [])) _
      refine XS.iconst X40.here hx rfl (hb hby at_110) ?_
      show Steps p.tables e below (T40.setTop (mkF m 111 #[.val (.int p0), .val (.int p1), .val (.int p2), .val (.ref b), .val (.int vi), .val (.int vn), .val (.int v34), .unset] [(.int (1 : Int32))])) _
      refine XS.goto X40.here hx rfl (pc0 := 111) (pc' := 115) rfl (hb hby at_111) (by decide) (by decide) ?_
      show Steps p.tables e below (T40.setTop (mkF m 115 #[.val (.int p0), .val (.int p1), .val (.int p2), .val (.ref b), .val (.int vi), .val (.int vn), .val (.int v34), .unset] [(.int (1 : Int32))])) _
      rw [hv46]
      exact Steps.refl _
    · rw [if_neg hc45] at hv46
      refine XS.icmpYes X40.here hx rfl (pc0 := 107) (pc' := 114) rfl (hb hby at_107) rfl (feq hc45).2 (by decide) (by decide) ?_
      show Steps p.tables e below (T40.setTop (mkF m 114 #[.val (.int p0), .val (.int p1), .val (.int p2), .val (.ref b), .val (.int vi), .val (.int vn), .val (.int v34), .unset] [])) _
      refine XS.iconst X40.here hx rfl (hb hby at_114) ?_
      show Steps p.tables e below (T40.setTop (mkF m 115 #[.val (.int p0), .val (.int p1), .val (.int p2), .val (.ref b), .val (.int vi), .val (.int vn), .val (.int v34), .unset] [(.int (0 : Int32))])) _
      rw [hv46]
      exact Steps.refl _
  have q48 : Steps p.tables e below (s₁.setTop (entryFrame m #[(.int p0), (.int p1), (.int p2)] maxLocals)) (T40.setTop (mkF m 117 #[.val (.int p0), .val (.int p1), .val (.int p2), .val (.ref b), .val (.int vi), .val (.int vn), .val (.int v34), .val (.int v46)] [])) := q47.trans (by
      show Steps p.tables e below (T40.setTop (mkF m 115 #[.val (.int p0), .val (.int p1), .val (.int p2), .val (.ref b), .val (.int vi), .val (.int vn), .val (.int v34), .unset] [(.int v46)])) _
      refine XS.istore X40.here hx rfl (hb hby at_115) rfl (l' := #[.val (.int p0), .val (.int p1), .val (.int p2), .val (.ref b), .val (.int vi), .val (.int vn), .val (.int v34), .val (.int v46)]) rfl ?_
      show Steps p.tables e below (T40.setTop (mkF m 117 #[.val (.int p0), .val (.int p1), .val (.int p2), .val (.ref b), .val (.int vi), .val (.int vn), .val (.int v34), .val (.int v46)] [])) _
      exact Steps.refl _)
  have q49 : Steps p.tables e below (s₁.setTop (entryFrame m #[(.int p0), (.int p1), (.int p2)] maxLocals)) (T40.setTop (mkF m 119 #[.val (.int p0), .val (.int p1), .val (.int p2), .val (.ref b), .val (.int vi), .val (.int vn), .val (.int v34), .val (.int v46)] [(.int v34)])) := q48.trans (by
      show Steps p.tables e below (T40.setTop (mkF m 117 #[.val (.int p0), .val (.int p1), .val (.int p2), .val (.ref b), .val (.int vi), .val (.int vn), .val (.int v34), .val (.int v46)] [])) _
      refine XS.iload X40.here hx rfl (hb hby at_117) rfl ?_
      show Steps p.tables e below (T40.setTop (mkF m 119 #[.val (.int p0), .val (.int p1), .val (.int p2), .val (.ref b), .val (.int vi), .val (.int vn), .val (.int v34), .val (.int v46)] [(.int v34)])) _
      exact Steps.refl _)
  obtain ⟨zr, hzr⟩ : ∃ v : Int32, v = (if v34 = (0 : Int32) then (0 : Int32) else (if v46 = (0 : Int32) then (0 : Int32) else (1 : Int32))) := ⟨_, rfl⟩
  have hz1 : zr = 1 := plain0 p0 p1 p2 vi vn v31 v34 v43 v46 zr hvi hvn hv31 hv34 hv43 hv46 hzr
  obtain ⟨fs, hr, hrun, hended, hW, hsame⟩ := X40.leave (v := some (.int (1 : Int32))) (fun h => by rw [Bd.returns] at h; cases h)
  refine ⟨_, _, q49.trans ?_, hrun, hended, _, _, rfl, ?_, ⟨_, rfl⟩, hW, hsame.mono (by decide) (by decide)⟩
  · show Steps p.tables e below (T40.setTop (mkF m 119 #[.val (.int p0), .val (.int p1), .val (.int p2), .val (.ref b), .val (.int vi), .val (.int vn), .val (.int v34), .val (.int v46)] [(.int v34)])) _
    by_cases hc50 : v34 = (0 : Int32)
    · rw [if_pos hc50] at hzr
      refine XS.ifYes X40.here hx rfl (pc0 := 119) (pc' := 131) rfl (hb hby at_119) rfl ((if0 _ _).trans (teq hc50).1) (by decide) (by decide) ?_
      show Steps p.tables e below (T40.setTop (mkF m 131 #[.val (.int p0), .val (.int p1), .val (.int p2), .val (.ref b), .val (.int vi), .val (.int vn), .val (.int v34), .val (.int v46)] [])) _
      refine XS.iconst X40.here hx rfl (hb hby at_131) ?_
      show Steps p.tables e below (T40.setTop (mkF m 132 #[.val (.int p0), .val (.int p1), .val (.int p2), .val (.ref b), .val (.int vi), .val (.int vn), .val (.int v34), .val (.int v46)] [(.int (0 : Int32))])) _
      exact absurd (hzr.symm.trans hz1) (by decide)
    · rw [if_neg hc50] at hzr
      refine XS.ifNo X40.here hx rfl (hb hby at_119) rfl ((if0 _ _).trans (feq hc50).1) ?_
      show Steps p.tables e below (T40.setTop (mkF m 122 #[.val (.int p0), .val (.int p1), .val (.int p2), .val (.ref b), .val (.int vi), .val (.int vn), .val (.int v34), .val (.int v46)] [])) _
      refine XS.iload X40.here hx rfl (hb hby at_122) rfl ?_
      show Steps p.tables e below (T40.setTop (mkF m 124 #[.val (.int p0), .val (.int p1), .val (.int p2), .val (.ref b), .val (.int vi), .val (.int vn), .val (.int v34), .val (.int v46)] [(.int v46)])) _
      by_cases hc51 : v46 = (0 : Int32)
      · rw [if_pos hc51] at hzr
        refine XS.ifYes X40.here hx rfl (pc0 := 124) (pc' := 131) rfl (hb hby at_124) rfl ((if0 _ _).trans (teq hc51).1) (by decide) (by decide) ?_
        show Steps p.tables e below (T40.setTop (mkF m 131 #[.val (.int p0), .val (.int p1), .val (.int p2), .val (.ref b), .val (.int vi), .val (.int vn), .val (.int v34), .val (.int v46)] [])) _
        refine XS.iconst X40.here hx rfl (hb hby at_131) ?_
        show Steps p.tables e below (T40.setTop (mkF m 132 #[.val (.int p0), .val (.int p1), .val (.int p2), .val (.ref b), .val (.int vi), .val (.int vn), .val (.int v34), .val (.int v46)] [(.int (0 : Int32))])) _
        exact absurd (hzr.symm.trans hz1) (by decide)
      · rw [if_neg hc51] at hzr
        refine XS.ifNo X40.here hx rfl (hb hby at_124) rfl ((if0 _ _).trans (feq hc51).1) ?_
        show Steps p.tables e below (T40.setTop (mkF m 127 #[.val (.int p0), .val (.int p1), .val (.int p2), .val (.ref b), .val (.int vi), .val (.int vn), .val (.int v34), .val (.int v46)] [])) _
        refine XS.iconst X40.here hx rfl (hb hby at_127) ?_
        show Steps p.tables e below (T40.setTop (mkF m 128 #[.val (.int p0), .val (.int p1), .val (.int p2), .val (.ref b), .val (.int vi), .val (.int vn), .val (.int v34), .val (.int v46)] [(.int (1 : Int32))])) _
        refine XS.goto X40.here hx rfl (pc0 := 128) (pc' := 132) rfl (hb hby at_128) (by decide) (by decide) ?_
        show Steps p.tables e below (T40.setTop (mkF m 132 #[.val (.int p0), .val (.int p1), .val (.int p2), .val (.ref b), .val (.int vi), .val (.int vn), .val (.int v34), .val (.int v46)] [(.int (1 : Int32))])) _
        exact retN X40 hx (t := .boolean) Bd.returns (by simp) (hb hby at_132) hr
  · show Q_rm0 Z p0 p1 p2 h0 n0 _ T40.heap _
    rw [e40]
    exact ⟨rfl, N40⟩

set_option maxRecDepth 65536 in
set_option maxHeartbeats 40000000 in
theorem comes_1 {Post : Tables → Env → Array Value → State → Outcome → State → Prop} (hpost : ∀ tb e args s v u, (limb_1_1.after args s (.returned v) u = true ∧ limb_1_2.after args s (.returned v) u = true ∧ True) → FrameEnd s (.returned v) u (Jvm.fieldLocs frame_1_writes args s ++ Jvm.arrayLocs frame_1_arrays args s ++ Jvm.staticLocs frame_1_statics s) 16 128 → Post tb e args s (.returned v) u) :
    ArmFor flags0 classFile x code maxLocals ret World_1 tables_1 room_1 Calls_1 rest_1 Pre_1 Post := by
  intro l hfl _ _ p e ha hc hk s m args below hf hA hF happ hP
  obtain ⟨hcalls, hrest, hpre⟩ := hP
  obtain ⟨-, -, -, hnamed, -, -, -, hat⟩ := (Spec.applies_iff hf).mp happ
  obtain ⟨hg, hn⟩ := and_e (Cond.before_iff.mp (show (Jvm.Cond.and given_1 narrow_1).before args s = true from hpre))
  obtain ⟨hcount, hg0⟩ := and_e hg
  obtain ⟨ga0, hg1⟩ := and_e hg0
  obtain ⟨ga1, hg2⟩ := and_e hg1
  obtain ⟨w0, w1, w2, rfl⟩ : ∃ w0 w1 w2 : Value, args = #[w0, w1, w2] := by
    have hs : args.size = 3 := by simpa [Cond.value, given_1] using hcount
    obtain ⟨L⟩ := args
    match L, hs with
    | [w0, w1, w2], _ => exact ⟨w0, w1, w2, rfl⟩
  have hw := fun d (hd : d ∈ tables_1) => atoms_spec (ws := Jvm.Cond.code x code maxLocals ret :: tables_1) hat d (List.mem_cons_of_mem _ hd)
  have hfit : Fit s := fun {y c} hc i hi => by
    obtain ⟨ha, rfl⟩ := Array.getElem?_eq_some_iff.mp hc
    have q := List.all_eq_true.mp ((Array.all_eq_true_iff_forall_mem.mp hF) _ (Array.getElem_mem ha)) i (List.mem_range.mpr hi)
    simpa [Array.getElem?_eq_getElem hi] using q
  obtain ⟨i0, ei0⟩ := is_v ga0
  obtain rfl : w0 = (.int i0) := Option.some.inj ei0
  obtain ⟨i1, ei1⟩ := is_v ga1
  obtain rfl : w1 = (.int i1) := Option.some.inj ei1
  obtain ⟨i2, ei2⟩ := is_v hg2
  obtain rfl : w2 = (.int i2) := Option.some.inj ei2
  obtain ⟨n, o, h1, h2, h3, _, L, rfl, ⟨rfl, N⟩, hq⟩ := rm0 l s _ hw tables_1 i0 i1 i2 s.heap s.heap.size (Nat.le_refl _)  p e ha hc hk s m _ below hf ((Spec.applies_iff_loose hf).mp happ).1 ⟨rfl, State.Warmed39.refl s, rfl⟩ trivial
  refine ⟨n, _, h1, h2, h3, hpost _ _ _ _ _ _ ⟨Cond.after_iff.mpr rfl, Cond.after_iff.mpr (eq_i res_at (Term.int_eval (1)) rfl), trivial⟩ ⟨hq.1, hq.2.1, (hq.2.2.sift fun y hy => Or.inr (N y hy)).mono (by decide) (by decide)⟩⟩
theorem main_1_1 : Claimed_1_1 := comes_1 fun _ _ _ _ _ _ h hF => ⟨h.1, hF⟩
theorem main_1_2 : Claimed_1_2 := comes_1 fun _ _ _ _ _ _ h hF => ⟨h.2.1, hF⟩
end Jvm.Pilot.@@N@@
namespace Jvm.Pilot.@@N@@
open Jvm Jvm.ClassFile Sem Op Lib Jvm.Free Jvm.Stand Jvm.Pilot.@@N@@.Jvm.D
/-! MADE BY PROGRAM (witnessworld.py) out of the Statement's table words and the real class files: 9 classes; the members and pool entries that the words name. The judged class is class 1, her method 2. -/
namespace start1
open Jvm.ClassFile
def u (s : String) : CpInfo := .utf8 (stringToUtf16 s)
/-- a pool by its gaps: so many unusable entries, then the entry; so many at the end -/
def gap : Nat → List CpInfo → List CpInfo
  | 0, r => r
  | n + 1, r => .unusable :: gap n r
def poolList (es : List (Nat × CpInfo)) (last : Nat) : List CpInfo := es.foldr (fun e r => gap e.1 (e.2 :: r)) (gap last [])
def pool (es : List (Nat × CpInfo)) (last : Nat) : Array CpInfo := ⟨poolList es last⟩
def fileOf (pool : Array CpInfo) (this : Nat) (attrs : Array Attribute := #[]) (ms : Array MethodInfo := #[]) (fl : Nat := 33) (sup : Nat := 0) (ifs : Array Nat := #[]) (fds : Array FieldInfo := #[]) : ClassFile where
  minorVersion := 0
  majorVersion := 65
  constantPool := pool
  accessFlags := fl
  thisClass := this
  superClass := sup
  interfaces := ifs
  fields := fds
  methods := ms
  attributes := attrs
def plain (name : String) (sup : Option ClassId) : Class where
  name := name
  kind := .ordinary
  loader := none
  accessFlags := 33
  super := sup
  interfaces := #[]
  cf := none
  fields := #[]
  methods := #[]
  instanceTypes := #[]
  staticTypes := #[]
  resolved := #[]
  callSites := []
  init := .initialized
  statics := none
  mirror := none

def pool0 : Array CpInfo := pool [(5, u "<init>"), (0, u "()V"), (1, .class_ 10), (1, u "java/lang/Object")] 113

def k0m0 : Method := { name := "<init>", desc := "()V", sig := { parameters := [], returnType := none }, accessFlags := 1, code := none }
/-- java/lang/Object -/
def k0 : Class := { plain "java/lang/Object" none with
  accessFlags := 33
  interfaces := #[]
  cf := some (fileOf pool0 8 #[] #[{ accessFlags := 1, nameIndex := 5, descriptorIndex := 6, attributes := #[] }] 33 0 #[] #[])
  fields := #[]
  methods := #[k0m0]
  instanceTypes := #[]
  staticTypes := #[]
  resolved := Array.replicate 124 none
  statics := none }

def pool1 : Array CpInfo := pool [(2, .class_ 4), (1, u "java/lang/Object"), (0, u "<init>"), (0, u "()V"), (0, .integer 2147483647), (0, .methodref 9 10), (0, .class_ 11), (0, .nameAndType 12 13), (0, u "com/example/lettr/lettr/transport/CloseStatus"), (0, u "isSendable"), (0, u "(I)Z"), (0, .methodref 15 16), (0, .class_ 17), (0, .nameAndType 18 13), (0, u "com/example/lettr/lettr/transport/CloseStatusIsSendablePinLaw"), (0, u "forbidden"), (3, u "law"), (0, u "(III)Z")] 4

def k1m0 : Method := { name := "<init>", desc := "()V", sig := { parameters := [], returnType := none }, accessFlags := 1, code := none }
def k1c1 : Code := { maxStack := 2, maxLocals := 1, code := method_2_code, exceptionTable := #[], attributes := #[] }
def k1m1 : Method := { name := "forbidden", desc := "(I)Z", sig := { parameters := [.int], returnType := some .boolean }, accessFlags := 10, code := some k1c1 }
def k1c2 : Code := { maxStack := 4, maxLocals := 8, code := code, exceptionTable := #[], attributes := #[] }
def k1m2 : Method := { name := "law", desc := "(III)Z", sig := { parameters := [.int, .int, .int], returnType := some .boolean }, accessFlags := 9, code := some k1c2 }
/-- com/example/lettr/lettr/transport/CloseStatusIsSendablePinLaw -/
def k1 : Class := { plain "com/example/lettr/lettr/transport/CloseStatusIsSendablePinLaw" (some 0) with
  accessFlags := 49
  interfaces := #[]
  cf := some (fileOf pool1 15 #[] #[{ accessFlags := 1, nameIndex := 5, descriptorIndex := 6, attributes := #[] }, { accessFlags := 10, nameIndex := 18, descriptorIndex := 13, attributes := #[] }, { accessFlags := 9, nameIndex := 22, descriptorIndex := 23, attributes := #[] }] 49 2 #[] #[])
  fields := #[]
  methods := #[k1m0, k1m1, k1m2]
  instanceTypes := #[]
  staticTypes := #[]
  resolved := Array.replicate 28 none
  statics := none }

def pool2 : Array CpInfo := pool [(2, .class_ 4), (1, u "java/lang/Object"), (0, u "<init>"), (0, u "()V"), (0, .class_ 8), (0, u "com/example/lettr/lettr/transport/CloseStatus"), (0, u "NORMAL_CLOSURE"), (0, u "I"), (2, u "GOING_AWAY"), (1, u "PROTOCOL_ERROR"), (1, u "UNSUPPORTED_DATA"), (1, u "INVALID_PAYLOAD"), (1, u "POLICY_VIOLATION"), (1, u "MESSAGE_TOO_BIG"), (3, u "isSendable"), (0, u "(I)Z")] 3

def k2m0 : Method := { name := "<init>", desc := "()V", sig := { parameters := [], returnType := none }, accessFlags := 2, code := none }
def k2c1 : Code := { maxStack := 2, maxLocals := 1, code := prog_61_method_2_code, exceptionTable := #[], attributes := #[] }
def k2m1 : Method := { name := "isSendable", desc := "(I)Z", sig := { parameters := [.int], returnType := some .boolean }, accessFlags := 8, code := some k2c1 }
/-- com/example/lettr/lettr/transport/CloseStatus -/
def k2 : Class := { plain "com/example/lettr/lettr/transport/CloseStatus" (some 0) with
  accessFlags := 49
  interfaces := #[]
  cf := some (fileOf pool2 7 #[] #[{ accessFlags := 2, nameIndex := 5, descriptorIndex := 6, attributes := #[] }, { accessFlags := 8, nameIndex := 27, descriptorIndex := 28, attributes := #[] }] 49 2 #[] #[{ accessFlags := 25, nameIndex := 9, descriptorIndex := 10, attributes := #[] }, { accessFlags := 25, nameIndex := 13, descriptorIndex := 10, attributes := #[] }, { accessFlags := 25, nameIndex := 15, descriptorIndex := 10, attributes := #[] }, { accessFlags := 25, nameIndex := 17, descriptorIndex := 10, attributes := #[] }, { accessFlags := 25, nameIndex := 19, descriptorIndex := 10, attributes := #[] }, { accessFlags := 25, nameIndex := 21, descriptorIndex := 10, attributes := #[] }, { accessFlags := 25, nameIndex := 23, descriptorIndex := 10, attributes := #[] }])
  fields := #[{ name := "NORMAL_CLOSURE", type := .int, accessFlags := 25, slot := 0, constantValue := 0 }, { name := "GOING_AWAY", type := .int, accessFlags := 25, slot := 1, constantValue := 0 }, { name := "PROTOCOL_ERROR", type := .int, accessFlags := 25, slot := 2, constantValue := 0 }, { name := "UNSUPPORTED_DATA", type := .int, accessFlags := 25, slot := 3, constantValue := 0 }, { name := "INVALID_PAYLOAD", type := .int, accessFlags := 25, slot := 4, constantValue := 0 }, { name := "POLICY_VIOLATION", type := .int, accessFlags := 25, slot := 5, constantValue := 0 }, { name := "MESSAGE_TOO_BIG", type := .int, accessFlags := 25, slot := 6, constantValue := 0 }]
  methods := #[k2m0, k2m1]
  instanceTypes := #[]
  staticTypes := #[.int, .int, .int, .int, .int, .int, .int]
  resolved := Array.replicate 32 none
  statics := none }

def pool3 : Array CpInfo := pool [(1, u "java/lang/Cloneable"), (0, .class_ 1), (0, u "java/lang/Object"), (0, .class_ 3)] 3

/-- java/lang/Cloneable -/
def k3 : Class := { plain "java/lang/Cloneable" (some 0) with
  accessFlags := 1537
  interfaces := #[]
  cf := some (fileOf pool3 2 #[] #[] 1537 4 #[] #[])
  fields := #[]
  methods := #[]
  instanceTypes := #[]
  staticTypes := #[]
  resolved := Array.replicate 8 none
  statics := none }

def pool4 : Array CpInfo := pool [(1, u "java/io/Serializable"), (0, .class_ 1), (0, u "java/lang/Object"), (0, .class_ 3)] 3

/-- java/io/Serializable -/
def k4 : Class := { plain "java/io/Serializable" (some 0) with
  accessFlags := 1537
  interfaces := #[]
  cf := some (fileOf pool4 2 #[] #[] 1537 4 #[] #[])
  fields := #[]
  methods := #[]
  instanceTypes := #[]
  staticTypes := #[]
  resolved := Array.replicate 8 none
  statics := none }

/-- the primitive byte -/
def k5 : Class := { plain "byte" none with kind := .primitive 'B', accessFlags := 0x411 }
/-- [B -/
def k6 : Class := { plain "[B" (some 0) with kind := .array 5 .byte, interfaces := #[3, 4], accessFlags := 1041 }

/-- the primitive int -/
def k7 : Class := { plain "int" none with kind := .primitive 'I', accessFlags := 0x411 }
/-- [I -/
def k8 : Class := { plain "[I" (some 0) with kind := .array 7 .int, interfaces := #[3, 4], accessFlags := 1041 }

def heap : Heap := #[]
def classes : Array Class := #[k0, k1, k2, k3, k4, k5, k6, k7, k8]
def interned : List (Array UInt16 × Addr) := []
def slotsUsed : Nat := 0
def theMethod : MethodId := ⟨1, 2⟩
def args0 : Array Value := #[.int 5, .int 0, .int 1]
def aboutOver (below : List Frame) : State where
  vm := { classes := classes, interned := interned.toArray }
  heap := heap
  slotsUsed := slotsUsed
  threads := #[{ frames := .invoking theMethod args0 :: below }]
def below0 : List Frame := [.native { method := ⟨0, 0⟩, args := #[] }]
def about1 : State := aboutOver below0
def p0 : Program := .bare "" "" ""
def e0 : Env := launch0.env 0 0 0
theorem w_frames : about1.frames = Frame.invoking theMethod args0 :: below0 := rfl
set_option maxRecDepth 65536 in
theorem w_args : argsFit about1.vm theMethod args0 = true := by decide +kernel
set_option maxRecDepth 65536 in
theorem w_heap : heapFits about1 = true := by decide +kernel
set_option maxRecDepth 65536 in
theorem w_runnable : about1.curStatus? = some .runnable := by decide +kernel
set_option maxRecDepth 65536 in
theorem w_alone : about1.alone = true := by decide +kernel
set_option maxRecDepth 65536 in
theorem w_named : about1.methodNamed? x = some theMethod := by decide +kernel
set_option maxRecDepth 65536 in
theorem w_hears : about1.hears theMethod below0 = true := by decide +kernel
set_option maxRecDepth 65536 in
theorem w_ripe : about1.ripe theMethod args0 below0 = true := by decide +kernel
theorem w_running : about1.status = .running := rfl
set_option maxRecDepth 65536 in
theorem w_room : about1.hasRoom e0.platform room_1 = true :=
  launch0.hasRoom_least _ room_1 (by decide +kernel) (by decide +kernel) (by decide +kernel) (by decide +kernel) (by decide +kernel) (by decide +kernel)
theorem allAtoms_all (ts : List Jvm.Cond) (a : Array Jvm.Value) (st : Jvm.State) : (allAtoms ts).before a st = ts.all (fun c => c.before a st) := by
  induction ts with
  | nil => rfl
  | cons c t ih =>
    show (Jvm.Cond.and c (allAtoms t)).before a st = _
    rw [Jvm.Cond.before_and, ih, List.all_cons]
def words1 : List Jvm.Cond := Jvm.Cond.code x code maxLocals ret :: tables_1
/-- a 'code' word, met by the world's own term for the bytes: nothing is compared byte by byte -/
theorem code_word {y : MethodName} {bytes : ByteArray} {mx : Nat} {rt : Option FieldType} {a : Array Value} {s : State} {m : MethodId} {meth : Method} {c : Code} (h1 : s.methodNamed? y = some m) (h2 : s.vm.method? m = some meth) (h3 : meth.code = some c) (h4 : c.code = bytes)
    (h5 : (c.maxLocals == mx && c.exceptionTable.isEmpty && decide (c.maxStack ≤ mostOperands) && decide (meth.sig.returnType = rt) && !meth.locks && decide (parseMethodDescriptor y.desc = some meth.sig)) = true) : (Jvm.Cond.code y bytes mx rt).before a s = true := by
  simp only [Bool.and_eq_true, beq_iff_eq, Bool.not_eq_true', decide_eq_true_eq] at h5
  obtain ⟨⟨⟨⟨⟨g1, g2⟩, g3⟩, g4⟩, g5⟩, g6⟩ := h5
  simp [Cond.before, Cond.holds, Cond.value, h1, h2, h3, h4, g1, g2, g3, g4, g5, g6]
def isCode : Jvm.Cond → Bool
  | .code _ _ _ _ => true
  | _ => false
theorem all_split {L : List Jvm.Cond} {P : Jvm.Cond → Bool} (h1 : L.all (fun c => isCode c || P c) = true) (h2 : ∀ c ∈ L.filter isCode, P c = true) : L.all P = true := by
  refine List.all_eq_true.mpr fun c hc => ?_
  have h := List.all_eq_true.mp h1 c hc
  rcases Bool.eq_false_or_eq_true (isCode c) with hi | hi
  · exact h2 c (List.mem_filter.mpr ⟨hc, hi⟩)
  · simpa [hi] using h
set_option maxRecDepth 65536 in
theorem w_c0 : (Jvm.Cond.code x code maxLocals ret).before args0 about1 = true := code_word (m := ⟨1, 2⟩) (meth := k1m2) (c := k1c2) (by decide +kernel) rfl rfl rfl (by decide +kernel)
set_option maxRecDepth 65536 in
theorem w_c1 : (Jvm.Cond.code ({ cls := "com/example/lettr/lettr/transport/CloseStatus", name := "isSendable", desc := "(I)Z" } : Jvm.MethodName) prog_61_method_2_code (1 : Nat) (Option.some Jvm.ClassFile.FieldType.boolean)).before args0 about1 = true := code_word (m := ⟨2, 1⟩) (meth := k2m1) (c := k2c1) (by decide +kernel) rfl rfl rfl (by decide +kernel)
set_option maxRecDepth 65536 in
theorem w_c2 : (Jvm.Cond.code ({ cls := "com/example/lettr/lettr/transport/CloseStatusIsSendablePinLaw", name := "forbidden", desc := "(I)Z" } : Jvm.MethodName) method_2_code (1 : Nat) (Option.some Jvm.ClassFile.FieldType.boolean)).before args0 about1 = true := code_word (m := ⟨1, 1⟩) (meth := k1m1) (c := k1c1) (by decide +kernel) rfl rfl rfl (by decide +kernel)
def codes1 : List Jvm.Cond := [Jvm.Cond.code x code maxLocals ret, Jvm.Cond.code ({ cls := "com/example/lettr/lettr/transport/CloseStatus", name := "isSendable", desc := "(I)Z" } : Jvm.MethodName) prog_61_method_2_code (1 : Nat) (Option.some Jvm.ClassFile.FieldType.boolean), Jvm.Cond.code ({ cls := "com/example/lettr/lettr/transport/CloseStatusIsSendablePinLaw", name := "forbidden", desc := "(I)Z" } : Jvm.MethodName) method_2_code (1 : Nat) (Option.some Jvm.ClassFile.FieldType.boolean)]
set_option maxRecDepth 65536 in
theorem codes_eq : words1.filter isCode = codes1 := rfl
theorem w_codes : ∀ c ∈ words1.filter isCode, c.before args0 about1 = true := by
  rw [codes_eq]
  intro c hc
  simp only [codes1, List.mem_cons, List.not_mem_nil, or_false] at hc
  rcases hc with rfl | rfl | rfl
  · exact w_c0
  · exact w_c1
  · exact w_c2
set_option maxRecDepth 65536 in
theorem w_t1 : words1.all (fun c => isCode c || c.before args0 about1) = true := by decide +kernel
theorem w_tables : (allAtoms (Jvm.Cond.code x code maxLocals ret :: tables_1)).before args0 about1 = true := by
  rw [allAtoms_all]
  show words1.all (fun c => c.before args0 about1) = true
  refine all_split ?_ w_codes
  rw [w_t1]
set_option maxRecDepth 65536 in
theorem w_case : (Jvm.Cond.and given_1 narrow_1).before args0 about1 = true := by decide +kernel
theorem w_applies : (headSpec (Jvm.Cond.code x code maxLocals ret :: tables_1) room_1).applies x e0.platform about1 = true :=
  (Spec.applies_iff w_frames).mpr ⟨w_running, w_runnable, w_alone, w_named, w_hears, w_ripe, w_room, w_tables⟩
theorem atStart : AtStart classFile x code maxLocals ret World_1 tables_1 room_1 Calls_1 rest_1 Pre_1 launch0 p0 e0 about1 theMethod args0 below0 :=
  ⟨lists_1, trivial, launch0.admits_env _ _ _, launch0.least_env, fairChoices_fair.cas, fairChoices_fair.clock, w_frames, w_args, w_heap, w_applies, trivial, trivial, w_case⟩
end start1
theorem witness_1 : WitnessClaimed_1 := ⟨start1.p0, start1.e0, start1.about1, start1.theMethod, start1.args0, start1.below0, start1.atStart⟩
end Jvm.Pilot.@@N@@
