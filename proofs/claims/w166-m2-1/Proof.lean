import JvmDerived
import JvmDerived.Pilot.@@N@@Statement
import JvmDerived.Pilot.@@N@@Code
set_option linter.unusedVariables false
set_option linter.unusedSimpArgs false
@@BLOCK:NumsL.lean.txt@@
namespace Jvm.Own
open Sem ClassFile Op Lib Jvm.Stand Jvm.Free Jvm.LawKit Jvm.RoadKit
section Arrays
variable {p : Program} {l : Launch} {e : Env} {R : Room} {s : State} {m : MethodId} {args : Array Value} {below : List Frame} {meth : Method} {c : Code} {T : State} {locs : List Loc} {cells slots : Nat} {Z : State} {h h' h0 : Heap} {a b : Addr} {ty : FieldType} {vs : List Value} {xs : List Int32} {v : Value} {sl : Nat} {ws : List Addr}
/-- the array at a: of the kind ty, its components vs -/
def AV (Z : State) (h : Heap) (a : Addr) (ty : FieldType) (vs : List Value) : Prop := ∃ c : Cell, Arr Z h a c ty ∧ c.slots = vs.toArray ∧ vs.length < 2147483648
/-- an int array -/
def IA (Z : State) (h : Heap) (a : Addr) (xs : List Int32) : Prop := AV Z h a .int (xs.map Value.int)
theorem AV.lt (F : AV Z h a ty vs) : a < h.size := by obtain ⟨c, A, -⟩ := F; exact A.lt
theorem AV.ext (F : AV Z h a ty vs) (E : Ext h h') : AV Z h' a ty vs := by obtain ⟨c, A, r⟩ := F; exact ⟨c, A.ext E, r⟩
theorem AV.other (F : AV Z h b ty vs) (W : Wr h h' a sl v) (q : b ≠ a) : AV Z h' b ty vs := by obtain ⟨c, A, r⟩ := F; exact ⟨c, A.other W q, r⟩
theorem AV.keep (F : AV Z h a ty vs) (K : Keep h h' ws) (q : a ∉ ws) : AV Z h' a ty vs := by obtain ⟨c, A, r⟩ := F; exact ⟨c, ⟨K.2.1 a c A.1 q, A.2⟩, r⟩
theorem AV.wr (F : AV Z h a ty vs) (W : Wr h h' a sl v) : AV Z h' a ty (vs.set sl v) := by
  obtain ⟨c, A, q, n⟩ := F
  exact ⟨_, A.same W, by simp [Cell.setSlot, q], by simpa using n⟩
theorem clamp_lt (z : Int32) : z.toNatClampNeg < 2147483648 := by
  have := z.toInt_lt
  simp only [Int32.toNatClampNeg]; omega
theorem AV.new {k : ClassId} {z : Int32} (A : Arr Z h a (newA k ty z) ty) (q : List.replicate z.toNatClampNeg (defaultValue ty) = vs) : AV Z h a ty vs := by
  subst q
  exact ⟨_, A, by simp [newA], by rw [List.length_replicate]; exact clamp_lt z⟩
theorem IA.lt (F : IA Z h a xs) : a < h.size := AV.lt F
theorem IA.ext (F : IA Z h a xs) (E : Ext h h') : IA Z h' a xs := AV.ext F E
theorem IA.other (F : IA Z h b xs) (W : Wr h h' a sl v) (q : b ≠ a) : IA Z h' b xs := AV.other F W q
theorem IA.keep (F : IA Z h a xs) (K : Keep h h' ws) (q : a ∉ ws) : IA Z h' a xs := AV.keep F K q
theorem IA.new {k : ClassId} {z : Int32} (A : Arr Z h a (newA k .int z) .int) {n : Nat} (q : z.toNatClampNeg = n) : IA Z h a (List.replicate n (0 : Int32)) := AV.new A (by subst q; rw [List.map_replicate]; rfl)
theorem IA.wr {x : Int32} (F : IA Z h a xs) (W : Wr h h' a sl (.int x)) : IA Z h' a (xs.set sl x) := by
  have := AV.wr F W
  rw [← List.map_set] at this; exact this
/-- the place j of an int array; the array with x there -/
def gi (xs : List Int32) (j : Int32) : Int32 := xs.getD j.toNatClampNeg 0
def si (xs : List Int32) (j x : Int32) : List Int32 := xs.set j.toNatClampNeg x
theorem si_len (xs : List Int32) (j x : Int32) : (si xs j x).length = xs.length := by simp [si]
theorem clamp_of {j : Int32} {n : Nat} (hj : 0 ≤ j.toInt ∧ j.toInt < (n : Int)) : j.toNatClampNeg < n ∧ ¬ j < 0 := by
  obtain ⟨h1, h2⟩ := hj
  refine ⟨by simp only [Int32.toNatClampNeg]; omega, ?_⟩
  rw [Int32.lt_iff_toInt_lt]; show ¬ _ < (0 : Int); omega
theorem inb_of' {cl : Cell} {j : Int32} {n : Nat} (hn : cl.slots.size = n) (hj : 0 ≤ j.toInt ∧ j.toInt < (n : Int)) : ¬ (j < 0 ∨ cl.slots.size ≤ j.toNatClampNeg) := by
  obtain ⟨h1, h2⟩ := clamp_of hj
  rintro (q | q)
  · exact h2 q
  · omega
theorem ldI (X : Stand p l e R s m args below meth c T locs cells slots) (hx : p.tables.exec = Jvm.exec) (hZ : Z.Warmed39 s.vm) (eT : T.heap = h) (F : IA Z h a xs) {j : Int32} (n : Nat) (hl : xs.length = n) (hj : 0 ≤ j.toInt ∧ j.toInt < (n : Int)) {g : JFrame} (hg : g.method = m) {rest : List Value} (hs : g.stack = .int j :: .ref a :: rest) (hd : decode c.code g.pc = .ok (.iaload, 1)) :
    ∀ target, Steps p.tables e below (T.setTop { g with pc := g.pc + 1, stack := .int (gi xs j) :: rest }) target → Steps p.tables e below (T.setTop g) target := by
  obtain ⟨cl, A, q, r⟩ := F
  have hsz : cl.slots.size = n := by rw [q]; simp [hl]
  have hi := (clamp_of hj).1
  refine X.iaload hx (v := .int (gi xs j)) (by rw [eT]; exact A.1) (State.isArrayOf_alike hZ.alike A.2.1) A.2.2 (inb_of' hsz hj) ?_ hg hs hd
  rw [q]
  have : j.toNatClampNeg < xs.length := by omega
  simp [gi, List.getD_eq_getElem?_getD, this]
theorem lnV (X : Stand p l e R s m args below meth c T locs cells slots) (hx : p.tables.exec = Jvm.exec) (hZ : Z.Warmed39 s.vm) (eT : T.heap = h) (F : AV Z h a ty vs) {z : Int32} (hz : vs.length.toInt32 = z) {g : JFrame} (hg : g.method = m) {rest : List Value} (hs : g.stack = .ref a :: rest) (hd : decode c.code g.pc = .ok (.arraylength, 1)) :
    ∀ target, Steps p.tables e below (T.setTop { g with pc := g.pc + 1, stack := .int z :: rest }) target → Steps p.tables e below (T.setTop g) target := by
  obtain ⟨cl, A, q, r⟩ := F
  intro target k
  refine X.arraylength hx (by rw [eT]; exact A.1) (State.isArrayOf_alike hZ.alike A.2.1) hg hs hd _ ?_
  have : cl.slots.size.toInt32 = z := by rw [q]; simpa using hz
  rw [this]; exact k
theorem lnI (X : Stand p l e R s m args below meth c T locs cells slots) (hx : p.tables.exec = Jvm.exec) (hZ : Z.Warmed39 s.vm) (eT : T.heap = h) (F : IA Z h a xs) {z : Int32} (hz : xs.length.toInt32 = z) {g : JFrame} (hg : g.method = m) {rest : List Value} (hs : g.stack = .ref a :: rest) (hd : decode c.code g.pc = .ok (.arraylength, 1)) :
    ∀ target, Steps p.tables e below (T.setTop { g with pc := g.pc + 1, stack := .int z :: rest }) target → Steps p.tables e below (T.setTop g) target :=
  lnV X hx hZ eT F (by rw [List.length_map]; exact hz) hg hs hd
theorem stIA (X : Stand p l e R s m args below meth c T locs cells slots) (hx : p.tables.exec = Jvm.exec) (hZ : Z.Warmed39 s.vm) (eT : T.heap = h) (F : IA Z h a xs) {j x : Int32} (n : Nat) (hl : xs.length = n) (hj : 0 ≤ j.toInt ∧ j.toInt < (n : Int)) {g : JFrame} (hg : g.method = m) {rest : List Value} (hs : g.stack = .int x :: .int j :: .ref a :: rest) (hd : decode c.code g.pc = .ok (.iastore, 1)) :
    ∃ T' h', Stand p l e R s m args below meth c T' (locs ++ [⟨a, j.toNatClampNeg⟩]) cells slots ∧ T'.heap = h' ∧ Wr h h' a j.toNatClampNeg (.int x) ∧ IA Z h' a (si xs j x) ∧ ∀ target, Steps p.tables e below (T'.setTop { g with pc := g.pc + 1, stack := rest }) target → Steps p.tables e below (T.setTop g) target := by
  have F0 := F
  obtain ⟨cl, A, q, r⟩ := F
  have hsz : cl.slots.size = n := by rw [q]; simp [hl]
  obtain ⟨T', h', X', e', W, st⟩ := stI X hx hZ eT A (inb_of' hsz hj) hg hs hd
  exact ⟨T', h', X', e', W, IA.wr F0 W, st⟩
/-- a place read or written, where it lies in the array; a fresh array of at most cap places -/
def rd (xs : List Int32) (j : Int32) : Option Int32 := if 0 ≤ j.toInt ∧ j.toInt < (xs.length : Int) then some (gi xs j) else none
def wt (xs : List Int32) (j x : Int32) : Option (List Int32) := if 0 ≤ j.toInt ∧ j.toInt < (xs.length : Int) then some (si xs j x) else none
def mk (cap : Nat) (n : Int32) : Option (List Int32) := if 0 ≤ n.toInt ∧ n.toInt ≤ (cap : Int) then some (List.replicate n.toNatClampNeg 0) else none
def ln (xs : List Int32) : Int32 := xs.length.toInt32
theorem rd_some {xs : List Int32} {j v : Int32} (q : rd xs j = some v) : (0 ≤ j.toInt ∧ j.toInt < (xs.length : Int)) ∧ gi xs j = v := by
  unfold rd at q
  split at q
  · next h => exact ⟨h, Option.some.inj q⟩
  · cases q
theorem wt_some {xs ys : List Int32} {j x : Int32} (q : wt xs j x = some ys) : (0 ≤ j.toInt ∧ j.toInt < (xs.length : Int)) ∧ si xs j x = ys := by
  unfold wt at q
  split at q
  · next h => exact ⟨h, Option.some.inj q⟩
  · cases q
theorem mk_some {cap : Nat} {n : Int32} {ys : List Int32} (q : mk cap n = some ys) : ¬ n < 0 ∧ n.toNatClampNeg ≤ cap ∧ ys = List.replicate n.toNatClampNeg 0 := by
  unfold mk at q
  split at q
  · next h =>
    refine ⟨?_, ?_, (Option.some.inj q).symm⟩
    · rw [Int32.lt_iff_toInt_lt]; show ¬ _ < (0 : Int); omega
    · simp only [Int32.toNatClampNeg]; omega
  · cases q
theorem ldO (X : Stand p l e R s m args below meth c T locs cells slots) (hx : p.tables.exec = Jvm.exec) (hZ : Z.Warmed39 s.vm) (eT : T.heap = h) (F : IA Z h a xs) {j x : Int32} (q : rd xs j = some x) {g : JFrame} (hg : g.method = m) {rest : List Value} (hs : g.stack = .int j :: .ref a :: rest) (hd : decode c.code g.pc = .ok (.iaload, 1)) :
    ∀ target, Steps p.tables e below (T.setTop { g with pc := g.pc + 1, stack := .int x :: rest }) target → Steps p.tables e below (T.setTop g) target := by
  obtain ⟨hb, rfl⟩ := rd_some q
  exact ldI X hx hZ eT F xs.length rfl hb hg hs hd
theorem stO (X : Stand p l e R s m args below meth c T locs cells slots) (hx : p.tables.exec = Jvm.exec) (hZ : Z.Warmed39 s.vm) (eT : T.heap = h) (F : IA Z h a xs) {j x : Int32} {ys : List Int32} (q : wt xs j x = some ys) {g : JFrame} (hg : g.method = m) {rest : List Value} (hs : g.stack = .int x :: .int j :: .ref a :: rest) (hd : decode c.code g.pc = .ok (.iastore, 1)) :
    ∃ T' h', Stand p l e R s m args below meth c T' (locs ++ [⟨a, j.toNatClampNeg⟩]) cells slots ∧ T'.heap = h' ∧ Wr h h' a j.toNatClampNeg (.int x) ∧ IA Z h' a ys ∧ ∀ target, Steps p.tables e below (T'.setTop { g with pc := g.pc + 1, stack := rest }) target → Steps p.tables e below (T.setTop g) target := by
  obtain ⟨hb, rfl⟩ := wt_some q
  exact stIA X hx hZ eT F xs.length rfl hb hg hs hd
/-- an array of references to objects of the class C -/
def RA (Z : State) (h : Heap) (a : Addr) (C : String) (vs : List Value) : Prop := ∃ c : Cell, Arr Z h a c (.object C) ∧ c.slots = vs.toArray ∧ vs.length < 2147483648 ∧ Ovr Z c.cls C
variable {C : String}
theorem RA.lt (F : RA Z h a C vs) : a < h.size := by obtain ⟨c, A, -⟩ := F; exact A.lt
theorem RA.ext (F : RA Z h a C vs) (E : Ext h h') : RA Z h' a C vs := by obtain ⟨c, A, r⟩ := F; exact ⟨c, A.ext E, r⟩
theorem RA.other (F : RA Z h b C vs) (W : Wr h h' a sl v) (q : b ≠ a) : RA Z h' b C vs := by obtain ⟨c, A, r⟩ := F; exact ⟨c, A.other W q, r⟩
theorem RA.new {k : ClassId} {z : Int32} (A : Arr Z h a (newA k (.object C) z) (.object C)) (O : Ovr Z k C) (q : List.replicate z.toNatClampNeg Value.null = vs) : RA Z h a C vs := by
  subst q
  exact ⟨_, A, by simp [newA, defaultValue], by rw [List.length_replicate]; exact clamp_lt z, O⟩
theorem stRA (X : Stand p l e R s m args below meth c T locs cells slots) (hx : p.tables.exec = Jvm.exec) (hZ : Z.Warmed39 s.vm) (eT : T.heap = h) (F : RA Z h a C vs) {j : Int32} {y : Addr} (n : Nat) (hl : vs.length = n) (hj : 0 ≤ j.toInt ∧ j.toInt < (n : Int)) (I : Ins Z h y C true) {g : JFrame} (hg : g.method = m) {rest : List Value} (hs : g.stack = .ref y :: .int j :: .ref a :: rest) (hd : decode c.code g.pc = .ok (.aastore, 1)) :
    ∃ T' h', Stand p l e R s m args below meth c T' (locs ++ [⟨a, j.toNatClampNeg⟩]) cells slots ∧ T'.heap = h' ∧ Wr h h' a j.toNatClampNeg (.ref y) ∧ RA Z h' a C (vs.set j.toNatClampNeg (.ref y)) ∧ ∀ target, Steps p.tables e below (T'.setTop { g with pc := g.pc + 1, stack := rest }) target → Steps p.tables e below (T.setTop g) target := by
  obtain ⟨cl, A, q, r, O⟩ := F
  have hsz : cl.slots.size = n := by rw [q]; simp [hl]
  obtain ⟨T', h', X', e', W, st⟩ := stR X hx hZ eT A (inb_of' hsz hj) rfl (Sto.of A O I) hg hs hd
  exact ⟨T', h', X', e', W, ⟨_, A.same W, by simp [Cell.setSlot, q], by simpa using r, O⟩, st⟩
theorem ldRA (X : Stand p l e R s m args below meth c T locs cells slots) (hx : p.tables.exec = Jvm.exec) (hZ : Z.Warmed39 s.vm) (eT : T.heap = h) (F : RA Z h a C vs) {j : Int32} (n : Nat) (hl : vs.length = n) (hj : 0 ≤ j.toInt ∧ j.toInt < (n : Int)) (hv : vs[j.toNatClampNeg]? = some v) {g : JFrame} (hg : g.method = m) {rest : List Value} (hs : g.stack = .int j :: .ref a :: rest) (hd : decode c.code g.pc = .ok (.aaload, 1)) :
    ∀ target, Steps p.tables e below (T.setTop { g with pc := g.pc + 1, stack := v :: rest }) target → Steps p.tables e below (T.setTop g) target := by
  obtain ⟨cl, A, q, r, O⟩ := F
  have hsz : cl.slots.size = n := by rw [q]; simp [hl]
  exact X.aaload hx (by rw [eT]; exact A.1) (State.isArrayOf_alike hZ.alike A.2.1) rfl A.2.2 (inb_of' hsz hj) (by rw [q]; simpa using hv) hg hs hd
def ga (as : List Addr) (j : Int32) : Addr := as.getD j.toNatClampNeg 0
theorem ga_at {as : List Addr} {j : Int32} {n : Nat} (hl : as.length = n) (hj : 0 ≤ j.toInt ∧ j.toInt < (n : Int)) : (as.map Value.ref)[j.toNatClampNeg]? = some (.ref (ga as j)) := by
  have : j.toNatClampNeg < as.length := by rw [hl]; exact (clamp_of hj).1
  simp [ga, List.getD_eq_getElem?_getD, this]
theorem ga_all {as : List Addr} {j : Int32} {n : Nat} {P : Addr → Prop} (hl : as.length = n) (hj : 0 ≤ j.toInt ∧ j.toInt < (n : Int)) (q : ∀ x ∈ as, P x) : P (ga as j) := by
  have h : j.toNatClampNeg < as.length := by rw [hl]; exact (clamp_of hj).1
  have : ga as j = as[j.toNatClampNeg] := by simp [ga, List.getD_eq_getElem?_getD, h]
  rw [this]; exact q _ (List.getElem_mem h)
theorem size_wr (W : Wr h h' a sl v) {n : Nat} (q : n ≤ h.size) : n ≤ h'.size := by rw [W.size]; exact q
end Arrays
end Jvm.Own
namespace Jvm.RoadKit
open Sem ClassFile Op Lib Jvm.Stand Jvm.Free Jvm.LawKit
section New
variable {p : Program} {l : Launch} {e : Env} {R : Room} {s : State} {m : MethodId} {args : Array Value} {below : List Frame} {meth : Method} {c : Code} {T : State} {locs : List Loc} {cells slots : Nat}
theorem retI (X : Stand p l e R s m args below meth c T locs cells slots) (hx : p.tables.exec = Jvm.exec) {pc : Nat} {Ls : Array Slot} {z : Int32} {rest : List Value} (hret : meth.sig.returnType = some .int) (hd : decode c.code pc = .ok (.ireturn, 1)) {fs : List Frame}
    (hl : ∀ (f : JFrame) (acts : List Action), f.method = m → f.locked = none → f.entered = [] → (doReturn e (T.setTop f) acts (some (.int z))).1 = T.setFrames fs) : Steps p.tables e below (T.setTop (mkF m pc Ls (.int z :: rest))) (T.setFrames fs) := by
  have hm' : T.vm.method? m = some meth := X.method'
  have hn : narrow .int (.int z) = .int z := rfl
  show Steps p.tables e below (T.setTop { method := m, pc := pc, locals := Ls, stack := _ :: rest, locked := none }) _
  jvm_step X.here [X.here.top, hx, hd, hm', hret, hn]
  first | (intro acts; rw [hl _ acts rfl rfl rfl]) | rw [hl _ _ rfl rfl rfl]
  exact Steps.refl _
theorem retA (X : Stand p l e R s m args below meth c T locs cells slots) (hx : p.tables.exec = Jvm.exec) {pc : Nat} {Ls : Array Slot} {z : Value} {t : FieldType} {rest : List Value} (hret : meth.sig.returnType = some t) (ht : t.isReference = true) (hz : z.isRef = true) (hd : decode c.code pc = .ok (.areturn, 1)) {fs : List Frame}
    (hl : ∀ (f : JFrame) (acts : List Action), f.method = m → f.locked = none → f.entered = [] → (doReturn e (T.setTop f) acts (some z)).1 = T.setFrames fs) : Steps p.tables e below (T.setTop (mkF m pc Ls (z :: rest))) (T.setFrames fs) := by
  have hm' : T.vm.method? m = some meth := X.method'
  show Steps p.tables e below (T.setTop { method := m, pc := pc, locals := Ls, stack := _ :: rest, locked := none }) _
  jvm_step X.here [X.here.top, hx, hd, hm', hret, ht, hz]
  first | (intro acts; rw [hl _ acts rfl rfl rfl]) | rw [hl _ _ rfl rfl rfl]
  exact Steps.refl _
end New
end Jvm.RoadKit
namespace Jvm.Pilot.@@N@@
open Jvm Jvm.ClassFile Sem Op Lib Jvm.Free Jvm.Stand Jvm.LawKit Jvm.RoadKit Bundle Jvm.Pilot.@@N@@.Jvm.D
theorem own_tab {x : Int32} {k : Int} (h : ¬ x = Int32.ofInt k) (h1 : -2147483648 ≤ k) (h2 : k < 2147483648) : x.toInt ≠ k := fun q => h (by rw [← q]; exact (Int32.ofInt_toInt x).symm)
theorem own_i2c_and (x : Int32) : x.toUInt32.toUInt16.toUInt32.toInt32 = x &&& 65535 := by
  apply Int32.toBitVec_inj.mp
  apply BitVec.toNat_inj.mp
  have h : ((x &&& 65535).toBitVec.toNat) = x.toBitVec.toNat % 2 ^ 16 := by
    show (x.toBitVec &&& (65535 : Int32).toBitVec).toNat = _
    rw [BitVec.toNat_and, show (65535 : Int32).toBitVec.toNat = 2 ^ 16 - 1 from rfl, Nat.and_two_pow_sub_one_eq_mod]
  rw [h]
  show x.toBitVec.toNat % 2 ^ 16 = _
  rfl
theorem own_i2c (x : Int32) : (x.toUInt32.toUInt16.toUInt32.toInt32).toInt = x.toInt % 65536 := by
  rw [own_i2c_and]; exact Jvm.Kit.i32_mask x 65535 (k := 16) (by decide) (by decide)
theorem own_rem {x y : Int32} (hx : 0 ≤ x.toInt) (hy : 0 < y.toInt) : (x - (x / y) * y).toInt = x.toInt % y.toInt := by
  have hxl := x.toInt_lt
  have e1 : (x / y).toInt = x.toInt / y.toInt := by rw [Jvm.Kit.i32_div (by omega), Int.tdiv_eq_ediv_of_nonneg hx]
  have m1 : x.toInt / y.toInt * y.toInt = x.toInt - x.toInt % y.toInt := by
    have := Int.mul_ediv_add_emod x.toInt y.toInt
    rw [Int.mul_comm] at this; omega
  have m2 : 0 ≤ x.toInt % y.toInt := Int.emod_nonneg _ (by omega)
  have m3 : x.toInt % y.toInt ≤ x.toInt := by
    have := Int.mul_nonneg (Int.ediv_nonneg hx (by omega : 0 ≤ y.toInt)) (by omega : 0 ≤ y.toInt); omega
  have e2 : ((x / y) * y).toInt = x.toInt - x.toInt % y.toInt := by rw [Jvm.Kit.i32_mul (by rw [e1, m1]; omega) (by rw [e1, m1]; omega), e1, m1]
  rw [Jvm.Kit.i32_sub (by rw [e2]; omega) (by rw [e2]; omega), e2]; omega
theorem own_pos (x : Int32) : (x &&& 2147483647).toInt = x.toInt % 2147483648 := Jvm.Kit.i32_mask x 2147483647 (k := 31) (by decide) (by decide)

theorem d1_0 : decode jdk_29_method_69_code 0 = .ok (.iload_n 0, 1) := by decide +kernel
theorem d1_1 : decode jdk_29_method_69_code 1 = .ok (.iload_n 1, 1) := by decide +kernel
theorem d1_2 : decode jdk_29_method_69_code 2 = .ok (.if_icmp .gt 7, 3) := by decide +kernel
theorem d1_5 : decode jdk_29_method_69_code 5 = .ok (.iload_n 0, 1) := by decide +kernel
theorem d1_6 : decode jdk_29_method_69_code 6 = .ok (.goto 4, 3) := by decide +kernel
theorem d1_9 : decode jdk_29_method_69_code 9 = .ok (.iload_n 1, 1) := by decide +kernel
theorem d1_10 : decode jdk_29_method_69_code 10 = .ok (.ireturn, 1) := by decide +kernel
theorem ef_rm1 (m : MethodId) (p0 : Int32) (p1 : Int32) : entryFrame m #[(.int p0), (.int p1)] 2 = mkF m 0 #[.val (.int p0), .val (.int p1)] [] := by first | (simp [entryFrame, mkF, argsToLocals, Value.category]; done) | rfl
def F1 (p0 : Int32) (p1 : Int32) : Int32 := (if p1 < p0 then p1 else p0)
def Q_rm1 (Z : State) (p0 : Int32) (p1 : Int32) (h0 : Heap) (n0 : Nat) (v : Option Value) (h : Heap) (L : List Loc) : Prop := v = some (.int (F1 p0 p1)) ∧ Fr n0 L ∧ h = h0
set_option maxRecDepth 65536 in
set_option maxHeartbeats 40000000 in
theorem rm1 (l : Launch) (Z : State) (a0 : Array Value) (hw : ∀ d ∈ tables_1, d.before a0 Z = true) (ws : List Jvm.Cond) (p0 : Int32) (p1 : Int32) (h0 : Heap) (n0 : Nat) (Z0 : n0 ≤ h0.size) :
    MetFree l (⟨"java/lang/Math", "min", "(II)I"⟩ : MethodName) (head1 (Jvm.Cond.code (⟨"java/lang/Math", "min", "(II)I"⟩ : MethodName) jdk_29_method_69_code 2 (some .int) :: ws) ({ frames := 0, cells := 0, slots := 0, locals := 0 } : Room)) (fun a U => a = #[(.int p0), (.int p1)] ∧ Z.Warmed39 U.vm ∧ U.heap = h0) (fun _ _ _ _ _ => True) (fun _ U o U' => ∃ v L, o = .returned v ∧ Q_rm1 Z p0 p1 h0 n0 v U'.heap L ∧ FrameEnd U o U' L ({ frames := 0, cells := 0, slots := 0, locals := 0 } : Room).cells ({ frames := 0, cells := 0, slots := 0, locals := 0 } : Room).slots) := by
  refine MetFree.of_bodySF (Jvm.Free.JP.mathPlain rfl (by decide +kernel)) hisR ?_
  intro p e s m args below meth c s₁ Bd hml0 hP hK
  obtain ⟨rfl, hZ, hh⟩ := hP
  have hx := Bd.exec
  have hby := Bd.bytes
  have hml : c.maxLocals = 2 := hml0
  have hown : s.vm.findClass "java/lang/Math" = some m.cls := findClass_of_methodNamed Bd.named
  have hnm := (name_of_methodNamed Bd.named Bd.method).1
  have X0 : Stand p l e ({ frames := 0, cells := 0, slots := 0, locals := 0 } : Room) s m #[(.int p0), (.int p1)] below meth c s₁ [] 0 0 := Stand.of_body Bd
  have e0 : s₁.heap = h0 := by rw [← hh, Bd.state]; rfl
  have N0 := Fr.nil n0
  have q0 : Steps p.tables e below (s₁.setTop (entryFrame m #[(.int p0), (.int p1)] 2)) (s₁.setTop (mkF m 0 #[.val (.int p0), .val (.int p1)] [])) := castTop (ef_rm1 m p0 p1) (Steps.refl _)
  obtain ⟨fs, hr, hrun, hended, hW, hsame⟩ := X0.leave (v := some (.int (F1 p0 p1))) (fun h => by rw [Bd.returns] at h; cases h)
  refine ⟨_, _, q0.trans ?_, hrun, hended, _, _, rfl, ?_, ⟨_, rfl⟩, hW, hsame.mono (by decide) (by decide)⟩
  · show Steps p.tables e below (s₁.setTop (mkF m 0 #[.val (.int p0), .val (.int p1)] [])) _
    refine XS.iloadN X0.here hx rfl (hb hby d1_0) rfl ?_
    show Steps p.tables e below (s₁.setTop (mkF m 1 #[.val (.int p0), .val (.int p1)] [(.int p0)])) _
    refine XS.iloadN X0.here hx rfl (hb hby d1_1) rfl ?_
    show Steps p.tables e below (s₁.setTop (mkF m 2 #[.val (.int p0), .val (.int p1)] [(.int p1), (.int p0)])) _
    by_cases hc1 : p1 < p0
    · refine XS.icmpYes X0.here hx rfl (pc0 := 2) (pc' := 9) rfl (hb hby d1_2) rfl (tlt hc1).2.2.1 (by decide) (by decide) ?_
      show Steps p.tables e below (s₁.setTop (mkF m 9 #[.val (.int p0), .val (.int p1)] [])) _
      refine XS.iloadN X0.here hx rfl (hb hby d1_9) rfl ?_
      show Steps p.tables e below (s₁.setTop (mkF m 10 #[.val (.int p0), .val (.int p1)] [(.int p1)])) _
      have hz : (F1 p0 p1) = p1 := by unfold F1; rw [if_pos hc1]
      rw [hz] at hr
      exact retI X0 hx Bd.returns (hb hby d1_10) hr
    · refine XS.icmpNo X0.here hx rfl (hb hby d1_2) rfl (flt hc1).2.2.1 ?_
      show Steps p.tables e below (s₁.setTop (mkF m 5 #[.val (.int p0), .val (.int p1)] [])) _
      refine XS.iloadN X0.here hx rfl (hb hby d1_5) rfl ?_
      show Steps p.tables e below (s₁.setTop (mkF m 6 #[.val (.int p0), .val (.int p1)] [(.int p0)])) _
      refine XS.goto X0.here hx rfl (pc0 := 6) (pc' := 10) rfl (hb hby d1_6) (by decide) (by decide) ?_
      show Steps p.tables e below (s₁.setTop (mkF m 10 #[.val (.int p0), .val (.int p1)] [(.int p0)])) _
      have hz : (F1 p0 p1) = p0 := by unfold F1; rw [if_neg hc1]
      rw [hz] at hr
      exact retI X0 hx Bd.returns (hb hby d1_10) hr
  · show Q_rm1 Z p0 p1 h0 n0 _ s₁.heap _
    rw [e0]
    exact ⟨rfl, N0, rfl⟩

theorem d2_0 : decode jdk_29_method_65_code 0 = .ok (.iload_n 0, 1) := by decide +kernel
theorem d2_1 : decode jdk_29_method_65_code 1 = .ok (.iload_n 1, 1) := by decide +kernel
theorem d2_2 : decode jdk_29_method_65_code 2 = .ok (.if_icmp .lt 7, 3) := by decide +kernel
theorem d2_5 : decode jdk_29_method_65_code 5 = .ok (.iload_n 0, 1) := by decide +kernel
theorem d2_6 : decode jdk_29_method_65_code 6 = .ok (.goto 4, 3) := by decide +kernel
theorem d2_9 : decode jdk_29_method_65_code 9 = .ok (.iload_n 1, 1) := by decide +kernel
theorem d2_10 : decode jdk_29_method_65_code 10 = .ok (.ireturn, 1) := by decide +kernel
theorem ef_rm2 (m : MethodId) (p0 : Int32) (p1 : Int32) : entryFrame m #[(.int p0), (.int p1)] 2 = mkF m 0 #[.val (.int p0), .val (.int p1)] [] := by first | (simp [entryFrame, mkF, argsToLocals, Value.category]; done) | rfl
def F2 (p0 : Int32) (p1 : Int32) : Int32 := (if p0 < p1 then p1 else p0)
def Q_rm2 (Z : State) (p0 : Int32) (p1 : Int32) (h0 : Heap) (n0 : Nat) (v : Option Value) (h : Heap) (L : List Loc) : Prop := v = some (.int (F2 p0 p1)) ∧ Fr n0 L ∧ h = h0
set_option maxRecDepth 65536 in
set_option maxHeartbeats 40000000 in
theorem rm2 (l : Launch) (Z : State) (a0 : Array Value) (hw : ∀ d ∈ tables_1, d.before a0 Z = true) (ws : List Jvm.Cond) (p0 : Int32) (p1 : Int32) (h0 : Heap) (n0 : Nat) (Z0 : n0 ≤ h0.size) :
    MetFree l (⟨"java/lang/Math", "max", "(II)I"⟩ : MethodName) (head1 (Jvm.Cond.code (⟨"java/lang/Math", "max", "(II)I"⟩ : MethodName) jdk_29_method_65_code 2 (some .int) :: ws) ({ frames := 0, cells := 0, slots := 0, locals := 0 } : Room)) (fun a U => a = #[(.int p0), (.int p1)] ∧ Z.Warmed39 U.vm ∧ U.heap = h0) (fun _ _ _ _ _ => True) (fun _ U o U' => ∃ v L, o = .returned v ∧ Q_rm2 Z p0 p1 h0 n0 v U'.heap L ∧ FrameEnd U o U' L ({ frames := 0, cells := 0, slots := 0, locals := 0 } : Room).cells ({ frames := 0, cells := 0, slots := 0, locals := 0 } : Room).slots) := by
  refine MetFree.of_bodySF (Jvm.Free.JP.mathPlain rfl (by decide +kernel)) hisR ?_
  intro p e s m args below meth c s₁ Bd hml0 hP hK
  obtain ⟨rfl, hZ, hh⟩ := hP
  have hx := Bd.exec
  have hby := Bd.bytes
  have hml : c.maxLocals = 2 := hml0
  have hown : s.vm.findClass "java/lang/Math" = some m.cls := findClass_of_methodNamed Bd.named
  have hnm := (name_of_methodNamed Bd.named Bd.method).1
  have X0 : Stand p l e ({ frames := 0, cells := 0, slots := 0, locals := 0 } : Room) s m #[(.int p0), (.int p1)] below meth c s₁ [] 0 0 := Stand.of_body Bd
  have e0 : s₁.heap = h0 := by rw [← hh, Bd.state]; rfl
  have N0 := Fr.nil n0
  have q0 : Steps p.tables e below (s₁.setTop (entryFrame m #[(.int p0), (.int p1)] 2)) (s₁.setTop (mkF m 0 #[.val (.int p0), .val (.int p1)] [])) := castTop (ef_rm2 m p0 p1) (Steps.refl _)
  obtain ⟨fs, hr, hrun, hended, hW, hsame⟩ := X0.leave (v := some (.int (F2 p0 p1))) (fun h => by rw [Bd.returns] at h; cases h)
  refine ⟨_, _, q0.trans ?_, hrun, hended, _, _, rfl, ?_, ⟨_, rfl⟩, hW, hsame.mono (by decide) (by decide)⟩
  · show Steps p.tables e below (s₁.setTop (mkF m 0 #[.val (.int p0), .val (.int p1)] [])) _
    refine XS.iloadN X0.here hx rfl (hb hby d2_0) rfl ?_
    show Steps p.tables e below (s₁.setTop (mkF m 1 #[.val (.int p0), .val (.int p1)] [(.int p0)])) _
    refine XS.iloadN X0.here hx rfl (hb hby d2_1) rfl ?_
    show Steps p.tables e below (s₁.setTop (mkF m 2 #[.val (.int p0), .val (.int p1)] [(.int p1), (.int p0)])) _
    by_cases hc1 : p0 < p1
    · refine XS.icmpYes X0.here hx rfl (pc0 := 2) (pc' := 9) rfl (hb hby d2_2) rfl (tlt hc1).1 (by decide) (by decide) ?_
      show Steps p.tables e below (s₁.setTop (mkF m 9 #[.val (.int p0), .val (.int p1)] [])) _
      refine XS.iloadN X0.here hx rfl (hb hby d2_9) rfl ?_
      show Steps p.tables e below (s₁.setTop (mkF m 10 #[.val (.int p0), .val (.int p1)] [(.int p1)])) _
      have hz : (F2 p0 p1) = p1 := by unfold F2; rw [if_pos hc1]
      rw [hz] at hr
      exact retI X0 hx Bd.returns (hb hby d2_10) hr
    · refine XS.icmpNo X0.here hx rfl (hb hby d2_2) rfl (flt hc1).1 ?_
      show Steps p.tables e below (s₁.setTop (mkF m 5 #[.val (.int p0), .val (.int p1)] [])) _
      refine XS.iloadN X0.here hx rfl (hb hby d2_5) rfl ?_
      show Steps p.tables e below (s₁.setTop (mkF m 6 #[.val (.int p0), .val (.int p1)] [(.int p0)])) _
      refine XS.goto X0.here hx rfl (pc0 := 6) (pc' := 10) rfl (hb hby d2_6) (by decide) (by decide) ?_
      show Steps p.tables e below (s₁.setTop (mkF m 10 #[.val (.int p0), .val (.int p1)] [(.int p0)])) _
      have hz : (F2 p0 p1) = p0 := by unfold F2; rw [if_neg hc1]
      rw [hz] at hr
      exact retI X0 hx Bd.returns (hb hby d2_10) hr
  · show Q_rm2 Z p0 p1 h0 n0 _ s₁.heap _
    rw [e0]
    exact ⟨rfl, N0, rfl⟩

theorem d4_0 : decode jdk_30_method_1_code 0 = .ok (.aload_n 0, 1) := by decide +kernel
theorem d4_1 : decode jdk_30_method_1_code 1 = .ok (.invokespecial 1, 3) := by decide +kernel
theorem d4_4 : decode jdk_30_method_1_code 4 = .ok (.return_, 1) := by decide +kernel
theorem pn_rm3 : plainName "java/lang/Record" = true := by first | (simp [plainName, overriddenIn]; done) | decide +kernel
theorem ef_rm3 (m : MethodId) (o0 : Addr) : entryFrame m #[(.ref o0)] 1 = mkF m 0 #[.val (.ref o0)] [] := by first | (simp [entryFrame, mkF, argsToLocals, Value.category]; done) | rfl
def Q_rm3 (Z : State) (o0 : Addr) (h0 : Heap) (n0 : Nat) (v : Option Value) (h : Heap) (L : List Loc) : Prop := v = none ∧ Fr n0 L ∧ h = h0
set_option maxRecDepth 65536 in
set_option maxHeartbeats 40000000 in
theorem rm3 (l : Launch) (Z : State) (a0 : Array Value) (hw : ∀ d ∈ tables_1, d.before a0 Z = true) (ws : List Jvm.Cond) (o0 : Addr) (h0 : Heap) (n0 : Nat) (Z0 : n0 ≤ h0.size) :
    MetFree l (⟨"java/lang/Record", "<init>", "()V"⟩ : MethodName) (head1 (Jvm.Cond.code (⟨"java/lang/Record", "<init>", "()V"⟩ : MethodName) jdk_30_method_1_code 1 none :: ws) ({ frames := 1, cells := 0, slots := 0, locals := 12 } : Room)) (fun a U => a = #[(.ref o0)] ∧ Z.Warmed39 U.vm ∧ U.heap = h0) (fun _ _ _ _ _ => True) (fun _ U o U' => ∃ v L, o = .returned v ∧ Q_rm3 Z o0 h0 n0 v U'.heap L ∧ FrameEnd U o U' L ({ frames := 1, cells := 0, slots := 0, locals := 12 } : Room).cells ({ frames := 1, cells := 0, slots := 0, locals := 12 } : Room).slots) := by
  refine MetFree.of_bodySF (plainFor_of_name pn_rm3) hisR ?_
  intro p e s m args below meth c s₁ Bd hml0 hP hK
  obtain ⟨rfl, hZ, hh⟩ := hP
  have hx := Bd.exec
  have hby := Bd.bytes
  have hml : c.maxLocals = 1 := hml0
  have hown : s.vm.findClass "java/lang/Record" = some m.cls := findClass_of_methodNamed Bd.named
  have hnm := (name_of_methodNamed Bd.named Bd.method).1
  have X0 : Stand p l e ({ frames := 1, cells := 0, slots := 0, locals := 12 } : Room) s m #[(.ref o0)] below meth c s₁ [] 0 0 := Stand.of_body Bd
  have e0 : s₁.heap = h0 := by rw [← hh, Bd.state]; rfl
  have N0 := Fr.nil n0
  have q0 : Steps p.tables e below (s₁.setTop (entryFrame m #[(.ref o0)] 1)) (s₁.setTop (mkF m 0 #[.val (.ref o0)] [])) := castTop (ef_rm3 m o0) (Steps.refl _)
  have q1 : Steps p.tables e below (s₁.setTop (entryFrame m #[(.ref o0)] 1)) (s₁.setTop (mkF m 1 #[.val (.ref o0)] [(.ref o0)])) := q0.trans (by
      show Steps p.tables e below (s₁.setTop (mkF m 0 #[.val (.ref o0)] [])) _
      refine XS.aloadN X0.here hx rfl (hb hby d4_0) rfl rfl ?_
      show Steps p.tables e below (s₁.setTop (mkF m 1 #[.val (.ref o0)] [(.ref o0)])) _
      exact Steps.refl _)
  obtain ⟨T2, X2, e2, st2⟩ := initO X0 hx hZ hown (hw _ (List.mem_of_getElem? (i := 20) rfl)) (hw _ (List.mem_of_getElem? (i := 21) rfl)) (hw _ (List.mem_of_getElem? (i := 22) rfl)) e0 (g := (mkF m 1 #[.val (.ref o0)] [(.ref o0)])) rfl (by rw [hml]; rfl) rfl (hb hby d4_1) (by decide) (W := 0) (by show 2 * 0 + _ ≤ _; exact Nat.le_of_eq rfl) (by decide)
  have q3 : Steps p.tables e below (s₁.setTop (entryFrame m #[(.ref o0)] 1)) (T2.setTop (mkF m 4 #[.val (.ref o0)] [])) := q1.trans (st2 _ (Steps.refl _))
  obtain ⟨fs, hr, hrun, hended, hW, hsame⟩ := X2.leave (v := none) (fun _ => rfl)
  refine ⟨_, _, q3.trans ?_, hrun, hended, _, _, rfl, ?_, ⟨_, rfl⟩, hW, hsame.mono (by decide) (by decide)⟩
  · exact X2.returnOut hx Bd.returns (hb hby d4_4) hr
  · show Q_rm3 Z o0 h0 n0 _ T2.heap _
    rw [e2]
    exact ⟨rfl, N0, rfl⟩

theorem d3_0 : decode prog_26_method_1_code 0 = .ok (.aload_n 0, 1) := by decide +kernel
theorem d3_1 : decode prog_26_method_1_code 1 = .ok (.invokespecial 1, 3) := by decide +kernel
theorem d3_4 : decode prog_26_method_1_code 4 = .ok (.aload_n 0, 1) := by decide +kernel
theorem d3_5 : decode prog_26_method_1_code 5 = .ok (.iload_n 1, 1) := by decide +kernel
theorem d3_6 : decode prog_26_method_1_code 6 = .ok (.putfield 7, 3) := by decide +kernel
theorem d3_9 : decode prog_26_method_1_code 9 = .ok (.aload_n 0, 1) := by decide +kernel
theorem d3_10 : decode prog_26_method_1_code 10 = .ok (.iload_n 2, 1) := by decide +kernel
theorem d3_11 : decode prog_26_method_1_code 11 = .ok (.putfield 13, 3) := by decide +kernel
theorem d3_14 : decode prog_26_method_1_code 14 = .ok (.aload_n 0, 1) := by decide +kernel
theorem d3_15 : decode prog_26_method_1_code 15 = .ok (.iload_n 3, 1) := by decide +kernel
theorem d3_16 : decode prog_26_method_1_code 16 = .ok (.putfield 16, 3) := by decide +kernel
theorem d3_19 : decode prog_26_method_1_code 19 = .ok (.aload_n 0, 1) := by decide +kernel
theorem d3_20 : decode prog_26_method_1_code 20 = .ok (.iload 4, 2) := by decide +kernel
theorem d3_22 : decode prog_26_method_1_code 22 = .ok (.putfield 19, 3) := by decide +kernel
theorem d3_25 : decode prog_26_method_1_code 25 = .ok (.return_, 1) := by decide +kernel
theorem pd_0 : parseMethodDescriptor "()V" = some ⟨[], none⟩ := by decide +kernel
theorem pn_rm4 : plainName "com/example/tideplan/tideplan/model/SubtaskGroup" = true := by first | (simp [plainName, overriddenIn]; done) | decide +kernel
theorem ef_rm4 (m : MethodId) (o0 : Addr) (p1 : Int32) (p2 : Int32) (p3 : Int32) (p4 : Int32) : entryFrame m #[(.ref o0), (.int p1), (.int p2), (.int p3), (.int p4)] 5 = mkF m 0 #[.val (.ref o0), .val (.int p1), .val (.int p2), .val (.int p3), .val (.int p4)] [] := by first | (simp [entryFrame, mkF, argsToLocals, Value.category]; done) | rfl
def Q_rm4 (Z : State) (o0 : Addr) (p1 : Int32) (p2 : Int32) (p3 : Int32) (p4 : Int32) (h0 : Heap) (n0 : Nat) (v : Option Value) (h : Heap) (L : List Loc) : Prop := v = none ∧ Fr n0 L ∧ Keep h0 h [o0] ∧ Exa Z h o0 "com/example/tideplan/tideplan/model/SubtaskGroup" ∧ Fld Z h o0 "com/example/tideplan/tideplan/model/SubtaskGroup" "firstProducer" "I" (.int p1) ∧ Fld Z h o0 "com/example/tideplan/tideplan/model/SubtaskGroup" "lastProducer" "I" (.int p2) ∧ Fld Z h o0 "com/example/tideplan/tideplan/model/SubtaskGroup" "firstConsumer" "I" (.int p3) ∧ Fld Z h o0 "com/example/tideplan/tideplan/model/SubtaskGroup" "lastConsumer" "I" (.int p4)
set_option maxRecDepth 65536 in
set_option maxHeartbeats 40000000 in
theorem rm4 (l : Launch) (Z : State) (a0 : Array Value) (hw : ∀ d ∈ tables_1, d.before a0 Z = true) (ws : List Jvm.Cond) (o0 : Addr) (p1 : Int32) (p2 : Int32) (p3 : Int32) (p4 : Int32) (h0 : Heap) (n0 : Nat) (Z0 : n0 ≤ h0.size) (F_o0_firstProducer : Fld Z h0 o0 "com/example/tideplan/tideplan/model/SubtaskGroup" "firstProducer" "I" (.int (0 : Int32))) (F_o0_lastProducer : Fld Z h0 o0 "com/example/tideplan/tideplan/model/SubtaskGroup" "lastProducer" "I" (.int (0 : Int32))) (F_o0_firstConsumer : Fld Z h0 o0 "com/example/tideplan/tideplan/model/SubtaskGroup" "firstConsumer" "I" (.int (0 : Int32))) (F_o0_lastConsumer : Fld Z h0 o0 "com/example/tideplan/tideplan/model/SubtaskGroup" "lastConsumer" "I" (.int (0 : Int32))) (E_o0 : Exa Z h0 o0 "com/example/tideplan/tideplan/model/SubtaskGroup") (ge_o0 : n0 ≤ o0) :
    MetFree l (⟨"com/example/tideplan/tideplan/model/SubtaskGroup", "<init>", "(IIII)V"⟩ : MethodName) (head1 (Jvm.Cond.code (⟨"com/example/tideplan/tideplan/model/SubtaskGroup", "<init>", "(IIII)V"⟩ : MethodName) prog_26_method_1_code 5 none :: ws) ({ frames := 2, cells := 0, slots := 0, locals := 24 } : Room)) (fun a U => a = #[(.ref o0), (.int p1), (.int p2), (.int p3), (.int p4)] ∧ Z.Warmed39 U.vm ∧ U.heap = h0) (fun _ _ _ _ _ => True) (fun _ U o U' => ∃ v L, o = .returned v ∧ Q_rm4 Z o0 p1 p2 p3 p4 h0 n0 v U'.heap L ∧ FrameEnd U o U' L ({ frames := 2, cells := 0, slots := 0, locals := 24 } : Room).cells ({ frames := 2, cells := 0, slots := 0, locals := 24 } : Room).slots) := by
  refine MetFree.of_bodySF (plainFor_of_name pn_rm4) hisR ?_
  intro p e s m args below meth c s₁ Bd hml0 hP hK
  obtain ⟨rfl, hZ, hh⟩ := hP
  have hx := Bd.exec
  have hby := Bd.bytes
  have hml : c.maxLocals = 5 := hml0
  have hown : s.vm.findClass "com/example/tideplan/tideplan/model/SubtaskGroup" = some m.cls := findClass_of_methodNamed Bd.named
  have hnm := (name_of_methodNamed Bd.named Bd.method).1
  have X0 : Stand p l e ({ frames := 2, cells := 0, slots := 0, locals := 24 } : Room) s m #[(.ref o0), (.int p1), (.int p2), (.int p3), (.int p4)] below meth c s₁ [] 0 0 := Stand.of_body Bd
  have e0 : s₁.heap = h0 := by rw [← hh, Bd.state]; rfl
  have N0 := Fr.nil n0
  have q0 : Steps p.tables e below (s₁.setTop (entryFrame m #[(.ref o0), (.int p1), (.int p2), (.int p3), (.int p4)] 5)) (s₁.setTop (mkF m 0 #[.val (.ref o0), .val (.int p1), .val (.int p2), .val (.int p3), .val (.int p4)] [])) := castTop (ef_rm4 m o0 p1 p2 p3 p4) (Steps.refl _)
  have K0 : Keep h0 h0 [o0] := Keep.refl _ _
  have q1 : Steps p.tables e below (s₁.setTop (entryFrame m #[(.ref o0), (.int p1), (.int p2), (.int p3), (.int p4)] 5)) (s₁.setTop (mkF m 1 #[.val (.ref o0), .val (.int p1), .val (.int p2), .val (.int p3), .val (.int p4)] [(.ref o0)])) := q0.trans (by
      show Steps p.tables e below (s₁.setTop (mkF m 0 #[.val (.ref o0), .val (.int p1), .val (.int p2), .val (.int p3), .val (.int p4)] [])) _
      refine XS.aloadN X0.here hx rfl (hb hby d3_0) rfl rfl ?_
      show Steps p.tables e below (s₁.setTop (mkF m 1 #[.val (.ref o0), .val (.int p1), .val (.int p2), .val (.int p3), .val (.int p4)] [(.ref o0)])) _
      exact Steps.refl _)
  obtain ⟨_, _, ⟨T2, L2, k2, n2⟩, -, X2, ⟨Lc2, hQ2, l2, y2, z2⟩, st2⟩ := X0.specialBack hx (y := (⟨"java/lang/Record", "<init>", "()V"⟩ : MethodName)) rfl hown (mvT hZ (hw _ (List.mem_of_getElem? (i := 15) rfl))) (mvT hZ (hw _ (List.mem_of_getElem? (i := 16) rfl))) (mvT hZ (hw _ (List.mem_of_getElem? (i := 19) rfl))) (by decide) (backOf (W := 0) (rm3 l Z a0 hw [] o0 h0 n0 Z0) hZ (hw _ (List.mem_of_getElem? (i := 19) rfl)) (hw _ (List.mem_of_getElem? (i := 18) rfl)) (by decide) (by decide)) (g := (mkF m 1 #[.val (.ref o0), .val (.int p1), .val (.int p2), .val (.int p3), .val (.int p4)] [(.ref o0)])) rfl (by rw [hml]; rfl) (Steps.refl _) (a := o0) (argsL := []) (rest := []) (lenOf pd_0 rfl) rfl (by show 2 * 0 + _ ≤ _; exact Nat.le_of_eq rfl) (hb hby d3_1) (fun _ _ => ⟨rfl, e0, (by decide : 0 + 0 ≤ _), (by decide : 0 + 0 ≤ _)⟩)
  dsimp only [Pt.U, Pt.locs, Pt.cells, Pt.slots] at X2 l2 y2 z2 st2 hQ2
  subst l2 y2 z2
  obtain ⟨rfl, N2q, e2⟩ := hQ2
  have N2 := Fr.app N0 N2q
  have q3 : Steps p.tables e below (s₁.setTop (entryFrame m #[(.ref o0), (.int p1), (.int p2), (.int p3), (.int p4)] 5)) (T2.setTop (mkF m 4 #[.val (.ref o0), .val (.int p1), .val (.int p2), .val (.int p3), .val (.int p4)] [])) := q1.trans (st2)
  have q4 : Steps p.tables e below (s₁.setTop (entryFrame m #[(.ref o0), (.int p1), (.int p2), (.int p3), (.int p4)] 5)) (T2.setTop (mkF m 6 #[.val (.ref o0), .val (.int p1), .val (.int p2), .val (.int p3), .val (.int p4)] [(.int p1), (.ref o0)])) := q3.trans (by
      show Steps p.tables e below (T2.setTop (mkF m 4 #[.val (.ref o0), .val (.int p1), .val (.int p2), .val (.int p3), .val (.int p4)] [])) _
      refine XS.aloadN X2.here hx rfl (hb hby d3_4) rfl rfl ?_
      show Steps p.tables e below (T2.setTop (mkF m 5 #[.val (.ref o0), .val (.int p1), .val (.int p2), .val (.int p3), .val (.int p4)] [(.ref o0)])) _
      refine XS.iloadN X2.here hx rfl (hb hby d3_5) rfl ?_
      show Steps p.tables e below (T2.setTop (mkF m 6 #[.val (.ref o0), .val (.int p1), .val (.int p2), .val (.int p3), .val (.int p4)] [(.int p1), (.ref o0)])) _
      exact Steps.refl _)
  obtain ⟨T5, h5, X5, e5, W5, st5⟩ := putF X2 hx hZ hown (host := "") (Or.inl (hw _ (List.mem_of_getElem? (i := 23) rfl))) Via.refl e2 F_o0_firstProducer E_o0 (Or.inr ⟨(hw _ (List.mem_of_getElem? (i := 24) rfl)), rfl, hnm⟩) (hw _ (List.mem_of_getElem? (i := 10) rfl)) (ty := .int) (by decide) rfl rfl (g := (mkF m 6 #[.val (.ref o0), .val (.int p1), .val (.int p2), .val (.int p3), .val (.int p4)] [(.int p1), (.ref o0)])) rfl rfl (hb hby d3_6)
  have N5 := Fr.snoc X5 N2 ge_o0
  have Xo0_5 := E_o0.wr W5
  have Fo0_lastProducer_5 := F_o0_lastProducer.other W5 (Or.inr (slot_ne (Or.inr (hw _ (List.mem_of_getElem? (i := 26) rfl))) (Or.inr (hw _ (List.mem_of_getElem? (i := 24) rfl))) (by decide) (t := .int) (t' := .int) (by decide) (by decide)))
  have Fo0_firstConsumer_5 := F_o0_firstConsumer.other W5 (Or.inr (slot_ne (Or.inr (hw _ (List.mem_of_getElem? (i := 28) rfl))) (Or.inr (hw _ (List.mem_of_getElem? (i := 24) rfl))) (by decide) (t := .int) (t' := .int) (by decide) (by decide)))
  have Fo0_lastConsumer_5 := F_o0_lastConsumer.other W5 (Or.inr (slot_ne (Or.inr (hw _ (List.mem_of_getElem? (i := 30) rfl))) (Or.inr (hw _ (List.mem_of_getElem? (i := 24) rfl))) (by decide) (t := .int) (t' := .int) (by decide) (by decide)))
  have Z5 : n0 ≤ h5.size := Own.size_wr W5 Z0
  have K5 : Keep h0 h5 [o0] := K0.wr W5 (Or.inl (List.mem_of_getElem? (i := 0) rfl))
  have Fo0_firstProducer_5 := F_o0_firstProducer.same W5
  have q6 : Steps p.tables e below (s₁.setTop (entryFrame m #[(.ref o0), (.int p1), (.int p2), (.int p3), (.int p4)] 5)) (T5.setTop (mkF m 9 #[.val (.ref o0), .val (.int p1), .val (.int p2), .val (.int p3), .val (.int p4)] [])) := q4.trans (st5 _ (Steps.refl _))
  have q7 : Steps p.tables e below (s₁.setTop (entryFrame m #[(.ref o0), (.int p1), (.int p2), (.int p3), (.int p4)] 5)) (T5.setTop (mkF m 11 #[.val (.ref o0), .val (.int p1), .val (.int p2), .val (.int p3), .val (.int p4)] [(.int p2), (.ref o0)])) := q6.trans (by
      show Steps p.tables e below (T5.setTop (mkF m 9 #[.val (.ref o0), .val (.int p1), .val (.int p2), .val (.int p3), .val (.int p4)] [])) _
      refine XS.aloadN X5.here hx rfl (hb hby d3_9) rfl rfl ?_
      show Steps p.tables e below (T5.setTop (mkF m 10 #[.val (.ref o0), .val (.int p1), .val (.int p2), .val (.int p3), .val (.int p4)] [(.ref o0)])) _
      refine XS.iloadN X5.here hx rfl (hb hby d3_10) rfl ?_
      show Steps p.tables e below (T5.setTop (mkF m 11 #[.val (.ref o0), .val (.int p1), .val (.int p2), .val (.int p3), .val (.int p4)] [(.int p2), (.ref o0)])) _
      exact Steps.refl _)
  obtain ⟨T8, h8, X8, e8, W8, st8⟩ := putF X5 hx hZ hown (host := "") (Or.inl (hw _ (List.mem_of_getElem? (i := 25) rfl))) Via.refl e5 Fo0_lastProducer_5 Xo0_5 (Or.inr ⟨(hw _ (List.mem_of_getElem? (i := 26) rfl)), rfl, hnm⟩) (hw _ (List.mem_of_getElem? (i := 10) rfl)) (ty := .int) (by decide) rfl rfl (g := (mkF m 11 #[.val (.ref o0), .val (.int p1), .val (.int p2), .val (.int p3), .val (.int p4)] [(.int p2), (.ref o0)])) rfl rfl (hb hby d3_11)
  have N8 := Fr.snoc X8 N5 ge_o0
  have Xo0_8 := Xo0_5.wr W8
  have Fo0_firstProducer_8 := Fo0_firstProducer_5.other W8 (Or.inr (slot_ne (Or.inr (hw _ (List.mem_of_getElem? (i := 24) rfl))) (Or.inr (hw _ (List.mem_of_getElem? (i := 26) rfl))) (by decide) (t := .int) (t' := .int) (by decide) (by decide)))
  have Fo0_firstConsumer_8 := Fo0_firstConsumer_5.other W8 (Or.inr (slot_ne (Or.inr (hw _ (List.mem_of_getElem? (i := 28) rfl))) (Or.inr (hw _ (List.mem_of_getElem? (i := 26) rfl))) (by decide) (t := .int) (t' := .int) (by decide) (by decide)))
  have Fo0_lastConsumer_8 := Fo0_lastConsumer_5.other W8 (Or.inr (slot_ne (Or.inr (hw _ (List.mem_of_getElem? (i := 30) rfl))) (Or.inr (hw _ (List.mem_of_getElem? (i := 26) rfl))) (by decide) (t := .int) (t' := .int) (by decide) (by decide)))
  have Z8 : n0 ≤ h8.size := Own.size_wr W8 Z5
  have K8 : Keep h0 h8 [o0] := K5.wr W8 (Or.inl (List.mem_of_getElem? (i := 0) rfl))
  have Fo0_lastProducer_8 := Fo0_lastProducer_5.same W8
  have q9 : Steps p.tables e below (s₁.setTop (entryFrame m #[(.ref o0), (.int p1), (.int p2), (.int p3), (.int p4)] 5)) (T8.setTop (mkF m 14 #[.val (.ref o0), .val (.int p1), .val (.int p2), .val (.int p3), .val (.int p4)] [])) := q7.trans (st8 _ (Steps.refl _))
  have q10 : Steps p.tables e below (s₁.setTop (entryFrame m #[(.ref o0), (.int p1), (.int p2), (.int p3), (.int p4)] 5)) (T8.setTop (mkF m 16 #[.val (.ref o0), .val (.int p1), .val (.int p2), .val (.int p3), .val (.int p4)] [(.int p3), (.ref o0)])) := q9.trans (by
      show Steps p.tables e below (T8.setTop (mkF m 14 #[.val (.ref o0), .val (.int p1), .val (.int p2), .val (.int p3), .val (.int p4)] [])) _
      refine XS.aloadN X8.here hx rfl (hb hby d3_14) rfl rfl ?_
      show Steps p.tables e below (T8.setTop (mkF m 15 #[.val (.ref o0), .val (.int p1), .val (.int p2), .val (.int p3), .val (.int p4)] [(.ref o0)])) _
      refine XS.iloadN X8.here hx rfl (hb hby d3_15) rfl ?_
      show Steps p.tables e below (T8.setTop (mkF m 16 #[.val (.ref o0), .val (.int p1), .val (.int p2), .val (.int p3), .val (.int p4)] [(.int p3), (.ref o0)])) _
      exact Steps.refl _)
  obtain ⟨T11, h11, X11, e11, W11, st11⟩ := putF X8 hx hZ hown (host := "") (Or.inl (hw _ (List.mem_of_getElem? (i := 27) rfl))) Via.refl e8 Fo0_firstConsumer_8 Xo0_8 (Or.inr ⟨(hw _ (List.mem_of_getElem? (i := 28) rfl)), rfl, hnm⟩) (hw _ (List.mem_of_getElem? (i := 10) rfl)) (ty := .int) (by decide) rfl rfl (g := (mkF m 16 #[.val (.ref o0), .val (.int p1), .val (.int p2), .val (.int p3), .val (.int p4)] [(.int p3), (.ref o0)])) rfl rfl (hb hby d3_16)
  have N11 := Fr.snoc X11 N8 ge_o0
  have Xo0_11 := Xo0_8.wr W11
  have Fo0_firstProducer_11 := Fo0_firstProducer_8.other W11 (Or.inr (slot_ne (Or.inr (hw _ (List.mem_of_getElem? (i := 24) rfl))) (Or.inr (hw _ (List.mem_of_getElem? (i := 28) rfl))) (by decide) (t := .int) (t' := .int) (by decide) (by decide)))
  have Fo0_lastProducer_11 := Fo0_lastProducer_8.other W11 (Or.inr (slot_ne (Or.inr (hw _ (List.mem_of_getElem? (i := 26) rfl))) (Or.inr (hw _ (List.mem_of_getElem? (i := 28) rfl))) (by decide) (t := .int) (t' := .int) (by decide) (by decide)))
  have Fo0_lastConsumer_11 := Fo0_lastConsumer_8.other W11 (Or.inr (slot_ne (Or.inr (hw _ (List.mem_of_getElem? (i := 30) rfl))) (Or.inr (hw _ (List.mem_of_getElem? (i := 28) rfl))) (by decide) (t := .int) (t' := .int) (by decide) (by decide)))
  have Z11 : n0 ≤ h11.size := Own.size_wr W11 Z8
  have K11 : Keep h0 h11 [o0] := K8.wr W11 (Or.inl (List.mem_of_getElem? (i := 0) rfl))
  have Fo0_firstConsumer_11 := Fo0_firstConsumer_8.same W11
  have q12 : Steps p.tables e below (s₁.setTop (entryFrame m #[(.ref o0), (.int p1), (.int p2), (.int p3), (.int p4)] 5)) (T11.setTop (mkF m 19 #[.val (.ref o0), .val (.int p1), .val (.int p2), .val (.int p3), .val (.int p4)] [])) := q10.trans (st11 _ (Steps.refl _))
  have q13 : Steps p.tables e below (s₁.setTop (entryFrame m #[(.ref o0), (.int p1), (.int p2), (.int p3), (.int p4)] 5)) (T11.setTop (mkF m 22 #[.val (.ref o0), .val (.int p1), .val (.int p2), .val (.int p3), .val (.int p4)] [(.int p4), (.ref o0)])) := q12.trans (by
      show Steps p.tables e below (T11.setTop (mkF m 19 #[.val (.ref o0), .val (.int p1), .val (.int p2), .val (.int p3), .val (.int p4)] [])) _
      refine XS.aloadN X11.here hx rfl (hb hby d3_19) rfl rfl ?_
      show Steps p.tables e below (T11.setTop (mkF m 20 #[.val (.ref o0), .val (.int p1), .val (.int p2), .val (.int p3), .val (.int p4)] [(.ref o0)])) _
      refine XS.iload X11.here hx rfl (hb hby d3_20) rfl ?_
      show Steps p.tables e below (T11.setTop (mkF m 22 #[.val (.ref o0), .val (.int p1), .val (.int p2), .val (.int p3), .val (.int p4)] [(.int p4), (.ref o0)])) _
      exact Steps.refl _)
  obtain ⟨T14, h14, X14, e14, W14, st14⟩ := putF X11 hx hZ hown (host := "") (Or.inl (hw _ (List.mem_of_getElem? (i := 29) rfl))) Via.refl e11 Fo0_lastConsumer_11 Xo0_11 (Or.inr ⟨(hw _ (List.mem_of_getElem? (i := 30) rfl)), rfl, hnm⟩) (hw _ (List.mem_of_getElem? (i := 10) rfl)) (ty := .int) (by decide) rfl rfl (g := (mkF m 22 #[.val (.ref o0), .val (.int p1), .val (.int p2), .val (.int p3), .val (.int p4)] [(.int p4), (.ref o0)])) rfl rfl (hb hby d3_22)
  have N14 := Fr.snoc X14 N11 ge_o0
  have Xo0_14 := Xo0_11.wr W14
  have Fo0_firstProducer_14 := Fo0_firstProducer_11.other W14 (Or.inr (slot_ne (Or.inr (hw _ (List.mem_of_getElem? (i := 24) rfl))) (Or.inr (hw _ (List.mem_of_getElem? (i := 30) rfl))) (by decide) (t := .int) (t' := .int) (by decide) (by decide)))
  have Fo0_lastProducer_14 := Fo0_lastProducer_11.other W14 (Or.inr (slot_ne (Or.inr (hw _ (List.mem_of_getElem? (i := 26) rfl))) (Or.inr (hw _ (List.mem_of_getElem? (i := 30) rfl))) (by decide) (t := .int) (t' := .int) (by decide) (by decide)))
  have Fo0_firstConsumer_14 := Fo0_firstConsumer_11.other W14 (Or.inr (slot_ne (Or.inr (hw _ (List.mem_of_getElem? (i := 28) rfl))) (Or.inr (hw _ (List.mem_of_getElem? (i := 30) rfl))) (by decide) (t := .int) (t' := .int) (by decide) (by decide)))
  have Z14 : n0 ≤ h14.size := Own.size_wr W14 Z11
  have K14 : Keep h0 h14 [o0] := K11.wr W14 (Or.inl (List.mem_of_getElem? (i := 0) rfl))
  have Fo0_lastConsumer_14 := Fo0_lastConsumer_11.same W14
  have q15 : Steps p.tables e below (s₁.setTop (entryFrame m #[(.ref o0), (.int p1), (.int p2), (.int p3), (.int p4)] 5)) (T14.setTop (mkF m 25 #[.val (.ref o0), .val (.int p1), .val (.int p2), .val (.int p3), .val (.int p4)] [])) := q13.trans (st14 _ (Steps.refl _))
  obtain ⟨fs, hr, hrun, hended, hW, hsame⟩ := X14.leave (v := none) (fun _ => rfl)
  refine ⟨_, _, q15.trans ?_, hrun, hended, _, _, rfl, ?_, ⟨_, rfl⟩, hW, hsame.mono (by decide) (by decide)⟩
  · exact X14.returnOut hx Bd.returns (hb hby d3_25) hr
  · show Q_rm4 Z o0 p1 p2 p3 p4 h0 n0 _ T14.heap _
    rw [e14]
    exact ⟨rfl, N14, K14, Xo0_14, Fo0_firstProducer_14, Fo0_lastProducer_14, Fo0_firstConsumer_14, Fo0_lastConsumer_14⟩

theorem d6_0 : decode prog_26_method_2_code 0 = .ok (.aload_n 0, 1) := by decide +kernel
theorem d6_1 : decode prog_26_method_2_code 1 = .ok (.getfield 13, 3) := by decide +kernel
theorem d6_4 : decode prog_26_method_2_code 4 = .ok (.aload_n 0, 1) := by decide +kernel
theorem d6_5 : decode prog_26_method_2_code 5 = .ok (.getfield 7, 3) := by decide +kernel
theorem d6_8 : decode prog_26_method_2_code 8 = .ok (.isub, 1) := by decide +kernel
theorem d6_9 : decode prog_26_method_2_code 9 = .ok (.iconst 1, 1) := by decide +kernel
theorem d6_10 : decode prog_26_method_2_code 10 = .ok (.iadd, 1) := by decide +kernel
theorem d6_11 : decode prog_26_method_2_code 11 = .ok (.i2l, 1) := by decide +kernel
theorem d6_12 : decode prog_26_method_2_code 12 = .ok (.aload_n 0, 1) := by decide +kernel
theorem d6_13 : decode prog_26_method_2_code 13 = .ok (.getfield 19, 3) := by decide +kernel
theorem d6_16 : decode prog_26_method_2_code 16 = .ok (.aload_n 0, 1) := by decide +kernel
theorem d6_17 : decode prog_26_method_2_code 17 = .ok (.getfield 16, 3) := by decide +kernel
theorem d6_20 : decode prog_26_method_2_code 20 = .ok (.isub, 1) := by decide +kernel
theorem d6_21 : decode prog_26_method_2_code 21 = .ok (.iconst 1, 1) := by decide +kernel
theorem d6_22 : decode prog_26_method_2_code 22 = .ok (.iadd, 1) := by decide +kernel
theorem d6_23 : decode prog_26_method_2_code 23 = .ok (.i2l, 1) := by decide +kernel
theorem d6_24 : decode prog_26_method_2_code 24 = .ok (.lmul, 1) := by decide +kernel
theorem d6_25 : decode prog_26_method_2_code 25 = .ok (.lreturn, 1) := by decide +kernel
theorem pn_rm5 : plainName "com/example/tideplan/tideplan/model/SubtaskGroup" = true := by first | (simp [plainName, overriddenIn]; done) | decide +kernel
theorem ef_rm5 (m : MethodId) (o0 : Addr) : entryFrame m #[(.ref o0)] 1 = mkF m 0 #[.val (.ref o0)] [] := by first | (simp [entryFrame, mkF, argsToLocals, Value.category]; done) | rfl
def Q_rm5 (Z : State) (o0 : Addr) (u0 : Int32) (u1 : Int32) (u2 : Int32) (u3 : Int32) (h0 : Heap) (n0 : Nat) (v : Option Value) (h : Heap) (L : List Loc) : Prop := v = some (.long ((((u1 - u0) + (1 : Int32)).toInt64) * (((u3 - u2) + (1 : Int32)).toInt64))) ∧ Fr n0 L ∧ h = h0
set_option maxRecDepth 65536 in
set_option maxHeartbeats 40000000 in
theorem rm5 (l : Launch) (Z : State) (a0 : Array Value) (hw : ∀ d ∈ tables_1, d.before a0 Z = true) (ws : List Jvm.Cond) (o0 : Addr) (u0 : Int32) (u1 : Int32) (u2 : Int32) (u3 : Int32) (h0 : Heap) (n0 : Nat) (Z0 : n0 ≤ h0.size) (F_o0_firstProducer : Fld Z h0 o0 "com/example/tideplan/tideplan/model/SubtaskGroup" "firstProducer" "I" (.int u0)) (F_o0_lastProducer : Fld Z h0 o0 "com/example/tideplan/tideplan/model/SubtaskGroup" "lastProducer" "I" (.int u1)) (F_o0_firstConsumer : Fld Z h0 o0 "com/example/tideplan/tideplan/model/SubtaskGroup" "firstConsumer" "I" (.int u2)) (F_o0_lastConsumer : Fld Z h0 o0 "com/example/tideplan/tideplan/model/SubtaskGroup" "lastConsumer" "I" (.int u3)) :
    MetFree l (⟨"com/example/tideplan/tideplan/model/SubtaskGroup", "connections", "()J"⟩ : MethodName) (head1 (Jvm.Cond.code (⟨"com/example/tideplan/tideplan/model/SubtaskGroup", "connections", "()J"⟩ : MethodName) prog_26_method_2_code 1 (some .long) :: ws) ({ frames := 0, cells := 0, slots := 0, locals := 0 } : Room)) (fun a U => a = #[(.ref o0)] ∧ Z.Warmed39 U.vm ∧ U.heap = h0) (fun _ _ _ _ _ => True) (fun _ U o U' => ∃ v L, o = .returned v ∧ Q_rm5 Z o0 u0 u1 u2 u3 h0 n0 v U'.heap L ∧ FrameEnd U o U' L ({ frames := 0, cells := 0, slots := 0, locals := 0 } : Room).cells ({ frames := 0, cells := 0, slots := 0, locals := 0 } : Room).slots) := by
  refine MetFree.of_bodySF (plainFor_of_name pn_rm5) hisR ?_
  intro p e s m args below meth c s₁ Bd hml0 hP hK
  obtain ⟨rfl, hZ, hh⟩ := hP
  have hx := Bd.exec
  have hby := Bd.bytes
  have hml : c.maxLocals = 1 := hml0
  have hown : s.vm.findClass "com/example/tideplan/tideplan/model/SubtaskGroup" = some m.cls := findClass_of_methodNamed Bd.named
  have hnm := (name_of_methodNamed Bd.named Bd.method).1
  have X0 : Stand p l e ({ frames := 0, cells := 0, slots := 0, locals := 0 } : Room) s m #[(.ref o0)] below meth c s₁ [] 0 0 := Stand.of_body Bd
  have e0 : s₁.heap = h0 := by rw [← hh, Bd.state]; rfl
  have N0 := Fr.nil n0
  have q0 : Steps p.tables e below (s₁.setTop (entryFrame m #[(.ref o0)] 1)) (s₁.setTop (mkF m 0 #[.val (.ref o0)] [])) := castTop (ef_rm5 m o0) (Steps.refl _)
  have q1 : Steps p.tables e below (s₁.setTop (entryFrame m #[(.ref o0)] 1)) (s₁.setTop (mkF m 1 #[.val (.ref o0)] [(.ref o0)])) := q0.trans (by
      show Steps p.tables e below (s₁.setTop (mkF m 0 #[.val (.ref o0)] [])) _
      refine XS.aloadN X0.here hx rfl (hb hby d6_0) rfl rfl ?_
      show Steps p.tables e below (s₁.setTop (mkF m 1 #[.val (.ref o0)] [(.ref o0)])) _
      exact Steps.refl _)
  obtain ⟨T2, X2, e2, st2⟩ := getF X0 hx hZ hown (host := "") (Or.inl (hw _ (List.mem_of_getElem? (i := 25) rfl))) Via.refl e0 F_o0_lastProducer (g := (mkF m 1 #[.val (.ref o0)] [(.ref o0)])) rfl rfl (hb hby d6_1)
  have q3 : Steps p.tables e below (s₁.setTop (entryFrame m #[(.ref o0)] 1)) (T2.setTop (mkF m 4 #[.val (.ref o0)] [(.int u1)])) := q1.trans (st2 _ (Steps.refl _))
  have q4 : Steps p.tables e below (s₁.setTop (entryFrame m #[(.ref o0)] 1)) (T2.setTop (mkF m 5 #[.val (.ref o0)] [(.ref o0), (.int u1)])) := q3.trans (by
      show Steps p.tables e below (T2.setTop (mkF m 4 #[.val (.ref o0)] [(.int u1)])) _
      refine XS.aloadN X2.here hx rfl (hb hby d6_4) rfl rfl ?_
      show Steps p.tables e below (T2.setTop (mkF m 5 #[.val (.ref o0)] [(.ref o0), (.int u1)])) _
      exact Steps.refl _)
  obtain ⟨T5, X5, e5, st5⟩ := getF X2 hx hZ hown (host := "") (Or.inl (hw _ (List.mem_of_getElem? (i := 23) rfl))) Via.refl e2 F_o0_firstProducer (g := (mkF m 5 #[.val (.ref o0)] [(.ref o0), (.int u1)])) rfl rfl (hb hby d6_5)
  have q6 : Steps p.tables e below (s₁.setTop (entryFrame m #[(.ref o0)] 1)) (T5.setTop (mkF m 8 #[.val (.ref o0)] [(.int u0), (.int u1)])) := q4.trans (st5 _ (Steps.refl _))
  have q7 : Steps p.tables e below (s₁.setTop (entryFrame m #[(.ref o0)] 1)) (T5.setTop (mkF m 13 #[.val (.ref o0)] [(.ref o0), (.long (((u1 - u0) + (1 : Int32)).toInt64))])) := q6.trans (by
      show Steps p.tables e below (T5.setTop (mkF m 8 #[.val (.ref o0)] [(.int u0), (.int u1)])) _
      refine XS.isub X5.here hx rfl (hb hby d6_8) rfl ?_
      show Steps p.tables e below (T5.setTop (mkF m 9 #[.val (.ref o0)] [(.int (u1 - u0))])) _
      refine XS.iconst X5.here hx rfl (hb hby d6_9) ?_
      show Steps p.tables e below (T5.setTop (mkF m 10 #[.val (.ref o0)] [(.int (1 : Int32)), (.int (u1 - u0))])) _
      refine XS.iadd X5.here hx rfl (hb hby d6_10) rfl ?_
      show Steps p.tables e below (T5.setTop (mkF m 11 #[.val (.ref o0)] [(.int ((u1 - u0) + (1 : Int32)))])) _
      refine XS.i2l X5.here hx rfl (hb hby d6_11) rfl ?_
      show Steps p.tables e below (T5.setTop (mkF m 12 #[.val (.ref o0)] [(.long (((u1 - u0) + (1 : Int32)).toInt64))])) _
      refine XS.aloadN X5.here hx rfl (hb hby d6_12) rfl rfl ?_
      show Steps p.tables e below (T5.setTop (mkF m 13 #[.val (.ref o0)] [(.ref o0), (.long (((u1 - u0) + (1 : Int32)).toInt64))])) _
      exact Steps.refl _)
  obtain ⟨T8, X8, e8, st8⟩ := getF X5 hx hZ hown (host := "") (Or.inl (hw _ (List.mem_of_getElem? (i := 29) rfl))) Via.refl e5 F_o0_lastConsumer (g := (mkF m 13 #[.val (.ref o0)] [(.ref o0), (.long (((u1 - u0) + (1 : Int32)).toInt64))])) rfl rfl (hb hby d6_13)
  have q9 : Steps p.tables e below (s₁.setTop (entryFrame m #[(.ref o0)] 1)) (T8.setTop (mkF m 16 #[.val (.ref o0)] [(.int u3), (.long (((u1 - u0) + (1 : Int32)).toInt64))])) := q7.trans (st8 _ (Steps.refl _))
  have q10 : Steps p.tables e below (s₁.setTop (entryFrame m #[(.ref o0)] 1)) (T8.setTop (mkF m 17 #[.val (.ref o0)] [(.ref o0), (.int u3), (.long (((u1 - u0) + (1 : Int32)).toInt64))])) := q9.trans (by
      show Steps p.tables e below (T8.setTop (mkF m 16 #[.val (.ref o0)] [(.int u3), (.long (((u1 - u0) + (1 : Int32)).toInt64))])) _
      refine XS.aloadN X8.here hx rfl (hb hby d6_16) rfl rfl ?_
      show Steps p.tables e below (T8.setTop (mkF m 17 #[.val (.ref o0)] [(.ref o0), (.int u3), (.long (((u1 - u0) + (1 : Int32)).toInt64))])) _
      exact Steps.refl _)
  obtain ⟨T11, X11, e11, st11⟩ := getF X8 hx hZ hown (host := "") (Or.inl (hw _ (List.mem_of_getElem? (i := 27) rfl))) Via.refl e8 F_o0_firstConsumer (g := (mkF m 17 #[.val (.ref o0)] [(.ref o0), (.int u3), (.long (((u1 - u0) + (1 : Int32)).toInt64))])) rfl rfl (hb hby d6_17)
  have q12 : Steps p.tables e below (s₁.setTop (entryFrame m #[(.ref o0)] 1)) (T11.setTop (mkF m 20 #[.val (.ref o0)] [(.int u2), (.int u3), (.long (((u1 - u0) + (1 : Int32)).toInt64))])) := q10.trans (st11 _ (Steps.refl _))
  have q13 : Steps p.tables e below (s₁.setTop (entryFrame m #[(.ref o0)] 1)) (T11.setTop (mkF m 25 #[.val (.ref o0)] [(.long ((((u1 - u0) + (1 : Int32)).toInt64) * (((u3 - u2) + (1 : Int32)).toInt64)))])) := q12.trans (by
      show Steps p.tables e below (T11.setTop (mkF m 20 #[.val (.ref o0)] [(.int u2), (.int u3), (.long (((u1 - u0) + (1 : Int32)).toInt64))])) _
      refine XS.isub X11.here hx rfl (hb hby d6_20) rfl ?_
      show Steps p.tables e below (T11.setTop (mkF m 21 #[.val (.ref o0)] [(.int (u3 - u2)), (.long (((u1 - u0) + (1 : Int32)).toInt64))])) _
      refine XS.iconst X11.here hx rfl (hb hby d6_21) ?_
      show Steps p.tables e below (T11.setTop (mkF m 22 #[.val (.ref o0)] [(.int (1 : Int32)), (.int (u3 - u2)), (.long (((u1 - u0) + (1 : Int32)).toInt64))])) _
      refine XS.iadd X11.here hx rfl (hb hby d6_22) rfl ?_
      show Steps p.tables e below (T11.setTop (mkF m 23 #[.val (.ref o0)] [(.int ((u3 - u2) + (1 : Int32))), (.long (((u1 - u0) + (1 : Int32)).toInt64))])) _
      refine XS.i2l X11.here hx rfl (hb hby d6_23) rfl ?_
      show Steps p.tables e below (T11.setTop (mkF m 24 #[.val (.ref o0)] [(.long (((u3 - u2) + (1 : Int32)).toInt64)), (.long (((u1 - u0) + (1 : Int32)).toInt64))])) _
      refine XS.lmul X11.here hx rfl (hb hby d6_24) rfl ?_
      show Steps p.tables e below (T11.setTop (mkF m 25 #[.val (.ref o0)] [(.long ((((u1 - u0) + (1 : Int32)).toInt64) * (((u3 - u2) + (1 : Int32)).toInt64)))])) _
      exact Steps.refl _)
  obtain ⟨fs, hr, hrun, hended, hW, hsame⟩ := X11.leave (v := some (.long ((((u1 - u0) + (1 : Int32)).toInt64) * (((u3 - u2) + (1 : Int32)).toInt64)))) (fun h => by rw [Bd.returns] at h; cases h)
  refine ⟨_, _, q13.trans ?_, hrun, hended, _, _, rfl, ?_, ⟨_, rfl⟩, hW, hsame.mono (by decide) (by decide)⟩
  · exact X11.lreturnOut hx Bd.returns (hb hby d6_25) hr
  · show Q_rm5 Z o0 u0 u1 u2 u3 h0 n0 _ T11.heap _
    rw [e11]
    exact ⟨rfl, N0, rfl⟩

theorem own_F12 (x y : Int32) (hx : 0 ≤ x.toInt) (hy : 0 ≤ y.toInt) : 0 ≤ (F1 x y).toInt ∧ (F1 x y).toInt ≤ (F2 x y).toInt ∧ (F2 x y).toInt < 2147483648 := by
  have h1 := x.toInt_lt
  have h2 := y.toInt_lt
  unfold F1 F2
  simp only [Int32.lt_iff_toInt_lt]
  repeat' split
  all_goals omega
theorem own_np (f l : Int32) (np : Int64) (h0 : 0 ≤ f.toInt) (h1 : f.toInt ≤ l.toInt) (h2 : l.toInt < 2147483648) (hnp : np = (((l.toInt64) - (f.toInt64)) + (1 : Int64))) (hle : ¬ (2147483647 : Int64) < np) : ((l - f) + (1 : Int32)).toInt64 = np := by
  have e1 : l.toInt64.toInt = l.toInt := Int32.toInt_toInt64 l
  have e2 : f.toInt64.toInt = f.toInt := Int32.toInt_toInt64 f
  have l1 : (1 : Int64).toInt = 1 := rfl
  have l2 : (1 : Int32).toInt = 1 := rfl
  have s1 : (l.toInt64 - f.toInt64).toInt = l.toInt - f.toInt := by rw [Jvm.Kit.i64_sub (by rw [e1, e2]; omega) (by rw [e1, e2]; omega), e1, e2]
  have s2 : np.toInt = l.toInt - f.toInt + 1 := by rw [hnp, Jvm.Kit.i64_add (by rw [s1, l1]; omega) (by rw [s1, l1]; omega), s1, l1]
  rw [Int64.lt_iff_toInt_lt, s2, show (2147483647 : Int64).toInt = 2147483647 from rfl] at hle
  have t1 : (l - f).toInt = l.toInt - f.toInt := Jvm.Kit.i32_sub (by omega) (by omega)
  have t2 : ((l - f) + 1).toInt = l.toInt - f.toInt + 1 := by rw [Jvm.Kit.i32_add (by rw [t1, l2]; omega) (by rw [t1, l2]; omega), t1, l2]
  apply Int64.toInt_inj.mp
  rw [Int32.toInt_toInt64, t2, s2]

theorem plainA (p0 : Int32) (p1 : Int32) (p2 : Int32) (p3 : Int32) (x0 : Int32) (x1 : Int32) (fp : Int32) (lp : Int32) (x2 : Int32) (x3 : Int32) (fc : Int32) (lc : Int32) (np : Int64) (nc : Int64) (zr : Int32)
    (hc24 : (2147483647 : Int64) < np)
    (hx0 : x0 = (p0 &&& (2147483647 : Int32)))
    (hx1 : x1 = (p1 &&& (2147483647 : Int32)))
    (hfp : fp = (F1 x0 x1))
    (hlp : lp = (F2 x0 x1))
    (hx2 : x2 = (p2 &&& (2147483647 : Int32)))
    (hx3 : x3 = (p3 &&& (2147483647 : Int32)))
    (hfc : fc = (F1 x2 x3))
    (hlc : lc = (F2 x2 x3))
    (hnp : np = (((lp.toInt64) - (fp.toInt64)) + (1 : Int64)))
    (hnc : nc = (((lc.toInt64) - (fc.toInt64)) + (1 : Int64)))
    (hzr : zr = (1 : Int32)) :
    zr = 1 := by
  exact hzr

theorem plainB (p0 : Int32) (p1 : Int32) (p2 : Int32) (p3 : Int32) (x0 : Int32) (x1 : Int32) (fp : Int32) (lp : Int32) (x2 : Int32) (x3 : Int32) (fc : Int32) (lc : Int32) (np : Int64) (nc : Int64) (zr : Int32)
    (hc24 : ¬ ((2147483647 : Int64) < np))
    (hc29 : (2147483647 : Int64) < nc)
    (hx0 : x0 = (p0 &&& (2147483647 : Int32)))
    (hx1 : x1 = (p1 &&& (2147483647 : Int32)))
    (hfp : fp = (F1 x0 x1))
    (hlp : lp = (F2 x0 x1))
    (hx2 : x2 = (p2 &&& (2147483647 : Int32)))
    (hx3 : x3 = (p3 &&& (2147483647 : Int32)))
    (hfc : fc = (F1 x2 x3))
    (hlc : lc = (F2 x2 x3))
    (hnp : np = (((lp.toInt64) - (fp.toInt64)) + (1 : Int64)))
    (hnc : nc = (((lc.toInt64) - (fc.toInt64)) + (1 : Int64)))
    (hzr : zr = (1 : Int32)) :
    zr = 1 := by
  exact hzr

theorem plainC (p0 : Int32) (p1 : Int32) (p2 : Int32) (p3 : Int32) (x0 : Int32) (x1 : Int32) (fp : Int32) (lp : Int32) (x2 : Int32) (x3 : Int32) (fc : Int32) (lc : Int32) (np : Int64) (nc : Int64) (zr : Int32)
    (hc24 : ¬ ((2147483647 : Int64) < np))
    (hc29 : ¬ ((2147483647 : Int64) < nc))
    (hx0 : x0 = (p0 &&& (2147483647 : Int32)))
    (hx1 : x1 = (p1 &&& (2147483647 : Int32)))
    (hfp : fp = (F1 x0 x1))
    (hlp : lp = (F2 x0 x1))
    (hx2 : x2 = (p2 &&& (2147483647 : Int32)))
    (hx3 : x3 = (p3 &&& (2147483647 : Int32)))
    (hfc : fc = (F1 x2 x3))
    (hlc : lc = (F2 x2 x3))
    (hnp : np = (((lp.toInt64) - (fp.toInt64)) + (1 : Int64)))
    (hnc : nc = (((lc.toInt64) - (fc.toInt64)) + (1 : Int64)))
    (hzr : zr = (if ((((lp - fp) + (1 : Int32)).toInt64) * (((lc - fc) + (1 : Int32)).toInt64)) = (np * nc) then (1 : Int32) else (0 : Int32))) :
    zr = 1 := by
  have b0 := own_pos p0
  have b1 := own_pos p1
  have b2 := own_pos p2
  have b3 := own_pos p3
  rw [← hx0] at b0
  rw [← hx1] at b1
  rw [← hx2] at b2
  rw [← hx3] at b3
  have m1 := own_F12 x0 x1 (by omega) (by omega)
  have m2 := own_F12 x2 x3 (by omega) (by omega)
  rw [← hfp, ← hlp] at m1
  rw [← hfc, ← hlc] at m2
  rw [hzr, own_np fp lp np m1.1 m1.2.1 m1.2.2 hnp hc24, own_np fc lc nc m2.1 m2.2.1 m2.2.2 hnc hc29, if_pos rfl]

theorem pd_1 : parseMethodDescriptor "(II)I" = some ⟨[.int, .int], some .int⟩ := by decide +kernel
theorem pd_2 : parseMethodDescriptor "(IIII)V" = some ⟨[.int, .int, .int, .int], none⟩ := by decide +kernel
theorem pd_3 : parseMethodDescriptor "()J" = some ⟨[], some .long⟩ := by decide +kernel
theorem pn_rm0 : plainName "com/example/tideplan/tideplan/model/SubtaskGroupConnectionsPinLaw" = true := by first | (simp [plainName, overriddenIn]; done) | decide +kernel
theorem ef_rm0 (m : MethodId) (p0 : Int32) (p1 : Int32) (p2 : Int32) (p3 : Int32) : entryFrame m #[(.int p0), (.int p1), (.int p2), (.int p3)] maxLocals = mkF m 0 #[.val (.int p0), .val (.int p1), .val (.int p2), .val (.int p3), .unset, .unset, .unset, .unset, .unset, .unset, .unset, .unset, .unset, .unset, .unset, .unset, .unset] [] := by first | (simp [entryFrame, mkF, argsToLocals, Value.category, maxLocals]; done) | rfl
def Q_rm0 (Z : State) (p0 : Int32) (p1 : Int32) (p2 : Int32) (p3 : Int32) (h0 : Heap) (n0 : Nat) (v : Option Value) (h : Heap) (L : List Loc) : Prop := v = some (.int (1 : Int32)) ∧ Fr n0 L
set_option maxRecDepth 65536 in
set_option maxHeartbeats 40000000 in
theorem rm0 (l : Launch) (Z : State) (a0 : Array Value) (hw : ∀ d ∈ tables_1, d.before a0 Z = true) (ws : List Jvm.Cond) (p0 : Int32) (p1 : Int32) (p2 : Int32) (p3 : Int32) (h0 : Heap) (n0 : Nat) (Z0 : n0 ≤ h0.size) :
    MetFree l x (head1 (Jvm.Cond.code x code maxLocals ret :: ws) room_1) (fun a U => a = #[(.int p0), (.int p1), (.int p2), (.int p3)] ∧ Z.Warmed39 U.vm ∧ U.heap = h0) (fun _ _ _ _ _ => True) (fun _ U o U' => ∃ v L, o = .returned v ∧ Q_rm0 Z p0 p1 p2 p3 h0 n0 v U'.heap L ∧ FrameEnd U o U' L room_1.cells room_1.slots) := by
  refine MetFree.of_bodySF (plainFor_of_name pn_rm0) hisR ?_
  intro p e s m args below meth c s₁ Bd hml0 hP hK
  obtain ⟨rfl, hZ, hh⟩ := hP
  have hx := Bd.exec
  have hby := Bd.bytes
  have hml : c.maxLocals = 17 := hml0
  have hown : s.vm.findClass "com/example/tideplan/tideplan/model/SubtaskGroupConnectionsPinLaw" = some m.cls := findClass_of_methodNamed Bd.named
  have hnm := (name_of_methodNamed Bd.named Bd.method).1
  have X0 : Stand p l e room_1 s m #[(.int p0), (.int p1), (.int p2), (.int p3)] below meth c s₁ [] 0 0 := Stand.of_body Bd
  have e0 : s₁.heap = h0 := by rw [← hh, Bd.state]; rfl
  have N0 := Fr.nil n0
  have q0 : Steps p.tables e below (s₁.setTop (entryFrame m #[(.int p0), (.int p1), (.int p2), (.int p3)] maxLocals)) (s₁.setTop (mkF m 0 #[.val (.int p0), .val (.int p1), .val (.int p2), .val (.int p3), .unset, .unset, .unset, .unset, .unset, .unset, .unset, .unset, .unset, .unset, .unset, .unset, .unset] [])) := castTop (ef_rm0 m p0 p1 p2 p3) (Steps.refl _)
  have q1 : Steps p.tables e below (s₁.setTop (entryFrame m #[(.int p0), (.int p1), (.int p2), (.int p3)] maxLocals)) (s₁.setTop (mkF m 6 #[.val (.int p0), .val (.int p1), .val (.int p2), .val (.int p3), .val (.int (p0 &&& (2147483647 : Int32))), .unset, .unset, .unset, .unset, .unset, .unset, .unset, .unset, .unset, .unset, .unset, .unset] [])) := q0.trans (by
      show Steps p.tables e below (s₁.setTop (mkF m 0 #[.val (.int p0), .val (.int p1), .val (.int p2), .val (.int p3), .unset, .unset, .unset, .unset, .unset, .unset, .unset, .unset, .unset, .unset, .unset, .unset, .unset] [])) _
      refine XS.iloadN X0.here hx rfl (hb hby at_0) rfl ?_
      show Steps p.tables e below (s₁.setTop (mkF m 1 #[.val (.int p0), .val (.int p1), .val (.int p2), .val (.int p3), .unset, .unset, .unset, .unset, .unset, .unset, .unset, .unset, .unset, .unset, .unset, .unset, .unset] [(.int p0)])) _
      refine X0.ldcInt hx hown (mvT hZ (hw _ (List.mem_of_getElem? (i := 0) rfl))) (g := (mkF m 1 #[.val (.int p0), .val (.int p1), .val (.int p2), .val (.int p3), .unset, .unset, .unset, .unset, .unset, .unset, .unset, .unset, .unset, .unset, .unset, .unset, .unset] [(.int p0)])) rfl (hb hby at_1) _ ?_
      show Steps p.tables e below (s₁.setTop (mkF m 3 #[.val (.int p0), .val (.int p1), .val (.int p2), .val (.int p3), .unset, .unset, .unset, .unset, .unset, .unset, .unset, .unset, .unset, .unset, .unset, .unset, .unset] [(.int (2147483647 : Int32)), (.int p0)])) _
      refine XS.iand X0.here hx rfl (hb hby at_3) rfl ?_
      show Steps p.tables e below (s₁.setTop (mkF m 4 #[.val (.int p0), .val (.int p1), .val (.int p2), .val (.int p3), .unset, .unset, .unset, .unset, .unset, .unset, .unset, .unset, .unset, .unset, .unset, .unset, .unset] [(.int (p0 &&& (2147483647 : Int32)))])) _
      refine XS.istore X0.here hx rfl (hb hby at_4) rfl (l' := #[.val (.int p0), .val (.int p1), .val (.int p2), .val (.int p3), .val (.int (p0 &&& (2147483647 : Int32))), .unset, .unset, .unset, .unset, .unset, .unset, .unset, .unset, .unset, .unset, .unset, .unset]) rfl ?_
      show Steps p.tables e below (s₁.setTop (mkF m 6 #[.val (.int p0), .val (.int p1), .val (.int p2), .val (.int p3), .val (.int (p0 &&& (2147483647 : Int32))), .unset, .unset, .unset, .unset, .unset, .unset, .unset, .unset, .unset, .unset, .unset, .unset] [])) _
      exact Steps.refl _)
  obtain ⟨x0, hx0⟩ : ∃ v : Int32, v = (p0 &&& (2147483647 : Int32)) := ⟨_, rfl⟩
  rw [← hx0] at q1
  have q2 : Steps p.tables e below (s₁.setTop (entryFrame m #[(.int p0), (.int p1), (.int p2), (.int p3)] maxLocals)) (s₁.setTop (mkF m 12 #[.val (.int p0), .val (.int p1), .val (.int p2), .val (.int p3), .val (.int x0), .val (.int (p1 &&& (2147483647 : Int32))), .unset, .unset, .unset, .unset, .unset, .unset, .unset, .unset, .unset, .unset, .unset] [])) := q1.trans (by
      show Steps p.tables e below (s₁.setTop (mkF m 6 #[.val (.int p0), .val (.int p1), .val (.int p2), .val (.int p3), .val (.int x0), .unset, .unset, .unset, .unset, .unset, .unset, .unset, .unset, .unset, .unset, .unset, .unset] [])) _
      refine XS.iloadN X0.here hx rfl (hb hby at_6) rfl ?_
      show Steps p.tables e below (s₁.setTop (mkF m 7 #[.val (.int p0), .val (.int p1), .val (.int p2), .val (.int p3), .val (.int x0), .unset, .unset, .unset, .unset, .unset, .unset, .unset, .unset, .unset, .unset, .unset, .unset] [(.int p1)])) _
      refine X0.ldcInt hx hown (mvT hZ (hw _ (List.mem_of_getElem? (i := 0) rfl))) (g := (mkF m 7 #[.val (.int p0), .val (.int p1), .val (.int p2), .val (.int p3), .val (.int x0), .unset, .unset, .unset, .unset, .unset, .unset, .unset, .unset, .unset, .unset, .unset, .unset] [(.int p1)])) rfl (hb hby at_7) _ ?_
      show Steps p.tables e below (s₁.setTop (mkF m 9 #[.val (.int p0), .val (.int p1), .val (.int p2), .val (.int p3), .val (.int x0), .unset, .unset, .unset, .unset, .unset, .unset, .unset, .unset, .unset, .unset, .unset, .unset] [(.int (2147483647 : Int32)), (.int p1)])) _
      refine XS.iand X0.here hx rfl (hb hby at_9) rfl ?_
      show Steps p.tables e below (s₁.setTop (mkF m 10 #[.val (.int p0), .val (.int p1), .val (.int p2), .val (.int p3), .val (.int x0), .unset, .unset, .unset, .unset, .unset, .unset, .unset, .unset, .unset, .unset, .unset, .unset] [(.int (p1 &&& (2147483647 : Int32)))])) _
      refine XS.istore X0.here hx rfl (hb hby at_10) rfl (l' := #[.val (.int p0), .val (.int p1), .val (.int p2), .val (.int p3), .val (.int x0), .val (.int (p1 &&& (2147483647 : Int32))), .unset, .unset, .unset, .unset, .unset, .unset, .unset, .unset, .unset, .unset, .unset]) rfl ?_
      show Steps p.tables e below (s₁.setTop (mkF m 12 #[.val (.int p0), .val (.int p1), .val (.int p2), .val (.int p3), .val (.int x0), .val (.int (p1 &&& (2147483647 : Int32))), .unset, .unset, .unset, .unset, .unset, .unset, .unset, .unset, .unset, .unset, .unset] [])) _
      exact Steps.refl _)
  obtain ⟨x1, hx1⟩ : ∃ v : Int32, v = (p1 &&& (2147483647 : Int32)) := ⟨_, rfl⟩
  rw [← hx1] at q2
  have q3 : Steps p.tables e below (s₁.setTop (entryFrame m #[(.int p0), (.int p1), (.int p2), (.int p3)] maxLocals)) (s₁.setTop (mkF m 16 #[.val (.int p0), .val (.int p1), .val (.int p2), .val (.int p3), .val (.int x0), .val (.int x1), .unset, .unset, .unset, .unset, .unset, .unset, .unset, .unset, .unset, .unset, .unset] [(.int x1), (.int x0)])) := q2.trans (by
      show Steps p.tables e below (s₁.setTop (mkF m 12 #[.val (.int p0), .val (.int p1), .val (.int p2), .val (.int p3), .val (.int x0), .val (.int x1), .unset, .unset, .unset, .unset, .unset, .unset, .unset, .unset, .unset, .unset, .unset] [])) _
      refine XS.iload X0.here hx rfl (hb hby at_12) rfl ?_
      show Steps p.tables e below (s₁.setTop (mkF m 14 #[.val (.int p0), .val (.int p1), .val (.int p2), .val (.int p3), .val (.int x0), .val (.int x1), .unset, .unset, .unset, .unset, .unset, .unset, .unset, .unset, .unset, .unset, .unset] [(.int x0)])) _
      refine XS.iload X0.here hx rfl (hb hby at_14) rfl ?_
      show Steps p.tables e below (s₁.setTop (mkF m 16 #[.val (.int p0), .val (.int p1), .val (.int p2), .val (.int p3), .val (.int x0), .val (.int x1), .unset, .unset, .unset, .unset, .unset, .unset, .unset, .unset, .unset, .unset, .unset] [(.int x1), (.int x0)])) _
      exact Steps.refl _)
  obtain ⟨_, _, ⟨T4, L4, k4, n4⟩, -, X4, ⟨Lc4, hQ4, l4, y4, z4⟩, st4⟩ := Jvm.LawKit.callS X0 hx (y := (⟨"java/lang/Math", "min", "(II)I"⟩ : MethodName)) hown (mvT hZ (hw _ (List.mem_of_getElem? (i := 1) rfl))) (mvT hZ (hw _ (List.mem_of_getElem? (i := 2) rfl))) (mvT hZ (hw _ (List.mem_of_getElem? (i := 3) rfl))) (mvT hZ (hw _ (List.mem_of_getElem? (i := 4) rfl))) (by decide) (backOf (W := 0) (rm1 l Z a0 hw [] x0 x1 h0 n0 Z0) hZ (hw _ (List.mem_of_getElem? (i := 4) rfl)) (hw _ (List.mem_of_getElem? (i := 3) rfl)) (by decide) (by decide)) (g := (mkF m 16 #[.val (.int p0), .val (.int p1), .val (.int p2), .val (.int p3), .val (.int x0), .val (.int x1), .unset, .unset, .unset, .unset, .unset, .unset, .unset, .unset, .unset, .unset, .unset] [(.int x1), (.int x0)])) rfl (by rw [hml]; rfl) (argsL := [(.int x0), (.int x1)]) (rest := []) (lenOf pd_1 rfl) rfl (by show 2 * 0 + _ ≤ _; exact Nat.le_of_eq rfl) (hb hby at_16) (fun _ _ => ⟨rfl, e0, (by decide : 0 + 0 ≤ _), (by decide : 0 + 0 ≤ _)⟩)
  dsimp only [Pt.U, Pt.locs, Pt.cells, Pt.slots] at X4 l4 y4 z4 st4 hQ4
  subst l4 y4 z4
  obtain ⟨rfl, N4q, e4⟩ := hQ4
  have N4 := Fr.app N0 N4q
  have q5 : Steps p.tables e below (s₁.setTop (entryFrame m #[(.int p0), (.int p1), (.int p2), (.int p3)] maxLocals)) (T4.setTop (mkF m 19 #[.val (.int p0), .val (.int p1), .val (.int p2), .val (.int p3), .val (.int x0), .val (.int x1), .unset, .unset, .unset, .unset, .unset, .unset, .unset, .unset, .unset, .unset, .unset] [(.int (F1 x0 x1))])) := q3.trans (st4 _ (Steps.refl _))
  have q6 : Steps p.tables e below (s₁.setTop (entryFrame m #[(.int p0), (.int p1), (.int p2), (.int p3)] maxLocals)) (T4.setTop (mkF m 21 #[.val (.int p0), .val (.int p1), .val (.int p2), .val (.int p3), .val (.int x0), .val (.int x1), .val (.int (F1 x0 x1)), .unset, .unset, .unset, .unset, .unset, .unset, .unset, .unset, .unset, .unset] [])) := q5.trans (by
      show Steps p.tables e below (T4.setTop (mkF m 19 #[.val (.int p0), .val (.int p1), .val (.int p2), .val (.int p3), .val (.int x0), .val (.int x1), .unset, .unset, .unset, .unset, .unset, .unset, .unset, .unset, .unset, .unset, .unset] [(.int (F1 x0 x1))])) _
      refine XS.istore X4.here hx rfl (hb hby at_19) rfl (l' := #[.val (.int p0), .val (.int p1), .val (.int p2), .val (.int p3), .val (.int x0), .val (.int x1), .val (.int (F1 x0 x1)), .unset, .unset, .unset, .unset, .unset, .unset, .unset, .unset, .unset, .unset]) rfl ?_
      show Steps p.tables e below (T4.setTop (mkF m 21 #[.val (.int p0), .val (.int p1), .val (.int p2), .val (.int p3), .val (.int x0), .val (.int x1), .val (.int (F1 x0 x1)), .unset, .unset, .unset, .unset, .unset, .unset, .unset, .unset, .unset, .unset] [])) _
      exact Steps.refl _)
  obtain ⟨fp, hfp⟩ : ∃ v : Int32, v = (F1 x0 x1) := ⟨_, rfl⟩
  rw [← hfp] at q6
  have q7 : Steps p.tables e below (s₁.setTop (entryFrame m #[(.int p0), (.int p1), (.int p2), (.int p3)] maxLocals)) (T4.setTop (mkF m 25 #[.val (.int p0), .val (.int p1), .val (.int p2), .val (.int p3), .val (.int x0), .val (.int x1), .val (.int fp), .unset, .unset, .unset, .unset, .unset, .unset, .unset, .unset, .unset, .unset] [(.int x1), (.int x0)])) := q6.trans (by
      show Steps p.tables e below (T4.setTop (mkF m 21 #[.val (.int p0), .val (.int p1), .val (.int p2), .val (.int p3), .val (.int x0), .val (.int x1), .val (.int fp), .unset, .unset, .unset, .unset, .unset, .unset, .unset, .unset, .unset, .unset] [])) _
      refine XS.iload X4.here hx rfl (hb hby at_21) rfl ?_
      show Steps p.tables e below (T4.setTop (mkF m 23 #[.val (.int p0), .val (.int p1), .val (.int p2), .val (.int p3), .val (.int x0), .val (.int x1), .val (.int fp), .unset, .unset, .unset, .unset, .unset, .unset, .unset, .unset, .unset, .unset] [(.int x0)])) _
      refine XS.iload X4.here hx rfl (hb hby at_23) rfl ?_
      show Steps p.tables e below (T4.setTop (mkF m 25 #[.val (.int p0), .val (.int p1), .val (.int p2), .val (.int p3), .val (.int x0), .val (.int x1), .val (.int fp), .unset, .unset, .unset, .unset, .unset, .unset, .unset, .unset, .unset, .unset] [(.int x1), (.int x0)])) _
      exact Steps.refl _)
  obtain ⟨_, _, ⟨T8, L8, k8, n8⟩, -, X8, ⟨Lc8, hQ8, l8, y8, z8⟩, st8⟩ := Jvm.LawKit.callS X4 hx (y := (⟨"java/lang/Math", "max", "(II)I"⟩ : MethodName)) hown (mvT hZ (hw _ (List.mem_of_getElem? (i := 5) rfl))) (mvT hZ (hw _ (List.mem_of_getElem? (i := 6) rfl))) (mvT hZ (hw _ (List.mem_of_getElem? (i := 3) rfl))) (mvT hZ (hw _ (List.mem_of_getElem? (i := 7) rfl))) (by decide) (backOf (W := 0) (rm2 l Z a0 hw [] x0 x1 h0 n0 Z0) hZ (hw _ (List.mem_of_getElem? (i := 7) rfl)) (hw _ (List.mem_of_getElem? (i := 3) rfl)) (by decide) (by decide)) (g := (mkF m 25 #[.val (.int p0), .val (.int p1), .val (.int p2), .val (.int p3), .val (.int x0), .val (.int x1), .val (.int fp), .unset, .unset, .unset, .unset, .unset, .unset, .unset, .unset, .unset, .unset] [(.int x1), (.int x0)])) rfl (by rw [hml]; rfl) (argsL := [(.int x0), (.int x1)]) (rest := []) (lenOf pd_1 rfl) rfl (by show 2 * 0 + _ ≤ _; exact Nat.le_of_eq rfl) (hb hby at_25) (fun _ _ => ⟨rfl, e4, (by decide : 0 + 0 ≤ _), (by decide : 0 + 0 ≤ _)⟩)
  dsimp only [Pt.U, Pt.locs, Pt.cells, Pt.slots] at X8 l8 y8 z8 st8 hQ8
  subst l8 y8 z8
  obtain ⟨rfl, N8q, e8⟩ := hQ8
  have N8 := Fr.app N4 N8q
  have q9 : Steps p.tables e below (s₁.setTop (entryFrame m #[(.int p0), (.int p1), (.int p2), (.int p3)] maxLocals)) (T8.setTop (mkF m 28 #[.val (.int p0), .val (.int p1), .val (.int p2), .val (.int p3), .val (.int x0), .val (.int x1), .val (.int fp), .unset, .unset, .unset, .unset, .unset, .unset, .unset, .unset, .unset, .unset] [(.int (F2 x0 x1))])) := q7.trans (st8 _ (Steps.refl _))
  have q10 : Steps p.tables e below (s₁.setTop (entryFrame m #[(.int p0), (.int p1), (.int p2), (.int p3)] maxLocals)) (T8.setTop (mkF m 30 #[.val (.int p0), .val (.int p1), .val (.int p2), .val (.int p3), .val (.int x0), .val (.int x1), .val (.int fp), .val (.int (F2 x0 x1)), .unset, .unset, .unset, .unset, .unset, .unset, .unset, .unset, .unset] [])) := q9.trans (by
      show Steps p.tables e below (T8.setTop (mkF m 28 #[.val (.int p0), .val (.int p1), .val (.int p2), .val (.int p3), .val (.int x0), .val (.int x1), .val (.int fp), .unset, .unset, .unset, .unset, .unset, .unset, .unset, .unset, .unset, .unset] [(.int (F2 x0 x1))])) _
      refine XS.istore X8.here hx rfl (hb hby at_28) rfl (l' := #[.val (.int p0), .val (.int p1), .val (.int p2), .val (.int p3), .val (.int x0), .val (.int x1), .val (.int fp), .val (.int (F2 x0 x1)), .unset, .unset, .unset, .unset, .unset, .unset, .unset, .unset, .unset]) rfl ?_
      show Steps p.tables e below (T8.setTop (mkF m 30 #[.val (.int p0), .val (.int p1), .val (.int p2), .val (.int p3), .val (.int x0), .val (.int x1), .val (.int fp), .val (.int (F2 x0 x1)), .unset, .unset, .unset, .unset, .unset, .unset, .unset, .unset, .unset] [])) _
      exact Steps.refl _)
  obtain ⟨lp, hlp⟩ : ∃ v : Int32, v = (F2 x0 x1) := ⟨_, rfl⟩
  rw [← hlp] at q10
  have q11 : Steps p.tables e below (s₁.setTop (entryFrame m #[(.int p0), (.int p1), (.int p2), (.int p3)] maxLocals)) (T8.setTop (mkF m 36 #[.val (.int p0), .val (.int p1), .val (.int p2), .val (.int p3), .val (.int x0), .val (.int x1), .val (.int fp), .val (.int lp), .val (.int (p2 &&& (2147483647 : Int32))), .unset, .unset, .unset, .unset, .unset, .unset, .unset, .unset] [])) := q10.trans (by
      show Steps p.tables e below (T8.setTop (mkF m 30 #[.val (.int p0), .val (.int p1), .val (.int p2), .val (.int p3), .val (.int x0), .val (.int x1), .val (.int fp), .val (.int lp), .unset, .unset, .unset, .unset, .unset, .unset, .unset, .unset, .unset] [])) _
      refine XS.iloadN X8.here hx rfl (hb hby at_30) rfl ?_
      show Steps p.tables e below (T8.setTop (mkF m 31 #[.val (.int p0), .val (.int p1), .val (.int p2), .val (.int p3), .val (.int x0), .val (.int x1), .val (.int fp), .val (.int lp), .unset, .unset, .unset, .unset, .unset, .unset, .unset, .unset, .unset] [(.int p2)])) _
      refine X8.ldcInt hx hown (mvT hZ (hw _ (List.mem_of_getElem? (i := 0) rfl))) (g := (mkF m 31 #[.val (.int p0), .val (.int p1), .val (.int p2), .val (.int p3), .val (.int x0), .val (.int x1), .val (.int fp), .val (.int lp), .unset, .unset, .unset, .unset, .unset, .unset, .unset, .unset, .unset] [(.int p2)])) rfl (hb hby at_31) _ ?_
      show Steps p.tables e below (T8.setTop (mkF m 33 #[.val (.int p0), .val (.int p1), .val (.int p2), .val (.int p3), .val (.int x0), .val (.int x1), .val (.int fp), .val (.int lp), .unset, .unset, .unset, .unset, .unset, .unset, .unset, .unset, .unset] [(.int (2147483647 : Int32)), (.int p2)])) _
      refine XS.iand X8.here hx rfl (hb hby at_33) rfl ?_
      show Steps p.tables e below (T8.setTop (mkF m 34 #[.val (.int p0), .val (.int p1), .val (.int p2), .val (.int p3), .val (.int x0), .val (.int x1), .val (.int fp), .val (.int lp), .unset, .unset, .unset, .unset, .unset, .unset, .unset, .unset, .unset] [(.int (p2 &&& (2147483647 : Int32)))])) _
      refine XS.istore X8.here hx rfl (hb hby at_34) rfl (l' := #[.val (.int p0), .val (.int p1), .val (.int p2), .val (.int p3), .val (.int x0), .val (.int x1), .val (.int fp), .val (.int lp), .val (.int (p2 &&& (2147483647 : Int32))), .unset, .unset, .unset, .unset, .unset, .unset, .unset, .unset]) rfl ?_
      show Steps p.tables e below (T8.setTop (mkF m 36 #[.val (.int p0), .val (.int p1), .val (.int p2), .val (.int p3), .val (.int x0), .val (.int x1), .val (.int fp), .val (.int lp), .val (.int (p2 &&& (2147483647 : Int32))), .unset, .unset, .unset, .unset, .unset, .unset, .unset, .unset] [])) _
      exact Steps.refl _)
  obtain ⟨x2, hx2⟩ : ∃ v : Int32, v = (p2 &&& (2147483647 : Int32)) := ⟨_, rfl⟩
  rw [← hx2] at q11
  have q12 : Steps p.tables e below (s₁.setTop (entryFrame m #[(.int p0), (.int p1), (.int p2), (.int p3)] maxLocals)) (T8.setTop (mkF m 42 #[.val (.int p0), .val (.int p1), .val (.int p2), .val (.int p3), .val (.int x0), .val (.int x1), .val (.int fp), .val (.int lp), .val (.int x2), .val (.int (p3 &&& (2147483647 : Int32))), .unset, .unset, .unset, .unset, .unset, .unset, .unset] [])) := q11.trans (by
      show Steps p.tables e below (T8.setTop (mkF m 36 #[.val (.int p0), .val (.int p1), .val (.int p2), .val (.int p3), .val (.int x0), .val (.int x1), .val (.int fp), .val (.int lp), .val (.int x2), .unset, .unset, .unset, .unset, .unset, .unset, .unset, .unset] [])) _
      refine XS.iloadN X8.here hx rfl (hb hby at_36) rfl ?_
      show Steps p.tables e below (T8.setTop (mkF m 37 #[.val (.int p0), .val (.int p1), .val (.int p2), .val (.int p3), .val (.int x0), .val (.int x1), .val (.int fp), .val (.int lp), .val (.int x2), .unset, .unset, .unset, .unset, .unset, .unset, .unset, .unset] [(.int p3)])) _
      refine X8.ldcInt hx hown (mvT hZ (hw _ (List.mem_of_getElem? (i := 0) rfl))) (g := (mkF m 37 #[.val (.int p0), .val (.int p1), .val (.int p2), .val (.int p3), .val (.int x0), .val (.int x1), .val (.int fp), .val (.int lp), .val (.int x2), .unset, .unset, .unset, .unset, .unset, .unset, .unset, .unset] [(.int p3)])) rfl (hb hby at_37) _ ?_
      show Steps p.tables e below (T8.setTop (mkF m 39 #[.val (.int p0), .val (.int p1), .val (.int p2), .val (.int p3), .val (.int x0), .val (.int x1), .val (.int fp), .val (.int lp), .val (.int x2), .unset, .unset, .unset, .unset, .unset, .unset, .unset, .unset] [(.int (2147483647 : Int32)), (.int p3)])) _
      refine XS.iand X8.here hx rfl (hb hby at_39) rfl ?_
      show Steps p.tables e below (T8.setTop (mkF m 40 #[.val (.int p0), .val (.int p1), .val (.int p2), .val (.int p3), .val (.int x0), .val (.int x1), .val (.int fp), .val (.int lp), .val (.int x2), .unset, .unset, .unset, .unset, .unset, .unset, .unset, .unset] [(.int (p3 &&& (2147483647 : Int32)))])) _
      refine XS.istore X8.here hx rfl (hb hby at_40) rfl (l' := #[.val (.int p0), .val (.int p1), .val (.int p2), .val (.int p3), .val (.int x0), .val (.int x1), .val (.int fp), .val (.int lp), .val (.int x2), .val (.int (p3 &&& (2147483647 : Int32))), .unset, .unset, .unset, .unset, .unset, .unset, .unset]) rfl ?_
      show Steps p.tables e below (T8.setTop (mkF m 42 #[.val (.int p0), .val (.int p1), .val (.int p2), .val (.int p3), .val (.int x0), .val (.int x1), .val (.int fp), .val (.int lp), .val (.int x2), .val (.int (p3 &&& (2147483647 : Int32))), .unset, .unset, .unset, .unset, .unset, .unset, .unset] [])) _
      exact Steps.refl _)
  obtain ⟨x3, hx3⟩ : ∃ v : Int32, v = (p3 &&& (2147483647 : Int32)) := ⟨_, rfl⟩
  rw [← hx3] at q12
  have q13 : Steps p.tables e below (s₁.setTop (entryFrame m #[(.int p0), (.int p1), (.int p2), (.int p3)] maxLocals)) (T8.setTop (mkF m 46 #[.val (.int p0), .val (.int p1), .val (.int p2), .val (.int p3), .val (.int x0), .val (.int x1), .val (.int fp), .val (.int lp), .val (.int x2), .val (.int x3), .unset, .unset, .unset, .unset, .unset, .unset, .unset] [(.int x3), (.int x2)])) := q12.trans (by
      show Steps p.tables e below (T8.setTop (mkF m 42 #[.val (.int p0), .val (.int p1), .val (.int p2), .val (.int p3), .val (.int x0), .val (.int x1), .val (.int fp), .val (.int lp), .val (.int x2), .val (.int x3), .unset, .unset, .unset, .unset, .unset, .unset, .unset] [])) _
      refine XS.iload X8.here hx rfl (hb hby at_42) rfl ?_
      show Steps p.tables e below (T8.setTop (mkF m 44 #[.val (.int p0), .val (.int p1), .val (.int p2), .val (.int p3), .val (.int x0), .val (.int x1), .val (.int fp), .val (.int lp), .val (.int x2), .val (.int x3), .unset, .unset, .unset, .unset, .unset, .unset, .unset] [(.int x2)])) _
      refine XS.iload X8.here hx rfl (hb hby at_44) rfl ?_
      show Steps p.tables e below (T8.setTop (mkF m 46 #[.val (.int p0), .val (.int p1), .val (.int p2), .val (.int p3), .val (.int x0), .val (.int x1), .val (.int fp), .val (.int lp), .val (.int x2), .val (.int x3), .unset, .unset, .unset, .unset, .unset, .unset, .unset] [(.int x3), (.int x2)])) _
      exact Steps.refl _)
  obtain ⟨_, _, ⟨T14, L14, k14, n14⟩, -, X14, ⟨Lc14, hQ14, l14, y14, z14⟩, st14⟩ := Jvm.LawKit.callS X8 hx (y := (⟨"java/lang/Math", "min", "(II)I"⟩ : MethodName)) hown (mvT hZ (hw _ (List.mem_of_getElem? (i := 1) rfl))) (mvT hZ (hw _ (List.mem_of_getElem? (i := 2) rfl))) (mvT hZ (hw _ (List.mem_of_getElem? (i := 3) rfl))) (mvT hZ (hw _ (List.mem_of_getElem? (i := 4) rfl))) (by decide) (backOf (W := 0) (rm1 l Z a0 hw [] x2 x3 h0 n0 Z0) hZ (hw _ (List.mem_of_getElem? (i := 4) rfl)) (hw _ (List.mem_of_getElem? (i := 3) rfl)) (by decide) (by decide)) (g := (mkF m 46 #[.val (.int p0), .val (.int p1), .val (.int p2), .val (.int p3), .val (.int x0), .val (.int x1), .val (.int fp), .val (.int lp), .val (.int x2), .val (.int x3), .unset, .unset, .unset, .unset, .unset, .unset, .unset] [(.int x3), (.int x2)])) rfl (by rw [hml]; rfl) (argsL := [(.int x2), (.int x3)]) (rest := []) (lenOf pd_1 rfl) rfl (by show 2 * 0 + _ ≤ _; exact Nat.le_of_eq rfl) (hb hby at_46) (fun _ _ => ⟨rfl, e8, (by decide : 0 + 0 ≤ _), (by decide : 0 + 0 ≤ _)⟩)
  dsimp only [Pt.U, Pt.locs, Pt.cells, Pt.slots] at X14 l14 y14 z14 st14 hQ14
  subst l14 y14 z14
  obtain ⟨rfl, N14q, e14⟩ := hQ14
  have N14 := Fr.app N8 N14q
  have q15 : Steps p.tables e below (s₁.setTop (entryFrame m #[(.int p0), (.int p1), (.int p2), (.int p3)] maxLocals)) (T14.setTop (mkF m 49 #[.val (.int p0), .val (.int p1), .val (.int p2), .val (.int p3), .val (.int x0), .val (.int x1), .val (.int fp), .val (.int lp), .val (.int x2), .val (.int x3), .unset, .unset, .unset, .unset, .unset, .unset, .unset] [(.int (F1 x2 x3))])) := q13.trans (st14 _ (Steps.refl _))
  have q16 : Steps p.tables e below (s₁.setTop (entryFrame m #[(.int p0), (.int p1), (.int p2), (.int p3)] maxLocals)) (T14.setTop (mkF m 51 #[.val (.int p0), .val (.int p1), .val (.int p2), .val (.int p3), .val (.int x0), .val (.int x1), .val (.int fp), .val (.int lp), .val (.int x2), .val (.int x3), .val (.int (F1 x2 x3)), .unset, .unset, .unset, .unset, .unset, .unset] [])) := q15.trans (by
      show Steps p.tables e below (T14.setTop (mkF m 49 #[.val (.int p0), .val (.int p1), .val (.int p2), .val (.int p3), .val (.int x0), .val (.int x1), .val (.int fp), .val (.int lp), .val (.int x2), .val (.int x3), .unset, .unset, .unset, .unset, .unset, .unset, .unset] [(.int (F1 x2 x3))])) _
      refine XS.istore X14.here hx rfl (hb hby at_49) rfl (l' := #[.val (.int p0), .val (.int p1), .val (.int p2), .val (.int p3), .val (.int x0), .val (.int x1), .val (.int fp), .val (.int lp), .val (.int x2), .val (.int x3), .val (.int (F1 x2 x3)), .unset, .unset, .unset, .unset, .unset, .unset]) rfl ?_
      show Steps p.tables e below (T14.setTop (mkF m 51 #[.val (.int p0), .val (.int p1), .val (.int p2), .val (.int p3), .val (.int x0), .val (.int x1), .val (.int fp), .val (.int lp), .val (.int x2), .val (.int x3), .val (.int (F1 x2 x3)), .unset, .unset, .unset, .unset, .unset, .unset] [])) _
      exact Steps.refl _)
  obtain ⟨fc, hfc⟩ : ∃ v : Int32, v = (F1 x2 x3) := ⟨_, rfl⟩
  rw [← hfc] at q16
  have q17 : Steps p.tables e below (s₁.setTop (entryFrame m #[(.int p0), (.int p1), (.int p2), (.int p3)] maxLocals)) (T14.setTop (mkF m 55 #[.val (.int p0), .val (.int p1), .val (.int p2), .val (.int p3), .val (.int x0), .val (.int x1), .val (.int fp), .val (.int lp), .val (.int x2), .val (.int x3), .val (.int fc), .unset, .unset, .unset, .unset, .unset, .unset] [(.int x3), (.int x2)])) := q16.trans (by
      show Steps p.tables e below (T14.setTop (mkF m 51 #[.val (.int p0), .val (.int p1), .val (.int p2), .val (.int p3), .val (.int x0), .val (.int x1), .val (.int fp), .val (.int lp), .val (.int x2), .val (.int x3), .val (.int fc), .unset, .unset, .unset, .unset, .unset, .unset] [])) _
      refine XS.iload X14.here hx rfl (hb hby at_51) rfl ?_
      show Steps p.tables e below (T14.setTop (mkF m 53 #[.val (.int p0), .val (.int p1), .val (.int p2), .val (.int p3), .val (.int x0), .val (.int x1), .val (.int fp), .val (.int lp), .val (.int x2), .val (.int x3), .val (.int fc), .unset, .unset, .unset, .unset, .unset, .unset] [(.int x2)])) _
      refine XS.iload X14.here hx rfl (hb hby at_53) rfl ?_
      show Steps p.tables e below (T14.setTop (mkF m 55 #[.val (.int p0), .val (.int p1), .val (.int p2), .val (.int p3), .val (.int x0), .val (.int x1), .val (.int fp), .val (.int lp), .val (.int x2), .val (.int x3), .val (.int fc), .unset, .unset, .unset, .unset, .unset, .unset] [(.int x3), (.int x2)])) _
      exact Steps.refl _)
  obtain ⟨_, _, ⟨T18, L18, k18, n18⟩, -, X18, ⟨Lc18, hQ18, l18, y18, z18⟩, st18⟩ := Jvm.LawKit.callS X14 hx (y := (⟨"java/lang/Math", "max", "(II)I"⟩ : MethodName)) hown (mvT hZ (hw _ (List.mem_of_getElem? (i := 5) rfl))) (mvT hZ (hw _ (List.mem_of_getElem? (i := 6) rfl))) (mvT hZ (hw _ (List.mem_of_getElem? (i := 3) rfl))) (mvT hZ (hw _ (List.mem_of_getElem? (i := 7) rfl))) (by decide) (backOf (W := 0) (rm2 l Z a0 hw [] x2 x3 h0 n0 Z0) hZ (hw _ (List.mem_of_getElem? (i := 7) rfl)) (hw _ (List.mem_of_getElem? (i := 3) rfl)) (by decide) (by decide)) (g := (mkF m 55 #[.val (.int p0), .val (.int p1), .val (.int p2), .val (.int p3), .val (.int x0), .val (.int x1), .val (.int fp), .val (.int lp), .val (.int x2), .val (.int x3), .val (.int fc), .unset, .unset, .unset, .unset, .unset, .unset] [(.int x3), (.int x2)])) rfl (by rw [hml]; rfl) (argsL := [(.int x2), (.int x3)]) (rest := []) (lenOf pd_1 rfl) rfl (by show 2 * 0 + _ ≤ _; exact Nat.le_of_eq rfl) (hb hby at_55) (fun _ _ => ⟨rfl, e14, (by decide : 0 + 0 ≤ _), (by decide : 0 + 0 ≤ _)⟩)
  dsimp only [Pt.U, Pt.locs, Pt.cells, Pt.slots] at X18 l18 y18 z18 st18 hQ18
  subst l18 y18 z18
  obtain ⟨rfl, N18q, e18⟩ := hQ18
  have N18 := Fr.app N14 N18q
  have q19 : Steps p.tables e below (s₁.setTop (entryFrame m #[(.int p0), (.int p1), (.int p2), (.int p3)] maxLocals)) (T18.setTop (mkF m 58 #[.val (.int p0), .val (.int p1), .val (.int p2), .val (.int p3), .val (.int x0), .val (.int x1), .val (.int fp), .val (.int lp), .val (.int x2), .val (.int x3), .val (.int fc), .unset, .unset, .unset, .unset, .unset, .unset] [(.int (F2 x2 x3))])) := q17.trans (st18 _ (Steps.refl _))
  have q20 : Steps p.tables e below (s₁.setTop (entryFrame m #[(.int p0), (.int p1), (.int p2), (.int p3)] maxLocals)) (T18.setTop (mkF m 60 #[.val (.int p0), .val (.int p1), .val (.int p2), .val (.int p3), .val (.int x0), .val (.int x1), .val (.int fp), .val (.int lp), .val (.int x2), .val (.int x3), .val (.int fc), .val (.int (F2 x2 x3)), .unset, .unset, .unset, .unset, .unset] [])) := q19.trans (by
      show Steps p.tables e below (T18.setTop (mkF m 58 #[.val (.int p0), .val (.int p1), .val (.int p2), .val (.int p3), .val (.int x0), .val (.int x1), .val (.int fp), .val (.int lp), .val (.int x2), .val (.int x3), .val (.int fc), .unset, .unset, .unset, .unset, .unset, .unset] [(.int (F2 x2 x3))])) _
      refine XS.istore X18.here hx rfl (hb hby at_58) rfl (l' := #[.val (.int p0), .val (.int p1), .val (.int p2), .val (.int p3), .val (.int x0), .val (.int x1), .val (.int fp), .val (.int lp), .val (.int x2), .val (.int x3), .val (.int fc), .val (.int (F2 x2 x3)), .unset, .unset, .unset, .unset, .unset]) rfl ?_
      show Steps p.tables e below (T18.setTop (mkF m 60 #[.val (.int p0), .val (.int p1), .val (.int p2), .val (.int p3), .val (.int x0), .val (.int x1), .val (.int fp), .val (.int lp), .val (.int x2), .val (.int x3), .val (.int fc), .val (.int (F2 x2 x3)), .unset, .unset, .unset, .unset, .unset] [])) _
      exact Steps.refl _)
  obtain ⟨lc, hlc⟩ : ∃ v : Int32, v = (F2 x2 x3) := ⟨_, rfl⟩
  rw [← hlc] at q20
  have q21 : Steps p.tables e below (s₁.setTop (entryFrame m #[(.int p0), (.int p1), (.int p2), (.int p3)] maxLocals)) (T18.setTop (mkF m 71 #[.val (.int p0), .val (.int p1), .val (.int p2), .val (.int p3), .val (.int x0), .val (.int x1), .val (.int fp), .val (.int lp), .val (.int x2), .val (.int x3), .val (.int fc), .val (.int lc), .val (.long (((lp.toInt64) - (fp.toInt64)) + (1 : Int64))), .second, .unset, .unset, .unset] [])) := q20.trans (by
      show Steps p.tables e below (T18.setTop (mkF m 60 #[.val (.int p0), .val (.int p1), .val (.int p2), .val (.int p3), .val (.int x0), .val (.int x1), .val (.int fp), .val (.int lp), .val (.int x2), .val (.int x3), .val (.int fc), .val (.int lc), .unset, .unset, .unset, .unset, .unset] [])) _
      refine XS.iload X18.here hx rfl (hb hby at_60) rfl ?_
      show Steps p.tables e below (T18.setTop (mkF m 62 #[.val (.int p0), .val (.int p1), .val (.int p2), .val (.int p3), .val (.int x0), .val (.int x1), .val (.int fp), .val (.int lp), .val (.int x2), .val (.int x3), .val (.int fc), .val (.int lc), .unset, .unset, .unset, .unset, .unset] [(.int lp)])) _
      refine XS.i2l X18.here hx rfl (hb hby at_62) rfl ?_
      show Steps p.tables e below (T18.setTop (mkF m 63 #[.val (.int p0), .val (.int p1), .val (.int p2), .val (.int p3), .val (.int x0), .val (.int x1), .val (.int fp), .val (.int lp), .val (.int x2), .val (.int x3), .val (.int fc), .val (.int lc), .unset, .unset, .unset, .unset, .unset] [(.long (lp.toInt64))])) _
      refine XS.iload X18.here hx rfl (hb hby at_63) rfl ?_
      show Steps p.tables e below (T18.setTop (mkF m 65 #[.val (.int p0), .val (.int p1), .val (.int p2), .val (.int p3), .val (.int x0), .val (.int x1), .val (.int fp), .val (.int lp), .val (.int x2), .val (.int x3), .val (.int fc), .val (.int lc), .unset, .unset, .unset, .unset, .unset] [(.int fp), (.long (lp.toInt64))])) _
      refine XS.i2l X18.here hx rfl (hb hby at_65) rfl ?_
      show Steps p.tables e below (T18.setTop (mkF m 66 #[.val (.int p0), .val (.int p1), .val (.int p2), .val (.int p3), .val (.int x0), .val (.int x1), .val (.int fp), .val (.int lp), .val (.int x2), .val (.int x3), .val (.int fc), .val (.int lc), .unset, .unset, .unset, .unset, .unset] [(.long (fp.toInt64)), (.long (lp.toInt64))])) _
      refine XS.lsub X18.here hx rfl (hb hby at_66) rfl ?_
      show Steps p.tables e below (T18.setTop (mkF m 67 #[.val (.int p0), .val (.int p1), .val (.int p2), .val (.int p3), .val (.int x0), .val (.int x1), .val (.int fp), .val (.int lp), .val (.int x2), .val (.int x3), .val (.int fc), .val (.int lc), .unset, .unset, .unset, .unset, .unset] [(.long ((lp.toInt64) - (fp.toInt64)))])) _
      refine XS.lconst X18.here hx rfl (hb hby at_67) ?_
      show Steps p.tables e below (T18.setTop (mkF m 68 #[.val (.int p0), .val (.int p1), .val (.int p2), .val (.int p3), .val (.int x0), .val (.int x1), .val (.int fp), .val (.int lp), .val (.int x2), .val (.int x3), .val (.int fc), .val (.int lc), .unset, .unset, .unset, .unset, .unset] [(.long (1 : Int64)), (.long ((lp.toInt64) - (fp.toInt64)))])) _
      refine XS.ladd X18.here hx rfl (hb hby at_68) rfl ?_
      show Steps p.tables e below (T18.setTop (mkF m 69 #[.val (.int p0), .val (.int p1), .val (.int p2), .val (.int p3), .val (.int x0), .val (.int x1), .val (.int fp), .val (.int lp), .val (.int x2), .val (.int x3), .val (.int fc), .val (.int lc), .unset, .unset, .unset, .unset, .unset] [(.long (((lp.toInt64) - (fp.toInt64)) + (1 : Int64)))])) _
      refine XS.lstore X18.here hx rfl (hb hby at_69) rfl (l' := #[.val (.int p0), .val (.int p1), .val (.int p2), .val (.int p3), .val (.int x0), .val (.int x1), .val (.int fp), .val (.int lp), .val (.int x2), .val (.int x3), .val (.int fc), .val (.int lc), .val (.long (((lp.toInt64) - (fp.toInt64)) + (1 : Int64))), .second, .unset, .unset, .unset]) rfl ?_
      show Steps p.tables e below (T18.setTop (mkF m 71 #[.val (.int p0), .val (.int p1), .val (.int p2), .val (.int p3), .val (.int x0), .val (.int x1), .val (.int fp), .val (.int lp), .val (.int x2), .val (.int x3), .val (.int fc), .val (.int lc), .val (.long (((lp.toInt64) - (fp.toInt64)) + (1 : Int64))), .second, .unset, .unset, .unset] [])) _
      exact Steps.refl _)
  obtain ⟨np, hnp⟩ : ∃ v : Int64, v = (((lp.toInt64) - (fp.toInt64)) + (1 : Int64)) := ⟨_, rfl⟩
  rw [← hnp] at q21
  have q22 : Steps p.tables e below (s₁.setTop (entryFrame m #[(.int p0), (.int p1), (.int p2), (.int p3)] maxLocals)) (T18.setTop (mkF m 82 #[.val (.int p0), .val (.int p1), .val (.int p2), .val (.int p3), .val (.int x0), .val (.int x1), .val (.int fp), .val (.int lp), .val (.int x2), .val (.int x3), .val (.int fc), .val (.int lc), .val (.long np), .second, .val (.long (((lc.toInt64) - (fc.toInt64)) + (1 : Int64))), .second, .unset] [])) := q21.trans (by
      show Steps p.tables e below (T18.setTop (mkF m 71 #[.val (.int p0), .val (.int p1), .val (.int p2), .val (.int p3), .val (.int x0), .val (.int x1), .val (.int fp), .val (.int lp), .val (.int x2), .val (.int x3), .val (.int fc), .val (.int lc), .val (.long np), .second, .unset, .unset, .unset] [])) _
      refine XS.iload X18.here hx rfl (hb hby at_71) rfl ?_
      show Steps p.tables e below (T18.setTop (mkF m 73 #[.val (.int p0), .val (.int p1), .val (.int p2), .val (.int p3), .val (.int x0), .val (.int x1), .val (.int fp), .val (.int lp), .val (.int x2), .val (.int x3), .val (.int fc), .val (.int lc), .val (.long np), .second, .unset, .unset, .unset] [(.int lc)])) _
      refine XS.i2l X18.here hx rfl (hb hby at_73) rfl ?_
      show Steps p.tables e below (T18.setTop (mkF m 74 #[.val (.int p0), .val (.int p1), .val (.int p2), .val (.int p3), .val (.int x0), .val (.int x1), .val (.int fp), .val (.int lp), .val (.int x2), .val (.int x3), .val (.int fc), .val (.int lc), .val (.long np), .second, .unset, .unset, .unset] [(.long (lc.toInt64))])) _
      refine XS.iload X18.here hx rfl (hb hby at_74) rfl ?_
      show Steps p.tables e below (T18.setTop (mkF m 76 #[.val (.int p0), .val (.int p1), .val (.int p2), .val (.int p3), .val (.int x0), .val (.int x1), .val (.int fp), .val (.int lp), .val (.int x2), .val (.int x3), .val (.int fc), .val (.int lc), .val (.long np), .second, .unset, .unset, .unset] [(.int fc), (.long (lc.toInt64))])) _
      refine XS.i2l X18.here hx rfl (hb hby at_76) rfl ?_
      show Steps p.tables e below (T18.setTop (mkF m 77 #[.val (.int p0), .val (.int p1), .val (.int p2), .val (.int p3), .val (.int x0), .val (.int x1), .val (.int fp), .val (.int lp), .val (.int x2), .val (.int x3), .val (.int fc), .val (.int lc), .val (.long np), .second, .unset, .unset, .unset] [(.long (fc.toInt64)), (.long (lc.toInt64))])) _
      refine XS.lsub X18.here hx rfl (hb hby at_77) rfl ?_
      show Steps p.tables e below (T18.setTop (mkF m 78 #[.val (.int p0), .val (.int p1), .val (.int p2), .val (.int p3), .val (.int x0), .val (.int x1), .val (.int fp), .val (.int lp), .val (.int x2), .val (.int x3), .val (.int fc), .val (.int lc), .val (.long np), .second, .unset, .unset, .unset] [(.long ((lc.toInt64) - (fc.toInt64)))])) _
      refine XS.lconst X18.here hx rfl (hb hby at_78) ?_
      show Steps p.tables e below (T18.setTop (mkF m 79 #[.val (.int p0), .val (.int p1), .val (.int p2), .val (.int p3), .val (.int x0), .val (.int x1), .val (.int fp), .val (.int lp), .val (.int x2), .val (.int x3), .val (.int fc), .val (.int lc), .val (.long np), .second, .unset, .unset, .unset] [(.long (1 : Int64)), (.long ((lc.toInt64) - (fc.toInt64)))])) _
      refine XS.ladd X18.here hx rfl (hb hby at_79) rfl ?_
      show Steps p.tables e below (T18.setTop (mkF m 80 #[.val (.int p0), .val (.int p1), .val (.int p2), .val (.int p3), .val (.int x0), .val (.int x1), .val (.int fp), .val (.int lp), .val (.int x2), .val (.int x3), .val (.int fc), .val (.int lc), .val (.long np), .second, .unset, .unset, .unset] [(.long (((lc.toInt64) - (fc.toInt64)) + (1 : Int64)))])) _
      refine XS.lstore X18.here hx rfl (hb hby at_80) rfl (l' := #[.val (.int p0), .val (.int p1), .val (.int p2), .val (.int p3), .val (.int x0), .val (.int x1), .val (.int fp), .val (.int lp), .val (.int x2), .val (.int x3), .val (.int fc), .val (.int lc), .val (.long np), .second, .val (.long (((lc.toInt64) - (fc.toInt64)) + (1 : Int64))), .second, .unset]) rfl ?_
      show Steps p.tables e below (T18.setTop (mkF m 82 #[.val (.int p0), .val (.int p1), .val (.int p2), .val (.int p3), .val (.int x0), .val (.int x1), .val (.int fp), .val (.int lp), .val (.int x2), .val (.int x3), .val (.int fc), .val (.int lc), .val (.long np), .second, .val (.long (((lc.toInt64) - (fc.toInt64)) + (1 : Int64))), .second, .unset] [])) _
      exact Steps.refl _)
  obtain ⟨nc, hnc⟩ : ∃ v : Int64, v = (((lc.toInt64) - (fc.toInt64)) + (1 : Int64)) := ⟨_, rfl⟩
  rw [← hnc] at q22
  have q23 : Steps p.tables e below (s₁.setTop (entryFrame m #[(.int p0), (.int p1), (.int p2), (.int p3)] maxLocals)) (T18.setTop (mkF m 88 #[.val (.int p0), .val (.int p1), .val (.int p2), .val (.int p3), .val (.int x0), .val (.int x1), .val (.int fp), .val (.int lp), .val (.int x2), .val (.int x3), .val (.int fc), .val (.int lc), .val (.long np), .second, .val (.long nc), .second, .unset] [(.int (lcmpW np (2147483647 : Int64)))])) := q22.trans (by
      show Steps p.tables e below (T18.setTop (mkF m 82 #[.val (.int p0), .val (.int p1), .val (.int p2), .val (.int p3), .val (.int x0), .val (.int x1), .val (.int fp), .val (.int lp), .val (.int x2), .val (.int x3), .val (.int fc), .val (.int lc), .val (.long np), .second, .val (.long nc), .second, .unset] [])) _
      refine XS.lload X18.here hx rfl (hb hby at_82) rfl ?_
      show Steps p.tables e below (T18.setTop (mkF m 84 #[.val (.int p0), .val (.int p1), .val (.int p2), .val (.int p3), .val (.int x0), .val (.int x1), .val (.int fp), .val (.int lp), .val (.int x2), .val (.int x3), .val (.int fc), .val (.int lc), .val (.long np), .second, .val (.long nc), .second, .unset] [(.long np)])) _
      refine X18.ldc2Long hx hown (mvT hZ (hw _ (List.mem_of_getElem? (i := 8) rfl))) (g := (mkF m 84 #[.val (.int p0), .val (.int p1), .val (.int p2), .val (.int p3), .val (.int x0), .val (.int x1), .val (.int fp), .val (.int lp), .val (.int x2), .val (.int x3), .val (.int fc), .val (.int lc), .val (.long np), .second, .val (.long nc), .second, .unset] [(.long np)])) rfl (hb hby at_84) _ ?_
      show Steps p.tables e below (T18.setTop (mkF m 87 #[.val (.int p0), .val (.int p1), .val (.int p2), .val (.int p3), .val (.int x0), .val (.int x1), .val (.int fp), .val (.int lp), .val (.int x2), .val (.int x3), .val (.int fc), .val (.int lc), .val (.long np), .second, .val (.long nc), .second, .unset] [(.long (2147483647 : Int64)), (.long np)])) _
      refine XS.lcmp X18.here hx rfl (hb hby at_87) rfl ?_
      show Steps p.tables e below (T18.setTop (mkF m 88 #[.val (.int p0), .val (.int p1), .val (.int p2), .val (.int p3), .val (.int x0), .val (.int x1), .val (.int fp), .val (.int lp), .val (.int x2), .val (.int x3), .val (.int fc), .val (.int lc), .val (.long np), .second, .val (.long nc), .second, .unset] [(.int (lcmpW np (2147483647 : Int64)))])) _
      exact Steps.refl _)
  by_cases hc24 : (2147483647 : Int64) < np
  · have q25 : Steps p.tables e below (s₁.setTop (entryFrame m #[(.int p0), (.int p1), (.int p2), (.int p3)] maxLocals)) (T18.setTop (mkF m 100 #[.val (.int p0), .val (.int p1), .val (.int p2), .val (.int p3), .val (.int x0), .val (.int x1), .val (.int fp), .val (.int lp), .val (.int x2), .val (.int x3), .val (.int fc), .val (.int lc), .val (.long np), .second, .val (.long nc), .second, .unset] [])) := q23.trans (by
        show Steps p.tables e below (T18.setTop (mkF m 88 #[.val (.int p0), .val (.int p1), .val (.int p2), .val (.int p3), .val (.int x0), .val (.int x1), .val (.int fp), .val (.int lp), .val (.int x2), .val (.int x3), .val (.int fc), .val (.int lc), .val (.long np), .second, .val (.long nc), .second, .unset] [(.int (lcmpW np (2147483647 : Int64)))])) _
        refine XS.ifYes X18.here hx rfl (pc0 := 88) (pc' := 100) rfl (hb hby at_88) rfl ((if0 _ _).trans (tlt ((lw_gt np (2147483647 : Int64)).mpr hc24)).2.2.1) (by decide) (by decide) ?_
        show Steps p.tables e below (T18.setTop (mkF m 100 #[.val (.int p0), .val (.int p1), .val (.int p2), .val (.int p3), .val (.int x0), .val (.int x1), .val (.int fp), .val (.int lp), .val (.int x2), .val (.int x3), .val (.int fc), .val (.int lc), .val (.long np), .second, .val (.long nc), .second, .unset] [])) _
        exact Steps.refl _)
    have q26 : Steps p.tables e below (s₁.setTop (entryFrame m #[(.int p0), (.int p1), (.int p2), (.int p3)] maxLocals)) (T18.setTop (mkF m 101 #[.val (.int p0), .val (.int p1), .val (.int p2), .val (.int p3), .val (.int x0), .val (.int x1), .val (.int fp), .val (.int lp), .val (.int x2), .val (.int x3), .val (.int fc), .val (.int lc), .val (.long np), .second, .val (.long nc), .second, .unset] [(.int (1 : Int32))])) := q25.trans (by
        show Steps p.tables e below (T18.setTop (mkF m 100 #[.val (.int p0), .val (.int p1), .val (.int p2), .val (.int p3), .val (.int x0), .val (.int x1), .val (.int fp), .val (.int lp), .val (.int x2), .val (.int x3), .val (.int fc), .val (.int lc), .val (.long np), .second, .val (.long nc), .second, .unset] [])) _
        refine XS.iconst X18.here hx rfl (hb hby at_100) ?_
        show Steps p.tables e below (T18.setTop (mkF m 101 #[.val (.int p0), .val (.int p1), .val (.int p2), .val (.int p3), .val (.int x0), .val (.int x1), .val (.int fp), .val (.int lp), .val (.int x2), .val (.int x3), .val (.int fc), .val (.int lc), .val (.long np), .second, .val (.long nc), .second, .unset] [(.int (1 : Int32))])) _
        exact Steps.refl _)
    obtain ⟨zr, hzr⟩ : ∃ v : Int32, v = (1 : Int32) := ⟨_, rfl⟩
    have hz1 : zr = 1 := plainA p0 p1 p2 p3 x0 x1 fp lp x2 x3 fc lc np nc zr hc24 hx0 hx1 hfp hlp hx2 hx3 hfc hlc hnp hnc hzr
    obtain ⟨fs, hr, hrun, hended, hW, hsame⟩ := X18.leave (v := some (.int (1 : Int32))) (fun h => by rw [Bd.returns] at h; cases h)
    refine ⟨_, _, q26.trans ?_, hrun, hended, _, _, rfl, ?_, ⟨_, rfl⟩, hW, hsame.mono (by decide) (by decide)⟩
    · show Steps p.tables e below (T18.setTop (mkF m 101 #[.val (.int p0), .val (.int p1), .val (.int p2), .val (.int p3), .val (.int x0), .val (.int x1), .val (.int fp), .val (.int lp), .val (.int x2), .val (.int x3), .val (.int fc), .val (.int lc), .val (.long np), .second, .val (.long nc), .second, .unset] [(.int (1 : Int32))])) _
      exact retN X18 hx (t := .boolean) Bd.returns (by simp) (hb hby at_101) hr
    · show Q_rm0 Z p0 p1 p2 p3 h0 n0 _ T18.heap _
      rw [e18]
      exact ⟨rfl, N18⟩
  · have q27 : Steps p.tables e below (s₁.setTop (entryFrame m #[(.int p0), (.int p1), (.int p2), (.int p3)] maxLocals)) (T18.setTop (mkF m 91 #[.val (.int p0), .val (.int p1), .val (.int p2), .val (.int p3), .val (.int x0), .val (.int x1), .val (.int fp), .val (.int lp), .val (.int x2), .val (.int x3), .val (.int fc), .val (.int lc), .val (.long np), .second, .val (.long nc), .second, .unset] [])) := q23.trans (by
        show Steps p.tables e below (T18.setTop (mkF m 88 #[.val (.int p0), .val (.int p1), .val (.int p2), .val (.int p3), .val (.int x0), .val (.int x1), .val (.int fp), .val (.int lp), .val (.int x2), .val (.int x3), .val (.int fc), .val (.int lc), .val (.long np), .second, .val (.long nc), .second, .unset] [(.int (lcmpW np (2147483647 : Int64)))])) _
        refine XS.ifNo X18.here hx rfl (hb hby at_88) rfl ((if0 _ _).trans (flt (fun q => hc24 ((lw_gt np (2147483647 : Int64)).mp q))).2.2.1) ?_
        show Steps p.tables e below (T18.setTop (mkF m 91 #[.val (.int p0), .val (.int p1), .val (.int p2), .val (.int p3), .val (.int x0), .val (.int x1), .val (.int fp), .val (.int lp), .val (.int x2), .val (.int x3), .val (.int fc), .val (.int lc), .val (.long np), .second, .val (.long nc), .second, .unset] [])) _
        exact Steps.refl _)
    have q28 : Steps p.tables e below (s₁.setTop (entryFrame m #[(.int p0), (.int p1), (.int p2), (.int p3)] maxLocals)) (T18.setTop (mkF m 97 #[.val (.int p0), .val (.int p1), .val (.int p2), .val (.int p3), .val (.int x0), .val (.int x1), .val (.int fp), .val (.int lp), .val (.int x2), .val (.int x3), .val (.int fc), .val (.int lc), .val (.long np), .second, .val (.long nc), .second, .unset] [(.int (lcmpW nc (2147483647 : Int64)))])) := q27.trans (by
        show Steps p.tables e below (T18.setTop (mkF m 91 #[.val (.int p0), .val (.int p1), .val (.int p2), .val (.int p3), .val (.int x0), .val (.int x1), .val (.int fp), .val (.int lp), .val (.int x2), .val (.int x3), .val (.int fc), .val (.int lc), .val (.long np), .second, .val (.long nc), .second, .unset] [])) _
        refine XS.lload X18.here hx rfl (hb hby at_91) rfl ?_
        show Steps p.tables e below (T18.setTop (mkF m 93 #[.val (.int p0), .val (.int p1), .val (.int p2), .val (.int p3), .val (.int x0), .val (.int x1), .val (.int fp), .val (.int lp), .val (.int x2), .val (.int x3), .val (.int fc), .val (.int lc), .val (.long np), .second, .val (.long nc), .second, .unset] [(.long nc)])) _
        refine X18.ldc2Long hx hown (mvT hZ (hw _ (List.mem_of_getElem? (i := 8) rfl))) (g := (mkF m 93 #[.val (.int p0), .val (.int p1), .val (.int p2), .val (.int p3), .val (.int x0), .val (.int x1), .val (.int fp), .val (.int lp), .val (.int x2), .val (.int x3), .val (.int fc), .val (.int lc), .val (.long np), .second, .val (.long nc), .second, .unset] [(.long nc)])) rfl (hb hby at_93) _ ?_
        show Steps p.tables e below (T18.setTop (mkF m 96 #[.val (.int p0), .val (.int p1), .val (.int p2), .val (.int p3), .val (.int x0), .val (.int x1), .val (.int fp), .val (.int lp), .val (.int x2), .val (.int x3), .val (.int fc), .val (.int lc), .val (.long np), .second, .val (.long nc), .second, .unset] [(.long (2147483647 : Int64)), (.long nc)])) _
        refine XS.lcmp X18.here hx rfl (hb hby at_96) rfl ?_
        show Steps p.tables e below (T18.setTop (mkF m 97 #[.val (.int p0), .val (.int p1), .val (.int p2), .val (.int p3), .val (.int x0), .val (.int x1), .val (.int fp), .val (.int lp), .val (.int x2), .val (.int x3), .val (.int fc), .val (.int lc), .val (.long np), .second, .val (.long nc), .second, .unset] [(.int (lcmpW nc (2147483647 : Int64)))])) _
        exact Steps.refl _)
    by_cases hc29 : (2147483647 : Int64) < nc
    · have q30 : Steps p.tables e below (s₁.setTop (entryFrame m #[(.int p0), (.int p1), (.int p2), (.int p3)] maxLocals)) (T18.setTop (mkF m 100 #[.val (.int p0), .val (.int p1), .val (.int p2), .val (.int p3), .val (.int x0), .val (.int x1), .val (.int fp), .val (.int lp), .val (.int x2), .val (.int x3), .val (.int fc), .val (.int lc), .val (.long np), .second, .val (.long nc), .second, .unset] [])) := q28.trans (by
          show Steps p.tables e below (T18.setTop (mkF m 97 #[.val (.int p0), .val (.int p1), .val (.int p2), .val (.int p3), .val (.int x0), .val (.int x1), .val (.int fp), .val (.int lp), .val (.int x2), .val (.int x3), .val (.int fc), .val (.int lc), .val (.long np), .second, .val (.long nc), .second, .unset] [(.int (lcmpW nc (2147483647 : Int64)))])) _
          refine XS.ifNo X18.here hx rfl (hb hby at_97) rfl ((if0 _ _).trans (tlt ((lw_gt nc (2147483647 : Int64)).mpr hc29)).2.2.2) ?_
          show Steps p.tables e below (T18.setTop (mkF m 100 #[.val (.int p0), .val (.int p1), .val (.int p2), .val (.int p3), .val (.int x0), .val (.int x1), .val (.int fp), .val (.int lp), .val (.int x2), .val (.int x3), .val (.int fc), .val (.int lc), .val (.long np), .second, .val (.long nc), .second, .unset] [])) _
          exact Steps.refl _)
      have q31 : Steps p.tables e below (s₁.setTop (entryFrame m #[(.int p0), (.int p1), (.int p2), (.int p3)] maxLocals)) (T18.setTop (mkF m 101 #[.val (.int p0), .val (.int p1), .val (.int p2), .val (.int p3), .val (.int x0), .val (.int x1), .val (.int fp), .val (.int lp), .val (.int x2), .val (.int x3), .val (.int fc), .val (.int lc), .val (.long np), .second, .val (.long nc), .second, .unset] [(.int (1 : Int32))])) := q30.trans (by
          show Steps p.tables e below (T18.setTop (mkF m 100 #[.val (.int p0), .val (.int p1), .val (.int p2), .val (.int p3), .val (.int x0), .val (.int x1), .val (.int fp), .val (.int lp), .val (.int x2), .val (.int x3), .val (.int fc), .val (.int lc), .val (.long np), .second, .val (.long nc), .second, .unset] [])) _
          refine XS.iconst X18.here hx rfl (hb hby at_100) ?_
          show Steps p.tables e below (T18.setTop (mkF m 101 #[.val (.int p0), .val (.int p1), .val (.int p2), .val (.int p3), .val (.int x0), .val (.int x1), .val (.int fp), .val (.int lp), .val (.int x2), .val (.int x3), .val (.int fc), .val (.int lc), .val (.long np), .second, .val (.long nc), .second, .unset] [(.int (1 : Int32))])) _
          exact Steps.refl _)
      obtain ⟨zr, hzr⟩ : ∃ v : Int32, v = (1 : Int32) := ⟨_, rfl⟩
      have hz1 : zr = 1 := plainB p0 p1 p2 p3 x0 x1 fp lp x2 x3 fc lc np nc zr hc24 hc29 hx0 hx1 hfp hlp hx2 hx3 hfc hlc hnp hnc hzr
      obtain ⟨fs, hr, hrun, hended, hW, hsame⟩ := X18.leave (v := some (.int (1 : Int32))) (fun h => by rw [Bd.returns] at h; cases h)
      refine ⟨_, _, q31.trans ?_, hrun, hended, _, _, rfl, ?_, ⟨_, rfl⟩, hW, hsame.mono (by decide) (by decide)⟩
      · show Steps p.tables e below (T18.setTop (mkF m 101 #[.val (.int p0), .val (.int p1), .val (.int p2), .val (.int p3), .val (.int x0), .val (.int x1), .val (.int fp), .val (.int lp), .val (.int x2), .val (.int x3), .val (.int fc), .val (.int lc), .val (.long np), .second, .val (.long nc), .second, .unset] [(.int (1 : Int32))])) _
        exact retN X18 hx (t := .boolean) Bd.returns (by simp) (hb hby at_101) hr
      · show Q_rm0 Z p0 p1 p2 p3 h0 n0 _ T18.heap _
        rw [e18]
        exact ⟨rfl, N18⟩
    · have q32 : Steps p.tables e below (s₁.setTop (entryFrame m #[(.int p0), (.int p1), (.int p2), (.int p3)] maxLocals)) (T18.setTop (mkF m 102 #[.val (.int p0), .val (.int p1), .val (.int p2), .val (.int p3), .val (.int x0), .val (.int x1), .val (.int fp), .val (.int lp), .val (.int x2), .val (.int x3), .val (.int fc), .val (.int lc), .val (.long np), .second, .val (.long nc), .second, .unset] [])) := q28.trans (by
          show Steps p.tables e below (T18.setTop (mkF m 97 #[.val (.int p0), .val (.int p1), .val (.int p2), .val (.int p3), .val (.int x0), .val (.int x1), .val (.int fp), .val (.int lp), .val (.int x2), .val (.int x3), .val (.int fc), .val (.int lc), .val (.long np), .second, .val (.long nc), .second, .unset] [(.int (lcmpW nc (2147483647 : Int64)))])) _
          refine XS.ifYes X18.here hx rfl (pc0 := 97) (pc' := 102) rfl (hb hby at_97) rfl ((if0 _ _).trans (flt (fun q => hc29 ((lw_gt nc (2147483647 : Int64)).mp q))).2.2.2) (by decide) (by decide) ?_
          show Steps p.tables e below (T18.setTop (mkF m 102 #[.val (.int p0), .val (.int p1), .val (.int p2), .val (.int p3), .val (.int x0), .val (.int x1), .val (.int fp), .val (.int lp), .val (.int x2), .val (.int x3), .val (.int fc), .val (.int lc), .val (.long np), .second, .val (.long nc), .second, .unset] [])) _
          exact Steps.refl _)
      obtain ⟨T33, h33, X33, e33, E33, A33, D33, -, st33⟩ := newO X18 hx hZ hown (hw _ (List.mem_of_getElem? (i := 9) rfl)) (hw _ (List.mem_of_getElem? (i := 10) rfl)) (hw _ (List.mem_of_getElem? (i := 11) rfl)) e18 (g := (mkF m 102 #[.val (.int p0), .val (.int p1), .val (.int p2), .val (.int p3), .val (.int x0), .val (.int x1), .val (.int fp), .val (.int lp), .val (.int x2), .val (.int x3), .val (.int fc), .val (.int lc), .val (.long np), .second, .val (.long nc), .second, .unset] [])) rfl (hb hby at_102) (by decide) (by decide)
      obtain ⟨b, g33⟩ : ∃ z, z = h0.size := ⟨_, rfl⟩
      rw [← g33] at A33 D33 st33
      have ge_b : n0 ≤ b := Nat.le_trans Z0 (Nat.le_of_eq g33.symm)
      have Z33 : n0 ≤ h33.size := Nat.le_trans Z0 E33.1
      have F_b_firstProducer : Fld Z h33 b "com/example/tideplan/tideplan/model/SubtaskGroup" "firstProducer" "I" (.int (0 : Int32)) := D33 (Or.inr (hw _ (List.mem_of_getElem? (i := 24) rfl))) (ty := .int) (by decide)
      have F_b_lastProducer : Fld Z h33 b "com/example/tideplan/tideplan/model/SubtaskGroup" "lastProducer" "I" (.int (0 : Int32)) := D33 (Or.inr (hw _ (List.mem_of_getElem? (i := 26) rfl))) (ty := .int) (by decide)
      have F_b_firstConsumer : Fld Z h33 b "com/example/tideplan/tideplan/model/SubtaskGroup" "firstConsumer" "I" (.int (0 : Int32)) := D33 (Or.inr (hw _ (List.mem_of_getElem? (i := 28) rfl))) (ty := .int) (by decide)
      have F_b_lastConsumer : Fld Z h33 b "com/example/tideplan/tideplan/model/SubtaskGroup" "lastConsumer" "I" (.int (0 : Int32)) := D33 (Or.inr (hw _ (List.mem_of_getElem? (i := 30) rfl))) (ty := .int) (by decide)
      have q34 : Steps p.tables e below (s₁.setTop (entryFrame m #[(.int p0), (.int p1), (.int p2), (.int p3)] maxLocals)) (T33.setTop (mkF m 105 #[.val (.int p0), .val (.int p1), .val (.int p2), .val (.int p3), .val (.int x0), .val (.int x1), .val (.int fp), .val (.int lp), .val (.int x2), .val (.int x3), .val (.int fc), .val (.int lc), .val (.long np), .second, .val (.long nc), .second, .unset] [(.ref b)])) := q32.trans (st33 _ (Steps.refl _))
      have q35 : Steps p.tables e below (s₁.setTop (entryFrame m #[(.int p0), (.int p1), (.int p2), (.int p3)] maxLocals)) (T33.setTop (mkF m 114 #[.val (.int p0), .val (.int p1), .val (.int p2), .val (.int p3), .val (.int x0), .val (.int x1), .val (.int fp), .val (.int lp), .val (.int x2), .val (.int x3), .val (.int fc), .val (.int lc), .val (.long np), .second, .val (.long nc), .second, .unset] [(.int lc), (.int fc), (.int lp), (.int fp), (.ref b), (.ref b)])) := q34.trans (by
          show Steps p.tables e below (T33.setTop (mkF m 105 #[.val (.int p0), .val (.int p1), .val (.int p2), .val (.int p3), .val (.int x0), .val (.int x1), .val (.int fp), .val (.int lp), .val (.int x2), .val (.int x3), .val (.int fc), .val (.int lc), .val (.long np), .second, .val (.long nc), .second, .unset] [(.ref b)])) _
          refine XS.dup X33.here hx rfl (hb hby at_105) rfl rfl ?_
          show Steps p.tables e below (T33.setTop (mkF m 106 #[.val (.int p0), .val (.int p1), .val (.int p2), .val (.int p3), .val (.int x0), .val (.int x1), .val (.int fp), .val (.int lp), .val (.int x2), .val (.int x3), .val (.int fc), .val (.int lc), .val (.long np), .second, .val (.long nc), .second, .unset] [(.ref b), (.ref b)])) _
          refine XS.iload X33.here hx rfl (hb hby at_106) rfl ?_
          show Steps p.tables e below (T33.setTop (mkF m 108 #[.val (.int p0), .val (.int p1), .val (.int p2), .val (.int p3), .val (.int x0), .val (.int x1), .val (.int fp), .val (.int lp), .val (.int x2), .val (.int x3), .val (.int fc), .val (.int lc), .val (.long np), .second, .val (.long nc), .second, .unset] [(.int fp), (.ref b), (.ref b)])) _
          refine XS.iload X33.here hx rfl (hb hby at_108) rfl ?_
          show Steps p.tables e below (T33.setTop (mkF m 110 #[.val (.int p0), .val (.int p1), .val (.int p2), .val (.int p3), .val (.int x0), .val (.int x1), .val (.int fp), .val (.int lp), .val (.int x2), .val (.int x3), .val (.int fc), .val (.int lc), .val (.long np), .second, .val (.long nc), .second, .unset] [(.int lp), (.int fp), (.ref b), (.ref b)])) _
          refine XS.iload X33.here hx rfl (hb hby at_110) rfl ?_
          show Steps p.tables e below (T33.setTop (mkF m 112 #[.val (.int p0), .val (.int p1), .val (.int p2), .val (.int p3), .val (.int x0), .val (.int x1), .val (.int fp), .val (.int lp), .val (.int x2), .val (.int x3), .val (.int fc), .val (.int lc), .val (.long np), .second, .val (.long nc), .second, .unset] [(.int fc), (.int lp), (.int fp), (.ref b), (.ref b)])) _
          refine XS.iload X33.here hx rfl (hb hby at_112) rfl ?_
          show Steps p.tables e below (T33.setTop (mkF m 114 #[.val (.int p0), .val (.int p1), .val (.int p2), .val (.int p3), .val (.int x0), .val (.int x1), .val (.int fp), .val (.int lp), .val (.int x2), .val (.int x3), .val (.int fc), .val (.int lc), .val (.long np), .second, .val (.long nc), .second, .unset] [(.int lc), (.int fc), (.int lp), (.int fp), (.ref b), (.ref b)])) _
          exact Steps.refl _)
      obtain ⟨_, _, ⟨T36, L36, k36, n36⟩, -, X36, ⟨Lc36, hQ36, l36, y36, z36⟩, st36⟩ := X33.specialBack hx (y := (⟨"com/example/tideplan/tideplan/model/SubtaskGroup", "<init>", "(IIII)V"⟩ : MethodName)) rfl hown (mvT hZ (hw _ (List.mem_of_getElem? (i := 12) rfl))) (mvT hZ (hw _ (List.mem_of_getElem? (i := 13) rfl))) (mvT hZ (hw _ (List.mem_of_getElem? (i := 14) rfl))) (by decide) (backOf (W := 1) (rm4 l Z a0 hw [] b fp lp fc lc h33 n0 Z33 F_b_firstProducer F_b_lastProducer F_b_firstConsumer F_b_lastConsumer A33 ge_b) hZ (hw _ (List.mem_of_getElem? (i := 14) rfl)) (hw _ (List.mem_of_getElem? (i := 11) rfl)) (by decide) (by decide)) (g := (mkF m 114 #[.val (.int p0), .val (.int p1), .val (.int p2), .val (.int p3), .val (.int x0), .val (.int x1), .val (.int fp), .val (.int lp), .val (.int x2), .val (.int x3), .val (.int fc), .val (.int lc), .val (.long np), .second, .val (.long nc), .second, .unset] [(.int lc), (.int fc), (.int lp), (.int fp), (.ref b), (.ref b)])) rfl (by rw [hml]; rfl) (Steps.refl _) (a := b) (argsL := [(.int fp), (.int lp), (.int fc), (.int lc)]) (rest := [(.ref b)]) (lenOf pd_2 rfl) rfl (by show 2 * 0 + _ ≤ _; exact Nat.le_of_eq rfl) (hb hby at_114) (fun _ _ => ⟨rfl, e33, (by decide : 1 + 0 ≤ _), (by decide : 4 + 0 ≤ _)⟩)
      dsimp only [Pt.U, Pt.locs, Pt.cells, Pt.slots] at X36 l36 y36 z36 st36 hQ36
      subst l36 y36 z36
      obtain ⟨rfl, N36q, K36, A36, G36_0, G36_1, G36_2, G36_3⟩ := hQ36
      have N36 := Fr.app N18 N36q
      have Z36 : n0 ≤ T36.heap.size := Nat.le_trans Z33 K36.1
      have q37 : Steps p.tables e below (s₁.setTop (entryFrame m #[(.int p0), (.int p1), (.int p2), (.int p3)] maxLocals)) (T36.setTop (mkF m 117 #[.val (.int p0), .val (.int p1), .val (.int p2), .val (.int p3), .val (.int x0), .val (.int x1), .val (.int fp), .val (.int lp), .val (.int x2), .val (.int x3), .val (.int fc), .val (.int lc), .val (.long np), .second, .val (.long nc), .second, .unset] [(.ref b)])) := q35.trans (st36)
      have q38 : Steps p.tables e below (s₁.setTop (entryFrame m #[(.int p0), (.int p1), (.int p2), (.int p3)] maxLocals)) (T36.setTop (mkF m 121 #[.val (.int p0), .val (.int p1), .val (.int p2), .val (.int p3), .val (.int x0), .val (.int x1), .val (.int fp), .val (.int lp), .val (.int x2), .val (.int x3), .val (.int fc), .val (.int lc), .val (.long np), .second, .val (.long nc), .second, .val (.ref b)] [(.ref b)])) := q37.trans (by
          show Steps p.tables e below (T36.setTop (mkF m 117 #[.val (.int p0), .val (.int p1), .val (.int p2), .val (.int p3), .val (.int x0), .val (.int x1), .val (.int fp), .val (.int lp), .val (.int x2), .val (.int x3), .val (.int fc), .val (.int lc), .val (.long np), .second, .val (.long nc), .second, .unset] [(.ref b)])) _
          refine XS.astore X36.here hx rfl (hb hby at_117) rfl rfl (l' := #[.val (.int p0), .val (.int p1), .val (.int p2), .val (.int p3), .val (.int x0), .val (.int x1), .val (.int fp), .val (.int lp), .val (.int x2), .val (.int x3), .val (.int fc), .val (.int lc), .val (.long np), .second, .val (.long nc), .second, .val (.ref b)]) rfl ?_
          show Steps p.tables e below (T36.setTop (mkF m 119 #[.val (.int p0), .val (.int p1), .val (.int p2), .val (.int p3), .val (.int x0), .val (.int x1), .val (.int fp), .val (.int lp), .val (.int x2), .val (.int x3), .val (.int fc), .val (.int lc), .val (.long np), .second, .val (.long nc), .second, .val (.ref b)] [])) _
          refine XS.aload X36.here hx rfl (hb hby at_119) rfl rfl ?_
          show Steps p.tables e below (T36.setTop (mkF m 121 #[.val (.int p0), .val (.int p1), .val (.int p2), .val (.int p3), .val (.int x0), .val (.int x1), .val (.int fp), .val (.int lp), .val (.int x2), .val (.int x3), .val (.int fc), .val (.int lc), .val (.long np), .second, .val (.long nc), .second, .val (.ref b)] [(.ref b)])) _
          exact Steps.refl _)
      obtain ⟨cq39, kq39, q39a, q39b, q39c⟩ := isOf hZ rfl A36
      obtain ⟨_, _, ⟨T39, L39, k39, n39⟩, -, X39, ⟨Lc39, hQ39, l39, y39, z39⟩, st39⟩ := X36.virtualBack hx (y := (⟨"com/example/tideplan/tideplan/model/SubtaskGroup", "connections", "()J"⟩ : MethodName)) (z := (⟨"com/example/tideplan/tideplan/model/SubtaskGroup", "connections", "()J"⟩ : MethodName)) hown (mvT hZ (hw _ (List.mem_of_getElem? (i := 31) rfl))) (mvT hZ (hw _ (List.mem_of_getElem? (i := 32) rfl))) (notFace_of_selects (args := #[]) (mvT hZ (hw _ (List.mem_of_getElem? (i := 34) rfl)))) (mvT hZ (hw _ (List.mem_of_getElem? (i := 34) rfl))) (mvT hZ (hw _ (List.mem_of_getElem? (i := 33) rfl))) (by decide) (backOf (W := 0) (rm5 l Z a0 hw [] b fp lp fc lc T36.heap n0 Z36 G36_0 G36_1 G36_2 G36_3) hZ (hw _ (List.mem_of_getElem? (i := 35) rfl)) (hw _ (List.mem_of_getElem? (i := 11) rfl)) (by decide) (by decide)) q39a q39c (g := (mkF m 121 #[.val (.int p0), .val (.int p1), .val (.int p2), .val (.int p3), .val (.int x0), .val (.int x1), .val (.int fp), .val (.int lp), .val (.int x2), .val (.int x3), .val (.int fc), .val (.int lc), .val (.long np), .second, .val (.long nc), .second, .val (.ref b)] [(.ref b)])) rfl (by rw [hml]; rfl) (Steps.refl _) (argsL := []) (rest := []) (lenOf pd_3 rfl) rfl (by show 2 * 0 + _ ≤ _; exact Nat.le_of_eq rfl) (hb hby at_121) (fun _ _ => ⟨rfl, rfl, (by decide : 1 + 0 ≤ _), (by decide : 4 + 0 ≤ _)⟩)
      dsimp only [Pt.U, Pt.locs, Pt.cells, Pt.slots] at X39 l39 y39 z39 st39 hQ39
      subst l39 y39 z39
      obtain ⟨rfl, N39q, e39⟩ := hQ39
      have N39 := Fr.app N36 N39q
      have q40 : Steps p.tables e below (s₁.setTop (entryFrame m #[(.int p0), (.int p1), (.int p2), (.int p3)] maxLocals)) (T39.setTop (mkF m 124 #[.val (.int p0), .val (.int p1), .val (.int p2), .val (.int p3), .val (.int x0), .val (.int x1), .val (.int fp), .val (.int lp), .val (.int x2), .val (.int x3), .val (.int fc), .val (.int lc), .val (.long np), .second, .val (.long nc), .second, .val (.ref b)] [(.long ((((lp - fp) + (1 : Int32)).toInt64) * (((lc - fc) + (1 : Int32)).toInt64)))])) := q38.trans (st39)
      have q41 : Steps p.tables e below (s₁.setTop (entryFrame m #[(.int p0), (.int p1), (.int p2), (.int p3)] maxLocals)) (T39.setTop (mkF m 130 #[.val (.int p0), .val (.int p1), .val (.int p2), .val (.int p3), .val (.int x0), .val (.int x1), .val (.int fp), .val (.int lp), .val (.int x2), .val (.int x3), .val (.int fc), .val (.int lc), .val (.long np), .second, .val (.long nc), .second, .val (.ref b)] [(.int (lcmpW ((((lp - fp) + (1 : Int32)).toInt64) * (((lc - fc) + (1 : Int32)).toInt64)) (np * nc)))])) := q40.trans (by
          show Steps p.tables e below (T39.setTop (mkF m 124 #[.val (.int p0), .val (.int p1), .val (.int p2), .val (.int p3), .val (.int x0), .val (.int x1), .val (.int fp), .val (.int lp), .val (.int x2), .val (.int x3), .val (.int fc), .val (.int lc), .val (.long np), .second, .val (.long nc), .second, .val (.ref b)] [(.long ((((lp - fp) + (1 : Int32)).toInt64) * (((lc - fc) + (1 : Int32)).toInt64)))])) _
          refine XS.lload X39.here hx rfl (hb hby at_124) rfl ?_
          show Steps p.tables e below (T39.setTop (mkF m 126 #[.val (.int p0), .val (.int p1), .val (.int p2), .val (.int p3), .val (.int x0), .val (.int x1), .val (.int fp), .val (.int lp), .val (.int x2), .val (.int x3), .val (.int fc), .val (.int lc), .val (.long np), .second, .val (.long nc), .second, .val (.ref b)] [(.long np), (.long ((((lp - fp) + (1 : Int32)).toInt64) * (((lc - fc) + (1 : Int32)).toInt64)))])) _
          refine XS.lload X39.here hx rfl (hb hby at_126) rfl ?_
          show Steps p.tables e below (T39.setTop (mkF m 128 #[.val (.int p0), .val (.int p1), .val (.int p2), .val (.int p3), .val (.int x0), .val (.int x1), .val (.int fp), .val (.int lp), .val (.int x2), .val (.int x3), .val (.int fc), .val (.int lc), .val (.long np), .second, .val (.long nc), .second, .val (.ref b)] [(.long nc), (.long np), (.long ((((lp - fp) + (1 : Int32)).toInt64) * (((lc - fc) + (1 : Int32)).toInt64)))])) _
          refine XS.lmul X39.here hx rfl (hb hby at_128) rfl ?_
          show Steps p.tables e below (T39.setTop (mkF m 129 #[.val (.int p0), .val (.int p1), .val (.int p2), .val (.int p3), .val (.int x0), .val (.int x1), .val (.int fp), .val (.int lp), .val (.int x2), .val (.int x3), .val (.int fc), .val (.int lc), .val (.long np), .second, .val (.long nc), .second, .val (.ref b)] [(.long (np * nc)), (.long ((((lp - fp) + (1 : Int32)).toInt64) * (((lc - fc) + (1 : Int32)).toInt64)))])) _
          refine XS.lcmp X39.here hx rfl (hb hby at_129) rfl ?_
          show Steps p.tables e below (T39.setTop (mkF m 130 #[.val (.int p0), .val (.int p1), .val (.int p2), .val (.int p3), .val (.int x0), .val (.int x1), .val (.int fp), .val (.int lp), .val (.int x2), .val (.int x3), .val (.int fc), .val (.int lc), .val (.long np), .second, .val (.long nc), .second, .val (.ref b)] [(.int (lcmpW ((((lp - fp) + (1 : Int32)).toInt64) * (((lc - fc) + (1 : Int32)).toInt64)) (np * nc)))])) _
          exact Steps.refl _)
      obtain ⟨zr, hzr⟩ : ∃ v : Int32, v = (if ((((lp - fp) + (1 : Int32)).toInt64) * (((lc - fc) + (1 : Int32)).toInt64)) = (np * nc) then (1 : Int32) else (0 : Int32)) := ⟨_, rfl⟩
      have hz1 : zr = 1 := plainC p0 p1 p2 p3 x0 x1 fp lp x2 x3 fc lc np nc zr hc24 hc29 hx0 hx1 hfp hlp hx2 hx3 hfc hlc hnp hnc hzr
      obtain ⟨fs, hr, hrun, hended, hW, hsame⟩ := X39.leave (v := some (.int (1 : Int32))) (fun h => by rw [Bd.returns] at h; cases h)
      refine ⟨_, _, q41.trans ?_, hrun, hended, _, _, rfl, ?_, ⟨_, rfl⟩, hW, hsame.mono (by decide) (by decide)⟩
      · show Steps p.tables e below (T39.setTop (mkF m 130 #[.val (.int p0), .val (.int p1), .val (.int p2), .val (.int p3), .val (.int x0), .val (.int x1), .val (.int fp), .val (.int lp), .val (.int x2), .val (.int x3), .val (.int fc), .val (.int lc), .val (.long np), .second, .val (.long nc), .second, .val (.ref b)] [(.int (lcmpW ((((lp - fp) + (1 : Int32)).toInt64) * (((lc - fc) + (1 : Int32)).toInt64)) (np * nc)))])) _
        by_cases hc42 : ((((lp - fp) + (1 : Int32)).toInt64) * (((lc - fc) + (1 : Int32)).toInt64)) = (np * nc)
        · rw [if_pos hc42] at hzr
          refine XS.ifNo X39.here hx rfl (hb hby at_130) rfl ((if0 _ _).trans (teq ((lw_eq ((((lp - fp) + (1 : Int32)).toInt64) * (((lc - fc) + (1 : Int32)).toInt64)) (np * nc)).mpr hc42)).2) ?_
          show Steps p.tables e below (T39.setTop (mkF m 133 #[.val (.int p0), .val (.int p1), .val (.int p2), .val (.int p3), .val (.int x0), .val (.int x1), .val (.int fp), .val (.int lp), .val (.int x2), .val (.int x3), .val (.int fc), .val (.int lc), .val (.long np), .second, .val (.long nc), .second, .val (.ref b)] [])) _
          refine XS.iconst X39.here hx rfl (hb hby at_133) ?_
          show Steps p.tables e below (T39.setTop (mkF m 134 #[.val (.int p0), .val (.int p1), .val (.int p2), .val (.int p3), .val (.int x0), .val (.int x1), .val (.int fp), .val (.int lp), .val (.int x2), .val (.int x3), .val (.int fc), .val (.int lc), .val (.long np), .second, .val (.long nc), .second, .val (.ref b)] [(.int (1 : Int32))])) _
          refine XS.goto X39.here hx rfl (pc0 := 134) (pc' := 138) rfl (hb hby at_134) (by decide) (by decide) ?_
          show Steps p.tables e below (T39.setTop (mkF m 138 #[.val (.int p0), .val (.int p1), .val (.int p2), .val (.int p3), .val (.int x0), .val (.int x1), .val (.int fp), .val (.int lp), .val (.int x2), .val (.int x3), .val (.int fc), .val (.int lc), .val (.long np), .second, .val (.long nc), .second, .val (.ref b)] [(.int (1 : Int32))])) _
          exact retN X39 hx (t := .boolean) Bd.returns (by simp) (hb hby at_138) hr
        · rw [if_neg hc42] at hzr
          refine XS.ifYes X39.here hx rfl (pc0 := 130) (pc' := 137) rfl (hb hby at_130) rfl ((if0 _ _).trans (feq (fun q => hc42 ((lw_eq ((((lp - fp) + (1 : Int32)).toInt64) * (((lc - fc) + (1 : Int32)).toInt64)) (np * nc)).mp q))).2) (by decide) (by decide) ?_
          show Steps p.tables e below (T39.setTop (mkF m 137 #[.val (.int p0), .val (.int p1), .val (.int p2), .val (.int p3), .val (.int x0), .val (.int x1), .val (.int fp), .val (.int lp), .val (.int x2), .val (.int x3), .val (.int fc), .val (.int lc), .val (.long np), .second, .val (.long nc), .second, .val (.ref b)] [])) _
          refine XS.iconst X39.here hx rfl (hb hby at_137) ?_
          show Steps p.tables e below (T39.setTop (mkF m 138 #[.val (.int p0), .val (.int p1), .val (.int p2), .val (.int p3), .val (.int x0), .val (.int x1), .val (.int fp), .val (.int lp), .val (.int x2), .val (.int x3), .val (.int fc), .val (.int lc), .val (.long np), .second, .val (.long nc), .second, .val (.ref b)] [(.int (0 : Int32))])) _
          exact absurd (hzr.symm.trans hz1) (by decide)
      · show Q_rm0 Z p0 p1 p2 p3 h0 n0 _ T39.heap _
        rw [e39]
        exact ⟨rfl, N39⟩

set_option maxRecDepth 65536 in
set_option maxHeartbeats 40000000 in
theorem comes_1 {Post : Tables → Env → Array Value → State → Outcome → State → Prop} (hpost : ∀ tb e args s v u, (limb_1_1.after args s (.returned v) u = true ∧ limb_1_2.after args s (.returned v) u = true ∧ True) → FrameEnd s (.returned v) u (Jvm.fieldLocs frame_1_writes args s ++ Jvm.arrayLocs frame_1_arrays args s ++ Jvm.staticLocs frame_1_statics s) 16 128 → Post tb e args s (.returned v) u) :
    ArmFor flags0 classFile x code maxLocals ret World_1 tables_1 room_1 Calls_1 rest_1 Pre_1 Post := by
  intro l hfl _ _ p e ha hc hk s m args below hf hA hF happ hP
  obtain ⟨hcalls, hrest, hpre⟩ := hP
  obtain ⟨-, -, -, hnamed, -, -, -, hat⟩ := (Spec.applies_iff hf).mp happ
  obtain ⟨hg, hn⟩ := and_e (Cond.before_iff.mp (show (Jvm.Cond.and given_1 narrow_1).before args s = true from hpre))
  obtain ⟨hcount, hg0⟩ := and_e hg
  obtain ⟨ga0, hg1⟩ := and_e hg0
  obtain ⟨ga1, hg2⟩ := and_e hg1
  obtain ⟨ga2, hg3⟩ := and_e hg2
  obtain ⟨w0, w1, w2, w3, rfl⟩ : ∃ w0 w1 w2 w3 : Value, args = #[w0, w1, w2, w3] := by
    have hs : args.size = 4 := by simpa [Cond.value, given_1] using hcount
    obtain ⟨L⟩ := args
    match L, hs with
    | [w0, w1, w2, w3], _ => exact ⟨w0, w1, w2, w3, rfl⟩
  have hw := fun d (hd : d ∈ tables_1) => atoms_spec (ws := Jvm.Cond.code x code maxLocals ret :: tables_1) hat d (List.mem_cons_of_mem _ hd)
  have hfit : Fit s := fun {y c} hc i hi => by
    obtain ⟨ha, rfl⟩ := Array.getElem?_eq_some_iff.mp hc
    have q := List.all_eq_true.mp ((Array.all_eq_true_iff_forall_mem.mp hF) _ (Array.getElem_mem ha)) i (List.mem_range.mpr hi)
    simpa [Array.getElem?_eq_getElem hi] using q
  obtain ⟨i0, ei0⟩ := is_v ga0
  obtain rfl : w0 = (.int i0) := Option.some.inj ei0
  obtain ⟨i1, ei1⟩ := is_v ga1
  obtain rfl : w1 = (.int i1) := Option.some.inj ei1
  obtain ⟨i2, ei2⟩ := is_v ga2
  obtain rfl : w2 = (.int i2) := Option.some.inj ei2
  obtain ⟨i3, ei3⟩ := is_v hg3
  obtain rfl : w3 = (.int i3) := Option.some.inj ei3
  obtain ⟨n, o, h1, h2, h3, _, L, rfl, ⟨rfl, N⟩, hq⟩ := rm0 l s _ hw tables_1 i0 i1 i2 i3 s.heap s.heap.size (Nat.le_refl _)  p e ha hc hk s m _ below hf ((Spec.applies_iff_loose hf).mp happ).1 ⟨rfl, State.Warmed39.refl s, rfl⟩ trivial
  refine ⟨n, _, h1, h2, h3, hpost _ _ _ _ _ _ ⟨Cond.after_iff.mpr rfl, Cond.after_iff.mpr (eq_i res_at (Term.int_eval (1)) rfl), trivial⟩ ⟨hq.1, hq.2.1, (hq.2.2.sift fun y hy => Or.inr (N y hy)).mono (by decide) (by decide)⟩⟩
theorem main_1_1 : Claimed_1_1 := comes_1 fun _ _ _ _ _ _ h hF => ⟨h.1, hF⟩
theorem main_1_2 : Claimed_1_2 := comes_1 fun _ _ _ _ _ _ h hF => ⟨h.2.1, hF⟩
end Jvm.Pilot.@@N@@
namespace Jvm.Pilot.@@N@@
open Jvm Jvm.ClassFile Sem Op Lib Jvm.Free Jvm.Stand Jvm.Pilot.@@N@@.Jvm.D
/-! MADE BY PROGRAM (witnessworld.py) out of the Statement's table words and the real class files: 9 classes; the members and pool entries that the words name. The judged class is class 1, her method 1. -/
namespace start1
open Jvm.ClassFile
def u (s : String) : CpInfo := .utf8 (stringToUtf16 s)
/-- a pool by its gaps: so many unusable entries, then the entry; so many at the end -/
def gap : Nat → List CpInfo → List CpInfo
  | 0, r => r
  | n + 1, r => .unusable :: gap n r
def poolList (es : List (Nat × CpInfo)) (last : Nat) : List CpInfo := es.foldr (fun e r => gap e.1 (e.2 :: r)) (gap last [])
def pool (es : List (Nat × CpInfo)) (last : Nat) : Array CpInfo := ⟨poolList es last⟩
def fileOf (pool : Array CpInfo) (this : Nat) (attrs : Array Attribute := #[]) (ms : Array MethodInfo := #[]) (fl : Nat := 33) (sup : Nat := 0) (ifs : Array Nat := #[]) (fds : Array FieldInfo := #[]) : ClassFile where
  minorVersion := 0
  majorVersion := 65
  constantPool := pool
  accessFlags := fl
  thisClass := this
  superClass := sup
  interfaces := ifs
  fields := fds
  methods := ms
  attributes := attrs
def plain (name : String) (sup : Option ClassId) : Class where
  name := name
  kind := .ordinary
  loader := none
  accessFlags := 33
  super := sup
  interfaces := #[]
  cf := none
  fields := #[]
  methods := #[]
  instanceTypes := #[]
  staticTypes := #[]
  resolved := #[]
  callSites := []
  init := .initialized
  statics := none
  mirror := none

def pool0 : Array CpInfo := pool [(5, u "<init>"), (0, u "()V"), (1, .class_ 10), (1, u "java/lang/Object")] 113

def k0c0 : Code := { maxStack := 0, maxLocals := 1, code := object_method_1_code, exceptionTable := #[], attributes := #[] }
def k0m0 : Method := { name := "<init>", desc := "()V", sig := { parameters := [], returnType := none }, accessFlags := 1, code := some k0c0 }
/-- java/lang/Object -/
def k0 : Class := { plain "java/lang/Object" none with
  accessFlags := 33
  interfaces := #[]
  cf := some (fileOf pool0 8 #[] #[{ accessFlags := 1, nameIndex := 5, descriptorIndex := 6, attributes := #[] }] 33 0 #[] #[])
  fields := #[]
  methods := #[k0m0]
  instanceTypes := #[]
  staticTypes := #[]
  resolved := Array.replicate 124 none
  statics := none }

def pool1 : Array CpInfo := pool [(2, .class_ 4), (1, u "java/lang/Object"), (0, u "<init>"), (0, u "()V"), (0, .integer 2147483647), (0, .methodref 9 10), (0, .class_ 11), (0, .nameAndType 12 13), (0, u "java/lang/Math"), (0, u "min"), (0, u "(II)I"), (0, .methodref 9 15), (0, .nameAndType 16 13), (0, u "max"), (0, .long 2147483647), (1, .class_ 20), (0, u "com/example/tideplan/tideplan/model/SubtaskGroup"), (0, .methodref 19 22), (0, .nameAndType 5 23), (0, u "(IIII)V"), (0, .methodref 19 25), (0, .nameAndType 26 27), (0, u "connections"), (0, u "()J"), (0, .class_ 29), (0, u "com/example/tideplan/tideplan/model/SubtaskGroupConnectionsPinLaw"), (2, u "law"), (0, u "(IIII)Z")] 3

def k1m0 : Method := { name := "<init>", desc := "()V", sig := { parameters := [], returnType := none }, accessFlags := 1, code := none }
def k1c1 : Code := { maxStack := 6, maxLocals := 17, code := code, exceptionTable := #[], attributes := #[] }
def k1m1 : Method := { name := "law", desc := "(IIII)Z", sig := { parameters := [.int, .int, .int, .int], returnType := some .boolean }, accessFlags := 9, code := some k1c1 }
/-- com/example/tideplan/tideplan/model/SubtaskGroupConnectionsPinLaw -/
def k1 : Class := { plain "com/example/tideplan/tideplan/model/SubtaskGroupConnectionsPinLaw" (some 0) with
  accessFlags := 49
  interfaces := #[]
  cf := some (fileOf pool1 28 #[] #[{ accessFlags := 1, nameIndex := 5, descriptorIndex := 6, attributes := #[] }, { accessFlags := 9, nameIndex := 32, descriptorIndex := 33, attributes := #[] }] 49 2 #[] #[])
  fields := #[]
  methods := #[k1m0, k1m1]
  instanceTypes := #[]
  staticTypes := #[]
  resolved := Array.replicate 37 none
  statics := none }

def pool2 : Array CpInfo := pool [(1, .class_ 2), (0, u "java/lang/Math"), (1, .class_ 6), (1, u "java/lang/Object"), (0, u "<init>"), (0, u "()V"), (89, .class_ 100), (1, u "java/lang/Math$RandomNumberGeneratorHolder"), (71, u "negativeZeroFloatBits"), (0, u "J"), (2, u "negativeZeroDoubleBits"), (21, u "max"), (2, u "min"), (43, u "$assertionsDisabled"), (0, u "Z"), (88, u "(II)I"), (2, u "twoToTheDoubleScaleDown"), (0, u "D"), (4, u "twoToTheDoubleScaleUp"), (9, u "E"), (3, u "PI"), (2, u "TAU"), (2, u "DEGREES_TO_RADIANS"), (0, u "RADIANS_TO_DEGREES")] 94

def k2m0 : Method := { name := "<init>", desc := "()V", sig := { parameters := [], returnType := none }, accessFlags := 2, code := none }
def k2c1 : Code := { maxStack := 2, maxLocals := 2, code := jdk_29_method_65_code, exceptionTable := #[], attributes := #[] }
def k2m1 : Method := { name := "max", desc := "(II)I", sig := { parameters := [.int, .int], returnType := some .int }, accessFlags := 9, code := some k2c1 }
def k2c2 : Code := { maxStack := 2, maxLocals := 2, code := jdk_29_method_69_code, exceptionTable := #[], attributes := #[] }
def k2m2 : Method := { name := "min", desc := "(II)I", sig := { parameters := [.int, .int], returnType := some .int }, accessFlags := 9, code := some k2c2 }
/-- java/lang/Math -/
def k2 : Class := { plain "java/lang/Math" (some 0) with
  accessFlags := 49
  interfaces := #[]
  cf := some (fileOf pool2 1 #[.nestMembers #[98]] #[{ accessFlags := 2, nameIndex := 7, descriptorIndex := 8, attributes := #[] }, { accessFlags := 9, nameIndex := 198, descriptorIndex := 335, attributes := #[] }, { accessFlags := 9, nameIndex := 201, descriptorIndex := 335, attributes := #[] }] 49 4 #[] #[{ accessFlags := 25, nameIndex := 354, descriptorIndex := 339, attributes := #[] }, { accessFlags := 25, nameIndex := 358, descriptorIndex := 339, attributes := #[] }, { accessFlags := 25, nameIndex := 361, descriptorIndex := 339, attributes := #[] }, { accessFlags := 26, nameIndex := 364, descriptorIndex := 339, attributes := #[] }, { accessFlags := 26, nameIndex := 365, descriptorIndex := 339, attributes := #[] }, { accessFlags := 26, nameIndex := 172, descriptorIndex := 173, attributes := #[] }, { accessFlags := 26, nameIndex := 176, descriptorIndex := 173, attributes := #[] }, { accessFlags := 8, nameIndex := 344, descriptorIndex := 339, attributes := #[] }, { accessFlags := 8, nameIndex := 338, descriptorIndex := 339, attributes := #[] }, { accessFlags := 4120, nameIndex := 245, descriptorIndex := 246, attributes := #[] }])
  fields := #[{ name := "E", type := .double, accessFlags := 25, slot := 0, constantValue := 0 }, { name := "PI", type := .double, accessFlags := 25, slot := 1, constantValue := 0 }, { name := "TAU", type := .double, accessFlags := 25, slot := 2, constantValue := 0 }, { name := "DEGREES_TO_RADIANS", type := .double, accessFlags := 26, slot := 3, constantValue := 0 }, { name := "RADIANS_TO_DEGREES", type := .double, accessFlags := 26, slot := 4, constantValue := 0 }, { name := "negativeZeroFloatBits", type := .long, accessFlags := 26, slot := 5, constantValue := 0 }, { name := "negativeZeroDoubleBits", type := .long, accessFlags := 26, slot := 6, constantValue := 0 }, { name := "twoToTheDoubleScaleUp", type := .double, accessFlags := 8, slot := 7, constantValue := 0 }, { name := "twoToTheDoubleScaleDown", type := .double, accessFlags := 8, slot := 8, constantValue := 0 }, { name := "$assertionsDisabled", type := .boolean, accessFlags := 4120, slot := 9, constantValue := 0 }]
  methods := #[k2m0, k2m1, k2m2]
  instanceTypes := #[]
  staticTypes := #[.double, .double, .double, .double, .double, .long, .long, .double, .double, .boolean]
  resolved := Array.replicate 460 none
  statics := none }

def pool3 : Array CpInfo := pool [(1, .methodref 2 3), (0, .class_ 4), (0, .nameAndType 5 6), (0, u "java/lang/Object"), (0, u "<init>"), (0, u "()V"), (0, .class_ 8), (0, u "java/lang/Record")] 13

def k3c0 : Code := { maxStack := 1, maxLocals := 1, code := jdk_30_method_1_code, exceptionTable := #[], attributes := #[] }
def k3m0 : Method := { name := "<init>", desc := "()V", sig := { parameters := [], returnType := none }, accessFlags := 4, code := some k3c0 }
/-- java/lang/Record -/
def k3 : Class := { plain "java/lang/Record" (some 0) with
  accessFlags := 1057
  interfaces := #[]
  cf := some (fileOf pool3 7 #[] #[{ accessFlags := 4, nameIndex := 5, descriptorIndex := 6, attributes := #[] }] 1057 2 #[] #[])
  fields := #[]
  methods := #[k3m0]
  instanceTypes := #[]
  staticTypes := #[]
  resolved := Array.replicate 22 none
  statics := none }

def pool4 : Array CpInfo := pool [(1, .methodref 2 3), (0, .class_ 4), (0, .nameAndType 5 6), (0, u "java/lang/Record"), (0, u "<init>"), (0, u "()V"), (0, .fieldref 8 9), (0, .class_ 10), (0, .nameAndType 11 12), (0, u "com/example/tideplan/tideplan/model/SubtaskGroup"), (0, u "firstProducer"), (0, u "I"), (0, .fieldref 8 14), (0, .nameAndType 15 12), (0, u "lastProducer"), (0, .fieldref 8 17), (0, .nameAndType 18 12), (0, u "firstConsumer"), (0, .fieldref 8 20), (0, .nameAndType 21 12), (0, u "lastConsumer"), (12, u "(IIII)V"), (3, u "connections"), (0, u "()J")] 26

def k4c0 : Code := { maxStack := 2, maxLocals := 5, code := prog_26_method_1_code, exceptionTable := #[], attributes := #[] }
def k4m0 : Method := { name := "<init>", desc := "(IIII)V", sig := { parameters := [.int, .int, .int, .int], returnType := none }, accessFlags := 1, code := some k4c0 }
def k4c1 : Code := { maxStack := 4, maxLocals := 1, code := prog_26_method_2_code, exceptionTable := #[], attributes := #[] }
def k4m1 : Method := { name := "connections", desc := "()J", sig := { parameters := [], returnType := some .long }, accessFlags := 1, code := some k4c1 }
/-- com/example/tideplan/tideplan/model/SubtaskGroup -/
def k4 : Class := { plain "com/example/tideplan/tideplan/model/SubtaskGroup" (some 3) with
  accessFlags := 49
  interfaces := #[]
  cf := some (fileOf pool4 8 #[] #[{ accessFlags := 1, nameIndex := 5, descriptorIndex := 34, attributes := #[] }, { accessFlags := 1, nameIndex := 38, descriptorIndex := 39, attributes := #[] }] 49 2 #[] #[{ accessFlags := 18, nameIndex := 11, descriptorIndex := 12, attributes := #[] }, { accessFlags := 18, nameIndex := 15, descriptorIndex := 12, attributes := #[] }, { accessFlags := 18, nameIndex := 18, descriptorIndex := 12, attributes := #[] }, { accessFlags := 18, nameIndex := 21, descriptorIndex := 12, attributes := #[] }])
  fields := #[{ name := "firstProducer", type := .int, accessFlags := 18, slot := 0, constantValue := 0 }, { name := "lastProducer", type := .int, accessFlags := 18, slot := 1, constantValue := 0 }, { name := "firstConsumer", type := .int, accessFlags := 18, slot := 2, constantValue := 0 }, { name := "lastConsumer", type := .int, accessFlags := 18, slot := 3, constantValue := 0 }]
  methods := #[k4m0, k4m1]
  instanceTypes := #[.int, .int, .int, .int]
  staticTypes := #[]
  resolved := Array.replicate 66 none
  statics := none }

def pool5 : Array CpInfo := pool [(1, u "java/lang/Cloneable"), (0, .class_ 1), (0, u "java/lang/Object"), (0, .class_ 3)] 3

/-- java/lang/Cloneable -/
def k5 : Class := { plain "java/lang/Cloneable" (some 0) with
  accessFlags := 1537
  interfaces := #[]
  cf := some (fileOf pool5 2 #[] #[] 1537 4 #[] #[])
  fields := #[]
  methods := #[]
  instanceTypes := #[]
  staticTypes := #[]
  resolved := Array.replicate 8 none
  statics := none }

def pool6 : Array CpInfo := pool [(1, u "java/io/Serializable"), (0, .class_ 1), (0, u "java/lang/Object"), (0, .class_ 3)] 3

/-- java/io/Serializable -/
def k6 : Class := { plain "java/io/Serializable" (some 0) with
  accessFlags := 1537
  interfaces := #[]
  cf := some (fileOf pool6 2 #[] #[] 1537 4 #[] #[])
  fields := #[]
  methods := #[]
  instanceTypes := #[]
  staticTypes := #[]
  resolved := Array.replicate 8 none
  statics := none }

/-- the primitive byte -/
def k7 : Class := { plain "byte" none with kind := .primitive 'B', accessFlags := 0x411 }
/-- [B -/
def k8 : Class := { plain "[B" (some 0) with kind := .array 7 .byte, interfaces := #[5, 6], accessFlags := 1041 }

def heap : Heap := #[]
def classes : Array Class := #[k0, k1, k2, k3, k4, k5, k6, k7, k8]
def interned : List (Array UInt16 × Addr) := []
def slotsUsed : Nat := 0
def theMethod : MethodId := ⟨1, 1⟩
def args0 : Array Value := #[.int 5, .int 0, .int 1, .int 7]
def aboutOver (below : List Frame) : State where
  vm := { classes := classes, interned := interned.toArray }
  heap := heap
  slotsUsed := slotsUsed
  threads := #[{ frames := .invoking theMethod args0 :: below }]
def below0 : List Frame := [.native { method := ⟨0, 0⟩, args := #[] }]
def about1 : State := aboutOver below0
def p0 : Program := .bare "" "" ""
def e0 : Env := launch0.env 0 0 0
theorem w_frames : about1.frames = Frame.invoking theMethod args0 :: below0 := rfl
set_option maxRecDepth 65536 in
theorem w_args : argsFit about1.vm theMethod args0 = true := by decide +kernel
set_option maxRecDepth 65536 in
theorem w_heap : heapFits about1 = true := by decide +kernel
set_option maxRecDepth 65536 in
theorem w_runnable : about1.curStatus? = some .runnable := by decide +kernel
set_option maxRecDepth 65536 in
theorem w_alone : about1.alone = true := by decide +kernel
set_option maxRecDepth 65536 in
theorem w_named : about1.methodNamed? x = some theMethod := by decide +kernel
set_option maxRecDepth 65536 in
theorem w_hears : about1.hears theMethod below0 = true := by decide +kernel
set_option maxRecDepth 65536 in
theorem w_ripe : about1.ripe theMethod args0 below0 = true := by decide +kernel
theorem w_running : about1.status = .running := rfl
set_option maxRecDepth 65536 in
theorem w_room : about1.hasRoom e0.platform room_1 = true :=
  launch0.hasRoom_least _ room_1 (by decide +kernel) (by decide +kernel) (by decide +kernel) (by decide +kernel) (by decide +kernel) (by decide +kernel)
theorem allAtoms_all (ts : List Jvm.Cond) (a : Array Jvm.Value) (st : Jvm.State) : (allAtoms ts).before a st = ts.all (fun c => c.before a st) := by
  induction ts with
  | nil => rfl
  | cons c t ih =>
    show (Jvm.Cond.and c (allAtoms t)).before a st = _
    rw [Jvm.Cond.before_and, ih, List.all_cons]
def words1 : List Jvm.Cond := Jvm.Cond.code x code maxLocals ret :: tables_1
/-- a 'code' word, met by the world's own term for the bytes: nothing is compared byte by byte -/
theorem code_word {y : MethodName} {bytes : ByteArray} {mx : Nat} {rt : Option FieldType} {a : Array Value} {s : State} {m : MethodId} {meth : Method} {c : Code} (h1 : s.methodNamed? y = some m) (h2 : s.vm.method? m = some meth) (h3 : meth.code = some c) (h4 : c.code = bytes)
    (h5 : (c.maxLocals == mx && c.exceptionTable.isEmpty && decide (c.maxStack ≤ mostOperands) && decide (meth.sig.returnType = rt) && !meth.locks && decide (parseMethodDescriptor y.desc = some meth.sig)) = true) : (Jvm.Cond.code y bytes mx rt).before a s = true := by
  simp only [Bool.and_eq_true, beq_iff_eq, Bool.not_eq_true', decide_eq_true_eq] at h5
  obtain ⟨⟨⟨⟨⟨g1, g2⟩, g3⟩, g4⟩, g5⟩, g6⟩ := h5
  simp [Cond.before, Cond.holds, Cond.value, h1, h2, h3, h4, g1, g2, g3, g4, g5, g6]
def isCode : Jvm.Cond → Bool
  | .code _ _ _ _ => true
  | _ => false
theorem all_split {L : List Jvm.Cond} {P : Jvm.Cond → Bool} (h1 : L.all (fun c => isCode c || P c) = true) (h2 : ∀ c ∈ L.filter isCode, P c = true) : L.all P = true := by
  refine List.all_eq_true.mpr fun c hc => ?_
  have h := List.all_eq_true.mp h1 c hc
  rcases Bool.eq_false_or_eq_true (isCode c) with hi | hi
  · exact h2 c (List.mem_filter.mpr ⟨hc, hi⟩)
  · simpa [hi] using h
set_option maxRecDepth 65536 in
theorem w_c0 : (Jvm.Cond.code x code maxLocals ret).before args0 about1 = true := code_word (m := ⟨1, 1⟩) (meth := k1m1) (c := k1c1) (by decide +kernel) rfl rfl rfl (by decide +kernel)
set_option maxRecDepth 65536 in
theorem w_c1 : (Jvm.Cond.code ({ cls := "java/lang/Math", name := "min", desc := "(II)I" } : Jvm.MethodName) jdk_29_method_69_code (2 : Nat) (Option.some Jvm.ClassFile.FieldType.int)).before args0 about1 = true := code_word (m := ⟨2, 2⟩) (meth := k2m2) (c := k2c2) (by decide +kernel) rfl rfl rfl (by decide +kernel)
set_option maxRecDepth 65536 in
theorem w_c2 : (Jvm.Cond.code ({ cls := "java/lang/Math", name := "max", desc := "(II)I" } : Jvm.MethodName) jdk_29_method_65_code (2 : Nat) (Option.some Jvm.ClassFile.FieldType.int)).before args0 about1 = true := code_word (m := ⟨2, 1⟩) (meth := k2m1) (c := k2c1) (by decide +kernel) rfl rfl rfl (by decide +kernel)
set_option maxRecDepth 65536 in
theorem w_c3 : (Jvm.Cond.code ({ cls := "com/example/tideplan/tideplan/model/SubtaskGroup", name := "<init>", desc := "(IIII)V" } : Jvm.MethodName) prog_26_method_1_code (5 : Nat) (Option.none : Option Jvm.ClassFile.FieldType)).before args0 about1 = true := code_word (m := ⟨4, 0⟩) (meth := k4m0) (c := k4c0) (by decide +kernel) rfl rfl rfl (by decide +kernel)
set_option maxRecDepth 65536 in
theorem w_c4 : (Jvm.Cond.code ({ cls := "java/lang/Record", name := "<init>", desc := "()V" } : Jvm.MethodName) jdk_30_method_1_code (1 : Nat) (Option.none : Option Jvm.ClassFile.FieldType)).before args0 about1 = true := code_word (m := ⟨3, 0⟩) (meth := k3m0) (c := k3c0) (by decide +kernel) rfl rfl rfl (by decide +kernel)
set_option maxRecDepth 65536 in
theorem w_c5 : (Jvm.Cond.code ({ cls := "java/lang/Object", name := "<init>", desc := "()V" } : Jvm.MethodName) object_method_1_code (1 : Nat) (Option.none : Option Jvm.ClassFile.FieldType)).before args0 about1 = true := code_word (m := ⟨0, 0⟩) (meth := k0m0) (c := k0c0) (by decide +kernel) rfl rfl rfl (by decide +kernel)
set_option maxRecDepth 65536 in
theorem w_c6 : (Jvm.Cond.code ({ cls := "com/example/tideplan/tideplan/model/SubtaskGroup", name := "connections", desc := "()J" } : Jvm.MethodName) prog_26_method_2_code (1 : Nat) (Option.some Jvm.ClassFile.FieldType.long)).before args0 about1 = true := code_word (m := ⟨4, 1⟩) (meth := k4m1) (c := k4c1) (by decide +kernel) rfl rfl rfl (by decide +kernel)
def codes1 : List Jvm.Cond := [Jvm.Cond.code x code maxLocals ret, Jvm.Cond.code ({ cls := "java/lang/Math", name := "min", desc := "(II)I" } : Jvm.MethodName) jdk_29_method_69_code (2 : Nat) (Option.some Jvm.ClassFile.FieldType.int), Jvm.Cond.code ({ cls := "java/lang/Math", name := "max", desc := "(II)I" } : Jvm.MethodName) jdk_29_method_65_code (2 : Nat) (Option.some Jvm.ClassFile.FieldType.int), Jvm.Cond.code ({ cls := "com/example/tideplan/tideplan/model/SubtaskGroup", name := "<init>", desc := "(IIII)V" } : Jvm.MethodName) prog_26_method_1_code (5 : Nat) (Option.none : Option Jvm.ClassFile.FieldType), Jvm.Cond.code ({ cls := "java/lang/Record", name := "<init>", desc := "()V" } : Jvm.MethodName) jdk_30_method_1_code (1 : Nat) (Option.none : Option Jvm.ClassFile.FieldType), Jvm.Cond.code ({ cls := "java/lang/Object", name := "<init>", desc := "()V" } : Jvm.MethodName) object_method_1_code (1 : Nat) (Option.none : Option Jvm.ClassFile.FieldType), Jvm.Cond.code ({ cls := "com/example/tideplan/tideplan/model/SubtaskGroup", name := "connections", desc := "()J" } : Jvm.MethodName) prog_26_method_2_code (1 : Nat) (Option.some Jvm.ClassFile.FieldType.long)]
set_option maxRecDepth 65536 in
theorem codes_eq : words1.filter isCode = codes1 := rfl
theorem w_codes : ∀ c ∈ words1.filter isCode, c.before args0 about1 = true := by
  rw [codes_eq]
  intro c hc
  simp only [codes1, List.mem_cons, List.not_mem_nil, or_false] at hc
  rcases hc with rfl | rfl | rfl | rfl | rfl | rfl | rfl
  · exact w_c0
  · exact w_c1
  · exact w_c2
  · exact w_c3
  · exact w_c4
  · exact w_c5
  · exact w_c6
set_option maxRecDepth 65536 in
theorem w_t1 : (words1.take 24).all (fun c => isCode c || c.before args0 about1) = true := by decide +kernel
set_option maxRecDepth 65536 in
theorem w_t2 : (words1.drop 24).all (fun c => isCode c || c.before args0 about1) = true := by decide +kernel
theorem w_tables : (allAtoms (Jvm.Cond.code x code maxLocals ret :: tables_1)).before args0 about1 = true := by
  rw [allAtoms_all]
  show words1.all (fun c => c.before args0 about1) = true
  refine all_split ?_ w_codes
  rw [← List.take_append_drop 24 words1, List.all_append, w_t1, w_t2]
  rfl
set_option maxRecDepth 65536 in
theorem w_case : (Jvm.Cond.and given_1 narrow_1).before args0 about1 = true := by decide +kernel
theorem w_applies : (headSpec (Jvm.Cond.code x code maxLocals ret :: tables_1) room_1).applies x e0.platform about1 = true :=
  (Spec.applies_iff w_frames).mpr ⟨w_running, w_runnable, w_alone, w_named, w_hears, w_ripe, w_room, w_tables⟩
theorem atStart : AtStart classFile x code maxLocals ret World_1 tables_1 room_1 Calls_1 rest_1 Pre_1 launch0 p0 e0 about1 theMethod args0 below0 :=
  ⟨lists_1, trivial, launch0.admits_env _ _ _, launch0.least_env, fairChoices_fair.cas, fairChoices_fair.clock, w_frames, w_args, w_heap, w_applies, trivial, trivial, w_case⟩
end start1
theorem witness_1 : WitnessClaimed_1 := ⟨start1.p0, start1.e0, start1.about1, start1.theMethod, start1.args0, start1.below0, start1.atStart⟩
end Jvm.Pilot.@@N@@
