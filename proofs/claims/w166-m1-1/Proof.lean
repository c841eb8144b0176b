import JvmDerived
import JvmDerived.Pilot.@@N@@Statement
import JvmDerived.Pilot.@@N@@Code
set_option linter.unusedVariables false
set_option linter.unusedSimpArgs false
@@BLOCK:NumsL.lean.txt@@
namespace Jvm.Own
open Sem ClassFile Op Lib Jvm.Stand Jvm.Free Jvm.LawKit Jvm.RoadKit
section Arrays
variable {p : Program} {l : Launch} {e : Env} {R : Room} {s : State} {m : MethodId} {args : Array Value} {below : List Frame} {meth : Method} {c : Code} {T : State} {locs : List Loc} {cells slots : Nat} {Z : State} {h h' h0 : Heap} {a b : Addr} {ty : FieldType} {vs : List Value} {xs : List Int32} {v : Value} {sl : Nat} {ws : List Addr}
/-- the array at a: of the kind ty, its components vs -/
def AV (Z : State) (h : Heap) (a : Addr) (ty : FieldType) (vs : List Value) : Prop := ∃ c : Cell, Arr Z h a c ty ∧ c.slots = vs.toArray ∧ vs.length < 2147483648
/-- an int array -/
def IA (Z : State) (h : Heap) (a : Addr) (xs : List Int32) : Prop := AV Z h a .int (xs.map Value.int)
theorem AV.lt (F : AV Z h a ty vs) : a < h.size := by obtain ⟨c, A, -⟩ := F; exact A.lt
theorem AV.ext (F : AV Z h a ty vs) (E : Ext h h') : AV Z h' a ty vs := by obtain ⟨c, A, r⟩ := F; exact ⟨c, A.ext E, r⟩
theorem AV.other (F : AV Z h b ty vs) (W : Wr h h' a sl v) (q : b ≠ a) : AV Z h' b ty vs := by obtain ⟨c, A, r⟩ := F; exact ⟨c, A.other W q, r⟩
theorem AV.keep (F : AV Z h a ty vs) (K : Keep h h' ws) (q : a ∉ ws) : AV Z h' a ty vs := by obtain ⟨c, A, r⟩ := F; exact ⟨c, ⟨K.2.1 a c A.1 q, A.2⟩, r⟩
theorem AV.wr (F : AV Z h a ty vs) (W : Wr h h' a sl v) : AV Z h' a ty (vs.set sl v) := by
  obtain ⟨c, A, q, n⟩ := F
  exact ⟨_, A.same W, by simp [Cell.setSlot, q], by simpa using n⟩
theorem clamp_lt (z : Int32) : z.toNatClampNeg < 2147483648 := by
  have := z.toInt_lt
  simp only [Int32.toNatClampNeg]; omega
theorem AV.new {k : ClassId} {z : Int32} (A : Arr Z h a (newA k ty z) ty) (q : List.replicate z.toNatClampNeg (defaultValue ty) = vs) : AV Z h a ty vs := by
  subst q
  exact ⟨_, A, by simp [newA], by rw [List.length_replicate]; exact clamp_lt z⟩
theorem IA.lt (F : IA Z h a xs) : a < h.size := AV.lt F
theorem IA.ext (F : IA Z h a xs) (E : Ext h h') : IA Z h' a xs := AV.ext F E
theorem IA.other (F : IA Z h b xs) (W : Wr h h' a sl v) (q : b ≠ a) : IA Z h' b xs := AV.other F W q
theorem IA.keep (F : IA Z h a xs) (K : Keep h h' ws) (q : a ∉ ws) : IA Z h' a xs := AV.keep F K q
theorem IA.new {k : ClassId} {z : Int32} (A : Arr Z h a (newA k .int z) .int) {n : Nat} (q : z.toNatClampNeg = n) : IA Z h a (List.replicate n (0 : Int32)) := AV.new A (by subst q; rw [List.map_replicate]; rfl)
theorem IA.wr {x : Int32} (F : IA Z h a xs) (W : Wr h h' a sl (.int x)) : IA Z h' a (xs.set sl x) := by
  have := AV.wr F W
  rw [← List.map_set] at this; exact this
/-- the place j of an int array; the array with x there -/
def gi (xs : List Int32) (j : Int32) : Int32 := xs.getD j.toNatClampNeg 0
def si (xs : List Int32) (j x : Int32) : List Int32 := xs.set j.toNatClampNeg x
theorem si_len (xs : List Int32) (j x : Int32) : (si xs j x).length = xs.length := by simp [si]
theorem clamp_of {j : Int32} {n : Nat} (hj : 0 ≤ j.toInt ∧ j.toInt < (n : Int)) : j.toNatClampNeg < n ∧ ¬ j < 0 := by
  obtain ⟨h1, h2⟩ := hj
  refine ⟨by simp only [Int32.toNatClampNeg]; omega, ?_⟩
  rw [Int32.lt_iff_toInt_lt]; show ¬ _ < (0 : Int); omega
theorem inb_of' {cl : Cell} {j : Int32} {n : Nat} (hn : cl.slots.size = n) (hj : 0 ≤ j.toInt ∧ j.toInt < (n : Int)) : ¬ (j < 0 ∨ cl.slots.size ≤ j.toNatClampNeg) := by
  obtain ⟨h1, h2⟩ := clamp_of hj
  rintro (q | q)
  · exact h2 q
  · omega
theorem ldI (X : Stand p l e R s m args below meth c T locs cells slots) (hx : p.tables.exec = Jvm.exec) (hZ : Z.Warmed39 s.vm) (eT : T.heap = h) (F : IA Z h a xs) {j : Int32} (n : Nat) (hl : xs.length = n) (hj : 0 ≤ j.toInt ∧ j.toInt < (n : Int)) {g : JFrame} (hg : g.method = m) {rest : List Value} (hs : g.stack = .int j :: .ref a :: rest) (hd : decode c.code g.pc = .ok (.iaload, 1)) :
    ∀ target, Steps p.tables e below (T.setTop { g with pc := g.pc + 1, stack := .int (gi xs j) :: rest }) target → Steps p.tables e below (T.setTop g) target := by
  obtain ⟨cl, A, q, r⟩ := F
  have hsz : cl.slots.size = n := by rw [q]; simp [hl]
  have hi := (clamp_of hj).1
  refine X.iaload hx (v := .int (gi xs j)) (by rw [eT]; exact A.1) (State.isArrayOf_alike hZ.alike A.2.1) A.2.2 (inb_of' hsz hj) ?_ hg hs hd
  rw [q]
  have : j.toNatClampNeg < xs.length := by omega
  simp [gi, List.getD_eq_getElem?_getD, this]
theorem lnV (X : Stand p l e R s m args below meth c T locs cells slots) (hx : p.tables.exec = Jvm.exec) (hZ : Z.Warmed39 s.vm) (eT : T.heap = h) (F : AV Z h a ty vs) {z : Int32} (hz : vs.length.toInt32 = z) {g : JFrame} (hg : g.method = m) {rest : List Value} (hs : g.stack = .ref a :: rest) (hd : decode c.code g.pc = .ok (.arraylength, 1)) :
    ∀ target, Steps p.tables e below (T.setTop { g with pc := g.pc + 1, stack := .int z :: rest }) target → Steps p.tables e below (T.setTop g) target := by
  obtain ⟨cl, A, q, r⟩ := F
  intro target k
  refine X.arraylength hx (by rw [eT]; exact A.1) (State.isArrayOf_alike hZ.alike A.2.1) hg hs hd _ ?_
  have : cl.slots.size.toInt32 = z := by rw [q]; simpa using hz
  rw [this]; exact k
theorem lnI (X : Stand p l e R s m args below meth c T locs cells slots) (hx : p.tables.exec = Jvm.exec) (hZ : Z.Warmed39 s.vm) (eT : T.heap = h) (F : IA Z h a xs) {z : Int32} (hz : xs.length.toInt32 = z) {g : JFrame} (hg : g.method = m) {rest : List Value} (hs : g.stack = .ref a :: rest) (hd : decode c.code g.pc = .ok (.arraylength, 1)) :
    ∀ target, Steps p.tables e below (T.setTop { g with pc := g.pc + 1, stack := .int z :: rest }) target → Steps p.tables e below (T.setTop g) target :=
  lnV X hx hZ eT F (by rw [List.length_map]; exact hz) hg hs hd
theorem stIA (X : Stand p l e R s m args below meth c T locs cells slots) (hx : p.tables.exec = Jvm.exec) (hZ : Z.Warmed39 s.vm) (eT : T.heap = h) (F : IA Z h a xs) {j x : Int32} (n : Nat) (hl : xs.length = n) (hj : 0 ≤ j.toInt ∧ j.toInt < (n : Int)) {g : JFrame} (hg : g.method = m) {rest : List Value} (hs : g.stack = .int x :: .int j :: .ref a :: rest) (hd : decode c.code g.pc = .ok (.iastore, 1)) :
    ∃ T' h', Stand p l e R s m args below meth c T' (locs ++ [⟨a, j.toNatClampNeg⟩]) cells slots ∧ T'.heap = h' ∧ Wr h h' a j.toNatClampNeg (.int x) ∧ IA Z h' a (si xs j x) ∧ ∀ target, Steps p.tables e below (T'.setTop { g with pc := g.pc + 1, stack := rest }) target → Steps p.tables e below (T.setTop g) target := by
  have F0 := F
  obtain ⟨cl, A, q, r⟩ := F
  have hsz : cl.slots.size = n := by rw [q]; simp [hl]
  obtain ⟨T', h', X', e', W, st⟩ := stI X hx hZ eT A (inb_of' hsz hj) hg hs hd
  exact ⟨T', h', X', e', W, IA.wr F0 W, st⟩
/-- a place read or written, where it lies in the array; a fresh array of at most cap places -/
def rd (xs : List Int32) (j : Int32) : Option Int32 := if 0 ≤ j.toInt ∧ j.toInt < (xs.length : Int) then some (gi xs j) else none
def wt (xs : List Int32) (j x : Int32) : Option (List Int32) := if 0 ≤ j.toInt ∧ j.toInt < (xs.length : Int) then some (si xs j x) else none
def mk (cap : Nat) (n : Int32) : Option (List Int32) := if 0 ≤ n.toInt ∧ n.toInt ≤ (cap : Int) then some (List.replicate n.toNatClampNeg 0) else none
def ln (xs : List Int32) : Int32 := xs.length.toInt32
theorem rd_some {xs : List Int32} {j v : Int32} (q : rd xs j = some v) : (0 ≤ j.toInt ∧ j.toInt < (xs.length : Int)) ∧ gi xs j = v := by
  unfold rd at q
  split at q
  · next h => exact ⟨h, Option.some.inj q⟩
  · cases q
theorem wt_some {xs ys : List Int32} {j x : Int32} (q : wt xs j x = some ys) : (0 ≤ j.toInt ∧ j.toInt < (xs.length : Int)) ∧ si xs j x = ys := by
  unfold wt at q
  split at q
  · next h => exact ⟨h, Option.some.inj q⟩
  · cases q
theorem mk_some {cap : Nat} {n : Int32} {ys : List Int32} (q : mk cap n = some ys) : ¬ n < 0 ∧ n.toNatClampNeg ≤ cap ∧ ys = List.replicate n.toNatClampNeg 0 := by
  unfold mk at q
  split at q
  · next h =>
    refine ⟨?_, ?_, (Option.some.inj q).symm⟩
    · rw [Int32.lt_iff_toInt_lt]; show ¬ _ < (0 : Int); omega
    · simp only [Int32.toNatClampNeg]; omega
  · cases q
theorem ldO (X : Stand p l e R s m args below meth c T locs cells slots) (hx : p.tables.exec = Jvm.exec) (hZ : Z.Warmed39 s.vm) (eT : T.heap = h) (F : IA Z h a xs) {j x : Int32} (q : rd xs j = some x) {g : JFrame} (hg : g.method = m) {rest : List Value} (hs : g.stack = .int j :: .ref a :: rest) (hd : decode c.code g.pc = .ok (.iaload, 1)) :
    ∀ target, Steps p.tables e below (T.setTop { g with pc := g.pc + 1, stack := .int x :: rest }) target → Steps p.tables e below (T.setTop g) target := by
  obtain ⟨hb, rfl⟩ := rd_some q
  exact ldI X hx hZ eT F xs.length rfl hb hg hs hd
theorem stO (X : Stand p l e R s m args below meth c T locs cells slots) (hx : p.tables.exec = Jvm.exec) (hZ : Z.Warmed39 s.vm) (eT : T.heap = h) (F : IA Z h a xs) {j x : Int32} {ys : List Int32} (q : wt xs j x = some ys) {g : JFrame} (hg : g.method = m) {rest : List Value} (hs : g.stack = .int x :: .int j :: .ref a :: rest) (hd : decode c.code g.pc = .ok (.iastore, 1)) :
    ∃ T' h', Stand p l e R s m args below meth c T' (locs ++ [⟨a, j.toNatClampNeg⟩]) cells slots ∧ T'.heap = h' ∧ Wr h h' a j.toNatClampNeg (.int x) ∧ IA Z h' a ys ∧ ∀ target, Steps p.tables e below (T'.setTop { g with pc := g.pc + 1, stack := rest }) target → Steps p.tables e below (T.setTop g) target := by
  obtain ⟨hb, rfl⟩ := wt_some q
  exact stIA X hx hZ eT F xs.length rfl hb hg hs hd
/-- a byte array -/
def BA (Z : State) (h : Heap) (a : Addr) (xs : List Int32) : Prop := AV Z h a .byte (xs.map Value.int)
theorem BA.lt (F : BA Z h a xs) : a < h.size := AV.lt F
theorem BA.ext (F : BA Z h a xs) (E : Ext h h') : BA Z h' a xs := AV.ext F E
theorem BA.other (F : BA Z h b xs) (W : Wr h h' a sl v) (q : b ≠ a) : BA Z h' b xs := AV.other F W q
theorem BA.keep (F : BA Z h a xs) (K : Keep h h' ws) (q : a ∉ ws) : BA Z h' a xs := AV.keep F K q
theorem BA.new {k : ClassId} {z : Int32} (A : Arr Z h a (newA k .byte z) .byte) {n : Nat} (q : z.toNatClampNeg = n) : BA Z h a (List.replicate n (0 : Int32)) := AV.new A (by subst q; rw [List.map_replicate]; rfl)
theorem BA.wr {x : Int32} (F : BA Z h a xs) (W : Wr h h' a sl (.int x)) : BA Z h' a (xs.set sl x) := by
  have := AV.wr F W
  rw [← List.map_set] at this; exact this
theorem ldBO (X : Stand p l e R s m args below meth c T locs cells slots) (hx : p.tables.exec = Jvm.exec) (hZ : Z.Warmed39 s.vm) (eT : T.heap = h) (F : BA Z h a xs) {j x : Int32} (q : rd xs j = some x) {g : JFrame} (hg : g.method = m) {rest : List Value} (hs : g.stack = .int j :: .ref a :: rest) (hd : decode c.code g.pc = .ok (.baload, 1)) :
    ∀ target, Steps p.tables e below (T.setTop { g with pc := g.pc + 1, stack := .int x :: rest }) target → Steps p.tables e below (T.setTop g) target := by
  obtain ⟨hj, rfl⟩ := rd_some q
  obtain ⟨cl, A, q, r⟩ := F
  have hsz : cl.slots.size = xs.length := by rw [q]; simp
  have hi := (clamp_of hj).1
  refine X.baloadBytes hx (v := .int (gi xs j)) (by rw [eT]; exact A.1) (State.isArrayOf_alike hZ.alike A.2.1) A.2.2 (inb_of' hsz hj) ?_ hg hs hd
  rw [q]
  simp [gi, List.getD_eq_getElem?_getD, hi]
theorem stBO (X : Stand p l e R s m args below meth c T locs cells slots) (hx : p.tables.exec = Jvm.exec) (hZ : Z.Warmed39 s.vm) (eT : T.heap = h) (F : BA Z h a xs) {j x : Int32} {ys : List Int32} (q : wt xs j (nar .byte x) = some ys) {g : JFrame} (hg : g.method = m) {rest : List Value} (hs : g.stack = .int x :: .int j :: .ref a :: rest) (hd : decode c.code g.pc = .ok (.bastore, 1)) :
    ∃ T' h', Stand p l e R s m args below meth c T' (locs ++ [⟨a, j.toNatClampNeg⟩]) cells slots ∧ T'.heap = h' ∧ Wr h h' a j.toNatClampNeg (.int (nar .byte x)) ∧ BA Z h' a ys ∧ ∀ target, Steps p.tables e below (T'.setTop { g with pc := g.pc + 1, stack := rest }) target → Steps p.tables e below (T.setTop g) target := by
  obtain ⟨hj, rfl⟩ := wt_some q
  have F0 := F
  obtain ⟨cl, A, q, r⟩ := F
  have hsz : cl.slots.size = xs.length := by rw [q]; simp
  obtain ⟨T', h', X', e', W, st⟩ := stB X hx hZ eT A (inb_of' hsz hj) hg hs hd
  exact ⟨T', h', X', e', W, BA.wr F0 W, st⟩
/-- an array of references to objects of the class C -/
def RA (Z : State) (h : Heap) (a : Addr) (C : String) (vs : List Value) : Prop := ∃ c : Cell, Arr Z h a c (.object C) ∧ c.slots = vs.toArray ∧ vs.length < 2147483648 ∧ Ovr Z c.cls C
variable {C : String}
theorem RA.lt (F : RA Z h a C vs) : a < h.size := by obtain ⟨c, A, -⟩ := F; exact A.lt
theorem RA.ext (F : RA Z h a C vs) (E : Ext h h') : RA Z h' a C vs := by obtain ⟨c, A, r⟩ := F; exact ⟨c, A.ext E, r⟩
theorem RA.other (F : RA Z h b C vs) (W : Wr h h' a sl v) (q : b ≠ a) : RA Z h' b C vs := by obtain ⟨c, A, r⟩ := F; exact ⟨c, A.other W q, r⟩
theorem RA.new {k : ClassId} {z : Int32} (A : Arr Z h a (newA k (.object C) z) (.object C)) (O : Ovr Z k C) (q : List.replicate z.toNatClampNeg Value.null = vs) : RA Z h a C vs := by
  subst q
  exact ⟨_, A, by simp [newA, defaultValue], by rw [List.length_replicate]; exact clamp_lt z, O⟩
theorem stRA (X : Stand p l e R s m args below meth c T locs cells slots) (hx : p.tables.exec = Jvm.exec) (hZ : Z.Warmed39 s.vm) (eT : T.heap = h) (F : RA Z h a C vs) {j : Int32} {y : Addr} (n : Nat) (hl : vs.length = n) (hj : 0 ≤ j.toInt ∧ j.toInt < (n : Int)) (I : Ins Z h y C true) {g : JFrame} (hg : g.method = m) {rest : List Value} (hs : g.stack = .ref y :: .int j :: .ref a :: rest) (hd : decode c.code g.pc = .ok (.aastore, 1)) :
    ∃ T' h', Stand p l e R s m args below meth c T' (locs ++ [⟨a, j.toNatClampNeg⟩]) cells slots ∧ T'.heap = h' ∧ Wr h h' a j.toNatClampNeg (.ref y) ∧ RA Z h' a C (vs.set j.toNatClampNeg (.ref y)) ∧ ∀ target, Steps p.tables e below (T'.setTop { g with pc := g.pc + 1, stack := rest }) target → Steps p.tables e below (T.setTop g) target := by
  obtain ⟨cl, A, q, r, O⟩ := F
  have hsz : cl.slots.size = n := by rw [q]; simp [hl]
  obtain ⟨T', h', X', e', W, st⟩ := stR X hx hZ eT A (inb_of' hsz hj) rfl (Sto.of A O I) hg hs hd
  exact ⟨T', h', X', e', W, ⟨_, A.same W, by simp [Cell.setSlot, q], by simpa using r, O⟩, st⟩
theorem ldRA (X : Stand p l e R s m args below meth c T locs cells slots) (hx : p.tables.exec = Jvm.exec) (hZ : Z.Warmed39 s.vm) (eT : T.heap = h) (F : RA Z h a C vs) {j : Int32} (n : Nat) (hl : vs.length = n) (hj : 0 ≤ j.toInt ∧ j.toInt < (n : Int)) (hv : vs[j.toNatClampNeg]? = some v) {g : JFrame} (hg : g.method = m) {rest : List Value} (hs : g.stack = .int j :: .ref a :: rest) (hd : decode c.code g.pc = .ok (.aaload, 1)) :
    ∀ target, Steps p.tables e below (T.setTop { g with pc := g.pc + 1, stack := v :: rest }) target → Steps p.tables e below (T.setTop g) target := by
  obtain ⟨cl, A, q, r, O⟩ := F
  have hsz : cl.slots.size = n := by rw [q]; simp [hl]
  exact X.aaload hx (by rw [eT]; exact A.1) (State.isArrayOf_alike hZ.alike A.2.1) rfl A.2.2 (inb_of' hsz hj) (by rw [q]; simpa using hv) hg hs hd
theorem ldAV (X : Stand p l e R s m args below meth c T locs cells slots) (hx : p.tables.exec = Jvm.exec) (hZ : Z.Warmed39 s.vm) (eT : T.heap = h) (F : AV Z h a ty vs) (hty : ty.isReference = true) {j : Int32} (n : Nat) (hl : vs.length = n) (hj : 0 ≤ j.toInt ∧ j.toInt < (n : Int)) (hv : vs[j.toNatClampNeg]? = some v) {g : JFrame} (hg : g.method = m) {rest : List Value} (hs : g.stack = .int j :: .ref a :: rest) (hd : decode c.code g.pc = .ok (.aaload, 1)) :
    ∀ target, Steps p.tables e below (T.setTop { g with pc := g.pc + 1, stack := v :: rest }) target → Steps p.tables e below (T.setTop g) target := by
  obtain ⟨cl, A, q, r⟩ := F
  have hsz : cl.slots.size = n := by rw [q]; simp [hl]
  exact X.aaload hx (by rw [eT]; exact A.1) (State.isArrayOf_alike hZ.alike A.2.1) hty A.2.2 (inb_of' hsz hj) (by rw [q]; simpa using hv) hg hs hd
def ga (as : List Addr) (j : Int32) : Addr := as.getD j.toNatClampNeg 0
theorem ga_at {as : List Addr} {j : Int32} {n : Nat} (hl : as.length = n) (hj : 0 ≤ j.toInt ∧ j.toInt < (n : Int)) : (as.map Value.ref)[j.toNatClampNeg]? = some (.ref (ga as j)) := by
  have : j.toNatClampNeg < as.length := by rw [hl]; exact (clamp_of hj).1
  simp [ga, List.getD_eq_getElem?_getD, this]
theorem ga_all {as : List Addr} {j : Int32} {n : Nat} {P : Addr → Prop} (hl : as.length = n) (hj : 0 ≤ j.toInt ∧ j.toInt < (n : Int)) (q : ∀ x ∈ as, P x) : P (ga as j) := by
  have h : j.toNatClampNeg < as.length := by rw [hl]; exact (clamp_of hj).1
  have : ga as j = as[j.toNatClampNeg] := by simp [ga, List.getD_eq_getElem?_getD, h]
  rw [this]; exact q _ (List.getElem_mem h)
theorem size_wr (W : Wr h h' a sl v) {n : Nat} (q : n ≤ h.size) : n ≤ h'.size := by rw [W.size]; exact q
end Arrays
end Jvm.Own
namespace Jvm.RoadKit
open Sem ClassFile Op Lib Jvm.Stand Jvm.Free Jvm.LawKit
section New
variable {p : Program} {l : Launch} {e : Env} {R : Room} {s : State} {m : MethodId} {args : Array Value} {below : List Frame} {meth : Method} {c : Code} {T : State} {locs : List Loc} {cells slots : Nat}
theorem retI (X : Stand p l e R s m args below meth c T locs cells slots) (hx : p.tables.exec = Jvm.exec) {pc : Nat} {Ls : Array Slot} {z : Int32} {rest : List Value} (hret : meth.sig.returnType = some .int) (hd : decode c.code pc = .ok (.ireturn, 1)) {fs : List Frame}
    (hl : ∀ (f : JFrame) (acts : List Action), f.method = m → f.locked = none → f.entered = [] → (doReturn e (T.setTop f) acts (some (.int z))).1 = T.setFrames fs) : Steps p.tables e below (T.setTop (mkF m pc Ls (.int z :: rest))) (T.setFrames fs) := by
  have hm' : T.vm.method? m = some meth := X.method'
  have hn : narrow .int (.int z) = .int z := rfl
  show Steps p.tables e below (T.setTop { method := m, pc := pc, locals := Ls, stack := _ :: rest, locked := none }) _
  jvm_step X.here [X.here.top, hx, hd, hm', hret, hn]
  first | (intro acts; rw [hl _ acts rfl rfl rfl]) | rw [hl _ _ rfl rfl rfl]
  exact Steps.refl _
theorem retA (X : Stand p l e R s m args below meth c T locs cells slots) (hx : p.tables.exec = Jvm.exec) {pc : Nat} {Ls : Array Slot} {z : Value} {t : FieldType} {rest : List Value} (hret : meth.sig.returnType = some t) (ht : t.isReference = true) (hz : z.isRef = true) (hd : decode c.code pc = .ok (.areturn, 1)) {fs : List Frame}
    (hl : ∀ (f : JFrame) (acts : List Action), f.method = m → f.locked = none → f.entered = [] → (doReturn e (T.setTop f) acts (some z)).1 = T.setFrames fs) : Steps p.tables e below (T.setTop (mkF m pc Ls (z :: rest))) (T.setFrames fs) := by
  have hm' : T.vm.method? m = some meth := X.method'
  show Steps p.tables e below (T.setTop { method := m, pc := pc, locals := Ls, stack := _ :: rest, locked := none }) _
  jvm_step X.here [X.here.top, hx, hd, hm', hret, ht, hz]
  first | (intro acts; rw [hl _ acts rfl rfl rfl]) | rw [hl _ _ rfl rfl rfl]
  exact Steps.refl _
end New
end Jvm.RoadKit
namespace Jvm.Pilot.@@N@@
open Jvm Jvm.ClassFile Sem Op Lib Jvm.Free Jvm.Stand Jvm.LawKit Jvm.RoadKit Bundle Jvm.Pilot.@@N@@.Jvm.D
theorem own_tsw {x : Int32} {k : Int} (h : ¬ x = Int32.ofInt k) (h1 : -2147483648 ≤ k) (h2 : k < 2147483648) : x.toInt ≠ k := fun q => h (by rw [← q]; exact (Int32.ofInt_toInt x).symm)
theorem own_i2c_and (x : Int32) : x.toUInt32.toUInt16.toUInt32.toInt32 = x &&& 65535 := by
  apply Int32.toBitVec_inj.mp
  apply BitVec.toNat_inj.mp
  have h : ((x &&& 65535).toBitVec.toNat) = x.toBitVec.toNat % 2 ^ 16 := by
    show (x.toBitVec &&& (65535 : Int32).toBitVec).toNat = _
    rw [BitVec.toNat_and, show (65535 : Int32).toBitVec.toNat = 2 ^ 16 - 1 from rfl, Nat.and_two_pow_sub_one_eq_mod]
  rw [h]
  show x.toBitVec.toNat % 2 ^ 16 = _
  rfl
theorem own_i2c (x : Int32) : (x.toUInt32.toUInt16.toUInt32.toInt32).toInt = x.toInt % 65536 := by
  rw [own_i2c_and]; exact Jvm.Kit.i32_mask x 65535 (k := 16) (by decide) (by decide)
theorem own_rem {x y : Int32} (hx : 0 ≤ x.toInt) (hy : 0 < y.toInt) : (x - (x / y) * y).toInt = x.toInt % y.toInt := by
  have hxl := x.toInt_lt
  have e1 : (x / y).toInt = x.toInt / y.toInt := by rw [Jvm.Kit.i32_div (by omega), Int.tdiv_eq_ediv_of_nonneg hx]
  have m1 : x.toInt / y.toInt * y.toInt = x.toInt - x.toInt % y.toInt := by
    have := Int.mul_ediv_add_emod x.toInt y.toInt
    rw [Int.mul_comm] at this; omega
  have m2 : 0 ≤ x.toInt % y.toInt := Int.emod_nonneg _ (by omega)
  have m3 : x.toInt % y.toInt ≤ x.toInt := by
    have := Int.mul_nonneg (Int.ediv_nonneg hx (by omega : 0 ≤ y.toInt)) (by omega : 0 ≤ y.toInt); omega
  have e2 : ((x / y) * y).toInt = x.toInt - x.toInt % y.toInt := by rw [Jvm.Kit.i32_mul (by rw [e1, m1]; omega) (by rw [e1, m1]; omega), e1, m1]
  rw [Jvm.Kit.i32_sub (by rw [e2]; omega) (by rw [e2]; omega), e2]; omega
theorem own_pos (x : Int32) : (x &&& 2147483647).toInt = x.toInt % 2147483648 := Jvm.Kit.i32_mask x 2147483647 (k := 31) (by decide) (by decide)

theorem own_eqint {args : Array Value} {first s : State} {o : Option Outcome} {idx : List Nat} {t : Term} {k : Int32} (h : (Jvm.Cond.eq t (.int k)).value args first o s idx = some true) : t.eval args first o idx s = some (.int k) := by
  cases ha : t.eval args first o idx s with
  | none => simp [Cond.value, ha] at h
  | some x => cases x <;> simp [Cond.value, ha, Term.eval] at h ⊢; exact h
theorem own_fldne {Z : State} {h : Heap} {a b : Addr} {C n d : String} {v w : Value} (F : Fld Z h a C n d v) (G : Fld Z h b C n d w) (q : v ≠ w) : a ≠ b := by
  rintro rfl
  obtain ⟨c1, _, _, _, f1, h1, h2, _, _, _, _, h3⟩ := F
  obtain ⟨c2, _, _, _, f2, g1, g2, _, _, _, _, g3⟩ := G
  cases h1.symm.trans g1
  cases h2.symm.trans g2
  exact q (Option.some.inj (h3.symm.trans g3))

theorem own_idx (p0 vi : Int32) (h : vi = ((p0 &&& (2147483647 : Int32)) - ((p0 &&& (2147483647 : Int32)) / (11 : Int32)) * (11 : Int32))) : 0 ≤ vi.toInt ∧ vi.toInt < ((11 : Nat) : Int) := by
  have h0 := own_pos p0
  rw [h, own_rem (by omega) (by decide), show (11 : Int32).toInt = 11 from rfl]
  omega

theorem d1_0 : decode prog_16_method_7_code 0 = .ok (.aload_n 0, 1) := by decide +kernel
theorem d1_1 : decode prog_16_method_7_code 1 = .ok (.getstatic 28, 3) := by decide +kernel
theorem d1_4 : decode prog_16_method_7_code 4 = .ok (.if_acmp .eq 21, 3) := by decide +kernel
theorem d1_7 : decode prog_16_method_7_code 7 = .ok (.aload_n 0, 1) := by decide +kernel
theorem d1_8 : decode prog_16_method_7_code 8 = .ok (.getstatic 31, 3) := by decide +kernel
theorem d1_11 : decode prog_16_method_7_code 11 = .ok (.if_acmp .eq 14, 3) := by decide +kernel
theorem d1_14 : decode prog_16_method_7_code 14 = .ok (.aload_n 0, 1) := by decide +kernel
theorem d1_15 : decode prog_16_method_7_code 15 = .ok (.getstatic 34, 3) := by decide +kernel
theorem d1_18 : decode prog_16_method_7_code 18 = .ok (.if_acmp .eq 7, 3) := by decide +kernel
theorem d1_21 : decode prog_16_method_7_code 21 = .ok (.iconst 1, 1) := by decide +kernel
theorem d1_22 : decode prog_16_method_7_code 22 = .ok (.goto 4, 3) := by decide +kernel
theorem d1_25 : decode prog_16_method_7_code 25 = .ok (.iconst 0, 1) := by decide +kernel
theorem d1_26 : decode prog_16_method_7_code 26 = .ok (.ireturn, 1) := by decide +kernel
theorem pn_rm1 : plainName "com/example/tideplan/tideplan/model/Kind" = true := by first | (simp [plainName, overriddenIn]; done) | decide +kernel
theorem ef_rm1 (m : MethodId) (o0 : Addr) : entryFrame m #[(.ref o0)] 1 = mkF m 0 #[.val (.ref o0)] [] := by first | (simp [entryFrame, mkF, argsToLocals, Value.category]; done) | rfl
def G1 (r w_PARTITION w_UNION w_SIDE_OUTPUT : Addr) : Int32 := if r = w_PARTITION then (0 : Int32) else if r = w_UNION then (0 : Int32) else if r = w_SIDE_OUTPUT then (0 : Int32) else (1 : Int32)
def Q_rm1 (Z : State) (o0 : Addr) (w_PARTITION : Addr) (w_UNION : Addr) (w_SIDE_OUTPUT : Addr) (h0 : Heap) (n0 : Nat) (v : Option Value) (h : Heap) (L : List Loc) : Prop := v = some (.int (G1 o0 w_PARTITION w_UNION w_SIDE_OUTPUT)) ∧ Fr n0 L ∧ h = h0
set_option maxRecDepth 65536 in
set_option maxHeartbeats 40000000 in
theorem rm1 (l : Launch) (Z : State) (a0 : Array Value) (hw : ∀ d ∈ tables_1, d.before a0 Z = true) (ws : List Jvm.Cond) (o0 : Addr) (w_PARTITION : Addr) (w_UNION : Addr) (w_SIDE_OUTPUT : Addr) (h0 : Heap) (n0 : Nat) (Z0 : n0 ≤ h0.size) (S_PARTITION : Sta Z h0 "com/example/tideplan/tideplan/model/Kind" "PARTITION" "Lcom/example/tideplan/tideplan/model/Kind;" (.ref w_PARTITION)) (S_UNION : Sta Z h0 "com/example/tideplan/tideplan/model/Kind" "UNION" "Lcom/example/tideplan/tideplan/model/Kind;" (.ref w_UNION)) (S_SIDE_OUTPUT : Sta Z h0 "com/example/tideplan/tideplan/model/Kind" "SIDE_OUTPUT" "Lcom/example/tideplan/tideplan/model/Kind;" (.ref w_SIDE_OUTPUT)) :
    MetFree l (⟨"com/example/tideplan/tideplan/model/Kind", "runsOperator", "()Z"⟩ : MethodName) (head1 (Jvm.Cond.code (⟨"com/example/tideplan/tideplan/model/Kind", "runsOperator", "()Z"⟩ : MethodName) prog_16_method_7_code 1 (some .boolean) :: ws) ({ frames := 0, cells := 0, slots := 0, locals := 0 } : Room)) (fun a U => a = #[(.ref o0)] ∧ Z.Warmed39 U.vm ∧ U.heap = h0) (fun _ _ _ _ _ => True) (fun _ U o U' => ∃ v L, o = .returned v ∧ Q_rm1 Z o0 w_PARTITION w_UNION w_SIDE_OUTPUT h0 n0 v U'.heap L ∧ FrameEnd U o U' L ({ frames := 0, cells := 0, slots := 0, locals := 0 } : Room).cells ({ frames := 0, cells := 0, slots := 0, locals := 0 } : Room).slots) := by
  refine MetFree.of_bodySF (plainFor_of_name pn_rm1) hisR ?_
  intro p e s m args below meth c s₁ Bd hml0 hP hK
  obtain ⟨rfl, hZ, hh⟩ := hP
  have hx := Bd.exec
  have hby := Bd.bytes
  have hml : c.maxLocals = 1 := hml0
  have hown : s.vm.findClass "com/example/tideplan/tideplan/model/Kind" = some m.cls := findClass_of_methodNamed Bd.named
  have hnm := (name_of_methodNamed Bd.named Bd.method).1
  have X0 : Stand p l e ({ frames := 0, cells := 0, slots := 0, locals := 0 } : Room) s m #[(.ref o0)] below meth c s₁ [] 0 0 := Stand.of_body Bd
  have e0 : s₁.heap = h0 := by rw [← hh, Bd.state]; rfl
  have N0 := Fr.nil n0
  have q0 : Steps p.tables e below (s₁.setTop (entryFrame m #[(.ref o0)] 1)) (s₁.setTop (mkF m 0 #[.val (.ref o0)] [])) := castTop (ef_rm1 m o0) (Steps.refl _)
  have q1 : Steps p.tables e below (s₁.setTop (entryFrame m #[(.ref o0)] 1)) (s₁.setTop (mkF m 1 #[.val (.ref o0)] [(.ref o0)])) := q0.trans (by
      show Steps p.tables e below (s₁.setTop (mkF m 0 #[.val (.ref o0)] [])) _
      refine XS.aloadN X0.here hx rfl (hb hby d1_0) rfl rfl ?_
      show Steps p.tables e below (s₁.setTop (mkF m 1 #[.val (.ref o0)] [(.ref o0)])) _
      exact Steps.refl _)
  obtain ⟨T2, X2, e2, st2⟩ := getS2 X0 hx hZ hown (host := "") (Or.inl (hw _ (List.mem_of_getElem? (i := 32) rfl))) Via.refl e0 S_PARTITION (g := (mkF m 1 #[.val (.ref o0)] [(.ref o0)])) rfl (hb hby d1_1)
  have q3 : Steps p.tables e below (s₁.setTop (entryFrame m #[(.ref o0)] 1)) (T2.setTop (mkF m 4 #[.val (.ref o0)] [(.ref w_PARTITION), (.ref o0)])) := q1.trans (st2 _ (Steps.refl _))
  by_cases hc4 : o0 = w_PARTITION
  · have q5 : Steps p.tables e below (s₁.setTop (entryFrame m #[(.ref o0)] 1)) (T2.setTop (mkF m 25 #[.val (.ref o0)] [])) := q3.trans (by
        show Steps p.tables e below (T2.setTop (mkF m 4 #[.val (.ref o0)] [(.ref w_PARTITION), (.ref o0)])) _
        refine Jvm.RoadKit.acmp (g := (mkF m 4 #[.val (.ref o0)] [(.ref w_PARTITION), (.ref o0)])) X2 hx rfl rfl rfl (pc0 := 4) (pc' := 25) (same := true) rfl (hb hby d1_4) rfl (decide_eq_true (congrArg Value.ref hc4)) (by decide) (by decide) ?_
        show Steps p.tables e below (T2.setTop (mkF m 25 #[.val (.ref o0)] [])) _
        exact Steps.refl _)
    have q6 : Steps p.tables e below (s₁.setTop (entryFrame m #[(.ref o0)] 1)) (T2.setTop (mkF m 26 #[.val (.ref o0)] [(.int (0 : Int32))])) := q5.trans (by
        show Steps p.tables e below (T2.setTop (mkF m 25 #[.val (.ref o0)] [])) _
        refine XS.iconst X2.here hx rfl (hb hby d1_25) ?_
        show Steps p.tables e below (T2.setTop (mkF m 26 #[.val (.ref o0)] [(.int (0 : Int32))])) _
        exact Steps.refl _)
    obtain ⟨fs, hr, hrun, hended, hW, hsame⟩ := X2.leave (v := some (.int (0 : Int32))) (fun h => by rw [Bd.returns] at h; cases h)
    refine ⟨_, _, q6.trans ?_, hrun, hended, _, _, rfl, ?_, ⟨_, rfl⟩, hW, hsame.mono (by decide) (by decide)⟩
    · exact retN X2 hx (t := .boolean) Bd.returns (by simp) (hb hby d1_26) hr
    · show Q_rm1 Z o0 w_PARTITION w_UNION w_SIDE_OUTPUT h0 n0 _ T2.heap _
      rw [e2]
      exact ⟨(by unfold G1; rw [if_pos hc4]), N0, rfl⟩
  · have q7 : Steps p.tables e below (s₁.setTop (entryFrame m #[(.ref o0)] 1)) (T2.setTop (mkF m 7 #[.val (.ref o0)] [])) := q3.trans (by
        show Steps p.tables e below (T2.setTop (mkF m 4 #[.val (.ref o0)] [(.ref w_PARTITION), (.ref o0)])) _
        refine Jvm.RoadKit.acmp (g := (mkF m 4 #[.val (.ref o0)] [(.ref w_PARTITION), (.ref o0)])) X2 hx rfl rfl rfl (pc0 := 4) (pc' := 7) (same := false) rfl (hb hby d1_4) rfl (decide_eq_false fun q => hc4 (Value.ref.inj q)) (by decide) (by decide) ?_
        show Steps p.tables e below (T2.setTop (mkF m 7 #[.val (.ref o0)] [])) _
        exact Steps.refl _)
    have q8 : Steps p.tables e below (s₁.setTop (entryFrame m #[(.ref o0)] 1)) (T2.setTop (mkF m 8 #[.val (.ref o0)] [(.ref o0)])) := q7.trans (by
        show Steps p.tables e below (T2.setTop (mkF m 7 #[.val (.ref o0)] [])) _
        refine XS.aloadN X2.here hx rfl (hb hby d1_7) rfl rfl ?_
        show Steps p.tables e below (T2.setTop (mkF m 8 #[.val (.ref o0)] [(.ref o0)])) _
        exact Steps.refl _)
    obtain ⟨T9, X9, e9, st9⟩ := getS2 X2 hx hZ hown (host := "") (Or.inl (hw _ (List.mem_of_getElem? (i := 33) rfl))) Via.refl e2 S_UNION (g := (mkF m 8 #[.val (.ref o0)] [(.ref o0)])) rfl (hb hby d1_8)
    have q10 : Steps p.tables e below (s₁.setTop (entryFrame m #[(.ref o0)] 1)) (T9.setTop (mkF m 11 #[.val (.ref o0)] [(.ref w_UNION), (.ref o0)])) := q8.trans (st9 _ (Steps.refl _))
    by_cases hc11 : o0 = w_UNION
    · have q12 : Steps p.tables e below (s₁.setTop (entryFrame m #[(.ref o0)] 1)) (T9.setTop (mkF m 25 #[.val (.ref o0)] [])) := q10.trans (by
          show Steps p.tables e below (T9.setTop (mkF m 11 #[.val (.ref o0)] [(.ref w_UNION), (.ref o0)])) _
          refine Jvm.RoadKit.acmp (g := (mkF m 11 #[.val (.ref o0)] [(.ref w_UNION), (.ref o0)])) X9 hx rfl rfl rfl (pc0 := 11) (pc' := 25) (same := true) rfl (hb hby d1_11) rfl (decide_eq_true (congrArg Value.ref hc11)) (by decide) (by decide) ?_
          show Steps p.tables e below (T9.setTop (mkF m 25 #[.val (.ref o0)] [])) _
          exact Steps.refl _)
      have q13 : Steps p.tables e below (s₁.setTop (entryFrame m #[(.ref o0)] 1)) (T9.setTop (mkF m 26 #[.val (.ref o0)] [(.int (0 : Int32))])) := q12.trans (by
          show Steps p.tables e below (T9.setTop (mkF m 25 #[.val (.ref o0)] [])) _
          refine XS.iconst X9.here hx rfl (hb hby d1_25) ?_
          show Steps p.tables e below (T9.setTop (mkF m 26 #[.val (.ref o0)] [(.int (0 : Int32))])) _
          exact Steps.refl _)
      obtain ⟨fs, hr, hrun, hended, hW, hsame⟩ := X9.leave (v := some (.int (0 : Int32))) (fun h => by rw [Bd.returns] at h; cases h)
      refine ⟨_, _, q13.trans ?_, hrun, hended, _, _, rfl, ?_, ⟨_, rfl⟩, hW, hsame.mono (by decide) (by decide)⟩
      · exact retN X9 hx (t := .boolean) Bd.returns (by simp) (hb hby d1_26) hr
      · show Q_rm1 Z o0 w_PARTITION w_UNION w_SIDE_OUTPUT h0 n0 _ T9.heap _
        rw [e9]
        exact ⟨(by unfold G1; rw [if_neg hc4, if_pos hc11]), N0, rfl⟩
    · have q14 : Steps p.tables e below (s₁.setTop (entryFrame m #[(.ref o0)] 1)) (T9.setTop (mkF m 14 #[.val (.ref o0)] [])) := q10.trans (by
          show Steps p.tables e below (T9.setTop (mkF m 11 #[.val (.ref o0)] [(.ref w_UNION), (.ref o0)])) _
          refine Jvm.RoadKit.acmp (g := (mkF m 11 #[.val (.ref o0)] [(.ref w_UNION), (.ref o0)])) X9 hx rfl rfl rfl (pc0 := 11) (pc' := 14) (same := false) rfl (hb hby d1_11) rfl (decide_eq_false fun q => hc11 (Value.ref.inj q)) (by decide) (by decide) ?_
          show Steps p.tables e below (T9.setTop (mkF m 14 #[.val (.ref o0)] [])) _
          exact Steps.refl _)
      have q15 : Steps p.tables e below (s₁.setTop (entryFrame m #[(.ref o0)] 1)) (T9.setTop (mkF m 15 #[.val (.ref o0)] [(.ref o0)])) := q14.trans (by
          show Steps p.tables e below (T9.setTop (mkF m 14 #[.val (.ref o0)] [])) _
          refine XS.aloadN X9.here hx rfl (hb hby d1_14) rfl rfl ?_
          show Steps p.tables e below (T9.setTop (mkF m 15 #[.val (.ref o0)] [(.ref o0)])) _
          exact Steps.refl _)
      obtain ⟨T16, X16, e16, st16⟩ := getS2 X9 hx hZ hown (host := "") (Or.inl (hw _ (List.mem_of_getElem? (i := 34) rfl))) Via.refl e9 S_SIDE_OUTPUT (g := (mkF m 15 #[.val (.ref o0)] [(.ref o0)])) rfl (hb hby d1_15)
      have q17 : Steps p.tables e below (s₁.setTop (entryFrame m #[(.ref o0)] 1)) (T16.setTop (mkF m 18 #[.val (.ref o0)] [(.ref w_SIDE_OUTPUT), (.ref o0)])) := q15.trans (st16 _ (Steps.refl _))
      by_cases hc18 : o0 = w_SIDE_OUTPUT
      · have q19 : Steps p.tables e below (s₁.setTop (entryFrame m #[(.ref o0)] 1)) (T16.setTop (mkF m 25 #[.val (.ref o0)] [])) := q17.trans (by
            show Steps p.tables e below (T16.setTop (mkF m 18 #[.val (.ref o0)] [(.ref w_SIDE_OUTPUT), (.ref o0)])) _
            refine Jvm.RoadKit.acmp (g := (mkF m 18 #[.val (.ref o0)] [(.ref w_SIDE_OUTPUT), (.ref o0)])) X16 hx rfl rfl rfl (pc0 := 18) (pc' := 25) (same := true) rfl (hb hby d1_18) rfl (decide_eq_true (congrArg Value.ref hc18)) (by decide) (by decide) ?_
            show Steps p.tables e below (T16.setTop (mkF m 25 #[.val (.ref o0)] [])) _
            exact Steps.refl _)
        have q20 : Steps p.tables e below (s₁.setTop (entryFrame m #[(.ref o0)] 1)) (T16.setTop (mkF m 26 #[.val (.ref o0)] [(.int (0 : Int32))])) := q19.trans (by
            show Steps p.tables e below (T16.setTop (mkF m 25 #[.val (.ref o0)] [])) _
            refine XS.iconst X16.here hx rfl (hb hby d1_25) ?_
            show Steps p.tables e below (T16.setTop (mkF m 26 #[.val (.ref o0)] [(.int (0 : Int32))])) _
            exact Steps.refl _)
        obtain ⟨fs, hr, hrun, hended, hW, hsame⟩ := X16.leave (v := some (.int (0 : Int32))) (fun h => by rw [Bd.returns] at h; cases h)
        refine ⟨_, _, q20.trans ?_, hrun, hended, _, _, rfl, ?_, ⟨_, rfl⟩, hW, hsame.mono (by decide) (by decide)⟩
        · exact retN X16 hx (t := .boolean) Bd.returns (by simp) (hb hby d1_26) hr
        · show Q_rm1 Z o0 w_PARTITION w_UNION w_SIDE_OUTPUT h0 n0 _ T16.heap _
          rw [e16]
          exact ⟨(by unfold G1; rw [if_neg hc4, if_neg hc11, if_pos hc18]), N0, rfl⟩
      · have q21 : Steps p.tables e below (s₁.setTop (entryFrame m #[(.ref o0)] 1)) (T16.setTop (mkF m 21 #[.val (.ref o0)] [])) := q17.trans (by
            show Steps p.tables e below (T16.setTop (mkF m 18 #[.val (.ref o0)] [(.ref w_SIDE_OUTPUT), (.ref o0)])) _
            refine Jvm.RoadKit.acmp (g := (mkF m 18 #[.val (.ref o0)] [(.ref w_SIDE_OUTPUT), (.ref o0)])) X16 hx rfl rfl rfl (pc0 := 18) (pc' := 21) (same := false) rfl (hb hby d1_18) rfl (decide_eq_false fun q => hc18 (Value.ref.inj q)) (by decide) (by decide) ?_
            show Steps p.tables e below (T16.setTop (mkF m 21 #[.val (.ref o0)] [])) _
            exact Steps.refl _)
        have q22 : Steps p.tables e below (s₁.setTop (entryFrame m #[(.ref o0)] 1)) (T16.setTop (mkF m 26 #[.val (.ref o0)] [(.int (1 : Int32))])) := q21.trans (by
            show Steps p.tables e below (T16.setTop (mkF m 21 #[.val (.ref o0)] [])) _
            refine XS.iconst X16.here hx rfl (hb hby d1_21) ?_
            show Steps p.tables e below (T16.setTop (mkF m 22 #[.val (.ref o0)] [(.int (1 : Int32))])) _
            refine XS.goto X16.here hx rfl (pc0 := 22) (pc' := 26) rfl (hb hby d1_22) (by decide) (by decide) ?_
            show Steps p.tables e below (T16.setTop (mkF m 26 #[.val (.ref o0)] [(.int (1 : Int32))])) _
            exact Steps.refl _)
        obtain ⟨fs, hr, hrun, hended, hW, hsame⟩ := X16.leave (v := some (.int (1 : Int32))) (fun h => by rw [Bd.returns] at h; cases h)
        refine ⟨_, _, q22.trans ?_, hrun, hended, _, _, rfl, ?_, ⟨_, rfl⟩, hW, hsame.mono (by decide) (by decide)⟩
        · exact retN X16 hx (t := .boolean) Bd.returns (by simp) (hb hby d1_26) hr
        · show Q_rm1 Z o0 w_PARTITION w_UNION w_SIDE_OUTPUT h0 n0 _ T16.heap _
          rw [e16]
          exact ⟨(by unfold G1; rw [if_neg hc4, if_neg hc11, if_neg hc18]), N0, rfl⟩

theorem plain0 (p0 : Int32) (w_SOURCE : Addr) (w_MAP : Addr) (w_FLAT_MAP : Addr) (w_FILTER : Addr) (w_PROCESS : Addr) (w_REDUCE : Addr) (w_SINK : Addr) (w_TWO_INPUT : Addr) (w_PARTITION : Addr) (w_UNION : Addr) (w_SIDE_OUTPUT : Addr) (vi : Int32) (vx : Int32) (r : Addr) (zr : Int32)
    (D_SOURCE_PARTITION : w_SOURCE ≠ w_PARTITION)
    (D_SOURCE_UNION : w_SOURCE ≠ w_UNION)
    (D_SOURCE_SIDE_OUTPUT : w_SOURCE ≠ w_SIDE_OUTPUT)
    (D_MAP_PARTITION : w_MAP ≠ w_PARTITION)
    (D_MAP_UNION : w_MAP ≠ w_UNION)
    (D_MAP_SIDE_OUTPUT : w_MAP ≠ w_SIDE_OUTPUT)
    (D_FLAT_MAP_PARTITION : w_FLAT_MAP ≠ w_PARTITION)
    (D_FLAT_MAP_UNION : w_FLAT_MAP ≠ w_UNION)
    (D_FLAT_MAP_SIDE_OUTPUT : w_FLAT_MAP ≠ w_SIDE_OUTPUT)
    (D_FILTER_PARTITION : w_FILTER ≠ w_PARTITION)
    (D_FILTER_UNION : w_FILTER ≠ w_UNION)
    (D_FILTER_SIDE_OUTPUT : w_FILTER ≠ w_SIDE_OUTPUT)
    (D_PROCESS_PARTITION : w_PROCESS ≠ w_PARTITION)
    (D_PROCESS_UNION : w_PROCESS ≠ w_UNION)
    (D_PROCESS_SIDE_OUTPUT : w_PROCESS ≠ w_SIDE_OUTPUT)
    (D_REDUCE_PARTITION : w_REDUCE ≠ w_PARTITION)
    (D_REDUCE_UNION : w_REDUCE ≠ w_UNION)
    (D_REDUCE_SIDE_OUTPUT : w_REDUCE ≠ w_SIDE_OUTPUT)
    (D_SINK_PARTITION : w_SINK ≠ w_PARTITION)
    (D_SINK_UNION : w_SINK ≠ w_UNION)
    (D_SINK_SIDE_OUTPUT : w_SINK ≠ w_SIDE_OUTPUT)
    (D_TWO_INPUT_PARTITION : w_TWO_INPUT ≠ w_PARTITION)
    (D_TWO_INPUT_UNION : w_TWO_INPUT ≠ w_UNION)
    (D_TWO_INPUT_SIDE_OUTPUT : w_TWO_INPUT ≠ w_SIDE_OUTPUT)
    (hvi : vi = ((p0 &&& (2147483647 : Int32)) - ((p0 &&& (2147483647 : Int32)) / (11 : Int32)) * (11 : Int32)))
    (hvx : vx = (if vi < (8 : Int32) then (1 : Int32) else (0 : Int32)))
    (hr : r = (Own.ga [w_SOURCE, w_MAP, w_FLAT_MAP, w_FILTER, w_PROCESS, w_REDUCE, w_SINK, w_TWO_INPUT, w_PARTITION, w_UNION, w_SIDE_OUTPUT] vi))
    (hzr : zr = (if (G1 r w_PARTITION w_UNION w_SIDE_OUTPUT) = vx then (1 : Int32) else (0 : Int32))) :
    zr = 1 := by
  have hb := own_idx p0 vi hvi
  have h4 : vi = 0 ∨ vi = 1 ∨ vi = 2 ∨ vi = 3 ∨ vi = 4 ∨ vi = 5 ∨ vi = 6 ∨ vi = 7 ∨ vi = 8 ∨ vi = 9 ∨ vi = 10 := by
    simp only [← Int32.toInt_inj, show (0 : Int32).toInt = 0 from rfl, show (1 : Int32).toInt = 1 from rfl, show (2 : Int32).toInt = 2 from rfl, show (3 : Int32).toInt = 3 from rfl, show (4 : Int32).toInt = 4 from rfl, show (5 : Int32).toInt = 5 from rfl, show (6 : Int32).toInt = 6 from rfl, show (7 : Int32).toInt = 7 from rfl, show (8 : Int32).toInt = 8 from rfl, show (9 : Int32).toInt = 9 from rfl, show (10 : Int32).toInt = 10 from rfl]; omega
  clear hvi hb
  rcases h4 with h | h | h | h | h | h | h | h | h | h | h <;> subst h
  · rw [hzr, hr, hvx, show Own.ga [w_SOURCE, w_MAP, w_FLAT_MAP, w_FILTER, w_PROCESS, w_REDUCE, w_SINK, w_TWO_INPUT, w_PARTITION, w_UNION, w_SIDE_OUTPUT] 0 = w_SOURCE from rfl]; unfold G1; rw [if_neg D_SOURCE_PARTITION, if_neg D_SOURCE_UNION, if_neg D_SOURCE_SIDE_OUTPUT]; rfl
  · rw [hzr, hr, hvx, show Own.ga [w_SOURCE, w_MAP, w_FLAT_MAP, w_FILTER, w_PROCESS, w_REDUCE, w_SINK, w_TWO_INPUT, w_PARTITION, w_UNION, w_SIDE_OUTPUT] 1 = w_MAP from rfl]; unfold G1; rw [if_neg D_MAP_PARTITION, if_neg D_MAP_UNION, if_neg D_MAP_SIDE_OUTPUT]; rfl
  · rw [hzr, hr, hvx, show Own.ga [w_SOURCE, w_MAP, w_FLAT_MAP, w_FILTER, w_PROCESS, w_REDUCE, w_SINK, w_TWO_INPUT, w_PARTITION, w_UNION, w_SIDE_OUTPUT] 2 = w_FLAT_MAP from rfl]; unfold G1; rw [if_neg D_FLAT_MAP_PARTITION, if_neg D_FLAT_MAP_UNION, if_neg D_FLAT_MAP_SIDE_OUTPUT]; rfl
  · rw [hzr, hr, hvx, show Own.ga [w_SOURCE, w_MAP, w_FLAT_MAP, w_FILTER, w_PROCESS, w_REDUCE, w_SINK, w_TWO_INPUT, w_PARTITION, w_UNION, w_SIDE_OUTPUT] 3 = w_FILTER from rfl]; unfold G1; rw [if_neg D_FILTER_PARTITION, if_neg D_FILTER_UNION, if_neg D_FILTER_SIDE_OUTPUT]; rfl
  · rw [hzr, hr, hvx, show Own.ga [w_SOURCE, w_MAP, w_FLAT_MAP, w_FILTER, w_PROCESS, w_REDUCE, w_SINK, w_TWO_INPUT, w_PARTITION, w_UNION, w_SIDE_OUTPUT] 4 = w_PROCESS from rfl]; unfold G1; rw [if_neg D_PROCESS_PARTITION, if_neg D_PROCESS_UNION, if_neg D_PROCESS_SIDE_OUTPUT]; rfl
  · rw [hzr, hr, hvx, show Own.ga [w_SOURCE, w_MAP, w_FLAT_MAP, w_FILTER, w_PROCESS, w_REDUCE, w_SINK, w_TWO_INPUT, w_PARTITION, w_UNION, w_SIDE_OUTPUT] 5 = w_REDUCE from rfl]; unfold G1; rw [if_neg D_REDUCE_PARTITION, if_neg D_REDUCE_UNION, if_neg D_REDUCE_SIDE_OUTPUT]; rfl
  · rw [hzr, hr, hvx, show Own.ga [w_SOURCE, w_MAP, w_FLAT_MAP, w_FILTER, w_PROCESS, w_REDUCE, w_SINK, w_TWO_INPUT, w_PARTITION, w_UNION, w_SIDE_OUTPUT] 6 = w_SINK from rfl]; unfold G1; rw [if_neg D_SINK_PARTITION, if_neg D_SINK_UNION, if_neg D_SINK_SIDE_OUTPUT]; rfl
  · rw [hzr, hr, hvx, show Own.ga [w_SOURCE, w_MAP, w_FLAT_MAP, w_FILTER, w_PROCESS, w_REDUCE, w_SINK, w_TWO_INPUT, w_PARTITION, w_UNION, w_SIDE_OUTPUT] 7 = w_TWO_INPUT from rfl]; unfold G1; rw [if_neg D_TWO_INPUT_PARTITION, if_neg D_TWO_INPUT_UNION, if_neg D_TWO_INPUT_SIDE_OUTPUT]; rfl
  · rw [hzr, hr, hvx, show Own.ga [w_SOURCE, w_MAP, w_FLAT_MAP, w_FILTER, w_PROCESS, w_REDUCE, w_SINK, w_TWO_INPUT, w_PARTITION, w_UNION, w_SIDE_OUTPUT] 8 = w_PARTITION from rfl]; unfold G1; rw [if_pos rfl]; rfl
  · rw [hzr, hr, hvx, show Own.ga [w_SOURCE, w_MAP, w_FLAT_MAP, w_FILTER, w_PROCESS, w_REDUCE, w_SINK, w_TWO_INPUT, w_PARTITION, w_UNION, w_SIDE_OUTPUT] 9 = w_UNION from rfl]; unfold G1; simp
  · rw [hzr, hr, hvx, show Own.ga [w_SOURCE, w_MAP, w_FLAT_MAP, w_FILTER, w_PROCESS, w_REDUCE, w_SINK, w_TWO_INPUT, w_PARTITION, w_UNION, w_SIDE_OUTPUT] 10 = w_SIDE_OUTPUT from rfl]; unfold G1; simp

theorem pd_0 : parseMethodDescriptor "()Z" = some ⟨[], some .boolean⟩ := by decide +kernel
theorem pn_rm0 : plainName "com/example/tideplan/tideplan/model/KindRunsOperatorPinLaw" = true := by first | (simp [plainName, overriddenIn]; done) | decide +kernel
theorem ef_rm0 (m : MethodId) (p0 : Int32) : entryFrame m #[(.int p0)] maxLocals = mkF m 0 #[.val (.int p0), .unset, .unset, .unset] [] := by first | (simp [entryFrame, mkF, argsToLocals, Value.category, maxLocals]; done) | rfl
def Q_rm0 (Z : State) (p0 : Int32) (w_SOURCE : Addr) (w_MAP : Addr) (w_FLAT_MAP : Addr) (w_FILTER : Addr) (w_PROCESS : Addr) (w_REDUCE : Addr) (w_SINK : Addr) (w_TWO_INPUT : Addr) (w_PARTITION : Addr) (w_UNION : Addr) (w_SIDE_OUTPUT : Addr) (h0 : Heap) (n0 : Nat) (v : Option Value) (h : Heap) (L : List Loc) : Prop := v = some (.int (1 : Int32)) ∧ Fr n0 L
set_option maxRecDepth 65536 in
set_option maxHeartbeats 40000000 in
theorem rm0 (l : Launch) (Z : State) (a0 : Array Value) (hw : ∀ d ∈ tables_1, d.before a0 Z = true) (ws : List Jvm.Cond) (p0 : Int32) (w_SOURCE : Addr) (w_MAP : Addr) (w_FLAT_MAP : Addr) (w_FILTER : Addr) (w_PROCESS : Addr) (w_REDUCE : Addr) (w_SINK : Addr) (w_TWO_INPUT : Addr) (w_PARTITION : Addr) (w_UNION : Addr) (w_SIDE_OUTPUT : Addr) (h0 : Heap) (n0 : Nat) (Z0 : n0 ≤ h0.size) (S_SOURCE : Sta Z h0 "com/example/tideplan/tideplan/model/Kind" "SOURCE" "Lcom/example/tideplan/tideplan/model/Kind;" (.ref w_SOURCE)) (S_MAP : Sta Z h0 "com/example/tideplan/tideplan/model/Kind" "MAP" "Lcom/example/tideplan/tideplan/model/Kind;" (.ref w_MAP)) (S_FLAT_MAP : Sta Z h0 "com/example/tideplan/tideplan/model/Kind" "FLAT_MAP" "Lcom/example/tideplan/tideplan/model/Kind;" (.ref w_FLAT_MAP)) (S_FILTER : Sta Z h0 "com/example/tideplan/tideplan/model/Kind" "FILTER" "Lcom/example/tideplan/tideplan/model/Kind;" (.ref w_FILTER)) (S_PROCESS : Sta Z h0 "com/example/tideplan/tideplan/model/Kind" "PROCESS" "Lcom/example/tideplan/tideplan/model/Kind;" (.ref w_PROCESS)) (S_REDUCE : Sta Z h0 "com/example/tideplan/tideplan/model/Kind" "REDUCE" "Lcom/example/tideplan/tideplan/model/Kind;" (.ref w_REDUCE)) (S_SINK : Sta Z h0 "com/example/tideplan/tideplan/model/Kind" "SINK" "Lcom/example/tideplan/tideplan/model/Kind;" (.ref w_SINK)) (S_TWO_INPUT : Sta Z h0 "com/example/tideplan/tideplan/model/Kind" "TWO_INPUT" "Lcom/example/tideplan/tideplan/model/Kind;" (.ref w_TWO_INPUT)) (S_PARTITION : Sta Z h0 "com/example/tideplan/tideplan/model/Kind" "PARTITION" "Lcom/example/tideplan/tideplan/model/Kind;" (.ref w_PARTITION)) (S_UNION : Sta Z h0 "com/example/tideplan/tideplan/model/Kind" "UNION" "Lcom/example/tideplan/tideplan/model/Kind;" (.ref w_UNION)) (S_SIDE_OUTPUT : Sta Z h0 "com/example/tideplan/tideplan/model/Kind" "SIDE_OUTPUT" "Lcom/example/tideplan/tideplan/model/Kind;" (.ref w_SIDE_OUTPUT)) (E_w_SOURCE : Exa Z h0 w_SOURCE "com/example/tideplan/tideplan/model/Kind") (E_w_MAP : Exa Z h0 w_MAP "com/example/tideplan/tideplan/model/Kind") (E_w_FLAT_MAP : Exa Z h0 w_FLAT_MAP "com/example/tideplan/tideplan/model/Kind") (E_w_FILTER : Exa Z h0 w_FILTER "com/example/tideplan/tideplan/model/Kind") (E_w_PROCESS : Exa Z h0 w_PROCESS "com/example/tideplan/tideplan/model/Kind") (E_w_REDUCE : Exa Z h0 w_REDUCE "com/example/tideplan/tideplan/model/Kind") (E_w_SINK : Exa Z h0 w_SINK "com/example/tideplan/tideplan/model/Kind") (E_w_TWO_INPUT : Exa Z h0 w_TWO_INPUT "com/example/tideplan/tideplan/model/Kind") (E_w_PARTITION : Exa Z h0 w_PARTITION "com/example/tideplan/tideplan/model/Kind") (E_w_UNION : Exa Z h0 w_UNION "com/example/tideplan/tideplan/model/Kind") (E_w_SIDE_OUTPUT : Exa Z h0 w_SIDE_OUTPUT "com/example/tideplan/tideplan/model/Kind") (D_SOURCE_PARTITION : w_SOURCE ≠ w_PARTITION) (D_SOURCE_UNION : w_SOURCE ≠ w_UNION) (D_SOURCE_SIDE_OUTPUT : w_SOURCE ≠ w_SIDE_OUTPUT) (D_MAP_PARTITION : w_MAP ≠ w_PARTITION) (D_MAP_UNION : w_MAP ≠ w_UNION) (D_MAP_SIDE_OUTPUT : w_MAP ≠ w_SIDE_OUTPUT) (D_FLAT_MAP_PARTITION : w_FLAT_MAP ≠ w_PARTITION) (D_FLAT_MAP_UNION : w_FLAT_MAP ≠ w_UNION) (D_FLAT_MAP_SIDE_OUTPUT : w_FLAT_MAP ≠ w_SIDE_OUTPUT) (D_FILTER_PARTITION : w_FILTER ≠ w_PARTITION) (D_FILTER_UNION : w_FILTER ≠ w_UNION) (D_FILTER_SIDE_OUTPUT : w_FILTER ≠ w_SIDE_OUTPUT) (D_PROCESS_PARTITION : w_PROCESS ≠ w_PARTITION) (D_PROCESS_UNION : w_PROCESS ≠ w_UNION) (D_PROCESS_SIDE_OUTPUT : w_PROCESS ≠ w_SIDE_OUTPUT) (D_REDUCE_PARTITION : w_REDUCE ≠ w_PARTITION) (D_REDUCE_UNION : w_REDUCE ≠ w_UNION) (D_REDUCE_SIDE_OUTPUT : w_REDUCE ≠ w_SIDE_OUTPUT) (D_SINK_PARTITION : w_SINK ≠ w_PARTITION) (D_SINK_UNION : w_SINK ≠ w_UNION) (D_SINK_SIDE_OUTPUT : w_SINK ≠ w_SIDE_OUTPUT) (D_TWO_INPUT_PARTITION : w_TWO_INPUT ≠ w_PARTITION) (D_TWO_INPUT_UNION : w_TWO_INPUT ≠ w_UNION) (D_TWO_INPUT_SIDE_OUTPUT : w_TWO_INPUT ≠ w_SIDE_OUTPUT) :
    MetFree l x (head1 (Jvm.Cond.code x code maxLocals ret :: ws) room_1) (fun a U => a = #[(.int p0)] ∧ Z.Warmed39 U.vm ∧ U.heap = h0) (fun _ _ _ _ _ => True) (fun _ U o U' => ∃ v L, o = .returned v ∧ Q_rm0 Z p0 w_SOURCE w_MAP w_FLAT_MAP w_FILTER w_PROCESS w_REDUCE w_SINK w_TWO_INPUT w_PARTITION w_UNION w_SIDE_OUTPUT h0 n0 v U'.heap L ∧ FrameEnd U o U' L room_1.cells room_1.slots) := by
  refine MetFree.of_bodySF (plainFor_of_name pn_rm0) hisR ?_
  intro p e s m args below meth c s₁ Bd hml0 hP hK
  obtain ⟨rfl, hZ, hh⟩ := hP
  have hx := Bd.exec
  have hby := Bd.bytes
  have hml : c.maxLocals = 4 := hml0
  have hown : s.vm.findClass "com/example/tideplan/tideplan/model/KindRunsOperatorPinLaw" = some m.cls := findClass_of_methodNamed Bd.named
  have hnm := (name_of_methodNamed Bd.named Bd.method).1
  have X0 : Stand p l e room_1 s m #[(.int p0)] below meth c s₁ [] 0 0 := Stand.of_body Bd
  have e0 : s₁.heap = h0 := by rw [← hh, Bd.state]; rfl
  have N0 := Fr.nil n0
  have q0 : Steps p.tables e below (s₁.setTop (entryFrame m #[(.int p0)] maxLocals)) (s₁.setTop (mkF m 0 #[.val (.int p0), .unset, .unset, .unset] [])) := castTop (ef_rm0 m p0) (Steps.refl _)
  have q1 : Steps p.tables e below (s₁.setTop (entryFrame m #[(.int p0)] maxLocals)) (s₁.setTop (mkF m 2 #[.val (.int p0), .unset, .unset, .unset] [(.int (11 : Int32))])) := q0.trans (by
      show Steps p.tables e below (s₁.setTop (mkF m 0 #[.val (.int p0), .unset, .unset, .unset] [])) _
      refine XS.bipush X0.here hx rfl (hb hby at_0) ?_
      show Steps p.tables e below (s₁.setTop (mkF m 2 #[.val (.int p0), .unset, .unset, .unset] [(.int (11 : Int32))])) _
      exact Steps.refl _)
  obtain ⟨T2, h2, k2, X2, e2, E2, A2, O2, st2⟩ := newR X0 hx hZ hown (hw _ (List.mem_of_getElem? (i := 0) rfl)) (hw _ (List.mem_of_getElem? (i := 1) rfl)) e0 (g := (mkF m 2 #[.val (.int p0), .unset, .unset, .unset] [(.int (11 : Int32))])) rfl (hb hby at_2) rfl (by decide) (cap := 11) (by decide) (by decide) (by decide) (by decide)
  obtain ⟨b, g2⟩ : ∃ z, z = h0.size := ⟨_, rfl⟩
  rw [← g2] at A2 st2
  have ge_b : n0 ≤ b := Nat.le_trans Z0 (Nat.le_of_eq g2.symm)
  have ne_w_SOURCE_b : w_SOURCE ≠ b := Nat.ne_of_lt (Nat.lt_of_lt_of_le E_w_SOURCE.lt (Nat.le_of_eq g2.symm))
  have ne_w_MAP_b : w_MAP ≠ b := Nat.ne_of_lt (Nat.lt_of_lt_of_le E_w_MAP.lt (Nat.le_of_eq g2.symm))
  have ne_w_FLAT_MAP_b : w_FLAT_MAP ≠ b := Nat.ne_of_lt (Nat.lt_of_lt_of_le E_w_FLAT_MAP.lt (Nat.le_of_eq g2.symm))
  have ne_w_FILTER_b : w_FILTER ≠ b := Nat.ne_of_lt (Nat.lt_of_lt_of_le E_w_FILTER.lt (Nat.le_of_eq g2.symm))
  have ne_w_PROCESS_b : w_PROCESS ≠ b := Nat.ne_of_lt (Nat.lt_of_lt_of_le E_w_PROCESS.lt (Nat.le_of_eq g2.symm))
  have ne_w_REDUCE_b : w_REDUCE ≠ b := Nat.ne_of_lt (Nat.lt_of_lt_of_le E_w_REDUCE.lt (Nat.le_of_eq g2.symm))
  have ne_w_SINK_b : w_SINK ≠ b := Nat.ne_of_lt (Nat.lt_of_lt_of_le E_w_SINK.lt (Nat.le_of_eq g2.symm))
  have ne_w_TWO_INPUT_b : w_TWO_INPUT ≠ b := Nat.ne_of_lt (Nat.lt_of_lt_of_le E_w_TWO_INPUT.lt (Nat.le_of_eq g2.symm))
  have ne_w_PARTITION_b : w_PARTITION ≠ b := Nat.ne_of_lt (Nat.lt_of_lt_of_le E_w_PARTITION.lt (Nat.le_of_eq g2.symm))
  have ne_w_UNION_b : w_UNION ≠ b := Nat.ne_of_lt (Nat.lt_of_lt_of_le E_w_UNION.lt (Nat.le_of_eq g2.symm))
  have ne_w_SIDE_OUTPUT_b : w_SIDE_OUTPUT ≠ b := Nat.ne_of_lt (Nat.lt_of_lt_of_le E_w_SIDE_OUTPUT.lt (Nat.le_of_eq g2.symm))
  have Xw_SOURCE_2 := E_w_SOURCE.ext E2
  have Xw_MAP_2 := E_w_MAP.ext E2
  have Xw_FLAT_MAP_2 := E_w_FLAT_MAP.ext E2
  have Xw_FILTER_2 := E_w_FILTER.ext E2
  have Xw_PROCESS_2 := E_w_PROCESS.ext E2
  have Xw_REDUCE_2 := E_w_REDUCE.ext E2
  have Xw_SINK_2 := E_w_SINK.ext E2
  have Xw_TWO_INPUT_2 := E_w_TWO_INPUT.ext E2
  have Xw_PARTITION_2 := E_w_PARTITION.ext E2
  have Xw_UNION_2 := E_w_UNION.ext E2
  have Xw_SIDE_OUTPUT_2 := E_w_SIDE_OUTPUT.ext E2
  have SSOURCE_2 := S_SOURCE.ext E2
  have SMAP_2 := S_MAP.ext E2
  have SFLAT_MAP_2 := S_FLAT_MAP.ext E2
  have SFILTER_2 := S_FILTER.ext E2
  have SPROCESS_2 := S_PROCESS.ext E2
  have SREDUCE_2 := S_REDUCE.ext E2
  have SSINK_2 := S_SINK.ext E2
  have STWO_INPUT_2 := S_TWO_INPUT.ext E2
  have SPARTITION_2 := S_PARTITION.ext E2
  have SUNION_2 := S_UNION.ext E2
  have SSIDE_OUTPUT_2 := S_SIDE_OUTPUT.ext E2
  have Z2 : n0 ≤ h2.size := Nat.le_trans Z0 E2.1
  have I_b : Own.RA Z h2 b "com/example/tideplan/tideplan/model/Kind" [.null, .null, .null, .null, .null, .null, .null, .null, .null, .null, .null] := Own.RA.new A2 O2 (by decide)
  have q3 : Steps p.tables e below (s₁.setTop (entryFrame m #[(.int p0)] maxLocals)) (T2.setTop (mkF m 5 #[.val (.int p0), .unset, .unset, .unset] [(.ref b)])) := q1.trans (st2 _ (Steps.refl _))
  have q4 : Steps p.tables e below (s₁.setTop (entryFrame m #[(.int p0)] maxLocals)) (T2.setTop (mkF m 7 #[.val (.int p0), .unset, .unset, .unset] [(.int (0 : Int32)), (.ref b), (.ref b)])) := q3.trans (by
      show Steps p.tables e below (T2.setTop (mkF m 5 #[.val (.int p0), .unset, .unset, .unset] [(.ref b)])) _
      refine XS.dup X2.here hx rfl (hb hby at_5) rfl rfl ?_
      show Steps p.tables e below (T2.setTop (mkF m 6 #[.val (.int p0), .unset, .unset, .unset] [(.ref b), (.ref b)])) _
      refine XS.iconst X2.here hx rfl (hb hby at_6) ?_
      show Steps p.tables e below (T2.setTop (mkF m 7 #[.val (.int p0), .unset, .unset, .unset] [(.int (0 : Int32)), (.ref b), (.ref b)])) _
      exact Steps.refl _)
  obtain ⟨T5, X5, e5, st5⟩ := getS2 X2 hx hZ hown (host := "") (Or.inl (hw _ (List.mem_of_getElem? (i := 2) rfl))) Via.refl e2 SSOURCE_2 (g := (mkF m 7 #[.val (.int p0), .unset, .unset, .unset] [(.int (0 : Int32)), (.ref b), (.ref b)])) rfl (hb hby at_7)
  have q6 : Steps p.tables e below (s₁.setTop (entryFrame m #[(.int p0)] maxLocals)) (T5.setTop (mkF m 10 #[.val (.int p0), .unset, .unset, .unset] [(.ref w_SOURCE), (.int (0 : Int32)), (.ref b), (.ref b)])) := q4.trans (st5 _ (Steps.refl _))
  obtain ⟨T7, h7, X7, e7, W7, J7, st7⟩ := Own.stRA X5 hx hZ e5 I_b (j := (0 : Int32)) 11 rfl (by decide) (Ins.self Xw_SOURCE_2) (g := (mkF m 10 #[.val (.int p0), .unset, .unset, .unset] [(.ref w_SOURCE), (.int (0 : Int32)), (.ref b), (.ref b)])) rfl rfl (hb hby at_10)
  have N7 := Fr.snoc X7 N0 ge_b
  have Xw_SOURCE_7 := Xw_SOURCE_2.wr W7
  have Xw_MAP_7 := Xw_MAP_2.wr W7
  have Xw_FLAT_MAP_7 := Xw_FLAT_MAP_2.wr W7
  have Xw_FILTER_7 := Xw_FILTER_2.wr W7
  have Xw_PROCESS_7 := Xw_PROCESS_2.wr W7
  have Xw_REDUCE_7 := Xw_REDUCE_2.wr W7
  have Xw_SINK_7 := Xw_SINK_2.wr W7
  have Xw_TWO_INPUT_7 := Xw_TWO_INPUT_2.wr W7
  have Xw_PARTITION_7 := Xw_PARTITION_2.wr W7
  have Xw_UNION_7 := Xw_UNION_2.wr W7
  have Xw_SIDE_OUTPUT_7 := Xw_SIDE_OUTPUT_2.wr W7
  have SSOURCE_7 := SSOURCE_2.wr W7
  have SMAP_7 := SMAP_2.wr W7
  have SFLAT_MAP_7 := SFLAT_MAP_2.wr W7
  have SFILTER_7 := SFILTER_2.wr W7
  have SPROCESS_7 := SPROCESS_2.wr W7
  have SREDUCE_7 := SREDUCE_2.wr W7
  have SSINK_7 := SSINK_2.wr W7
  have STWO_INPUT_7 := STWO_INPUT_2.wr W7
  have SPARTITION_7 := SPARTITION_2.wr W7
  have SUNION_7 := SUNION_2.wr W7
  have SSIDE_OUTPUT_7 := SSIDE_OUTPUT_2.wr W7
  have Z7 : n0 ≤ h7.size := Own.size_wr W7 Z2
  have Ib_7 : Own.RA Z h7 b "com/example/tideplan/tideplan/model/Kind" [(.ref w_SOURCE), .null, .null, .null, .null, .null, .null, .null, .null, .null, .null] := J7
  have q8 : Steps p.tables e below (s₁.setTop (entryFrame m #[(.int p0)] maxLocals)) (T7.setTop (mkF m 11 #[.val (.int p0), .unset, .unset, .unset] [(.ref b)])) := q6.trans (st7 _ (Steps.refl _))
  have q9 : Steps p.tables e below (s₁.setTop (entryFrame m #[(.int p0)] maxLocals)) (T7.setTop (mkF m 13 #[.val (.int p0), .unset, .unset, .unset] [(.int (1 : Int32)), (.ref b), (.ref b)])) := q8.trans (by
      show Steps p.tables e below (T7.setTop (mkF m 11 #[.val (.int p0), .unset, .unset, .unset] [(.ref b)])) _
      refine XS.dup X7.here hx rfl (hb hby at_11) rfl rfl ?_
      show Steps p.tables e below (T7.setTop (mkF m 12 #[.val (.int p0), .unset, .unset, .unset] [(.ref b), (.ref b)])) _
      refine XS.iconst X7.here hx rfl (hb hby at_12) ?_
      show Steps p.tables e below (T7.setTop (mkF m 13 #[.val (.int p0), .unset, .unset, .unset] [(.int (1 : Int32)), (.ref b), (.ref b)])) _
      exact Steps.refl _)
  obtain ⟨T10, X10, e10, st10⟩ := getS2 X7 hx hZ hown (host := "") (Or.inl (hw _ (List.mem_of_getElem? (i := 6) rfl))) Via.refl e7 SMAP_7 (g := (mkF m 13 #[.val (.int p0), .unset, .unset, .unset] [(.int (1 : Int32)), (.ref b), (.ref b)])) rfl (hb hby at_13)
  have q11 : Steps p.tables e below (s₁.setTop (entryFrame m #[(.int p0)] maxLocals)) (T10.setTop (mkF m 16 #[.val (.int p0), .unset, .unset, .unset] [(.ref w_MAP), (.int (1 : Int32)), (.ref b), (.ref b)])) := q9.trans (st10 _ (Steps.refl _))
  obtain ⟨T12, h12, X12, e12, W12, J12, st12⟩ := Own.stRA X10 hx hZ e10 Ib_7 (j := (1 : Int32)) 11 rfl (by decide) (Ins.self Xw_MAP_7) (g := (mkF m 16 #[.val (.int p0), .unset, .unset, .unset] [(.ref w_MAP), (.int (1 : Int32)), (.ref b), (.ref b)])) rfl rfl (hb hby at_16)
  have N12 := Fr.snoc X12 N7 ge_b
  have Xw_SOURCE_12 := Xw_SOURCE_7.wr W12
  have Xw_MAP_12 := Xw_MAP_7.wr W12
  have Xw_FLAT_MAP_12 := Xw_FLAT_MAP_7.wr W12
  have Xw_FILTER_12 := Xw_FILTER_7.wr W12
  have Xw_PROCESS_12 := Xw_PROCESS_7.wr W12
  have Xw_REDUCE_12 := Xw_REDUCE_7.wr W12
  have Xw_SINK_12 := Xw_SINK_7.wr W12
  have Xw_TWO_INPUT_12 := Xw_TWO_INPUT_7.wr W12
  have Xw_PARTITION_12 := Xw_PARTITION_7.wr W12
  have Xw_UNION_12 := Xw_UNION_7.wr W12
  have Xw_SIDE_OUTPUT_12 := Xw_SIDE_OUTPUT_7.wr W12
  have SSOURCE_12 := SSOURCE_7.wr W12
  have SMAP_12 := SMAP_7.wr W12
  have SFLAT_MAP_12 := SFLAT_MAP_7.wr W12
  have SFILTER_12 := SFILTER_7.wr W12
  have SPROCESS_12 := SPROCESS_7.wr W12
  have SREDUCE_12 := SREDUCE_7.wr W12
  have SSINK_12 := SSINK_7.wr W12
  have STWO_INPUT_12 := STWO_INPUT_7.wr W12
  have SPARTITION_12 := SPARTITION_7.wr W12
  have SUNION_12 := SUNION_7.wr W12
  have SSIDE_OUTPUT_12 := SSIDE_OUTPUT_7.wr W12
  have Z12 : n0 ≤ h12.size := Own.size_wr W12 Z7
  have Ib_12 : Own.RA Z h12 b "com/example/tideplan/tideplan/model/Kind" [(.ref w_SOURCE), (.ref w_MAP), .null, .null, .null, .null, .null, .null, .null, .null, .null] := J12
  have q13 : Steps p.tables e below (s₁.setTop (entryFrame m #[(.int p0)] maxLocals)) (T12.setTop (mkF m 17 #[.val (.int p0), .unset, .unset, .unset] [(.ref b)])) := q11.trans (st12 _ (Steps.refl _))
  have q14 : Steps p.tables e below (s₁.setTop (entryFrame m #[(.int p0)] maxLocals)) (T12.setTop (mkF m 19 #[.val (.int p0), .unset, .unset, .unset] [(.int (2 : Int32)), (.ref b), (.ref b)])) := q13.trans (by
      show Steps p.tables e below (T12.setTop (mkF m 17 #[.val (.int p0), .unset, .unset, .unset] [(.ref b)])) _
      refine XS.dup X12.here hx rfl (hb hby at_17) rfl rfl ?_
      show Steps p.tables e below (T12.setTop (mkF m 18 #[.val (.int p0), .unset, .unset, .unset] [(.ref b), (.ref b)])) _
      refine XS.iconst X12.here hx rfl (hb hby at_18) ?_
      show Steps p.tables e below (T12.setTop (mkF m 19 #[.val (.int p0), .unset, .unset, .unset] [(.int (2 : Int32)), (.ref b), (.ref b)])) _
      exact Steps.refl _)
  obtain ⟨T15, X15, e15, st15⟩ := getS2 X12 hx hZ hown (host := "") (Or.inl (hw _ (List.mem_of_getElem? (i := 8) rfl))) Via.refl e12 SFLAT_MAP_12 (g := (mkF m 19 #[.val (.int p0), .unset, .unset, .unset] [(.int (2 : Int32)), (.ref b), (.ref b)])) rfl (hb hby at_19)
  have q16 : Steps p.tables e below (s₁.setTop (entryFrame m #[(.int p0)] maxLocals)) (T15.setTop (mkF m 22 #[.val (.int p0), .unset, .unset, .unset] [(.ref w_FLAT_MAP), (.int (2 : Int32)), (.ref b), (.ref b)])) := q14.trans (st15 _ (Steps.refl _))
  obtain ⟨T17, h17, X17, e17, W17, J17, st17⟩ := Own.stRA X15 hx hZ e15 Ib_12 (j := (2 : Int32)) 11 rfl (by decide) (Ins.self Xw_FLAT_MAP_12) (g := (mkF m 22 #[.val (.int p0), .unset, .unset, .unset] [(.ref w_FLAT_MAP), (.int (2 : Int32)), (.ref b), (.ref b)])) rfl rfl (hb hby at_22)
  have N17 := Fr.snoc X17 N12 ge_b
  have Xw_SOURCE_17 := Xw_SOURCE_12.wr W17
  have Xw_MAP_17 := Xw_MAP_12.wr W17
  have Xw_FLAT_MAP_17 := Xw_FLAT_MAP_12.wr W17
  have Xw_FILTER_17 := Xw_FILTER_12.wr W17
  have Xw_PROCESS_17 := Xw_PROCESS_12.wr W17
  have Xw_REDUCE_17 := Xw_REDUCE_12.wr W17
  have Xw_SINK_17 := Xw_SINK_12.wr W17
  have Xw_TWO_INPUT_17 := Xw_TWO_INPUT_12.wr W17
  have Xw_PARTITION_17 := Xw_PARTITION_12.wr W17
  have Xw_UNION_17 := Xw_UNION_12.wr W17
  have Xw_SIDE_OUTPUT_17 := Xw_SIDE_OUTPUT_12.wr W17
  have SSOURCE_17 := SSOURCE_12.wr W17
  have SMAP_17 := SMAP_12.wr W17
  have SFLAT_MAP_17 := SFLAT_MAP_12.wr W17
  have SFILTER_17 := SFILTER_12.wr W17
  have SPROCESS_17 := SPROCESS_12.wr W17
  have SREDUCE_17 := SREDUCE_12.wr W17
  have SSINK_17 := SSINK_12.wr W17
  have STWO_INPUT_17 := STWO_INPUT_12.wr W17
  have SPARTITION_17 := SPARTITION_12.wr W17
  have SUNION_17 := SUNION_12.wr W17
  have SSIDE_OUTPUT_17 := SSIDE_OUTPUT_12.wr W17
  have Z17 : n0 ≤ h17.size := Own.size_wr W17 Z12
  have Ib_17 : Own.RA Z h17 b "com/example/tideplan/tideplan/model/Kind" [(.ref w_SOURCE), (.ref w_MAP), (.ref w_FLAT_MAP), .null, .null, .null, .null, .null, .null, .null, .null] := J17
  have q18 : Steps p.tables e below (s₁.setTop (entryFrame m #[(.int p0)] maxLocals)) (T17.setTop (mkF m 23 #[.val (.int p0), .unset, .unset, .unset] [(.ref b)])) := q16.trans (st17 _ (Steps.refl _))
  have q19 : Steps p.tables e below (s₁.setTop (entryFrame m #[(.int p0)] maxLocals)) (T17.setTop (mkF m 25 #[.val (.int p0), .unset, .unset, .unset] [(.int (3 : Int32)), (.ref b), (.ref b)])) := q18.trans (by
      show Steps p.tables e below (T17.setTop (mkF m 23 #[.val (.int p0), .unset, .unset, .unset] [(.ref b)])) _
      refine XS.dup X17.here hx rfl (hb hby at_23) rfl rfl ?_
      show Steps p.tables e below (T17.setTop (mkF m 24 #[.val (.int p0), .unset, .unset, .unset] [(.ref b), (.ref b)])) _
      refine XS.iconst X17.here hx rfl (hb hby at_24) ?_
      show Steps p.tables e below (T17.setTop (mkF m 25 #[.val (.int p0), .unset, .unset, .unset] [(.int (3 : Int32)), (.ref b), (.ref b)])) _
      exact Steps.refl _)
  obtain ⟨T20, X20, e20, st20⟩ := getS2 X17 hx hZ hown (host := "") (Or.inl (hw _ (List.mem_of_getElem? (i := 10) rfl))) Via.refl e17 SFILTER_17 (g := (mkF m 25 #[.val (.int p0), .unset, .unset, .unset] [(.int (3 : Int32)), (.ref b), (.ref b)])) rfl (hb hby at_25)
  have q21 : Steps p.tables e below (s₁.setTop (entryFrame m #[(.int p0)] maxLocals)) (T20.setTop (mkF m 28 #[.val (.int p0), .unset, .unset, .unset] [(.ref w_FILTER), (.int (3 : Int32)), (.ref b), (.ref b)])) := q19.trans (st20 _ (Steps.refl _))
  obtain ⟨T22, h22, X22, e22, W22, J22, st22⟩ := Own.stRA X20 hx hZ e20 Ib_17 (j := (3 : Int32)) 11 rfl (by decide) (Ins.self Xw_FILTER_17) (g := (mkF m 28 #[.val (.int p0), .unset, .unset, .unset] [(.ref w_FILTER), (.int (3 : Int32)), (.ref b), (.ref b)])) rfl rfl (hb hby at_28)
  have N22 := Fr.snoc X22 N17 ge_b
  have Xw_SOURCE_22 := Xw_SOURCE_17.wr W22
  have Xw_MAP_22 := Xw_MAP_17.wr W22
  have Xw_FLAT_MAP_22 := Xw_FLAT_MAP_17.wr W22
  have Xw_FILTER_22 := Xw_FILTER_17.wr W22
  have Xw_PROCESS_22 := Xw_PROCESS_17.wr W22
  have Xw_REDUCE_22 := Xw_REDUCE_17.wr W22
  have Xw_SINK_22 := Xw_SINK_17.wr W22
  have Xw_TWO_INPUT_22 := Xw_TWO_INPUT_17.wr W22
  have Xw_PARTITION_22 := Xw_PARTITION_17.wr W22
  have Xw_UNION_22 := Xw_UNION_17.wr W22
  have Xw_SIDE_OUTPUT_22 := Xw_SIDE_OUTPUT_17.wr W22
  have SSOURCE_22 := SSOURCE_17.wr W22
  have SMAP_22 := SMAP_17.wr W22
  have SFLAT_MAP_22 := SFLAT_MAP_17.wr W22
  have SFILTER_22 := SFILTER_17.wr W22
  have SPROCESS_22 := SPROCESS_17.wr W22
  have SREDUCE_22 := SREDUCE_17.wr W22
  have SSINK_22 := SSINK_17.wr W22
  have STWO_INPUT_22 := STWO_INPUT_17.wr W22
  have SPARTITION_22 := SPARTITION_17.wr W22
  have SUNION_22 := SUNION_17.wr W22
  have SSIDE_OUTPUT_22 := SSIDE_OUTPUT_17.wr W22
  have Z22 : n0 ≤ h22.size := Own.size_wr W22 Z17
  have Ib_22 : Own.RA Z h22 b "com/example/tideplan/tideplan/model/Kind" [(.ref w_SOURCE), (.ref w_MAP), (.ref w_FLAT_MAP), (.ref w_FILTER), .null, .null, .null, .null, .null, .null, .null] := J22
  have q23 : Steps p.tables e below (s₁.setTop (entryFrame m #[(.int p0)] maxLocals)) (T22.setTop (mkF m 29 #[.val (.int p0), .unset, .unset, .unset] [(.ref b)])) := q21.trans (st22 _ (Steps.refl _))
  have q24 : Steps p.tables e below (s₁.setTop (entryFrame m #[(.int p0)] maxLocals)) (T22.setTop (mkF m 31 #[.val (.int p0), .unset, .unset, .unset] [(.int (4 : Int32)), (.ref b), (.ref b)])) := q23.trans (by
      show Steps p.tables e below (T22.setTop (mkF m 29 #[.val (.int p0), .unset, .unset, .unset] [(.ref b)])) _
      refine XS.dup X22.here hx rfl (hb hby at_29) rfl rfl ?_
      show Steps p.tables e below (T22.setTop (mkF m 30 #[.val (.int p0), .unset, .unset, .unset] [(.ref b), (.ref b)])) _
      refine XS.iconst X22.here hx rfl (hb hby at_30) ?_
      show Steps p.tables e below (T22.setTop (mkF m 31 #[.val (.int p0), .unset, .unset, .unset] [(.int (4 : Int32)), (.ref b), (.ref b)])) _
      exact Steps.refl _)
  obtain ⟨T25, X25, e25, st25⟩ := getS2 X22 hx hZ hown (host := "") (Or.inl (hw _ (List.mem_of_getElem? (i := 12) rfl))) Via.refl e22 SPROCESS_22 (g := (mkF m 31 #[.val (.int p0), .unset, .unset, .unset] [(.int (4 : Int32)), (.ref b), (.ref b)])) rfl (hb hby at_31)
  have q26 : Steps p.tables e below (s₁.setTop (entryFrame m #[(.int p0)] maxLocals)) (T25.setTop (mkF m 34 #[.val (.int p0), .unset, .unset, .unset] [(.ref w_PROCESS), (.int (4 : Int32)), (.ref b), (.ref b)])) := q24.trans (st25 _ (Steps.refl _))
  obtain ⟨T27, h27, X27, e27, W27, J27, st27⟩ := Own.stRA X25 hx hZ e25 Ib_22 (j := (4 : Int32)) 11 rfl (by decide) (Ins.self Xw_PROCESS_22) (g := (mkF m 34 #[.val (.int p0), .unset, .unset, .unset] [(.ref w_PROCESS), (.int (4 : Int32)), (.ref b), (.ref b)])) rfl rfl (hb hby at_34)
  have N27 := Fr.snoc X27 N22 ge_b
  have Xw_SOURCE_27 := Xw_SOURCE_22.wr W27
  have Xw_MAP_27 := Xw_MAP_22.wr W27
  have Xw_FLAT_MAP_27 := Xw_FLAT_MAP_22.wr W27
  have Xw_FILTER_27 := Xw_FILTER_22.wr W27
  have Xw_PROCESS_27 := Xw_PROCESS_22.wr W27
  have Xw_REDUCE_27 := Xw_REDUCE_22.wr W27
  have Xw_SINK_27 := Xw_SINK_22.wr W27
  have Xw_TWO_INPUT_27 := Xw_TWO_INPUT_22.wr W27
  have Xw_PARTITION_27 := Xw_PARTITION_22.wr W27
  have Xw_UNION_27 := Xw_UNION_22.wr W27
  have Xw_SIDE_OUTPUT_27 := Xw_SIDE_OUTPUT_22.wr W27
  have SSOURCE_27 := SSOURCE_22.wr W27
  have SMAP_27 := SMAP_22.wr W27
  have SFLAT_MAP_27 := SFLAT_MAP_22.wr W27
  have SFILTER_27 := SFILTER_22.wr W27
  have SPROCESS_27 := SPROCESS_22.wr W27
  have SREDUCE_27 := SREDUCE_22.wr W27
  have SSINK_27 := SSINK_22.wr W27
  have STWO_INPUT_27 := STWO_INPUT_22.wr W27
  have SPARTITION_27 := SPARTITION_22.wr W27
  have SUNION_27 := SUNION_22.wr W27
  have SSIDE_OUTPUT_27 := SSIDE_OUTPUT_22.wr W27
  have Z27 : n0 ≤ h27.size := Own.size_wr W27 Z22
  have Ib_27 : Own.RA Z h27 b "com/example/tideplan/tideplan/model/Kind" [(.ref w_SOURCE), (.ref w_MAP), (.ref w_FLAT_MAP), (.ref w_FILTER), (.ref w_PROCESS), .null, .null, .null, .null, .null, .null] := J27
  have q28 : Steps p.tables e below (s₁.setTop (entryFrame m #[(.int p0)] maxLocals)) (T27.setTop (mkF m 35 #[.val (.int p0), .unset, .unset, .unset] [(.ref b)])) := q26.trans (st27 _ (Steps.refl _))
  have q29 : Steps p.tables e below (s₁.setTop (entryFrame m #[(.int p0)] maxLocals)) (T27.setTop (mkF m 37 #[.val (.int p0), .unset, .unset, .unset] [(.int (5 : Int32)), (.ref b), (.ref b)])) := q28.trans (by
      show Steps p.tables e below (T27.setTop (mkF m 35 #[.val (.int p0), .unset, .unset, .unset] [(.ref b)])) _
      refine XS.dup X27.here hx rfl (hb hby at_35) rfl rfl ?_
      show Steps p.tables e below (T27.setTop (mkF m 36 #[.val (.int p0), .unset, .unset, .unset] [(.ref b), (.ref b)])) _
      refine XS.iconst X27.here hx rfl (hb hby at_36) ?_
      show Steps p.tables e below (T27.setTop (mkF m 37 #[.val (.int p0), .unset, .unset, .unset] [(.int (5 : Int32)), (.ref b), (.ref b)])) _
      exact Steps.refl _)
  obtain ⟨T30, X30, e30, st30⟩ := getS2 X27 hx hZ hown (host := "") (Or.inl (hw _ (List.mem_of_getElem? (i := 14) rfl))) Via.refl e27 SREDUCE_27 (g := (mkF m 37 #[.val (.int p0), .unset, .unset, .unset] [(.int (5 : Int32)), (.ref b), (.ref b)])) rfl (hb hby at_37)
  have q31 : Steps p.tables e below (s₁.setTop (entryFrame m #[(.int p0)] maxLocals)) (T30.setTop (mkF m 40 #[.val (.int p0), .unset, .unset, .unset] [(.ref w_REDUCE), (.int (5 : Int32)), (.ref b), (.ref b)])) := q29.trans (st30 _ (Steps.refl _))
  obtain ⟨T32, h32, X32, e32, W32, J32, st32⟩ := Own.stRA X30 hx hZ e30 Ib_27 (j := (5 : Int32)) 11 rfl (by decide) (Ins.self Xw_REDUCE_27) (g := (mkF m 40 #[.val (.int p0), .unset, .unset, .unset] [(.ref w_REDUCE), (.int (5 : Int32)), (.ref b), (.ref b)])) rfl rfl (hb hby at_40)
  have N32 := Fr.snoc X32 N27 ge_b
  have Xw_SOURCE_32 := Xw_SOURCE_27.wr W32
  have Xw_MAP_32 := Xw_MAP_27.wr W32
  have Xw_FLAT_MAP_32 := Xw_FLAT_MAP_27.wr W32
  have Xw_FILTER_32 := Xw_FILTER_27.wr W32
  have Xw_PROCESS_32 := Xw_PROCESS_27.wr W32
  have Xw_REDUCE_32 := Xw_REDUCE_27.wr W32
  have Xw_SINK_32 := Xw_SINK_27.wr W32
  have Xw_TWO_INPUT_32 := Xw_TWO_INPUT_27.wr W32
  have Xw_PARTITION_32 := Xw_PARTITION_27.wr W32
  have Xw_UNION_32 := Xw_UNION_27.wr W32
  have Xw_SIDE_OUTPUT_32 := Xw_SIDE_OUTPUT_27.wr W32
  have SSOURCE_32 := SSOURCE_27.wr W32
  have SMAP_32 := SMAP_27.wr W32
  have SFLAT_MAP_32 := SFLAT_MAP_27.wr W32
  have SFILTER_32 := SFILTER_27.wr W32
  have SPROCESS_32 := SPROCESS_27.wr W32
  have SREDUCE_32 := SREDUCE_27.wr W32
  have SSINK_32 := SSINK_27.wr W32
  have STWO_INPUT_32 := STWO_INPUT_27.wr W32
  have SPARTITION_32 := SPARTITION_27.wr W32
  have SUNION_32 := SUNION_27.wr W32
  have SSIDE_OUTPUT_32 := SSIDE_OUTPUT_27.wr W32
  have Z32 : n0 ≤ h32.size := Own.size_wr W32 Z27
  have Ib_32 : Own.RA Z h32 b "com/example/tideplan/tideplan/model/Kind" [(.ref w_SOURCE), (.ref w_MAP), (.ref w_FLAT_MAP), (.ref w_FILTER), (.ref w_PROCESS), (.ref w_REDUCE), .null, .null, .null, .null, .null] := J32
  have q33 : Steps p.tables e below (s₁.setTop (entryFrame m #[(.int p0)] maxLocals)) (T32.setTop (mkF m 41 #[.val (.int p0), .unset, .unset, .unset] [(.ref b)])) := q31.trans (st32 _ (Steps.refl _))
  have q34 : Steps p.tables e below (s₁.setTop (entryFrame m #[(.int p0)] maxLocals)) (T32.setTop (mkF m 44 #[.val (.int p0), .unset, .unset, .unset] [(.int (6 : Int32)), (.ref b), (.ref b)])) := q33.trans (by
      show Steps p.tables e below (T32.setTop (mkF m 41 #[.val (.int p0), .unset, .unset, .unset] [(.ref b)])) _
      refine XS.dup X32.here hx rfl (hb hby at_41) rfl rfl ?_
      show Steps p.tables e below (T32.setTop (mkF m 42 #[.val (.int p0), .unset, .unset, .unset] [(.ref b), (.ref b)])) _
      refine XS.bipush X32.here hx rfl (hb hby at_42) ?_
      show Steps p.tables e below (T32.setTop (mkF m 44 #[.val (.int p0), .unset, .unset, .unset] [(.int (6 : Int32)), (.ref b), (.ref b)])) _
      exact Steps.refl _)
  obtain ⟨T35, X35, e35, st35⟩ := getS2 X32 hx hZ hown (host := "") (Or.inl (hw _ (List.mem_of_getElem? (i := 16) rfl))) Via.refl e32 SSINK_32 (g := (mkF m 44 #[.val (.int p0), .unset, .unset, .unset] [(.int (6 : Int32)), (.ref b), (.ref b)])) rfl (hb hby at_44)
  have q36 : Steps p.tables e below (s₁.setTop (entryFrame m #[(.int p0)] maxLocals)) (T35.setTop (mkF m 47 #[.val (.int p0), .unset, .unset, .unset] [(.ref w_SINK), (.int (6 : Int32)), (.ref b), (.ref b)])) := q34.trans (st35 _ (Steps.refl _))
  obtain ⟨T37, h37, X37, e37, W37, J37, st37⟩ := Own.stRA X35 hx hZ e35 Ib_32 (j := (6 : Int32)) 11 rfl (by decide) (Ins.self Xw_SINK_32) (g := (mkF m 47 #[.val (.int p0), .unset, .unset, .unset] [(.ref w_SINK), (.int (6 : Int32)), (.ref b), (.ref b)])) rfl rfl (hb hby at_47)
  have N37 := Fr.snoc X37 N32 ge_b
  have Xw_SOURCE_37 := Xw_SOURCE_32.wr W37
  have Xw_MAP_37 := Xw_MAP_32.wr W37
  have Xw_FLAT_MAP_37 := Xw_FLAT_MAP_32.wr W37
  have Xw_FILTER_37 := Xw_FILTER_32.wr W37
  have Xw_PROCESS_37 := Xw_PROCESS_32.wr W37
  have Xw_REDUCE_37 := Xw_REDUCE_32.wr W37
  have Xw_SINK_37 := Xw_SINK_32.wr W37
  have Xw_TWO_INPUT_37 := Xw_TWO_INPUT_32.wr W37
  have Xw_PARTITION_37 := Xw_PARTITION_32.wr W37
  have Xw_UNION_37 := Xw_UNION_32.wr W37
  have Xw_SIDE_OUTPUT_37 := Xw_SIDE_OUTPUT_32.wr W37
  have SSOURCE_37 := SSOURCE_32.wr W37
  have SMAP_37 := SMAP_32.wr W37
  have SFLAT_MAP_37 := SFLAT_MAP_32.wr W37
  have SFILTER_37 := SFILTER_32.wr W37
  have SPROCESS_37 := SPROCESS_32.wr W37
  have SREDUCE_37 := SREDUCE_32.wr W37
  have SSINK_37 := SSINK_32.wr W37
  have STWO_INPUT_37 := STWO_INPUT_32.wr W37
  have SPARTITION_37 := SPARTITION_32.wr W37
  have SUNION_37 := SUNION_32.wr W37
  have SSIDE_OUTPUT_37 := SSIDE_OUTPUT_32.wr W37
  have Z37 : n0 ≤ h37.size := Own.size_wr W37 Z32
  have Ib_37 : Own.RA Z h37 b "com/example/tideplan/tideplan/model/Kind" [(.ref w_SOURCE), (.ref w_MAP), (.ref w_FLAT_MAP), (.ref w_FILTER), (.ref w_PROCESS), (.ref w_REDUCE), (.ref w_SINK), .null, .null, .null, .null] := J37
  have q38 : Steps p.tables e below (s₁.setTop (entryFrame m #[(.int p0)] maxLocals)) (T37.setTop (mkF m 48 #[.val (.int p0), .unset, .unset, .unset] [(.ref b)])) := q36.trans (st37 _ (Steps.refl _))
  have q39 : Steps p.tables e below (s₁.setTop (entryFrame m #[(.int p0)] maxLocals)) (T37.setTop (mkF m 51 #[.val (.int p0), .unset, .unset, .unset] [(.int (7 : Int32)), (.ref b), (.ref b)])) := q38.trans (by
      show Steps p.tables e below (T37.setTop (mkF m 48 #[.val (.int p0), .unset, .unset, .unset] [(.ref b)])) _
      refine XS.dup X37.here hx rfl (hb hby at_48) rfl rfl ?_
      show Steps p.tables e below (T37.setTop (mkF m 49 #[.val (.int p0), .unset, .unset, .unset] [(.ref b), (.ref b)])) _
      refine XS.bipush X37.here hx rfl (hb hby at_49) ?_
      show Steps p.tables e below (T37.setTop (mkF m 51 #[.val (.int p0), .unset, .unset, .unset] [(.int (7 : Int32)), (.ref b), (.ref b)])) _
      exact Steps.refl _)
  obtain ⟨T40, X40, e40, st40⟩ := getS2 X37 hx hZ hown (host := "") (Or.inl (hw _ (List.mem_of_getElem? (i := 18) rfl))) Via.refl e37 STWO_INPUT_37 (g := (mkF m 51 #[.val (.int p0), .unset, .unset, .unset] [(.int (7 : Int32)), (.ref b), (.ref b)])) rfl (hb hby at_51)
  have q41 : Steps p.tables e below (s₁.setTop (entryFrame m #[(.int p0)] maxLocals)) (T40.setTop (mkF m 54 #[.val (.int p0), .unset, .unset, .unset] [(.ref w_TWO_INPUT), (.int (7 : Int32)), (.ref b), (.ref b)])) := q39.trans (st40 _ (Steps.refl _))
  obtain ⟨T42, h42, X42, e42, W42, J42, st42⟩ := Own.stRA X40 hx hZ e40 Ib_37 (j := (7 : Int32)) 11 rfl (by decide) (Ins.self Xw_TWO_INPUT_37) (g := (mkF m 54 #[.val (.int p0), .unset, .unset, .unset] [(.ref w_TWO_INPUT), (.int (7 : Int32)), (.ref b), (.ref b)])) rfl rfl (hb hby at_54)
  have N42 := Fr.snoc X42 N37 ge_b
  have Xw_SOURCE_42 := Xw_SOURCE_37.wr W42
  have Xw_MAP_42 := Xw_MAP_37.wr W42
  have Xw_FLAT_MAP_42 := Xw_FLAT_MAP_37.wr W42
  have Xw_FILTER_42 := Xw_FILTER_37.wr W42
  have Xw_PROCESS_42 := Xw_PROCESS_37.wr W42
  have Xw_REDUCE_42 := Xw_REDUCE_37.wr W42
  have Xw_SINK_42 := Xw_SINK_37.wr W42
  have Xw_TWO_INPUT_42 := Xw_TWO_INPUT_37.wr W42
  have Xw_PARTITION_42 := Xw_PARTITION_37.wr W42
  have Xw_UNION_42 := Xw_UNION_37.wr W42
  have Xw_SIDE_OUTPUT_42 := Xw_SIDE_OUTPUT_37.wr W42
  have SSOURCE_42 := SSOURCE_37.wr W42
  have SMAP_42 := SMAP_37.wr W42
  have SFLAT_MAP_42 := SFLAT_MAP_37.wr W42
  have SFILTER_42 := SFILTER_37.wr W42
  have SPROCESS_42 := SPROCESS_37.wr W42
  have SREDUCE_42 := SREDUCE_37.wr W42
  have SSINK_42 := SSINK_37.wr W42
  have STWO_INPUT_42 := STWO_INPUT_37.wr W42
  have SPARTITION_42 := SPARTITION_37.wr W42
  have SUNION_42 := SUNION_37.wr W42
  have SSIDE_OUTPUT_42 := SSIDE_OUTPUT_37.wr W42
  have Z42 : n0 ≤ h42.size := Own.size_wr W42 Z37
  have Ib_42 : Own.RA Z h42 b "com/example/tideplan/tideplan/model/Kind" [(.ref w_SOURCE), (.ref w_MAP), (.ref w_FLAT_MAP), (.ref w_FILTER), (.ref w_PROCESS), (.ref w_REDUCE), (.ref w_SINK), (.ref w_TWO_INPUT), .null, .null, .null] := J42
  have q43 : Steps p.tables e below (s₁.setTop (entryFrame m #[(.int p0)] maxLocals)) (T42.setTop (mkF m 55 #[.val (.int p0), .unset, .unset, .unset] [(.ref b)])) := q41.trans (st42 _ (Steps.refl _))
  have q44 : Steps p.tables e below (s₁.setTop (entryFrame m #[(.int p0)] maxLocals)) (T42.setTop (mkF m 58 #[.val (.int p0), .unset, .unset, .unset] [(.int (8 : Int32)), (.ref b), (.ref b)])) := q43.trans (by
      show Steps p.tables e below (T42.setTop (mkF m 55 #[.val (.int p0), .unset, .unset, .unset] [(.ref b)])) _
      refine XS.dup X42.here hx rfl (hb hby at_55) rfl rfl ?_
      show Steps p.tables e below (T42.setTop (mkF m 56 #[.val (.int p0), .unset, .unset, .unset] [(.ref b), (.ref b)])) _
      refine XS.bipush X42.here hx rfl (hb hby at_56) ?_
      show Steps p.tables e below (T42.setTop (mkF m 58 #[.val (.int p0), .unset, .unset, .unset] [(.int (8 : Int32)), (.ref b), (.ref b)])) _
      exact Steps.refl _)
  obtain ⟨T45, X45, e45, st45⟩ := getS2 X42 hx hZ hown (host := "") (Or.inl (hw _ (List.mem_of_getElem? (i := 20) rfl))) Via.refl e42 SPARTITION_42 (g := (mkF m 58 #[.val (.int p0), .unset, .unset, .unset] [(.int (8 : Int32)), (.ref b), (.ref b)])) rfl (hb hby at_58)
  have q46 : Steps p.tables e below (s₁.setTop (entryFrame m #[(.int p0)] maxLocals)) (T45.setTop (mkF m 61 #[.val (.int p0), .unset, .unset, .unset] [(.ref w_PARTITION), (.int (8 : Int32)), (.ref b), (.ref b)])) := q44.trans (st45 _ (Steps.refl _))
  obtain ⟨T47, h47, X47, e47, W47, J47, st47⟩ := Own.stRA X45 hx hZ e45 Ib_42 (j := (8 : Int32)) 11 rfl (by decide) (Ins.self Xw_PARTITION_42) (g := (mkF m 61 #[.val (.int p0), .unset, .unset, .unset] [(.ref w_PARTITION), (.int (8 : Int32)), (.ref b), (.ref b)])) rfl rfl (hb hby at_61)
  have N47 := Fr.snoc X47 N42 ge_b
  have Xw_SOURCE_47 := Xw_SOURCE_42.wr W47
  have Xw_MAP_47 := Xw_MAP_42.wr W47
  have Xw_FLAT_MAP_47 := Xw_FLAT_MAP_42.wr W47
  have Xw_FILTER_47 := Xw_FILTER_42.wr W47
  have Xw_PROCESS_47 := Xw_PROCESS_42.wr W47
  have Xw_REDUCE_47 := Xw_REDUCE_42.wr W47
  have Xw_SINK_47 := Xw_SINK_42.wr W47
  have Xw_TWO_INPUT_47 := Xw_TWO_INPUT_42.wr W47
  have Xw_PARTITION_47 := Xw_PARTITION_42.wr W47
  have Xw_UNION_47 := Xw_UNION_42.wr W47
  have Xw_SIDE_OUTPUT_47 := Xw_SIDE_OUTPUT_42.wr W47
  have SSOURCE_47 := SSOURCE_42.wr W47
  have SMAP_47 := SMAP_42.wr W47
  have SFLAT_MAP_47 := SFLAT_MAP_42.wr W47
  have SFILTER_47 := SFILTER_42.wr W47
  have SPROCESS_47 := SPROCESS_42.wr W47
  have SREDUCE_47 := SREDUCE_42.wr W47
  have SSINK_47 := SSINK_42.wr W47
  have STWO_INPUT_47 := STWO_INPUT_42.wr W47
  have SPARTITION_47 := SPARTITION_42.wr W47
  have SUNION_47 := SUNION_42.wr W47
  have SSIDE_OUTPUT_47 := SSIDE_OUTPUT_42.wr W47
  have Z47 : n0 ≤ h47.size := Own.size_wr W47 Z42
  have Ib_47 : Own.RA Z h47 b "com/example/tideplan/tideplan/model/Kind" [(.ref w_SOURCE), (.ref w_MAP), (.ref w_FLAT_MAP), (.ref w_FILTER), (.ref w_PROCESS), (.ref w_REDUCE), (.ref w_SINK), (.ref w_TWO_INPUT), (.ref w_PARTITION), .null, .null] := J47
  have q48 : Steps p.tables e below (s₁.setTop (entryFrame m #[(.int p0)] maxLocals)) (T47.setTop (mkF m 62 #[.val (.int p0), .unset, .unset, .unset] [(.ref b)])) := q46.trans (st47 _ (Steps.refl _))
  have q49 : Steps p.tables e below (s₁.setTop (entryFrame m #[(.int p0)] maxLocals)) (T47.setTop (mkF m 65 #[.val (.int p0), .unset, .unset, .unset] [(.int (9 : Int32)), (.ref b), (.ref b)])) := q48.trans (by
      show Steps p.tables e below (T47.setTop (mkF m 62 #[.val (.int p0), .unset, .unset, .unset] [(.ref b)])) _
      refine XS.dup X47.here hx rfl (hb hby at_62) rfl rfl ?_
      show Steps p.tables e below (T47.setTop (mkF m 63 #[.val (.int p0), .unset, .unset, .unset] [(.ref b), (.ref b)])) _
      refine XS.bipush X47.here hx rfl (hb hby at_63) ?_
      show Steps p.tables e below (T47.setTop (mkF m 65 #[.val (.int p0), .unset, .unset, .unset] [(.int (9 : Int32)), (.ref b), (.ref b)])) _
      exact Steps.refl _)
  obtain ⟨T50, X50, e50, st50⟩ := getS2 X47 hx hZ hown (host := "") (Or.inl (hw _ (List.mem_of_getElem? (i := 22) rfl))) Via.refl e47 SUNION_47 (g := (mkF m 65 #[.val (.int p0), .unset, .unset, .unset] [(.int (9 : Int32)), (.ref b), (.ref b)])) rfl (hb hby at_65)
  have q51 : Steps p.tables e below (s₁.setTop (entryFrame m #[(.int p0)] maxLocals)) (T50.setTop (mkF m 68 #[.val (.int p0), .unset, .unset, .unset] [(.ref w_UNION), (.int (9 : Int32)), (.ref b), (.ref b)])) := q49.trans (st50 _ (Steps.refl _))
  obtain ⟨T52, h52, X52, e52, W52, J52, st52⟩ := Own.stRA X50 hx hZ e50 Ib_47 (j := (9 : Int32)) 11 rfl (by decide) (Ins.self Xw_UNION_47) (g := (mkF m 68 #[.val (.int p0), .unset, .unset, .unset] [(.ref w_UNION), (.int (9 : Int32)), (.ref b), (.ref b)])) rfl rfl (hb hby at_68)
  have N52 := Fr.snoc X52 N47 ge_b
  have Xw_SOURCE_52 := Xw_SOURCE_47.wr W52
  have Xw_MAP_52 := Xw_MAP_47.wr W52
  have Xw_FLAT_MAP_52 := Xw_FLAT_MAP_47.wr W52
  have Xw_FILTER_52 := Xw_FILTER_47.wr W52
  have Xw_PROCESS_52 := Xw_PROCESS_47.wr W52
  have Xw_REDUCE_52 := Xw_REDUCE_47.wr W52
  have Xw_SINK_52 := Xw_SINK_47.wr W52
  have Xw_TWO_INPUT_52 := Xw_TWO_INPUT_47.wr W52
  have Xw_PARTITION_52 := Xw_PARTITION_47.wr W52
  have Xw_UNION_52 := Xw_UNION_47.wr W52
  have Xw_SIDE_OUTPUT_52 := Xw_SIDE_OUTPUT_47.wr W52
  have SSOURCE_52 := SSOURCE_47.wr W52
  have SMAP_52 := SMAP_47.wr W52
  have SFLAT_MAP_52 := SFLAT_MAP_47.wr W52
  have SFILTER_52 := SFILTER_47.wr W52
  have SPROCESS_52 := SPROCESS_47.wr W52
  have SREDUCE_52 := SREDUCE_47.wr W52
  have SSINK_52 := SSINK_47.wr W52
  have STWO_INPUT_52 := STWO_INPUT_47.wr W52
  have SPARTITION_52 := SPARTITION_47.wr W52
  have SUNION_52 := SUNION_47.wr W52
  have SSIDE_OUTPUT_52 := SSIDE_OUTPUT_47.wr W52
  have Z52 : n0 ≤ h52.size := Own.size_wr W52 Z47
  have Ib_52 : Own.RA Z h52 b "com/example/tideplan/tideplan/model/Kind" [(.ref w_SOURCE), (.ref w_MAP), (.ref w_FLAT_MAP), (.ref w_FILTER), (.ref w_PROCESS), (.ref w_REDUCE), (.ref w_SINK), (.ref w_TWO_INPUT), (.ref w_PARTITION), (.ref w_UNION), .null] := J52
  have q53 : Steps p.tables e below (s₁.setTop (entryFrame m #[(.int p0)] maxLocals)) (T52.setTop (mkF m 69 #[.val (.int p0), .unset, .unset, .unset] [(.ref b)])) := q51.trans (st52 _ (Steps.refl _))
  have q54 : Steps p.tables e below (s₁.setTop (entryFrame m #[(.int p0)] maxLocals)) (T52.setTop (mkF m 72 #[.val (.int p0), .unset, .unset, .unset] [(.int (10 : Int32)), (.ref b), (.ref b)])) := q53.trans (by
      show Steps p.tables e below (T52.setTop (mkF m 69 #[.val (.int p0), .unset, .unset, .unset] [(.ref b)])) _
      refine XS.dup X52.here hx rfl (hb hby at_69) rfl rfl ?_
      show Steps p.tables e below (T52.setTop (mkF m 70 #[.val (.int p0), .unset, .unset, .unset] [(.ref b), (.ref b)])) _
      refine XS.bipush X52.here hx rfl (hb hby at_70) ?_
      show Steps p.tables e below (T52.setTop (mkF m 72 #[.val (.int p0), .unset, .unset, .unset] [(.int (10 : Int32)), (.ref b), (.ref b)])) _
      exact Steps.refl _)
  obtain ⟨T55, X55, e55, st55⟩ := getS2 X52 hx hZ hown (host := "") (Or.inl (hw _ (List.mem_of_getElem? (i := 24) rfl))) Via.refl e52 SSIDE_OUTPUT_52 (g := (mkF m 72 #[.val (.int p0), .unset, .unset, .unset] [(.int (10 : Int32)), (.ref b), (.ref b)])) rfl (hb hby at_72)
  have q56 : Steps p.tables e below (s₁.setTop (entryFrame m #[(.int p0)] maxLocals)) (T55.setTop (mkF m 75 #[.val (.int p0), .unset, .unset, .unset] [(.ref w_SIDE_OUTPUT), (.int (10 : Int32)), (.ref b), (.ref b)])) := q54.trans (st55 _ (Steps.refl _))
  obtain ⟨T57, h57, X57, e57, W57, J57, st57⟩ := Own.stRA X55 hx hZ e55 Ib_52 (j := (10 : Int32)) 11 rfl (by decide) (Ins.self Xw_SIDE_OUTPUT_52) (g := (mkF m 75 #[.val (.int p0), .unset, .unset, .unset] [(.ref w_SIDE_OUTPUT), (.int (10 : Int32)), (.ref b), (.ref b)])) rfl rfl (hb hby at_75)
  have N57 := Fr.snoc X57 N52 ge_b
  have Xw_SOURCE_57 := Xw_SOURCE_52.wr W57
  have Xw_MAP_57 := Xw_MAP_52.wr W57
  have Xw_FLAT_MAP_57 := Xw_FLAT_MAP_52.wr W57
  have Xw_FILTER_57 := Xw_FILTER_52.wr W57
  have Xw_PROCESS_57 := Xw_PROCESS_52.wr W57
  have Xw_REDUCE_57 := Xw_REDUCE_52.wr W57
  have Xw_SINK_57 := Xw_SINK_52.wr W57
  have Xw_TWO_INPUT_57 := Xw_TWO_INPUT_52.wr W57
  have Xw_PARTITION_57 := Xw_PARTITION_52.wr W57
  have Xw_UNION_57 := Xw_UNION_52.wr W57
  have Xw_SIDE_OUTPUT_57 := Xw_SIDE_OUTPUT_52.wr W57
  have SSOURCE_57 := SSOURCE_52.wr W57
  have SMAP_57 := SMAP_52.wr W57
  have SFLAT_MAP_57 := SFLAT_MAP_52.wr W57
  have SFILTER_57 := SFILTER_52.wr W57
  have SPROCESS_57 := SPROCESS_52.wr W57
  have SREDUCE_57 := SREDUCE_52.wr W57
  have SSINK_57 := SSINK_52.wr W57
  have STWO_INPUT_57 := STWO_INPUT_52.wr W57
  have SPARTITION_57 := SPARTITION_52.wr W57
  have SUNION_57 := SUNION_52.wr W57
  have SSIDE_OUTPUT_57 := SSIDE_OUTPUT_52.wr W57
  have Z57 : n0 ≤ h57.size := Own.size_wr W57 Z52
  have Ib_57 : Own.RA Z h57 b "com/example/tideplan/tideplan/model/Kind" [(.ref w_SOURCE), (.ref w_MAP), (.ref w_FLAT_MAP), (.ref w_FILTER), (.ref w_PROCESS), (.ref w_REDUCE), (.ref w_SINK), (.ref w_TWO_INPUT), (.ref w_PARTITION), (.ref w_UNION), (.ref w_SIDE_OUTPUT)] := J57
  have q58 : Steps p.tables e below (s₁.setTop (entryFrame m #[(.int p0)] maxLocals)) (T57.setTop (mkF m 76 #[.val (.int p0), .unset, .unset, .unset] [(.ref b)])) := q56.trans (st57 _ (Steps.refl _))
  have q59 : Steps p.tables e below (s₁.setTop (entryFrame m #[(.int p0)] maxLocals)) (T57.setTop (mkF m 85 #[.val (.int p0), .val (.ref b), .val (.int ((p0 &&& (2147483647 : Int32)) - ((p0 &&& (2147483647 : Int32)) / (11 : Int32)) * (11 : Int32))), .unset] [])) := q58.trans (by
      show Steps p.tables e below (T57.setTop (mkF m 76 #[.val (.int p0), .unset, .unset, .unset] [(.ref b)])) _
      refine XS.astoreN X57.here hx rfl (hb hby at_76) rfl rfl (l' := #[.val (.int p0), .val (.ref b), .unset, .unset]) rfl ?_
      show Steps p.tables e below (T57.setTop (mkF m 77 #[.val (.int p0), .val (.ref b), .unset, .unset] [])) _
      refine XS.iloadN X57.here hx rfl (hb hby at_77) rfl ?_
      show Steps p.tables e below (T57.setTop (mkF m 78 #[.val (.int p0), .val (.ref b), .unset, .unset] [(.int p0)])) _
      refine X57.ldcInt hx hown (mvT hZ (hw _ (List.mem_of_getElem? (i := 26) rfl))) (g := (mkF m 78 #[.val (.int p0), .val (.ref b), .unset, .unset] [(.int p0)])) rfl (hb hby at_78) _ ?_
      show Steps p.tables e below (T57.setTop (mkF m 80 #[.val (.int p0), .val (.ref b), .unset, .unset] [(.int (2147483647 : Int32)), (.int p0)])) _
      refine XS.iand X57.here hx rfl (hb hby at_80) rfl ?_
      show Steps p.tables e below (T57.setTop (mkF m 81 #[.val (.int p0), .val (.ref b), .unset, .unset] [(.int (p0 &&& (2147483647 : Int32)))])) _
      refine XS.bipush X57.here hx rfl (hb hby at_81) ?_
      show Steps p.tables e below (T57.setTop (mkF m 83 #[.val (.int p0), .val (.ref b), .unset, .unset] [(.int (11 : Int32)), (.int (p0 &&& (2147483647 : Int32)))])) _
      refine XS.irem X57.here hx rfl (hb hby at_83) rfl (by decide) ?_
      show Steps p.tables e below (T57.setTop (mkF m 84 #[.val (.int p0), .val (.ref b), .unset, .unset] [(.int ((p0 &&& (2147483647 : Int32)) - ((p0 &&& (2147483647 : Int32)) / (11 : Int32)) * (11 : Int32)))])) _
      refine XS.istoreN X57.here hx rfl (hb hby at_84) rfl (l' := #[.val (.int p0), .val (.ref b), .val (.int ((p0 &&& (2147483647 : Int32)) - ((p0 &&& (2147483647 : Int32)) / (11 : Int32)) * (11 : Int32))), .unset]) rfl ?_
      show Steps p.tables e below (T57.setTop (mkF m 85 #[.val (.int p0), .val (.ref b), .val (.int ((p0 &&& (2147483647 : Int32)) - ((p0 &&& (2147483647 : Int32)) / (11 : Int32)) * (11 : Int32))), .unset] [])) _
      exact Steps.refl _)
  obtain ⟨vi, hvi⟩ : ∃ v : Int32, v = ((p0 &&& (2147483647 : Int32)) - ((p0 &&& (2147483647 : Int32)) / (11 : Int32)) * (11 : Int32)) := ⟨_, rfl⟩
  rw [← hvi] at q59
  have q60 : Steps p.tables e below (s₁.setTop (entryFrame m #[(.int p0)] maxLocals)) (T57.setTop (mkF m 88 #[.val (.int p0), .val (.ref b), .val (.int vi), .unset] [(.int (8 : Int32)), (.int vi)])) := q59.trans (by
      show Steps p.tables e below (T57.setTop (mkF m 85 #[.val (.int p0), .val (.ref b), .val (.int vi), .unset] [])) _
      refine XS.iloadN X57.here hx rfl (hb hby at_85) rfl ?_
      show Steps p.tables e below (T57.setTop (mkF m 86 #[.val (.int p0), .val (.ref b), .val (.int vi), .unset] [(.int vi)])) _
      refine XS.bipush X57.here hx rfl (hb hby at_86) ?_
      show Steps p.tables e below (T57.setTop (mkF m 88 #[.val (.int p0), .val (.ref b), .val (.int vi), .unset] [(.int (8 : Int32)), (.int vi)])) _
      exact Steps.refl _)
  obtain ⟨vx, hvx⟩ : ∃ v : Int32, v = (if vi < (8 : Int32) then (1 : Int32) else (0 : Int32)) := ⟨_, rfl⟩
  have q62 : Steps p.tables e below (s₁.setTop (entryFrame m #[(.int p0)] maxLocals)) (T57.setTop (mkF m 96 #[.val (.int p0), .val (.ref b), .val (.int vi), .unset] [(.int vx)])) := by
    refine q60.trans ?_
    show Steps p.tables e below (T57.setTop (mkF m 88 #[.val (.int p0), .val (.ref b), .val (.int vi), .unset] [(.int (8 : Int32)), (.int vi)])) _
    by_cases hc61 : vi < (8 : Int32)
    · rw [if_pos hc61] at hvx
      refine XS.icmpNo X57.here hx rfl (hb hby at_88) rfl (tlt hc61).2.1 ?_
      show Steps p.tables e below (T57.setTop (mkF m 91 #[.val (.int p0), .val (.ref b), .val (.int vi), .unset] [])) _
      refine XS.iconst X57.here hx rfl (hb hby at_91) ?_
      show Steps p.tables e below (T57.setTop (mkF m 92 #[.val (.int p0), .val (.ref b), .val (.int vi), .unset] [(.int (1 : Int32))])) _
      refine XS.goto X57.here hx rfl (pc0 := 92) (pc' := 96) rfl (hb hby at_92) (by decide) (by decide) ?_
      show Steps p.tables e below (T57.setTop (mkF m 96 #[.val (.int p0), .val (.ref b), .val (.int vi), .unset] [(.int (1 : Int32))])) _
      rw [hvx]
      exact Steps.refl _
    · rw [if_neg hc61] at hvx
      refine XS.icmpYes X57.here hx rfl (pc0 := 88) (pc' := 95) rfl (hb hby at_88) rfl (flt hc61).2.1 (by decide) (by decide) ?_
      show Steps p.tables e below (T57.setTop (mkF m 95 #[.val (.int p0), .val (.ref b), .val (.int vi), .unset] [])) _
      refine XS.iconst X57.here hx rfl (hb hby at_95) ?_
      show Steps p.tables e below (T57.setTop (mkF m 96 #[.val (.int p0), .val (.ref b), .val (.int vi), .unset] [(.int (0 : Int32))])) _
      rw [hvx]
      exact Steps.refl _
  have q63 : Steps p.tables e below (s₁.setTop (entryFrame m #[(.int p0)] maxLocals)) (T57.setTop (mkF m 99 #[.val (.int p0), .val (.ref b), .val (.int vi), .val (.int vx)] [(.int vi), (.ref b)])) := q62.trans (by
      show Steps p.tables e below (T57.setTop (mkF m 96 #[.val (.int p0), .val (.ref b), .val (.int vi), .unset] [(.int vx)])) _
      refine XS.istoreN X57.here hx rfl (hb hby at_96) rfl (l' := #[.val (.int p0), .val (.ref b), .val (.int vi), .val (.int vx)]) rfl ?_
      show Steps p.tables e below (T57.setTop (mkF m 97 #[.val (.int p0), .val (.ref b), .val (.int vi), .val (.int vx)] [])) _
      refine XS.aloadN X57.here hx rfl (hb hby at_97) rfl rfl ?_
      show Steps p.tables e below (T57.setTop (mkF m 98 #[.val (.int p0), .val (.ref b), .val (.int vi), .val (.int vx)] [(.ref b)])) _
      refine XS.iloadN X57.here hx rfl (hb hby at_98) rfl ?_
      show Steps p.tables e below (T57.setTop (mkF m 99 #[.val (.int p0), .val (.ref b), .val (.int vi), .val (.int vx)] [(.int vi), (.ref b)])) _
      exact Steps.refl _)
  have q64 : Steps p.tables e below (s₁.setTop (entryFrame m #[(.int p0)] maxLocals)) (T57.setTop (mkF m 100 #[.val (.int p0), .val (.ref b), .val (.int vi), .val (.int vx)] [(.ref (Own.ga [w_SOURCE, w_MAP, w_FLAT_MAP, w_FILTER, w_PROCESS, w_REDUCE, w_SINK, w_TWO_INPUT, w_PARTITION, w_UNION, w_SIDE_OUTPUT] vi))])) := q63.trans (Own.ldRA X57 hx hZ e57 Ib_57 (j := vi) 11 rfl (own_idx p0 vi hvi) (v := .ref (Own.ga [w_SOURCE, w_MAP, w_FLAT_MAP, w_FILTER, w_PROCESS, w_REDUCE, w_SINK, w_TWO_INPUT, w_PARTITION, w_UNION, w_SIDE_OUTPUT] vi)) (Own.ga_at (as := [w_SOURCE, w_MAP, w_FLAT_MAP, w_FILTER, w_PROCESS, w_REDUCE, w_SINK, w_TWO_INPUT, w_PARTITION, w_UNION, w_SIDE_OUTPUT]) (n := 11) rfl (own_idx p0 vi hvi)) (g := (mkF m 99 #[.val (.int p0), .val (.ref b), .val (.int vi), .val (.int vx)] [(.int vi), (.ref b)])) rfl rfl (hb hby at_99) _ (Steps.refl _))
  obtain ⟨r, hr⟩ : ∃ r : Addr, r = (Own.ga [w_SOURCE, w_MAP, w_FLAT_MAP, w_FILTER, w_PROCESS, w_REDUCE, w_SINK, w_TWO_INPUT, w_PARTITION, w_UNION, w_SIDE_OUTPUT] vi) := ⟨_, rfl⟩
  rw [← hr] at q64
  have E_r : Exa Z h57 r "com/example/tideplan/tideplan/model/Kind" := by
    rw [hr]
    refine Own.ga_all (as := [w_SOURCE, w_MAP, w_FLAT_MAP, w_FILTER, w_PROCESS, w_REDUCE, w_SINK, w_TWO_INPUT, w_PARTITION, w_UNION, w_SIDE_OUTPUT]) (P := fun z => Exa Z h57 z "com/example/tideplan/tideplan/model/Kind") (n := 11) rfl (own_idx p0 vi hvi) ?_
    intro x hx'
    simp only [List.mem_cons, List.not_mem_nil, or_false] at hx'
    rcases hx' with rfl | rfl | rfl | rfl | rfl | rfl | rfl | rfl | rfl | rfl | rfl
    · exact Xw_SOURCE_57
    · exact Xw_MAP_57
    · exact Xw_FLAT_MAP_57
    · exact Xw_FILTER_57
    · exact Xw_PROCESS_57
    · exact Xw_REDUCE_57
    · exact Xw_SINK_57
    · exact Xw_TWO_INPUT_57
    · exact Xw_PARTITION_57
    · exact Xw_UNION_57
    · exact Xw_SIDE_OUTPUT_57
  obtain ⟨cq65, kq65, q65a, q65b, q65c⟩ := isOf hZ e57 E_r
  obtain ⟨_, _, ⟨T65, L65, k65, n65⟩, -, X65, ⟨Lc65, hQ65, l65, y65, z65⟩, st65⟩ := X57.virtualBack hx (y := (⟨"com/example/tideplan/tideplan/model/Kind", "runsOperator", "()Z"⟩ : MethodName)) (z := (⟨"com/example/tideplan/tideplan/model/Kind", "runsOperator", "()Z"⟩ : MethodName)) hown (mvT hZ (hw _ (List.mem_of_getElem? (i := 27) rfl))) (mvT hZ (hw _ (List.mem_of_getElem? (i := 28) rfl))) (notFace_of_selects (args := #[]) (mvT hZ (hw _ (List.mem_of_getElem? (i := 30) rfl)))) (mvT hZ (hw _ (List.mem_of_getElem? (i := 30) rfl))) (mvT hZ (hw _ (List.mem_of_getElem? (i := 29) rfl))) (by decide) (backOf (W := 0) (rm1 l Z a0 hw [] r w_PARTITION w_UNION w_SIDE_OUTPUT h57 n0 Z57 SPARTITION_57 SUNION_57 SSIDE_OUTPUT_57) hZ (hw _ (List.mem_of_getElem? (i := 31) rfl)) (hw _ (List.mem_of_getElem? (i := 3) rfl)) (by decide) (by decide)) q65a q65c (g := (mkF m 100 #[.val (.int p0), .val (.ref b), .val (.int vi), .val (.int vx)] [(.ref r)])) rfl (by rw [hml]; rfl) (Steps.refl _) (argsL := []) (rest := []) (lenOf pd_0 rfl) rfl (by show 2 * 0 + _ ≤ _; exact Nat.le_of_eq rfl) (hb hby at_100) (fun _ _ => ⟨rfl, e57, (by decide : 1 + 0 ≤ _), (by decide : 11 + 0 ≤ _)⟩)
  dsimp only [Pt.U, Pt.locs, Pt.cells, Pt.slots] at X65 l65 y65 z65 st65 hQ65
  subst l65 y65 z65
  obtain ⟨rfl, N65q, e65⟩ := hQ65
  have N65 := Fr.app N57 N65q
  have q66 : Steps p.tables e below (s₁.setTop (entryFrame m #[(.int p0)] maxLocals)) (T65.setTop (mkF m 103 #[.val (.int p0), .val (.ref b), .val (.int vi), .val (.int vx)] [(.int (G1 r w_PARTITION w_UNION w_SIDE_OUTPUT))])) := q64.trans (st65)
  have q67 : Steps p.tables e below (s₁.setTop (entryFrame m #[(.int p0)] maxLocals)) (T65.setTop (mkF m 104 #[.val (.int p0), .val (.ref b), .val (.int vi), .val (.int vx)] [(.int vx), (.int (G1 r w_PARTITION w_UNION w_SIDE_OUTPUT))])) := q66.trans (by
      show Steps p.tables e below (T65.setTop (mkF m 103 #[.val (.int p0), .val (.ref b), .val (.int vi), .val (.int vx)] [(.int (G1 r w_PARTITION w_UNION w_SIDE_OUTPUT))])) _
      refine XS.iloadN X65.here hx rfl (hb hby at_103) rfl ?_
      show Steps p.tables e below (T65.setTop (mkF m 104 #[.val (.int p0), .val (.ref b), .val (.int vi), .val (.int vx)] [(.int vx), (.int (G1 r w_PARTITION w_UNION w_SIDE_OUTPUT))])) _
      exact Steps.refl _)
  obtain ⟨zr, hzr⟩ : ∃ v : Int32, v = (if (G1 r w_PARTITION w_UNION w_SIDE_OUTPUT) = vx then (1 : Int32) else (0 : Int32)) := ⟨_, rfl⟩
  have hz1 : zr = 1 := plain0 p0 w_SOURCE w_MAP w_FLAT_MAP w_FILTER w_PROCESS w_REDUCE w_SINK w_TWO_INPUT w_PARTITION w_UNION w_SIDE_OUTPUT vi vx r zr D_SOURCE_PARTITION D_SOURCE_UNION D_SOURCE_SIDE_OUTPUT D_MAP_PARTITION D_MAP_UNION D_MAP_SIDE_OUTPUT D_FLAT_MAP_PARTITION D_FLAT_MAP_UNION D_FLAT_MAP_SIDE_OUTPUT D_FILTER_PARTITION D_FILTER_UNION D_FILTER_SIDE_OUTPUT D_PROCESS_PARTITION D_PROCESS_UNION D_PROCESS_SIDE_OUTPUT D_REDUCE_PARTITION D_REDUCE_UNION D_REDUCE_SIDE_OUTPUT D_SINK_PARTITION D_SINK_UNION D_SINK_SIDE_OUTPUT D_TWO_INPUT_PARTITION D_TWO_INPUT_UNION D_TWO_INPUT_SIDE_OUTPUT hvi hvx hr hzr
  obtain ⟨fs, hr, hrun, hended, hW, hsame⟩ := X65.leave (v := some (.int (1 : Int32))) (fun h => by rw [Bd.returns] at h; cases h)
  refine ⟨_, _, q67.trans ?_, hrun, hended, _, _, rfl, ?_, ⟨_, rfl⟩, hW, hsame.mono (by decide) (by decide)⟩
  · show Steps p.tables e below (T65.setTop (mkF m 104 #[.val (.int p0), .val (.ref b), .val (.int vi), .val (.int vx)] [(.int vx), (.int (G1 r w_PARTITION w_UNION w_SIDE_OUTPUT))])) _
    by_cases hc68 : (G1 r w_PARTITION w_UNION w_SIDE_OUTPUT) = vx
    · rw [if_pos hc68] at hzr
      refine XS.icmpNo X65.here hx rfl (hb hby at_104) rfl (teq hc68).2 ?_
      show Steps p.tables e below (T65.setTop (mkF m 107 #[.val (.int p0), .val (.ref b), .val (.int vi), .val (.int vx)] [])) _
      refine XS.iconst X65.here hx rfl (hb hby at_107) ?_
      show Steps p.tables e below (T65.setTop (mkF m 108 #[.val (.int p0), .val (.ref b), .val (.int vi), .val (.int vx)] [(.int (1 : Int32))])) _
      refine XS.goto X65.here hx rfl (pc0 := 108) (pc' := 112) rfl (hb hby at_108) (by decide) (by decide) ?_
      show Steps p.tables e below (T65.setTop (mkF m 112 #[.val (.int p0), .val (.ref b), .val (.int vi), .val (.int vx)] [(.int (1 : Int32))])) _
      exact retN X65 hx (t := .boolean) Bd.returns (by simp) (hb hby at_112) hr
    · rw [if_neg hc68] at hzr
      refine XS.icmpYes X65.here hx rfl (pc0 := 104) (pc' := 111) rfl (hb hby at_104) rfl (feq hc68).2 (by decide) (by decide) ?_
      show Steps p.tables e below (T65.setTop (mkF m 111 #[.val (.int p0), .val (.ref b), .val (.int vi), .val (.int vx)] [])) _
      refine XS.iconst X65.here hx rfl (hb hby at_111) ?_
      show Steps p.tables e below (T65.setTop (mkF m 112 #[.val (.int p0), .val (.ref b), .val (.int vi), .val (.int vx)] [(.int (0 : Int32))])) _
      exact absurd (hzr.symm.trans hz1) (by decide)
  · show Q_rm0 Z p0 w_SOURCE w_MAP w_FLAT_MAP w_FILTER w_PROCESS w_REDUCE w_SINK w_TWO_INPUT w_PARTITION w_UNION w_SIDE_OUTPUT h0 n0 _ T65.heap _
    rw [e65]
    exact ⟨rfl, N65⟩

set_option maxRecDepth 65536 in
set_option maxHeartbeats 40000000 in
theorem comes_1 {Post : Tables → Env → Array Value → State → Outcome → State → Prop} (hpost : ∀ tb e args s v u, (limb_1_1.after args s (.returned v) u = true ∧ limb_1_2.after args s (.returned v) u = true ∧ True) → FrameEnd s (.returned v) u (Jvm.fieldLocs frame_1_writes args s ++ Jvm.arrayLocs frame_1_arrays args s ++ Jvm.staticLocs frame_1_statics s) 16 128 → Post tb e args s (.returned v) u) :
    ArmFor flags0 classFile x code maxLocals ret World_1 tables_1 room_1 Calls_1 rest_1 Pre_1 Post := by
  intro l hfl _ _ p e ha hc hk s m args below hf hA hF happ hP
  obtain ⟨hcalls, hrest, hpre⟩ := hP
  obtain ⟨-, -, -, hnamed, -, -, -, hat⟩ := (Spec.applies_iff hf).mp happ
  obtain ⟨hg, hn⟩ := and_e (Cond.before_iff.mp (show (Jvm.Cond.and given_1 narrow_1).before args s = true from hpre))
  obtain ⟨hcount, hg0⟩ := and_e hg
  obtain ⟨w0, rfl⟩ : ∃ w0 : Value, args = #[w0] := by
    have hs : args.size = 1 := by simpa [Cond.value, given_1] using hcount
    obtain ⟨L⟩ := args
    match L, hs with
    | [w0], _ => exact ⟨w0, rfl⟩
  have hw := fun d (hd : d ∈ tables_1) => atoms_spec (ws := Jvm.Cond.code x code maxLocals ret :: tables_1) hat d (List.mem_cons_of_mem _ hd)
  have hfit : Fit s := fun {y c} hc i hi => by
    obtain ⟨ha, rfl⟩ := Array.getElem?_eq_some_iff.mp hc
    have q := List.all_eq_true.mp ((Array.all_eq_true_iff_forall_mem.mp hF) _ (Array.getElem_mem ha)) i (List.mem_range.mpr hi)
    simpa [Array.getElem?_eq_getElem hi] using q
  obtain ⟨i0, ei0⟩ := is_v hg0
  obtain rfl : w0 = (.int i0) := Option.some.inj ei0
  obtain ⟨nl1, nr1⟩ := and_e hn
  obtain ⟨nl2, nr2⟩ := and_e nr1
  obtain ⟨nl3, nr3⟩ := and_e nr2
  obtain ⟨nl4, nr4⟩ := and_e nr3
  obtain ⟨nl5, nr5⟩ := and_e nr4
  obtain ⟨nl6, nr6⟩ := and_e nr5
  obtain ⟨nl7, nr7⟩ := and_e nr6
  obtain ⟨nl8, nr8⟩ := and_e nr7
  obtain ⟨nl9, nr9⟩ := and_e nr8
  obtain ⟨nl10, nr10⟩ := and_e nr9
  obtain ⟨nl11, nr11⟩ := and_e nr10
  obtain ⟨nl12, nr12⟩ := and_e nr11
  obtain ⟨nl13, nr13⟩ := and_e nr12
  obtain ⟨nl14, nr14⟩ := and_e nr13
  obtain ⟨nl15, nr15⟩ := and_e nr14
  obtain ⟨nl16, nr16⟩ := and_e nr15
  obtain ⟨nl17, nr17⟩ := and_e nr16
  obtain ⟨nl18, nr18⟩ := and_e nr17
  obtain ⟨nl19, nr19⟩ := and_e nr18
  obtain ⟨nl20, nr20⟩ := and_e nr19
  obtain ⟨nl21, nr21⟩ := and_e nr20
  obtain ⟨w_SOURCE, ev_SOURCE⟩ := exa_v nl1
  have E_SOURCE : Exa s s.heap w_SOURCE "com/example/tideplan/tideplan/model/Kind" := Exa.start ev_SOURCE nl1
  have S_SOURCE : Sta s s.heap "com/example/tideplan/tideplan/model/Kind" "SOURCE" "Lcom/example/tideplan/tideplan/model/Kind;" (.ref w_SOURCE) := Sta.start ev_SOURCE (Or.inr ⟨(hw _ (List.mem_of_getElem? (i := 3) rfl)), (hw _ (List.mem_of_getElem? (i := 4) rfl))⟩)
  obtain ⟨w_MAP, ev_MAP⟩ := exa_v nl2
  have E_MAP : Exa s s.heap w_MAP "com/example/tideplan/tideplan/model/Kind" := Exa.start ev_MAP nl2
  have S_MAP : Sta s s.heap "com/example/tideplan/tideplan/model/Kind" "MAP" "Lcom/example/tideplan/tideplan/model/Kind;" (.ref w_MAP) := Sta.start ev_MAP (Or.inr ⟨(hw _ (List.mem_of_getElem? (i := 3) rfl)), (hw _ (List.mem_of_getElem? (i := 7) rfl))⟩)
  obtain ⟨w_FLAT_MAP, ev_FLAT_MAP⟩ := exa_v nl3
  have E_FLAT_MAP : Exa s s.heap w_FLAT_MAP "com/example/tideplan/tideplan/model/Kind" := Exa.start ev_FLAT_MAP nl3
  have S_FLAT_MAP : Sta s s.heap "com/example/tideplan/tideplan/model/Kind" "FLAT_MAP" "Lcom/example/tideplan/tideplan/model/Kind;" (.ref w_FLAT_MAP) := Sta.start ev_FLAT_MAP (Or.inr ⟨(hw _ (List.mem_of_getElem? (i := 3) rfl)), (hw _ (List.mem_of_getElem? (i := 9) rfl))⟩)
  obtain ⟨w_FILTER, ev_FILTER⟩ := exa_v nl4
  have E_FILTER : Exa s s.heap w_FILTER "com/example/tideplan/tideplan/model/Kind" := Exa.start ev_FILTER nl4
  have S_FILTER : Sta s s.heap "com/example/tideplan/tideplan/model/Kind" "FILTER" "Lcom/example/tideplan/tideplan/model/Kind;" (.ref w_FILTER) := Sta.start ev_FILTER (Or.inr ⟨(hw _ (List.mem_of_getElem? (i := 3) rfl)), (hw _ (List.mem_of_getElem? (i := 11) rfl))⟩)
  obtain ⟨w_PROCESS, ev_PROCESS⟩ := exa_v nl5
  have E_PROCESS : Exa s s.heap w_PROCESS "com/example/tideplan/tideplan/model/Kind" := Exa.start ev_PROCESS nl5
  have S_PROCESS : Sta s s.heap "com/example/tideplan/tideplan/model/Kind" "PROCESS" "Lcom/example/tideplan/tideplan/model/Kind;" (.ref w_PROCESS) := Sta.start ev_PROCESS (Or.inr ⟨(hw _ (List.mem_of_getElem? (i := 3) rfl)), (hw _ (List.mem_of_getElem? (i := 13) rfl))⟩)
  obtain ⟨w_REDUCE, ev_REDUCE⟩ := exa_v nl6
  have E_REDUCE : Exa s s.heap w_REDUCE "com/example/tideplan/tideplan/model/Kind" := Exa.start ev_REDUCE nl6
  have S_REDUCE : Sta s s.heap "com/example/tideplan/tideplan/model/Kind" "REDUCE" "Lcom/example/tideplan/tideplan/model/Kind;" (.ref w_REDUCE) := Sta.start ev_REDUCE (Or.inr ⟨(hw _ (List.mem_of_getElem? (i := 3) rfl)), (hw _ (List.mem_of_getElem? (i := 15) rfl))⟩)
  obtain ⟨w_SINK, ev_SINK⟩ := exa_v nl7
  have E_SINK : Exa s s.heap w_SINK "com/example/tideplan/tideplan/model/Kind" := Exa.start ev_SINK nl7
  have S_SINK : Sta s s.heap "com/example/tideplan/tideplan/model/Kind" "SINK" "Lcom/example/tideplan/tideplan/model/Kind;" (.ref w_SINK) := Sta.start ev_SINK (Or.inr ⟨(hw _ (List.mem_of_getElem? (i := 3) rfl)), (hw _ (List.mem_of_getElem? (i := 17) rfl))⟩)
  obtain ⟨w_TWO_INPUT, ev_TWO_INPUT⟩ := exa_v nl8
  have E_TWO_INPUT : Exa s s.heap w_TWO_INPUT "com/example/tideplan/tideplan/model/Kind" := Exa.start ev_TWO_INPUT nl8
  have S_TWO_INPUT : Sta s s.heap "com/example/tideplan/tideplan/model/Kind" "TWO_INPUT" "Lcom/example/tideplan/tideplan/model/Kind;" (.ref w_TWO_INPUT) := Sta.start ev_TWO_INPUT (Or.inr ⟨(hw _ (List.mem_of_getElem? (i := 3) rfl)), (hw _ (List.mem_of_getElem? (i := 19) rfl))⟩)
  obtain ⟨w_PARTITION, ev_PARTITION⟩ := exa_v nl9
  have E_PARTITION : Exa s s.heap w_PARTITION "com/example/tideplan/tideplan/model/Kind" := Exa.start ev_PARTITION nl9
  have S_PARTITION : Sta s s.heap "com/example/tideplan/tideplan/model/Kind" "PARTITION" "Lcom/example/tideplan/tideplan/model/Kind;" (.ref w_PARTITION) := Sta.start ev_PARTITION (Or.inr ⟨(hw _ (List.mem_of_getElem? (i := 3) rfl)), (hw _ (List.mem_of_getElem? (i := 21) rfl))⟩)
  obtain ⟨w_UNION, ev_UNION⟩ := exa_v nl10
  have E_UNION : Exa s s.heap w_UNION "com/example/tideplan/tideplan/model/Kind" := Exa.start ev_UNION nl10
  have S_UNION : Sta s s.heap "com/example/tideplan/tideplan/model/Kind" "UNION" "Lcom/example/tideplan/tideplan/model/Kind;" (.ref w_UNION) := Sta.start ev_UNION (Or.inr ⟨(hw _ (List.mem_of_getElem? (i := 3) rfl)), (hw _ (List.mem_of_getElem? (i := 23) rfl))⟩)
  obtain ⟨w_SIDE_OUTPUT, ev_SIDE_OUTPUT⟩ := exa_v nl11
  have E_SIDE_OUTPUT : Exa s s.heap w_SIDE_OUTPUT "com/example/tideplan/tideplan/model/Kind" := Exa.start ev_SIDE_OUTPUT nl11
  have S_SIDE_OUTPUT : Sta s s.heap "com/example/tideplan/tideplan/model/Kind" "SIDE_OUTPUT" "Lcom/example/tideplan/tideplan/model/Kind;" (.ref w_SIDE_OUTPUT) := Sta.start ev_SIDE_OUTPUT (Or.inr ⟨(hw _ (List.mem_of_getElem? (i := 3) rfl)), (hw _ (List.mem_of_getElem? (i := 25) rfl))⟩)
  have O_SOURCE_ordinal : Fld s s.heap w_SOURCE "java/lang/Enum" "ordinal" "I" (.int (0 : Int32)) := Fld.start ((fld_at ev_SOURCE).symm.trans (own_eqint nl12))
  have O_PARTITION_ordinal : Fld s s.heap w_PARTITION "java/lang/Enum" "ordinal" "I" (.int (8 : Int32)) := Fld.start ((fld_at ev_PARTITION).symm.trans (own_eqint nl13))
  have O_UNION_ordinal : Fld s s.heap w_UNION "java/lang/Enum" "ordinal" "I" (.int (9 : Int32)) := Fld.start ((fld_at ev_UNION).symm.trans (own_eqint nl14))
  have O_SIDE_OUTPUT_ordinal : Fld s s.heap w_SIDE_OUTPUT "java/lang/Enum" "ordinal" "I" (.int (10 : Int32)) := Fld.start ((fld_at ev_SIDE_OUTPUT).symm.trans (own_eqint nl15))
  have O_FILTER_ordinal : Fld s s.heap w_FILTER "java/lang/Enum" "ordinal" "I" (.int (3 : Int32)) := Fld.start ((fld_at ev_FILTER).symm.trans (own_eqint nl16))
  have O_TWO_INPUT_ordinal : Fld s s.heap w_TWO_INPUT "java/lang/Enum" "ordinal" "I" (.int (7 : Int32)) := Fld.start ((fld_at ev_TWO_INPUT).symm.trans (own_eqint nl17))
  have O_FLAT_MAP_ordinal : Fld s s.heap w_FLAT_MAP "java/lang/Enum" "ordinal" "I" (.int (2 : Int32)) := Fld.start ((fld_at ev_FLAT_MAP).symm.trans (own_eqint nl18))
  have O_MAP_ordinal : Fld s s.heap w_MAP "java/lang/Enum" "ordinal" "I" (.int (1 : Int32)) := Fld.start ((fld_at ev_MAP).symm.trans (own_eqint nl19))
  have O_REDUCE_ordinal : Fld s s.heap w_REDUCE "java/lang/Enum" "ordinal" "I" (.int (5 : Int32)) := Fld.start ((fld_at ev_REDUCE).symm.trans (own_eqint nl20))
  have O_SINK_ordinal : Fld s s.heap w_SINK "java/lang/Enum" "ordinal" "I" (.int (6 : Int32)) := Fld.start ((fld_at ev_SINK).symm.trans (own_eqint nl21))
  have O_PROCESS_ordinal : Fld s s.heap w_PROCESS "java/lang/Enum" "ordinal" "I" (.int (4 : Int32)) := Fld.start ((fld_at ev_PROCESS).symm.trans (own_eqint nr21))
  obtain ⟨n, o, h1, h2, h3, _, L, rfl, ⟨rfl, N⟩, hq⟩ := rm0 l s _ hw tables_1 i0 w_SOURCE w_MAP w_FLAT_MAP w_FILTER w_PROCESS w_REDUCE w_SINK w_TWO_INPUT w_PARTITION w_UNION w_SIDE_OUTPUT s.heap s.heap.size (Nat.le_refl _) S_SOURCE S_MAP S_FLAT_MAP S_FILTER S_PROCESS S_REDUCE S_SINK S_TWO_INPUT S_PARTITION S_UNION S_SIDE_OUTPUT E_SOURCE E_MAP E_FLAT_MAP E_FILTER E_PROCESS E_REDUCE E_SINK E_TWO_INPUT E_PARTITION E_UNION E_SIDE_OUTPUT (own_fldne O_SOURCE_ordinal O_PARTITION_ordinal (by decide)) (own_fldne O_SOURCE_ordinal O_UNION_ordinal (by decide)) (own_fldne O_SOURCE_ordinal O_SIDE_OUTPUT_ordinal (by decide)) (own_fldne O_MAP_ordinal O_PARTITION_ordinal (by decide)) (own_fldne O_MAP_ordinal O_UNION_ordinal (by decide)) (own_fldne O_MAP_ordinal O_SIDE_OUTPUT_ordinal (by decide)) (own_fldne O_FLAT_MAP_ordinal O_PARTITION_ordinal (by decide)) (own_fldne O_FLAT_MAP_ordinal O_UNION_ordinal (by decide)) (own_fldne O_FLAT_MAP_ordinal O_SIDE_OUTPUT_ordinal (by decide)) (own_fldne O_FILTER_ordinal O_PARTITION_ordinal (by decide)) (own_fldne O_FILTER_ordinal O_UNION_ordinal (by decide)) (own_fldne O_FILTER_ordinal O_SIDE_OUTPUT_ordinal (by decide)) (own_fldne O_PROCESS_ordinal O_PARTITION_ordinal (by decide)) (own_fldne O_PROCESS_ordinal O_UNION_ordinal (by decide)) (own_fldne O_PROCESS_ordinal O_SIDE_OUTPUT_ordinal (by decide)) (own_fldne O_REDUCE_ordinal O_PARTITION_ordinal (by decide)) (own_fldne O_REDUCE_ordinal O_UNION_ordinal (by decide)) (own_fldne O_REDUCE_ordinal O_SIDE_OUTPUT_ordinal (by decide)) (own_fldne O_SINK_ordinal O_PARTITION_ordinal (by decide)) (own_fldne O_SINK_ordinal O_UNION_ordinal (by decide)) (own_fldne O_SINK_ordinal O_SIDE_OUTPUT_ordinal (by decide)) (own_fldne O_TWO_INPUT_ordinal O_PARTITION_ordinal (by decide)) (own_fldne O_TWO_INPUT_ordinal O_UNION_ordinal (by decide)) (own_fldne O_TWO_INPUT_ordinal O_SIDE_OUTPUT_ordinal (by decide)) p e ha hc hk s m _ below hf ((Spec.applies_iff_loose hf).mp happ).1 ⟨rfl, State.Warmed39.refl s, rfl⟩ trivial
  refine ⟨n, _, h1, h2, h3, hpost _ _ _ _ _ _ ⟨Cond.after_iff.mpr rfl, Cond.after_iff.mpr (eq_i res_at (Term.int_eval (1)) rfl), trivial⟩ ⟨hq.1, hq.2.1, (hq.2.2.sift fun y hy => Or.inr (N y hy)).mono (by decide) (by decide)⟩⟩
theorem main_1_1 : Claimed_1_1 := comes_1 fun _ _ _ _ _ _ h hF => ⟨h.1, hF⟩
theorem main_1_2 : Claimed_1_2 := comes_1 fun _ _ _ _ _ _ h hF => ⟨h.2.1, hF⟩
end Jvm.Pilot.@@N@@
namespace Jvm.Pilot.@@N@@
open Jvm Jvm.ClassFile Sem Op Lib Jvm.Free Jvm.Stand Jvm.Pilot.@@N@@.Jvm.D
/-! MADE BY PROGRAM (witnessworld.py) out of the Statement's table words and the real class files: 13 classes; the members and pool entries that the words name. The judged class is class 1, her method 1. -/
namespace start1
open Jvm.ClassFile
def u (s : String) : CpInfo := .utf8 (stringToUtf16 s)
/-- a pool by its gaps: so many unusable entries, then the entry; so many at the end -/
def gap : Nat → List CpInfo → List CpInfo
  | 0, r => r
  | n + 1, r => .unusable :: gap n r
def poolList (es : List (Nat × CpInfo)) (last : Nat) : List CpInfo := es.foldr (fun e r => gap e.1 (e.2 :: r)) (gap last [])
def pool (es : List (Nat × CpInfo)) (last : Nat) : Array CpInfo := ⟨poolList es last⟩
def fileOf (pool : Array CpInfo) (this : Nat) (attrs : Array Attribute := #[]) (ms : Array MethodInfo := #[]) (fl : Nat := 33) (sup : Nat := 0) (ifs : Array Nat := #[]) (fds : Array FieldInfo := #[]) : ClassFile where
  minorVersion := 0
  majorVersion := 65
  constantPool := pool
  accessFlags := fl
  thisClass := this
  superClass := sup
  interfaces := ifs
  fields := fds
  methods := ms
  attributes := attrs
def plain (name : String) (sup : Option ClassId) : Class where
  name := name
  kind := .ordinary
  loader := none
  accessFlags := 33
  super := sup
  interfaces := #[]
  cf := none
  fields := #[]
  methods := #[]
  instanceTypes := #[]
  staticTypes := #[]
  resolved := #[]
  callSites := []
  init := .initialized
  statics := none
  mirror := none

def pool0 : Array CpInfo := pool [(5, u "<init>"), (0, u "()V"), (1, .class_ 10), (1, u "java/lang/Object")] 113

def k0m0 : Method := { name := "<init>", desc := "()V", sig := { parameters := [], returnType := none }, accessFlags := 1, code := none }
/-- java/lang/Object -/
def k0 : Class := { plain "java/lang/Object" none with
  accessFlags := 33
  interfaces := #[]
  cf := some (fileOf pool0 8 #[] #[{ accessFlags := 1, nameIndex := 5, descriptorIndex := 6, attributes := #[] }] 33 0 #[] #[])
  fields := #[]
  methods := #[k0m0]
  instanceTypes := #[]
  staticTypes := #[]
  resolved := Array.replicate 124 none
  statics := none }

def pool1 : Array CpInfo := pool [(2, .class_ 4), (1, u "java/lang/Object"), (0, u "<init>"), (0, u "()V"), (0, .class_ 8), (0, u "com/example/tideplan/tideplan/model/Kind"), (0, .fieldref 7 10), (0, .nameAndType 11 12), (0, u "SOURCE"), (0, u "Lcom/example/tideplan/tideplan/model/Kind;"), (0, .fieldref 7 14), (0, .nameAndType 15 12), (0, u "MAP"), (0, .fieldref 7 17), (0, .nameAndType 18 12), (0, u "FLAT_MAP"), (0, .fieldref 7 20), (0, .nameAndType 21 12), (0, u "FILTER"), (0, .fieldref 7 23), (0, .nameAndType 24 12), (0, u "PROCESS"), (0, .fieldref 7 26), (0, .nameAndType 27 12), (0, u "REDUCE"), (0, .fieldref 7 29), (0, .nameAndType 30 12), (0, u "SINK"), (0, .fieldref 7 32), (0, .nameAndType 33 12), (0, u "TWO_INPUT"), (0, .fieldref 7 35), (0, .nameAndType 36 12), (0, u "PARTITION"), (0, .fieldref 7 38), (0, .nameAndType 39 12), (0, u "UNION"), (0, .fieldref 7 41), (0, .nameAndType 42 12), (0, u "SIDE_OUTPUT"), (0, .integer 2147483647), (0, .methodref 7 45), (0, .nameAndType 46 47), (0, u "runsOperator"), (0, u "()Z"), (0, .class_ 49), (0, u "com/example/tideplan/tideplan/model/KindRunsOperatorPinLaw"), (2, u "law"), (0, u "(I)Z")] 5

def k1m0 : Method := { name := "<init>", desc := "()V", sig := { parameters := [], returnType := none }, accessFlags := 1, code := none }
def k1c1 : Code := { maxStack := 4, maxLocals := 4, code := code, exceptionTable := #[], attributes := #[] }
def k1m1 : Method := { name := "law", desc := "(I)Z", sig := { parameters := [.int], returnType := some .boolean }, accessFlags := 9, code := some k1c1 }
/-- com/example/tideplan/tideplan/model/KindRunsOperatorPinLaw -/
def k1 : Class := { plain "com/example/tideplan/tideplan/model/KindRunsOperatorPinLaw" (some 0) with
  accessFlags := 49
  interfaces := #[]
  cf := some (fileOf pool1 48 #[] #[{ accessFlags := 1, nameIndex := 5, descriptorIndex := 6, attributes := #[] }, { accessFlags := 9, nameIndex := 52, descriptorIndex := 53, attributes := #[] }] 49 2 #[] #[])
  fields := #[]
  methods := #[k1m0, k1m1]
  instanceTypes := #[]
  staticTypes := #[]
  resolved := Array.replicate 59 none
  statics := none }

def pool2 : Array CpInfo := pool [(1, .class_ 2), (0, u "java/lang/constant/Constable"), (0, .class_ 4), (0, u "java/lang/Object")] 6

/-- java/lang/constant/Constable -/
def k2 : Class := { plain "java/lang/constant/Constable" (some 0) with
  accessFlags := 1537
  interfaces := #[]
  cf := some (fileOf pool2 1 #[] #[] 1537 3 #[] #[])
  fields := #[]
  methods := #[]
  instanceTypes := #[]
  staticTypes := #[]
  resolved := Array.replicate 11 none
  statics := none }

def pool3 : Array CpInfo := pool [(1, .class_ 2), (0, u "java/lang/Comparable"), (0, .class_ 4), (0, u "java/lang/Object")] 7

/-- java/lang/Comparable -/
def k3 : Class := { plain "java/lang/Comparable" (some 0) with
  accessFlags := 1537
  interfaces := #[]
  cf := some (fileOf pool3 1 #[] #[] 1537 3 #[] #[])
  fields := #[]
  methods := #[]
  instanceTypes := #[]
  staticTypes := #[]
  resolved := Array.replicate 12 none
  statics := none }

def pool4 : Array CpInfo := pool [(1, .class_ 2), (0, u "java/io/Serializable"), (0, .class_ 4), (0, u "java/lang/Object")] 2

/-- java/io/Serializable -/
def k4 : Class := { plain "java/io/Serializable" (some 0) with
  accessFlags := 1537
  interfaces := #[]
  cf := some (fileOf pool4 1 #[] #[] 1537 3 #[] #[])
  fields := #[]
  methods := #[]
  instanceTypes := #[]
  staticTypes := #[]
  resolved := Array.replicate 7 none
  statics := none }

def pool5 : Array CpInfo := pool [(2, .class_ 4), (1, u "java/lang/Enum"), (0, u "name"), (0, u "Ljava/lang/String;"), (2, u "ordinal"), (0, u "I"), (1, .class_ 14), (1, u "java/lang/Object"), (4, u "hash"), (86, .class_ 108), (1, u "java/lang/Enum$EnumDesc"), (2, .class_ 112), (0, u "java/lang/constant/Constable"), (0, .class_ 114), (0, u "java/lang/Comparable"), (0, .class_ 116), (0, u "java/io/Serializable")] 87

/-- java/lang/Enum -/
def k5 : Class := { plain "java/lang/Enum" (some 0) with
  accessFlags := 1057
  interfaces := #[2, 3, 4]
  cf := some (fileOf pool5 2 #[.nestMembers #[106]] #[] 1057 12 #[111, 113, 115] #[{ accessFlags := 18, nameIndex := 5, descriptorIndex := 6, attributes := #[] }, { accessFlags := 18, nameIndex := 9, descriptorIndex := 10, attributes := #[] }, { accessFlags := 2, nameIndex := 19, descriptorIndex := 10, attributes := #[] }])
  fields := #[{ name := "name", type := (.object "java/lang/String"), accessFlags := 18, slot := 0, constantValue := 0 }, { name := "ordinal", type := .int, accessFlags := 18, slot := 1, constantValue := 0 }, { name := "hash", type := .int, accessFlags := 2, slot := 2, constantValue := 0 }]
  methods := #[]
  instanceTypes := #[(.object "java/lang/String"), .int, .int]
  staticTypes := #[]
  resolved := Array.replicate 204 none
  statics := none }

def pool6 : Array CpInfo := pool [(1, .class_ 2), (0, u "com/example/tideplan/tideplan/model/Kind"), (2, u "SOURCE"), (0, u "Lcom/example/tideplan/tideplan/model/Kind;"), (2, u "MAP"), (2, u "FLAT_MAP"), (2, u "FILTER"), (2, u "PROCESS"), (2, u "REDUCE"), (2, u "SINK"), (2, u "TWO_INPUT"), (0, .fieldref 1 29), (0, .nameAndType 30 6), (0, u "PARTITION"), (0, .fieldref 1 32), (0, .nameAndType 33 6), (0, u "UNION"), (0, .fieldref 1 35), (0, .nameAndType 36 6), (0, u "SIDE_OUTPUT"), (2, u "$VALUES"), (0, u "[Lcom/example/tideplan/tideplan/model/Kind;"), (6, .class_ 49), (1, u "java/lang/Enum"), (8, u "word"), (0, u "Ljava/lang/String;"), (2, u "minInputs"), (0, u "I"), (2, u "maxInputs"), (73, u "WORDS"), (0, u "Lcom/example/tideplan/tideplan/model/WordTable;"), (9, u "runsOperator"), (0, u "()Z")] 42

def k6c0 : Code := { maxStack := 2, maxLocals := 1, code := prog_16_method_7_code, exceptionTable := #[], attributes := #[] }
def k6m0 : Method := { name := "runsOperator", desc := "()Z", sig := { parameters := [], returnType := some .boolean }, accessFlags := 1, code := some k6c0 }
/-- com/example/tideplan/tideplan/model/Kind -/
def k6 : Class := { plain "com/example/tideplan/tideplan/model/Kind" (some 5) with
  accessFlags := 16433
  interfaces := #[]
  cf := some (fileOf pool6 1 #[] #[{ accessFlags := 1, nameIndex := 151, descriptorIndex := 152, attributes := #[] }] 16433 47 #[] #[{ accessFlags := 16409, nameIndex := 5, descriptorIndex := 6, attributes := #[] }, { accessFlags := 16409, nameIndex := 9, descriptorIndex := 6, attributes := #[] }, { accessFlags := 16409, nameIndex := 12, descriptorIndex := 6, attributes := #[] }, { accessFlags := 16409, nameIndex := 15, descriptorIndex := 6, attributes := #[] }, { accessFlags := 16409, nameIndex := 18, descriptorIndex := 6, attributes := #[] }, { accessFlags := 16409, nameIndex := 21, descriptorIndex := 6, attributes := #[] }, { accessFlags := 16409, nameIndex := 24, descriptorIndex := 6, attributes := #[] }, { accessFlags := 16409, nameIndex := 27, descriptorIndex := 6, attributes := #[] }, { accessFlags := 16409, nameIndex := 30, descriptorIndex := 6, attributes := #[] }, { accessFlags := 16409, nameIndex := 33, descriptorIndex := 6, attributes := #[] }, { accessFlags := 16409, nameIndex := 36, descriptorIndex := 6, attributes := #[] }, { accessFlags := 24, nameIndex := 140, descriptorIndex := 141, attributes := #[] }, { accessFlags := 18, nameIndex := 58, descriptorIndex := 59, attributes := #[] }, { accessFlags := 18, nameIndex := 62, descriptorIndex := 63, attributes := #[] }, { accessFlags := 18, nameIndex := 66, descriptorIndex := 63, attributes := #[] }, { accessFlags := 4122, nameIndex := 39, descriptorIndex := 40, attributes := #[] }])
  fields := #[{ name := "SOURCE", type := (.object "com/example/tideplan/tideplan/model/Kind"), accessFlags := 16409, slot := 0, constantValue := 0 }, { name := "MAP", type := (.object "com/example/tideplan/tideplan/model/Kind"), accessFlags := 16409, slot := 1, constantValue := 0 }, { name := "FLAT_MAP", type := (.object "com/example/tideplan/tideplan/model/Kind"), accessFlags := 16409, slot := 2, constantValue := 0 }, { name := "FILTER", type := (.object "com/example/tideplan/tideplan/model/Kind"), accessFlags := 16409, slot := 3, constantValue := 0 }, { name := "PROCESS", type := (.object "com/example/tideplan/tideplan/model/Kind"), accessFlags := 16409, slot := 4, constantValue := 0 }, { name := "REDUCE", type := (.object "com/example/tideplan/tideplan/model/Kind"), accessFlags := 16409, slot := 5, constantValue := 0 }, { name := "SINK", type := (.object "com/example/tideplan/tideplan/model/Kind"), accessFlags := 16409, slot := 6, constantValue := 0 }, { name := "TWO_INPUT", type := (.object "com/example/tideplan/tideplan/model/Kind"), accessFlags := 16409, slot := 7, constantValue := 0 }, { name := "PARTITION", type := (.object "com/example/tideplan/tideplan/model/Kind"), accessFlags := 16409, slot := 8, constantValue := 0 }, { name := "UNION", type := (.object "com/example/tideplan/tideplan/model/Kind"), accessFlags := 16409, slot := 9, constantValue := 0 }, { name := "SIDE_OUTPUT", type := (.object "com/example/tideplan/tideplan/model/Kind"), accessFlags := 16409, slot := 10, constantValue := 0 }, { name := "WORDS", type := (.object "com/example/tideplan/tideplan/model/WordTable"), accessFlags := 24, slot := 11, constantValue := 0 }, { name := "word", type := (.object "java/lang/String"), accessFlags := 18, slot := 3, constantValue := 0 }, { name := "minInputs", type := .int, accessFlags := 18, slot := 4, constantValue := 0 }, { name := "maxInputs", type := .int, accessFlags := 18, slot := 5, constantValue := 0 }, { name := "$VALUES", type := (.array (.object "com/example/tideplan/tideplan/model/Kind")), accessFlags := 4122, slot := 12, constantValue := 0 }]
  methods := #[k6m0]
  instanceTypes := #[(.object "java/lang/String"), .int, .int, (.object "java/lang/String"), .int, .int]
  staticTypes := #[(.object "com/example/tideplan/tideplan/model/Kind"), (.object "com/example/tideplan/tideplan/model/Kind"), (.object "com/example/tideplan/tideplan/model/Kind"), (.object "com/example/tideplan/tideplan/model/Kind"), (.object "com/example/tideplan/tideplan/model/Kind"), (.object "com/example/tideplan/tideplan/model/Kind"), (.object "com/example/tideplan/tideplan/model/Kind"), (.object "com/example/tideplan/tideplan/model/Kind"), (.object "com/example/tideplan/tideplan/model/Kind"), (.object "com/example/tideplan/tideplan/model/Kind"), (.object "com/example/tideplan/tideplan/model/Kind"), (.object "com/example/tideplan/tideplan/model/WordTable"), (.array (.object "com/example/tideplan/tideplan/model/Kind"))]
  resolved := Array.replicate 195 none
  statics := some 0 }

def pool7 : Array CpInfo := pool [(1, u "java/lang/Cloneable"), (0, .class_ 1), (0, u "java/lang/Object"), (0, .class_ 3)] 3

/-- java/lang/Cloneable -/
def k7 : Class := { plain "java/lang/Cloneable" (some 0) with
  accessFlags := 1537
  interfaces := #[]
  cf := some (fileOf pool7 2 #[] #[] 1537 4 #[] #[])
  fields := #[]
  methods := #[]
  instanceTypes := #[]
  staticTypes := #[]
  resolved := Array.replicate 8 none
  statics := none }

/-- the primitive byte -/
def k8 : Class := { plain "byte" none with kind := .primitive 'B', accessFlags := 0x411 }
/-- [B -/
def k9 : Class := { plain "[B" (some 0) with kind := .array 8 .byte, interfaces := #[7, 4], accessFlags := 1041 }

/-- the primitive int -/
def k10 : Class := { plain "int" none with kind := .primitive 'I', accessFlags := 0x411 }
/-- [I -/
def k11 : Class := { plain "[I" (some 0) with kind := .array 10 .int, interfaces := #[7, 4], accessFlags := 1041 }

/-- [Lcom/example/tideplan/tideplan/model/Kind; -/
def k12 : Class := { plain "[Lcom/example/tideplan/tideplan/model/Kind;" (some 0) with kind := .array 6 (.object "com/example/tideplan/tideplan/model/Kind"), interfaces := #[7, 4], accessFlags := 1041 }

def heap : Heap := #[{ cls := 6, slots := #[.ref 1, .ref 2, .ref 3, .ref 4, .ref 5, .ref 6, .ref 7, .ref 8, .ref 9, .ref 10, .ref 11, .null, .null], vm := .statics 6 },
  { cls := 6, slots := #[.null, .int 0, .int 0, .null, .int 0, .int 0], vm := .none },
  { cls := 6, slots := #[.null, .int 1, .int 0, .null, .int 0, .int 0], vm := .none },
  { cls := 6, slots := #[.null, .int 2, .int 0, .null, .int 0, .int 0], vm := .none },
  { cls := 6, slots := #[.null, .int 3, .int 0, .null, .int 0, .int 0], vm := .none },
  { cls := 6, slots := #[.null, .int 4, .int 0, .null, .int 0, .int 0], vm := .none },
  { cls := 6, slots := #[.null, .int 5, .int 0, .null, .int 0, .int 0], vm := .none },
  { cls := 6, slots := #[.null, .int 6, .int 0, .null, .int 0, .int 0], vm := .none },
  { cls := 6, slots := #[.null, .int 7, .int 0, .null, .int 0, .int 0], vm := .none },
  { cls := 6, slots := #[.null, .int 8, .int 0, .null, .int 0, .int 0], vm := .none },
  { cls := 6, slots := #[.null, .int 9, .int 0, .null, .int 0, .int 0], vm := .none },
  { cls := 6, slots := #[.null, .int 10, .int 0, .null, .int 0, .int 0], vm := .none }]
def classes : Array Class := #[k0, k1, k2, k3, k4, k5, k6, k7, k8, k9, k10, k11, k12]
def interned : List (Array UInt16 × Addr) := []
def slotsUsed : Nat := 79
def theMethod : MethodId := ⟨1, 1⟩
def args0 : Array Value := #[.int 5]
def aboutOver (below : List Frame) : State where
  vm := { classes := classes, interned := interned.toArray }
  heap := heap
  slotsUsed := slotsUsed
  threads := #[{ frames := .invoking theMethod args0 :: below }]
def below0 : List Frame := [.native { method := ⟨0, 0⟩, args := #[] }]
def about1 : State := aboutOver below0
def p0 : Program := .bare "" "" ""
def e0 : Env := launch0.env 0 0 0
theorem w_frames : about1.frames = Frame.invoking theMethod args0 :: below0 := rfl
set_option maxRecDepth 65536 in
theorem w_args : argsFit about1.vm theMethod args0 = true := by decide +kernel
set_option maxRecDepth 65536 in
theorem w_heap : heapFits about1 = true := by decide +kernel
set_option maxRecDepth 65536 in
theorem w_runnable : about1.curStatus? = some .runnable := by decide +kernel
set_option maxRecDepth 65536 in
theorem w_alone : about1.alone = true := by decide +kernel
set_option maxRecDepth 65536 in
theorem w_named : about1.methodNamed? x = some theMethod := by decide +kernel
set_option maxRecDepth 65536 in
theorem w_hears : about1.hears theMethod below0 = true := by decide +kernel
set_option maxRecDepth 65536 in
theorem w_ripe : about1.ripe theMethod args0 below0 = true := by decide +kernel
theorem w_running : about1.status = .running := rfl
set_option maxRecDepth 65536 in
theorem w_room : about1.hasRoom e0.platform room_1 = true :=
  launch0.hasRoom_least _ room_1 (by decide +kernel) (by decide +kernel) (by decide +kernel) (by decide +kernel) (by decide +kernel) (by decide +kernel)
theorem allAtoms_all (ts : List Jvm.Cond) (a : Array Jvm.Value) (st : Jvm.State) : (allAtoms ts).before a st = ts.all (fun c => c.before a st) := by
  induction ts with
  | nil => rfl
  | cons c t ih =>
    show (Jvm.Cond.and c (allAtoms t)).before a st = _
    rw [Jvm.Cond.before_and, ih, List.all_cons]
def words1 : List Jvm.Cond := Jvm.Cond.code x code maxLocals ret :: tables_1
/-- a 'code' word, met by the world's own term for the bytes: nothing is compared byte by byte -/
theorem code_word {y : MethodName} {bytes : ByteArray} {mx : Nat} {rt : Option FieldType} {a : Array Value} {s : State} {m : MethodId} {meth : Method} {c : Code} (h1 : s.methodNamed? y = some m) (h2 : s.vm.method? m = some meth) (h3 : meth.code = some c) (h4 : c.code = bytes)
    (h5 : (c.maxLocals == mx && c.exceptionTable.isEmpty && decide (c.maxStack ≤ mostOperands) && decide (meth.sig.returnType = rt) && !meth.locks && decide (parseMethodDescriptor y.desc = some meth.sig)) = true) : (Jvm.Cond.code y bytes mx rt).before a s = true := by
  simp only [Bool.and_eq_true, beq_iff_eq, Bool.not_eq_true', decide_eq_true_eq] at h5
  obtain ⟨⟨⟨⟨⟨g1, g2⟩, g3⟩, g4⟩, g5⟩, g6⟩ := h5
  simp [Cond.before, Cond.holds, Cond.value, h1, h2, h3, h4, g1, g2, g3, g4, g5, g6]
def isCode : Jvm.Cond → Bool
  | .code _ _ _ _ => true
  | _ => false
theorem all_split {L : List Jvm.Cond} {P : Jvm.Cond → Bool} (h1 : L.all (fun c => isCode c || P c) = true) (h2 : ∀ c ∈ L.filter isCode, P c = true) : L.all P = true := by
  refine List.all_eq_true.mpr fun c hc => ?_
  have h := List.all_eq_true.mp h1 c hc
  rcases Bool.eq_false_or_eq_true (isCode c) with hi | hi
  · exact h2 c (List.mem_filter.mpr ⟨hc, hi⟩)
  · simpa [hi] using h
set_option maxRecDepth 65536 in
theorem w_c0 : (Jvm.Cond.code x code maxLocals ret).before args0 about1 = true := code_word (m := ⟨1, 1⟩) (meth := k1m1) (c := k1c1) (by decide +kernel) rfl rfl rfl (by decide +kernel)
set_option maxRecDepth 65536 in
theorem w_c1 : (Jvm.Cond.code ({ cls := "com/example/tideplan/tideplan/model/Kind", name := "runsOperator", desc := "()Z" } : Jvm.MethodName) prog_16_method_7_code (1 : Nat) (Option.some Jvm.ClassFile.FieldType.boolean)).before args0 about1 = true := code_word (m := ⟨6, 0⟩) (meth := k6m0) (c := k6c0) (by decide +kernel) rfl rfl rfl (by decide +kernel)
def codes1 : List Jvm.Cond := [Jvm.Cond.code x code maxLocals ret, Jvm.Cond.code ({ cls := "com/example/tideplan/tideplan/model/Kind", name := "runsOperator", desc := "()Z" } : Jvm.MethodName) prog_16_method_7_code (1 : Nat) (Option.some Jvm.ClassFile.FieldType.boolean)]
set_option maxRecDepth 65536 in
theorem codes_eq : words1.filter isCode = codes1 := rfl
theorem w_codes : ∀ c ∈ words1.filter isCode, c.before args0 about1 = true := by
  rw [codes_eq]
  intro c hc
  simp only [codes1, List.mem_cons, List.not_mem_nil, or_false] at hc
  rcases hc with rfl | rfl
  · exact w_c0
  · exact w_c1
set_option maxRecDepth 65536 in
theorem w_t1 : (words1.take 24).all (fun c => isCode c || c.before args0 about1) = true := by decide +kernel
set_option maxRecDepth 65536 in
theorem w_t2 : (words1.drop 24).all (fun c => isCode c || c.before args0 about1) = true := by decide +kernel
theorem w_tables : (allAtoms (Jvm.Cond.code x code maxLocals ret :: tables_1)).before args0 about1 = true := by
  rw [allAtoms_all]
  show words1.all (fun c => c.before args0 about1) = true
  refine all_split ?_ w_codes
  rw [← List.take_append_drop 24 words1, List.all_append, w_t1, w_t2]
  rfl
set_option maxRecDepth 65536 in
theorem w_case : (Jvm.Cond.and given_1 narrow_1).before args0 about1 = true := by decide +kernel
theorem w_applies : (headSpec (Jvm.Cond.code x code maxLocals ret :: tables_1) room_1).applies x e0.platform about1 = true :=
  (Spec.applies_iff w_frames).mpr ⟨w_running, w_runnable, w_alone, w_named, w_hears, w_ripe, w_room, w_tables⟩
theorem atStart : AtStart classFile x code maxLocals ret World_1 tables_1 room_1 Calls_1 rest_1 Pre_1 launch0 p0 e0 about1 theMethod args0 below0 :=
  ⟨lists_1, trivial, launch0.admits_env _ _ _, launch0.least_env, fairChoices_fair.cas, fairChoices_fair.clock, w_frames, w_args, w_heap, w_applies, trivial, trivial, w_case⟩
end start1
theorem witness_1 : WitnessClaimed_1 := ⟨start1.p0, start1.e0, start1.about1, start1.theMethod, start1.args0, start1.below0, start1.atStart⟩
end Jvm.Pilot.@@N@@
