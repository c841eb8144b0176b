import JvmDerived
import JvmDerived.Pilot.@@N@@Statement
import JvmDerived.Pilot.@@N@@Code
set_option linter.unusedVariables false
set_option linter.unusedSimpArgs false
@@BLOCK:NumsL.lean.txt@@
namespace Jvm.Own
open Sem ClassFile Op Lib Jvm.Stand Jvm.Free Jvm.LawKit Jvm.RoadKit
section Arrays
variable {p : Program} {l : Launch} {e : Env} {R : Room} {s : State} {m : MethodId} {args : Array Value} {below : List Frame} {meth : Method} {c : Code} {T : State} {locs : List Loc} {cells slots : Nat} {Z : State} {h h' h0 : Heap} {a b : Addr} {ty : FieldType} {vs : List Value} {xs : List Int32} {v : Value} {sl : Nat} {ws : List Addr}
/-- the array at a: of the kind ty, its components vs -/
def AV (Z : State) (h : Heap) (a : Addr) (ty : FieldType) (vs : List Value) : Prop := ∃ c : Cell, Arr Z h a c ty ∧ c.slots = vs.toArray ∧ vs.length < 2147483648
/-- an int array -/
def IA (Z : State) (h : Heap) (a : Addr) (xs : List Int32) : Prop := AV Z h a .int (xs.map Value.int)
theorem AV.lt (F : AV Z h a ty vs) : a < h.size := by obtain ⟨c, A, -⟩ := F; exact A.lt
theorem AV.ext (F : AV Z h a ty vs) (E : Ext h h') : AV Z h' a ty vs := by obtain ⟨c, A, r⟩ := F; exact ⟨c, A.ext E, r⟩
theorem AV.other (F : AV Z h b ty vs) (W : Wr h h' a sl v) (q : b ≠ a) : AV Z h' b ty vs := by obtain ⟨c, A, r⟩ := F; exact ⟨c, A.other W q, r⟩
theorem AV.keep (F : AV Z h a ty vs) (K : Keep h h' ws) (q : a ∉ ws) : AV Z h' a ty vs := by obtain ⟨c, A, r⟩ := F; exact ⟨c, ⟨K.2.1 a c A.1 q, A.2⟩, r⟩
theorem AV.wr (F : AV Z h a ty vs) (W : Wr h h' a sl v) : AV Z h' a ty (vs.set sl v) := by
  obtain ⟨c, A, q, n⟩ := F
  exact ⟨_, A.same W, by simp [Cell.setSlot, q], by simpa using n⟩
theorem clamp_lt (z : Int32) : z.toNatClampNeg < 2147483648 := by
  have := z.toInt_lt
  simp only [Int32.toNatClampNeg]; omega
theorem AV.new {k : ClassId} {z : Int32} (A : Arr Z h a (newA k ty z) ty) (q : List.replicate z.toNatClampNeg (defaultValue ty) = vs) : AV Z h a ty vs := by
  subst q
  exact ⟨_, A, by simp [newA], by rw [List.length_replicate]; exact clamp_lt z⟩
theorem IA.lt (F : IA Z h a xs) : a < h.size := AV.lt F
theorem IA.ext (F : IA Z h a xs) (E : Ext h h') : IA Z h' a xs := AV.ext F E
theorem IA.other (F : IA Z h b xs) (W : Wr h h' a sl v) (q : b ≠ a) : IA Z h' b xs := AV.other F W q
theorem IA.keep (F : IA Z h a xs) (K : Keep h h' ws) (q : a ∉ ws) : IA Z h' a xs := AV.keep F K q
theorem IA.new {k : ClassId} {z : Int32} (A : Arr Z h a (newA k .int z) .int) {n : Nat} (q : z.toNatClampNeg = n) : IA Z h a (List.replicate n (0 : Int32)) := AV.new A (by subst q; rw [List.map_replicate]; rfl)
theorem IA.wr {x : Int32} (F : IA Z h a xs) (W : Wr h h' a sl (.int x)) : IA Z h' a (xs.set sl x) := by
  have := AV.wr F W
  rw [← List.map_set] at this; exact this
/-- the place j of an int array; the array with x there -/
def gi (xs : List Int32) (j : Int32) : Int32 := xs.getD j.toNatClampNeg 0
def si (xs : List Int32) (j x : Int32) : List Int32 := xs.set j.toNatClampNeg x
theorem si_len (xs : List Int32) (j x : Int32) : (si xs j x).length = xs.length := by simp [si]
theorem clamp_of {j : Int32} {n : Nat} (hj : 0 ≤ j.toInt ∧ j.toInt < (n : Int)) : j.toNatClampNeg < n ∧ ¬ j < 0 := by
  obtain ⟨h1, h2⟩ := hj
  refine ⟨by simp only [Int32.toNatClampNeg]; omega, ?_⟩
  rw [Int32.lt_iff_toInt_lt]; show ¬ _ < (0 : Int); omega
theorem inb_of' {cl : Cell} {j : Int32} {n : Nat} (hn : cl.slots.size = n) (hj : 0 ≤ j.toInt ∧ j.toInt < (n : Int)) : ¬ (j < 0 ∨ cl.slots.size ≤ j.toNatClampNeg) := by
  obtain ⟨h1, h2⟩ := clamp_of hj
  rintro (q | q)
  · exact h2 q
  · omega
theorem ldI (X : Stand p l e R s m args below meth c T locs cells slots) (hx : p.tables.exec = Jvm.exec) (hZ : Z.Warmed39 s.vm) (eT : T.heap = h) (F : IA Z h a xs) {j : Int32} (n : Nat) (hl : xs.length = n) (hj : 0 ≤ j.toInt ∧ j.toInt < (n : Int)) {g : JFrame} (hg : g.method = m) {rest : List Value} (hs : g.stack = .int j :: .ref a :: rest) (hd : decode c.code g.pc = .ok (.iaload, 1)) :
    ∀ target, Steps p.tables e below (T.setTop { g with pc := g.pc + 1, stack := .int (gi xs j) :: rest }) target → Steps p.tables e below (T.setTop g) target := by
  obtain ⟨cl, A, q, r⟩ := F
  have hsz : cl.slots.size = n := by rw [q]; simp [hl]
  have hi := (clamp_of hj).1
  refine X.iaload hx (v := .int (gi xs j)) (by rw [eT]; exact A.1) (State.isArrayOf_alike hZ.alike A.2.1) A.2.2 (inb_of' hsz hj) ?_ hg hs hd
  rw [q]
  have : j.toNatClampNeg < xs.length := by omega
  simp [gi, List.getD_eq_getElem?_getD, this]
theorem lnV (X : Stand p l e R s m args below meth c T locs cells slots) (hx : p.tables.exec = Jvm.exec) (hZ : Z.Warmed39 s.vm) (eT : T.heap = h) (F : AV Z h a ty vs) {z : Int32} (hz : vs.length.toInt32 = z) {g : JFrame} (hg : g.method = m) {rest : List Value} (hs : g.stack = .ref a :: rest) (hd : decode c.code g.pc = .ok (.arraylength, 1)) :
    ∀ target, Steps p.tables e below (T.setTop { g with pc := g.pc + 1, stack := .int z :: rest }) target → Steps p.tables e below (T.setTop g) target := by
  obtain ⟨cl, A, q, r⟩ := F
  intro target k
  refine X.arraylength hx (by rw [eT]; exact A.1) (State.isArrayOf_alike hZ.alike A.2.1) hg hs hd _ ?_
  have : cl.slots.size.toInt32 = z := by rw [q]; simpa using hz
  rw [this]; exact k
theorem lnI (X : Stand p l e R s m args below meth c T locs cells slots) (hx : p.tables.exec = Jvm.exec) (hZ : Z.Warmed39 s.vm) (eT : T.heap = h) (F : IA Z h a xs) {z : Int32} (hz : xs.length.toInt32 = z) {g : JFrame} (hg : g.method = m) {rest : List Value} (hs : g.stack = .ref a :: rest) (hd : decode c.code g.pc = .ok (.arraylength, 1)) :
    ∀ target, Steps p.tables e below (T.setTop { g with pc := g.pc + 1, stack := .int z :: rest }) target → Steps p.tables e below (T.setTop g) target :=
  lnV X hx hZ eT F (by rw [List.length_map]; exact hz) hg hs hd
theorem stIA (X : Stand p l e R s m args below meth c T locs cells slots) (hx : p.tables.exec = Jvm.exec) (hZ : Z.Warmed39 s.vm) (eT : T.heap = h) (F : IA Z h a xs) {j x : Int32} (n : Nat) (hl : xs.length = n) (hj : 0 ≤ j.toInt ∧ j.toInt < (n : Int)) {g : JFrame} (hg : g.method = m) {rest : List Value} (hs : g.stack = .int x :: .int j :: .ref a :: rest) (hd : decode c.code g.pc = .ok (.iastore, 1)) :
    ∃ T' h', Stand p l e R s m args below meth c T' (locs ++ [⟨a, j.toNatClampNeg⟩]) cells slots ∧ T'.heap = h' ∧ Wr h h' a j.toNatClampNeg (.int x) ∧ IA Z h' a (si xs j x) ∧ ∀ target, Steps p.tables e below (T'.setTop { g with pc := g.pc + 1, stack := rest }) target → Steps p.tables e below (T.setTop g) target := by
  have F0 := F
  obtain ⟨cl, A, q, r⟩ := F
  have hsz : cl.slots.size = n := by rw [q]; simp [hl]
  obtain ⟨T', h', X', e', W, st⟩ := stI X hx hZ eT A (inb_of' hsz hj) hg hs hd
  exact ⟨T', h', X', e', W, IA.wr F0 W, st⟩
/-- a place read or written, where it lies in the array; a fresh array of at most cap places -/
def rd (xs : List Int32) (j : Int32) : Option Int32 := if 0 ≤ j.toInt ∧ j.toInt < (xs.length : Int) then some (gi xs j) else none
def wt (xs : List Int32) (j x : Int32) : Option (List Int32) := if 0 ≤ j.toInt ∧ j.toInt < (xs.length : Int) then some (si xs j x) else none
def mk (cap : Nat) (n : Int32) : Option (List Int32) := if 0 ≤ n.toInt ∧ n.toInt ≤ (cap : Int) then some (List.replicate n.toNatClampNeg 0) else none
def ln (xs : List Int32) : Int32 := xs.length.toInt32
theorem rd_some {xs : List Int32} {j v : Int32} (q : rd xs j = some v) : (0 ≤ j.toInt ∧ j.toInt < (xs.length : Int)) ∧ gi xs j = v := by
  unfold rd at q
  split at q
  · next h => exact ⟨h, Option.some.inj q⟩
  · cases q
theorem wt_some {xs ys : List Int32} {j x : Int32} (q : wt xs j x = some ys) : (0 ≤ j.toInt ∧ j.toInt < (xs.length : Int)) ∧ si xs j x = ys := by
  unfold wt at q
  split at q
  · next h => exact ⟨h, Option.some.inj q⟩
  · cases q
theorem mk_some {cap : Nat} {n : Int32} {ys : List Int32} (q : mk cap n = some ys) : ¬ n < 0 ∧ n.toNatClampNeg ≤ cap ∧ ys = List.replicate n.toNatClampNeg 0 := by
  unfold mk at q
  split at q
  · next h =>
    refine ⟨?_, ?_, (Option.some.inj q).symm⟩
    · rw [Int32.lt_iff_toInt_lt]; show ¬ _ < (0 : Int); omega
    · simp only [Int32.toNatClampNeg]; omega
  · cases q
theorem ldO (X : Stand p l e R s m args below meth c T locs cells slots) (hx : p.tables.exec = Jvm.exec) (hZ : Z.Warmed39 s.vm) (eT : T.heap = h) (F : IA Z h a xs) {j x : Int32} (q : rd xs j = some x) {g : JFrame} (hg : g.method = m) {rest : List Value} (hs : g.stack = .int j :: .ref a :: rest) (hd : decode c.code g.pc = .ok (.iaload, 1)) :
    ∀ target, Steps p.tables e below (T.setTop { g with pc := g.pc + 1, stack := .int x :: rest }) target → Steps p.tables e below (T.setTop g) target := by
  obtain ⟨hb, rfl⟩ := rd_some q
  exact ldI X hx hZ eT F xs.length rfl hb hg hs hd
theorem stO (X : Stand p l e R s m args below meth c T locs cells slots) (hx : p.tables.exec = Jvm.exec) (hZ : Z.Warmed39 s.vm) (eT : T.heap = h) (F : IA Z h a xs) {j x : Int32} {ys : List Int32} (q : wt xs j x = some ys) {g : JFrame} (hg : g.method = m) {rest : List Value} (hs : g.stack = .int x :: .int j :: .ref a :: rest) (hd : decode c.code g.pc = .ok (.iastore, 1)) :
    ∃ T' h', Stand p l e R s m args below meth c T' (locs ++ [⟨a, j.toNatClampNeg⟩]) cells slots ∧ T'.heap = h' ∧ Wr h h' a j.toNatClampNeg (.int x) ∧ IA Z h' a ys ∧ ∀ target, Steps p.tables e below (T'.setTop { g with pc := g.pc + 1, stack := rest }) target → Steps p.tables e below (T.setTop g) target := by
  obtain ⟨hb, rfl⟩ := wt_some q
  exact stIA X hx hZ eT F xs.length rfl hb hg hs hd
/-- a byte array -/
def BA (Z : State) (h : Heap) (a : Addr) (xs : List Int32) : Prop := AV Z h a .byte (xs.map Value.int)
theorem BA.lt (F : BA Z h a xs) : a < h.size := AV.lt F
theorem BA.ext (F : BA Z h a xs) (E : Ext h h') : BA Z h' a xs := AV.ext F E
theorem BA.other (F : BA Z h b xs) (W : Wr h h' a sl v) (q : b ≠ a) : BA Z h' b xs := AV.other F W q
theorem BA.keep (F : BA Z h a xs) (K : Keep h h' ws) (q : a ∉ ws) : BA Z h' a xs := AV.keep F K q
theorem BA.new {k : ClassId} {z : Int32} (A : Arr Z h a (newA k .byte z) .byte) {n : Nat} (q : z.toNatClampNeg = n) : BA Z h a (List.replicate n (0 : Int32)) := AV.new A (by subst q; rw [List.map_replicate]; rfl)
theorem BA.wr {x : Int32} (F : BA Z h a xs) (W : Wr h h' a sl (.int x)) : BA Z h' a (xs.set sl x) := by
  have := AV.wr F W
  rw [← List.map_set] at this; exact this
theorem ldBO (X : Stand p l e R s m args below meth c T locs cells slots) (hx : p.tables.exec = Jvm.exec) (hZ : Z.Warmed39 s.vm) (eT : T.heap = h) (F : BA Z h a xs) {j x : Int32} (q : rd xs j = some x) {g : JFrame} (hg : g.method = m) {rest : List Value} (hs : g.stack = .int j :: .ref a :: rest) (hd : decode c.code g.pc = .ok (.baload, 1)) :
    ∀ target, Steps p.tables e below (T.setTop { g with pc := g.pc + 1, stack := .int x :: rest }) target → Steps p.tables e below (T.setTop g) target := by
  obtain ⟨hj, rfl⟩ := rd_some q
  obtain ⟨cl, A, q, r⟩ := F
  have hsz : cl.slots.size = xs.length := by rw [q]; simp
  have hi := (clamp_of hj).1
  refine X.baloadBytes hx (v := .int (gi xs j)) (by rw [eT]; exact A.1) (State.isArrayOf_alike hZ.alike A.2.1) A.2.2 (inb_of' hsz hj) ?_ hg hs hd
  rw [q]
  simp [gi, List.getD_eq_getElem?_getD, hi]
theorem stBO (X : Stand p l e R s m args below meth c T locs cells slots) (hx : p.tables.exec = Jvm.exec) (hZ : Z.Warmed39 s.vm) (eT : T.heap = h) (F : BA Z h a xs) {j x : Int32} {ys : List Int32} (q : wt xs j (nar .byte x) = some ys) {g : JFrame} (hg : g.method = m) {rest : List Value} (hs : g.stack = .int x :: .int j :: .ref a :: rest) (hd : decode c.code g.pc = .ok (.bastore, 1)) :
    ∃ T' h', Stand p l e R s m args below meth c T' (locs ++ [⟨a, j.toNatClampNeg⟩]) cells slots ∧ T'.heap = h' ∧ Wr h h' a j.toNatClampNeg (.int (nar .byte x)) ∧ BA Z h' a ys ∧ ∀ target, Steps p.tables e below (T'.setTop { g with pc := g.pc + 1, stack := rest }) target → Steps p.tables e below (T.setTop g) target := by
  obtain ⟨hj, rfl⟩ := wt_some q
  have F0 := F
  obtain ⟨cl, A, q, r⟩ := F
  have hsz : cl.slots.size = xs.length := by rw [q]; simp
  obtain ⟨T', h', X', e', W, st⟩ := stB X hx hZ eT A (inb_of' hsz hj) hg hs hd
  exact ⟨T', h', X', e', W, BA.wr F0 W, st⟩
/-- an array of references to objects of the class C -/
def RA (Z : State) (h : Heap) (a : Addr) (C : String) (vs : List Value) : Prop := ∃ c : Cell, Arr Z h a c (.object C) ∧ c.slots = vs.toArray ∧ vs.length < 2147483648 ∧ Ovr Z c.cls C
variable {C : String}
theorem RA.lt (F : RA Z h a C vs) : a < h.size := by obtain ⟨c, A, -⟩ := F; exact A.lt
theorem RA.ext (F : RA Z h a C vs) (E : Ext h h') : RA Z h' a C vs := by obtain ⟨c, A, r⟩ := F; exact ⟨c, A.ext E, r⟩
theorem RA.other (F : RA Z h b C vs) (W : Wr h h' a sl v) (q : b ≠ a) : RA Z h' b C vs := by obtain ⟨c, A, r⟩ := F; exact ⟨c, A.other W q, r⟩
theorem RA.new {k : ClassId} {z : Int32} (A : Arr Z h a (newA k (.object C) z) (.object C)) (O : Ovr Z k C) (q : List.replicate z.toNatClampNeg Value.null = vs) : RA Z h a C vs := by
  subst q
  exact ⟨_, A, by simp [newA, defaultValue], by rw [List.length_replicate]; exact clamp_lt z, O⟩
theorem stRA (X : Stand p l e R s m args below meth c T locs cells slots) (hx : p.tables.exec = Jvm.exec) (hZ : Z.Warmed39 s.vm) (eT : T.heap = h) (F : RA Z h a C vs) {j : Int32} {y : Addr} (n : Nat) (hl : vs.length = n) (hj : 0 ≤ j.toInt ∧ j.toInt < (n : Int)) (I : Ins Z h y C true) {g : JFrame} (hg : g.method = m) {rest : List Value} (hs : g.stack = .ref y :: .int j :: .ref a :: rest) (hd : decode c.code g.pc = .ok (.aastore, 1)) :
    ∃ T' h', Stand p l e R s m args below meth c T' (locs ++ [⟨a, j.toNatClampNeg⟩]) cells slots ∧ T'.heap = h' ∧ Wr h h' a j.toNatClampNeg (.ref y) ∧ RA Z h' a C (vs.set j.toNatClampNeg (.ref y)) ∧ ∀ target, Steps p.tables e below (T'.setTop { g with pc := g.pc + 1, stack := rest }) target → Steps p.tables e below (T.setTop g) target := by
  obtain ⟨cl, A, q, r, O⟩ := F
  have hsz : cl.slots.size = n := by rw [q]; simp [hl]
  obtain ⟨T', h', X', e', W, st⟩ := stR X hx hZ eT A (inb_of' hsz hj) rfl (Sto.of A O I) hg hs hd
  exact ⟨T', h', X', e', W, ⟨_, A.same W, by simp [Cell.setSlot, q], by simpa using r, O⟩, st⟩
theorem ldRA (X : Stand p l e R s m args below meth c T locs cells slots) (hx : p.tables.exec = Jvm.exec) (hZ : Z.Warmed39 s.vm) (eT : T.heap = h) (F : RA Z h a C vs) {j : Int32} (n : Nat) (hl : vs.length = n) (hj : 0 ≤ j.toInt ∧ j.toInt < (n : Int)) (hv : vs[j.toNatClampNeg]? = some v) {g : JFrame} (hg : g.method = m) {rest : List Value} (hs : g.stack = .int j :: .ref a :: rest) (hd : decode c.code g.pc = .ok (.aaload, 1)) :
    ∀ target, Steps p.tables e below (T.setTop { g with pc := g.pc + 1, stack := v :: rest }) target → Steps p.tables e below (T.setTop g) target := by
  obtain ⟨cl, A, q, r, O⟩ := F
  have hsz : cl.slots.size = n := by rw [q]; simp [hl]
  exact X.aaload hx (by rw [eT]; exact A.1) (State.isArrayOf_alike hZ.alike A.2.1) rfl A.2.2 (inb_of' hsz hj) (by rw [q]; simpa using hv) hg hs hd
theorem ldAV (X : Stand p l e R s m args below meth c T locs cells slots) (hx : p.tables.exec = Jvm.exec) (hZ : Z.Warmed39 s.vm) (eT : T.heap = h) (F : AV Z h a ty vs) (hty : ty.isReference = true) {j : Int32} (n : Nat) (hl : vs.length = n) (hj : 0 ≤ j.toInt ∧ j.toInt < (n : Int)) (hv : vs[j.toNatClampNeg]? = some v) {g : JFrame} (hg : g.method = m) {rest : List Value} (hs : g.stack = .int j :: .ref a :: rest) (hd : decode c.code g.pc = .ok (.aaload, 1)) :
    ∀ target, Steps p.tables e below (T.setTop { g with pc := g.pc + 1, stack := v :: rest }) target → Steps p.tables e below (T.setTop g) target := by
  obtain ⟨cl, A, q, r⟩ := F
  have hsz : cl.slots.size = n := by rw [q]; simp [hl]
  exact X.aaload hx (by rw [eT]; exact A.1) (State.isArrayOf_alike hZ.alike A.2.1) hty A.2.2 (inb_of' hsz hj) (by rw [q]; simpa using hv) hg hs hd
def ga (as : List Addr) (j : Int32) : Addr := as.getD j.toNatClampNeg 0
theorem ga_at {as : List Addr} {j : Int32} {n : Nat} (hl : as.length = n) (hj : 0 ≤ j.toInt ∧ j.toInt < (n : Int)) : (as.map Value.ref)[j.toNatClampNeg]? = some (.ref (ga as j)) := by
  have : j.toNatClampNeg < as.length := by rw [hl]; exact (clamp_of hj).1
  simp [ga, List.getD_eq_getElem?_getD, this]
theorem ga_all {as : List Addr} {j : Int32} {n : Nat} {P : Addr → Prop} (hl : as.length = n) (hj : 0 ≤ j.toInt ∧ j.toInt < (n : Int)) (q : ∀ x ∈ as, P x) : P (ga as j) := by
  have h : j.toNatClampNeg < as.length := by rw [hl]; exact (clamp_of hj).1
  have : ga as j = as[j.toNatClampNeg] := by simp [ga, List.getD_eq_getElem?_getD, h]
  rw [this]; exact q _ (List.getElem_mem h)
theorem size_wr (W : Wr h h' a sl v) {n : Nat} (q : n ≤ h.size) : n ≤ h'.size := by rw [W.size]; exact q
end Arrays
end Jvm.Own
namespace Jvm.RoadKit
open Sem ClassFile Op Lib Jvm.Stand Jvm.Free Jvm.LawKit
section New
variable {p : Program} {l : Launch} {e : Env} {R : Room} {s : State} {m : MethodId} {args : Array Value} {below : List Frame} {meth : Method} {c : Code} {T : State} {locs : List Loc} {cells slots : Nat}
theorem retI (X : Stand p l e R s m args below meth c T locs cells slots) (hx : p.tables.exec = Jvm.exec) {pc : Nat} {Ls : Array Slot} {z : Int32} {rest : List Value} (hret : meth.sig.returnType = some .int) (hd : decode c.code pc = .ok (.ireturn, 1)) {fs : List Frame}
    (hl : ∀ (f : JFrame) (acts : List Action), f.method = m → f.locked = none → f.entered = [] → (doReturn e (T.setTop f) acts (some (.int z))).1 = T.setFrames fs) : Steps p.tables e below (T.setTop (mkF m pc Ls (.int z :: rest))) (T.setFrames fs) := by
  have hm' : T.vm.method? m = some meth := X.method'
  have hn : narrow .int (.int z) = .int z := rfl
  show Steps p.tables e below (T.setTop { method := m, pc := pc, locals := Ls, stack := _ :: rest, locked := none }) _
  jvm_step X.here [X.here.top, hx, hd, hm', hret, hn]
  first | (intro acts; rw [hl _ acts rfl rfl rfl]) | rw [hl _ _ rfl rfl rfl]
  exact Steps.refl _
theorem retA (X : Stand p l e R s m args below meth c T locs cells slots) (hx : p.tables.exec = Jvm.exec) {pc : Nat} {Ls : Array Slot} {z : Value} {t : FieldType} {rest : List Value} (hret : meth.sig.returnType = some t) (ht : t.isReference = true) (hz : z.isRef = true) (hd : decode c.code pc = .ok (.areturn, 1)) {fs : List Frame}
    (hl : ∀ (f : JFrame) (acts : List Action), f.method = m → f.locked = none → f.entered = [] → (doReturn e (T.setTop f) acts (some z)).1 = T.setFrames fs) : Steps p.tables e below (T.setTop (mkF m pc Ls (z :: rest))) (T.setFrames fs) := by
  have hm' : T.vm.method? m = some meth := X.method'
  show Steps p.tables e below (T.setTop { method := m, pc := pc, locals := Ls, stack := _ :: rest, locked := none }) _
  jvm_step X.here [X.here.top, hx, hd, hm', hret, ht, hz]
  first | (intro acts; rw [hl _ acts rfl rfl rfl]) | rw [hl _ _ rfl rfl rfl]
  exact Steps.refl _
end New
end Jvm.RoadKit
namespace Jvm.Pilot.@@N@@
open Jvm Jvm.ClassFile Sem Op Lib Jvm.Free Jvm.Stand Jvm.LawKit Jvm.RoadKit Bundle Jvm.Pilot.@@N@@.Jvm.D
theorem own_tab {x : Int32} {k : Int} (h : ¬ x = Int32.ofInt k) (h1 : -2147483648 ≤ k) (h2 : k < 2147483648) : x.toInt ≠ k := fun q => h (by rw [← q]; exact (Int32.ofInt_toInt x).symm)
theorem own_i2c_and (x : Int32) : x.toUInt32.toUInt16.toUInt32.toInt32 = x &&& 65535 := by
  apply Int32.toBitVec_inj.mp
  apply BitVec.toNat_inj.mp
  have h : ((x &&& 65535).toBitVec.toNat) = x.toBitVec.toNat % 2 ^ 16 := by
    show (x.toBitVec &&& (65535 : Int32).toBitVec).toNat = _
    rw [BitVec.toNat_and, show (65535 : Int32).toBitVec.toNat = 2 ^ 16 - 1 from rfl, Nat.and_two_pow_sub_one_eq_mod]
  rw [h]
  show x.toBitVec.toNat % 2 ^ 16 = _
  rfl
theorem own_i2c (x : Int32) : (x.toUInt32.toUInt16.toUInt32.toInt32).toInt = x.toInt % 65536 := by
  rw [own_i2c_and]; exact Jvm.Kit.i32_mask x 65535 (k := 16) (by decide) (by decide)

theorem own_eqint {args : Array Value} {first s : State} {o : Option Outcome} {idx : List Nat} {t : Term} {k : Int32} (h : (Jvm.Cond.eq t (.int k)).value args first o s idx = some true) : t.eval args first o idx s = some (.int k) := by
  cases ha : t.eval args first o idx s with
  | none => simp [Cond.value, ha] at h
  | some x => cases x <;> simp [Cond.value, ha, Term.eval] at h ⊢; exact h
theorem own_fldne {Z : State} {h : Heap} {a b : Addr} {C n d : String} {v w : Value} (F : Fld Z h a C n d v) (G : Fld Z h b C n d w) (q : v ≠ w) : a ≠ b := by
  rintro rfl
  obtain ⟨c1, _, _, _, f1, h1, h2, _, _, _, _, h3⟩ := F
  obtain ⟨c2, _, _, _, f2, g1, g2, _, _, _, _, g3⟩ := G
  cases h1.symm.trans g1
  cases h2.symm.trans g2
  exact q (Option.some.inj (h3.symm.trans g3))

theorem own_eqref {args : Array Value} {first s : State} {o : Option Outcome} {idx : List Nat} {a b : Term} {w : Addr} (h : (Jvm.Cond.eq a b).value args first o s idx = some true) (hb : b.eval args first o idx s = some (.ref w)) : a.eval args first o idx s = some (.ref w) := by
  cases ha : a.eval args first o idx s with
  | none => simp [Cond.value, ha] at h
  | some x => cases x <;> simp [Cond.value, ha, hb] at h ⊢; exact h

theorem own_arr3 {Z : State} {h : Heap} {a : Addr} {c : Cell} {ty : FieldType} {v0 v1 v2 : Value} (A : Arr Z h a c ty) (sz : c.slots.size = 3) (e0 : c.slots[0]? = some v0) (e1 : c.slots[1]? = some v1) (e2 : c.slots[2]? = some v2) : Own.AV Z h a ty [v0, v1, v2] := by
  refine ⟨c, A, ?_, (by show 3 < 2147483648; decide)⟩
  apply Array.ext
  · simpa using sz
  · intro i h1 h2
    have hi : i = 0 ∨ i = 1 ∨ i = 2 := by omega
    rcases hi with rfl | rfl | rfl
    · rw [Array.getElem?_eq_getElem h1] at e0; simpa using Option.some.inj e0
    · rw [Array.getElem?_eq_getElem h1] at e1; simpa using Option.some.inj e1
    · rw [Array.getElem?_eq_getElem h1] at e2; simpa using Option.some.inj e2
theorem own_size3 {args : Array Value} {first s : State} {o : Option Outcome} {idx : List Nat} {t : Term} {a : Addr} {c : Cell} (ht : t.eval args first o idx s = some (.ref a)) (ha : s.arrayAt? a = some c) (h : (Term.length t).eval args first o idx s = some (.int (3 : Int32))) : c.slots.size = 3 := by
  have hlt : c.slots.size < 2 ^ 31 := by
    by_cases q : c.slots.size < 2 ^ 31
    · exact q
    · simp [Term.eval, ht, ha, q] at h
  rw [len_f ht ha hlt] at h
  have e : c.slots.size.toInt32 = 3 := by simpa using h
  have := len_toInt hlt
  rw [e, show (3 : Int32).toInt = 3 from rfl] at this; omega

theorem d1_0 : decode prog_1_method_4_code 0 = .ok (.getstatic 40, 3) := by decide +kernel
theorem d1_3 : decode prog_1_method_4_code 3 = .ok (.astore_n 1, 1) := by decide +kernel
theorem d1_4 : decode prog_1_method_4_code 4 = .ok (.aload_n 1, 1) := by decide +kernel
theorem d1_5 : decode prog_1_method_4_code 5 = .ok (.arraylength, 1) := by decide +kernel
theorem d1_6 : decode prog_1_method_4_code 6 = .ok (.istore_n 2, 1) := by decide +kernel
theorem d1_7 : decode prog_1_method_4_code 7 = .ok (.iconst 0, 1) := by decide +kernel
theorem d1_8 : decode prog_1_method_4_code 8 = .ok (.istore_n 3, 1) := by decide +kernel
theorem d1_9 : decode prog_1_method_4_code 9 = .ok (.iload_n 3, 1) := by decide +kernel
theorem d1_10 : decode prog_1_method_4_code 10 = .ok (.iload_n 2, 1) := by decide +kernel
theorem d1_11 : decode prog_1_method_4_code 11 = .ok (.if_icmp .ge 26, 3) := by decide +kernel
theorem d1_14 : decode prog_1_method_4_code 14 = .ok (.aload_n 1, 1) := by decide +kernel
theorem d1_15 : decode prog_1_method_4_code 15 = .ok (.iload_n 3, 1) := by decide +kernel
theorem d1_16 : decode prog_1_method_4_code 16 = .ok (.aaload, 1) := by decide +kernel
theorem d1_17 : decode prog_1_method_4_code 17 = .ok (.astore 4, 2) := by decide +kernel
theorem d1_19 : decode prog_1_method_4_code 19 = .ok (.aload 4, 2) := by decide +kernel
theorem d1_21 : decode prog_1_method_4_code 21 = .ok (.getfield 32, 3) := by decide +kernel
theorem d1_24 : decode prog_1_method_4_code 24 = .ok (.iload_n 0, 1) := by decide +kernel
theorem d1_25 : decode prog_1_method_4_code 25 = .ok (.if_icmp .ne 6, 3) := by decide +kernel
theorem d1_28 : decode prog_1_method_4_code 28 = .ok (.aload 4, 2) := by decide +kernel
theorem d1_30 : decode prog_1_method_4_code 30 = .ok (.areturn, 1) := by decide +kernel
theorem d1_31 : decode prog_1_method_4_code 31 = .ok (.iinc 3 1, 3) := by decide +kernel
theorem d1_34 : decode prog_1_method_4_code 34 = .ok (.goto (-25), 3) := by decide +kernel
theorem pn_rm1 : plainName "sevenwide/Form" = true := by first | (simp [plainName, overriddenIn]; done) | decide +kernel
theorem ef_rm1 (m : MethodId) (p0 : Int32) : entryFrame m #[(.int p0)] 5 = mkF m 0 #[.val (.int p0), .unset, .unset, .unset, .unset] [] := by first | (simp [entryFrame, mkF, argsToLocals, Value.category]; done) | rfl
def G1 (p0 : Int32) (w_LEFT_A w_RIGHT w_LEFT_B : Addr) : Addr := if (97 : Int32) = p0 then w_LEFT_A else if (99 : Int32) = p0 then w_RIGHT else w_LEFT_B
def Q_rm1 (Z : State) (p0 : Int32) (w_LEFT_A : Addr) (w_RIGHT : Addr) (w_LEFT_B : Addr) (w_FORMS : Addr) (h0 : Heap) (n0 : Nat) (v : Option Value) (h : Heap) (L : List Loc) : Prop := v = some (.ref (G1 p0 w_LEFT_A w_RIGHT w_LEFT_B)) ∧ Fr n0 L ∧ h = h0
set_option maxRecDepth 65536 in
set_option maxHeartbeats 40000000 in
theorem rm1 (l : Launch) (Z : State) (a0 : Array Value) (hw : ∀ d ∈ tables_1, d.before a0 Z = true) (ws : List Jvm.Cond) (p0 : Int32) (w_LEFT_A : Addr) (w_RIGHT : Addr) (w_LEFT_B : Addr) (w_FORMS : Addr) (h0 : Heap) (n0 : Nat) (Z0 : n0 ≤ h0.size) (S_FORMS : Sta Z h0 "sevenwide/Form" "FORMS" "[Lsevenwide/Form;" (.ref w_FORMS)) (A_FORMS : Own.AV Z h0 w_FORMS (.object "sevenwide/Form") [(.ref w_LEFT_A), (.ref w_RIGHT), (.ref w_LEFT_B)]) (F_w_LEFT_A_letter : Fld Z h0 w_LEFT_A "sevenwide/Form" "letter" "C" (.int (97 : Int32))) (F_w_RIGHT_letter : Fld Z h0 w_RIGHT "sevenwide/Form" "letter" "C" (.int (99 : Int32))) (F_w_LEFT_B_letter : Fld Z h0 w_LEFT_B "sevenwide/Form" "letter" "C" (.int (98 : Int32))) (hp : p0 = (97 : Int32) ∨ p0 = (98 : Int32) ∨ p0 = (99 : Int32)) :
    MetFree l (⟨"sevenwide/Form", "ofParity", "(C)Lsevenwide/Form;"⟩ : MethodName) (head1 (Jvm.Cond.code (⟨"sevenwide/Form", "ofParity", "(C)Lsevenwide/Form;"⟩ : MethodName) prog_1_method_4_code 5 (some (.object "sevenwide/Form")) :: ws) ({ frames := 0, cells := 0, slots := 0, locals := 0 } : Room)) (fun a U => a = #[(.int p0)] ∧ Z.Warmed39 U.vm ∧ U.heap = h0) (fun _ _ _ _ _ => True) (fun _ U o U' => ∃ v L, o = .returned v ∧ Q_rm1 Z p0 w_LEFT_A w_RIGHT w_LEFT_B w_FORMS h0 n0 v U'.heap L ∧ FrameEnd U o U' L ({ frames := 0, cells := 0, slots := 0, locals := 0 } : Room).cells ({ frames := 0, cells := 0, slots := 0, locals := 0 } : Room).slots) := by
  refine MetFree.of_bodySF (plainFor_of_name pn_rm1) hisR ?_
  intro p e s m args below meth c s₁ Bd hml0 hP hK
  obtain ⟨rfl, hZ, hh⟩ := hP
  have hx := Bd.exec
  have hby := Bd.bytes
  have hml : c.maxLocals = 5 := hml0
  have hown : s.vm.findClass "sevenwide/Form" = some m.cls := findClass_of_methodNamed Bd.named
  have hnm := (name_of_methodNamed Bd.named Bd.method).1
  have X0 : Stand p l e ({ frames := 0, cells := 0, slots := 0, locals := 0 } : Room) s m #[(.int p0)] below meth c s₁ [] 0 0 := Stand.of_body Bd
  have e0 : s₁.heap = h0 := by rw [← hh, Bd.state]; rfl
  have N0 := Fr.nil n0
  have q0 : Steps p.tables e below (s₁.setTop (entryFrame m #[(.int p0)] 5)) (s₁.setTop (mkF m 0 #[.val (.int p0), .unset, .unset, .unset, .unset] [])) := castTop (ef_rm1 m p0) (Steps.refl _)
  obtain ⟨T1, X1, e1, st1⟩ := getS2 X0 hx hZ hown (host := "") (Or.inl (hw _ (List.mem_of_getElem? (i := 7) rfl))) Via.refl e0 S_FORMS (g := (mkF m 0 #[.val (.int p0), .unset, .unset, .unset, .unset] [])) rfl (hb hby d1_0)
  have q2 : Steps p.tables e below (s₁.setTop (entryFrame m #[(.int p0)] 5)) (T1.setTop (mkF m 3 #[.val (.int p0), .unset, .unset, .unset, .unset] [(.ref w_FORMS)])) := q0.trans (st1 _ (Steps.refl _))
  have q3 : Steps p.tables e below (s₁.setTop (entryFrame m #[(.int p0)] 5)) (T1.setTop (mkF m 21 #[.val (.int p0), .val (.ref w_FORMS), .val (.int (3 : Int32)), .val (.int (0 : Int32)), .val (.ref w_LEFT_A)] [(.ref w_LEFT_A)])) := q2.trans (by
      show Steps p.tables e below (T1.setTop (mkF m 3 #[.val (.int p0), .unset, .unset, .unset, .unset] [(.ref w_FORMS)])) _
      refine XS.astoreN X1.here hx rfl (hb hby d1_3) rfl rfl (l' := #[.val (.int p0), .val (.ref w_FORMS), .unset, .unset, .unset]) rfl ?_
      show Steps p.tables e below (T1.setTop (mkF m 4 #[.val (.int p0), .val (.ref w_FORMS), .unset, .unset, .unset] [])) _
      refine XS.aloadN X1.here hx rfl (hb hby d1_4) rfl rfl ?_
      show Steps p.tables e below (T1.setTop (mkF m 5 #[.val (.int p0), .val (.ref w_FORMS), .unset, .unset, .unset] [(.ref w_FORMS)])) _
      refine Own.lnV X1 hx hZ e1 A_FORMS (z := (3 : Int32)) rfl (g := (mkF m 5 #[.val (.int p0), .val (.ref w_FORMS), .unset, .unset, .unset] [(.ref w_FORMS)])) rfl rfl (hb hby d1_5) _ ?_
      show Steps p.tables e below (T1.setTop (mkF m 6 #[.val (.int p0), .val (.ref w_FORMS), .unset, .unset, .unset] [(.int (3 : Int32))])) _
      refine XS.istoreN X1.here hx rfl (hb hby d1_6) rfl (l' := #[.val (.int p0), .val (.ref w_FORMS), .val (.int (3 : Int32)), .unset, .unset]) rfl ?_
      show Steps p.tables e below (T1.setTop (mkF m 7 #[.val (.int p0), .val (.ref w_FORMS), .val (.int (3 : Int32)), .unset, .unset] [])) _
      refine XS.iconst X1.here hx rfl (hb hby d1_7) ?_
      show Steps p.tables e below (T1.setTop (mkF m 8 #[.val (.int p0), .val (.ref w_FORMS), .val (.int (3 : Int32)), .unset, .unset] [(.int (0 : Int32))])) _
      refine XS.istoreN X1.here hx rfl (hb hby d1_8) rfl (l' := #[.val (.int p0), .val (.ref w_FORMS), .val (.int (3 : Int32)), .val (.int (0 : Int32)), .unset]) rfl ?_
      show Steps p.tables e below (T1.setTop (mkF m 9 #[.val (.int p0), .val (.ref w_FORMS), .val (.int (3 : Int32)), .val (.int (0 : Int32)), .unset] [])) _
      refine XS.iloadN X1.here hx rfl (hb hby d1_9) rfl ?_
      show Steps p.tables e below (T1.setTop (mkF m 10 #[.val (.int p0), .val (.ref w_FORMS), .val (.int (3 : Int32)), .val (.int (0 : Int32)), .unset] [(.int (0 : Int32))])) _
      refine XS.iloadN X1.here hx rfl (hb hby d1_10) rfl ?_
      show Steps p.tables e below (T1.setTop (mkF m 11 #[.val (.int p0), .val (.ref w_FORMS), .val (.int (3 : Int32)), .val (.int (0 : Int32)), .unset] [(.int (3 : Int32)), (.int (0 : Int32))])) _
      refine XS.icmpNo X1.here hx rfl (hb hby d1_11) rfl (tlt (by decide : (0 : Int32) < (3 : Int32))).2.1 ?_
      show Steps p.tables e below (T1.setTop (mkF m 14 #[.val (.int p0), .val (.ref w_FORMS), .val (.int (3 : Int32)), .val (.int (0 : Int32)), .unset] [])) _
      refine XS.aloadN X1.here hx rfl (hb hby d1_14) rfl rfl ?_
      show Steps p.tables e below (T1.setTop (mkF m 15 #[.val (.int p0), .val (.ref w_FORMS), .val (.int (3 : Int32)), .val (.int (0 : Int32)), .unset] [(.ref w_FORMS)])) _
      refine XS.iloadN X1.here hx rfl (hb hby d1_15) rfl ?_
      show Steps p.tables e below (T1.setTop (mkF m 16 #[.val (.int p0), .val (.ref w_FORMS), .val (.int (3 : Int32)), .val (.int (0 : Int32)), .unset] [(.int (0 : Int32)), (.ref w_FORMS)])) _
      refine Own.ldAV X1 hx hZ e1 A_FORMS rfl 3 rfl (by decide) (v := (.ref w_LEFT_A)) rfl (g := (mkF m 16 #[.val (.int p0), .val (.ref w_FORMS), .val (.int (3 : Int32)), .val (.int (0 : Int32)), .unset] [(.int (0 : Int32)), (.ref w_FORMS)])) rfl rfl (hb hby d1_16) _ ?_
      show Steps p.tables e below (T1.setTop (mkF m 17 #[.val (.int p0), .val (.ref w_FORMS), .val (.int (3 : Int32)), .val (.int (0 : Int32)), .unset] [(.ref w_LEFT_A)])) _
      refine XS.astore X1.here hx rfl (hb hby d1_17) rfl rfl (l' := #[.val (.int p0), .val (.ref w_FORMS), .val (.int (3 : Int32)), .val (.int (0 : Int32)), .val (.ref w_LEFT_A)]) rfl ?_
      show Steps p.tables e below (T1.setTop (mkF m 19 #[.val (.int p0), .val (.ref w_FORMS), .val (.int (3 : Int32)), .val (.int (0 : Int32)), .val (.ref w_LEFT_A)] [])) _
      refine XS.aload X1.here hx rfl (hb hby d1_19) rfl rfl ?_
      show Steps p.tables e below (T1.setTop (mkF m 21 #[.val (.int p0), .val (.ref w_FORMS), .val (.int (3 : Int32)), .val (.int (0 : Int32)), .val (.ref w_LEFT_A)] [(.ref w_LEFT_A)])) _
      exact Steps.refl _)
  obtain ⟨T4, X4, e4, st4⟩ := getF X1 hx hZ hown (host := "") (Or.inl (hw _ (List.mem_of_getElem? (i := 9) rfl))) Via.refl e1 F_w_LEFT_A_letter (g := (mkF m 21 #[.val (.int p0), .val (.ref w_FORMS), .val (.int (3 : Int32)), .val (.int (0 : Int32)), .val (.ref w_LEFT_A)] [(.ref w_LEFT_A)])) rfl rfl (hb hby d1_21)
  have q5 : Steps p.tables e below (s₁.setTop (entryFrame m #[(.int p0)] 5)) (T4.setTop (mkF m 24 #[.val (.int p0), .val (.ref w_FORMS), .val (.int (3 : Int32)), .val (.int (0 : Int32)), .val (.ref w_LEFT_A)] [(.int (97 : Int32))])) := q3.trans (st4 _ (Steps.refl _))
  have q6 : Steps p.tables e below (s₁.setTop (entryFrame m #[(.int p0)] 5)) (T4.setTop (mkF m 25 #[.val (.int p0), .val (.ref w_FORMS), .val (.int (3 : Int32)), .val (.int (0 : Int32)), .val (.ref w_LEFT_A)] [(.int p0), (.int (97 : Int32))])) := q5.trans (by
      show Steps p.tables e below (T4.setTop (mkF m 24 #[.val (.int p0), .val (.ref w_FORMS), .val (.int (3 : Int32)), .val (.int (0 : Int32)), .val (.ref w_LEFT_A)] [(.int (97 : Int32))])) _
      refine XS.iloadN X4.here hx rfl (hb hby d1_24) rfl ?_
      show Steps p.tables e below (T4.setTop (mkF m 25 #[.val (.int p0), .val (.ref w_FORMS), .val (.int (3 : Int32)), .val (.int (0 : Int32)), .val (.ref w_LEFT_A)] [(.int p0), (.int (97 : Int32))])) _
      exact Steps.refl _)
  by_cases hc7 : (97 : Int32) = p0
  · have q8 : Steps p.tables e below (s₁.setTop (entryFrame m #[(.int p0)] 5)) (T4.setTop (mkF m 28 #[.val (.int p0), .val (.ref w_FORMS), .val (.int (3 : Int32)), .val (.int (0 : Int32)), .val (.ref w_LEFT_A)] [])) := q6.trans (by
        show Steps p.tables e below (T4.setTop (mkF m 25 #[.val (.int p0), .val (.ref w_FORMS), .val (.int (3 : Int32)), .val (.int (0 : Int32)), .val (.ref w_LEFT_A)] [(.int p0), (.int (97 : Int32))])) _
        refine XS.icmpNo X4.here hx rfl (hb hby d1_25) rfl (teq hc7).2 ?_
        show Steps p.tables e below (T4.setTop (mkF m 28 #[.val (.int p0), .val (.ref w_FORMS), .val (.int (3 : Int32)), .val (.int (0 : Int32)), .val (.ref w_LEFT_A)] [])) _
        exact Steps.refl _)
    have q9 : Steps p.tables e below (s₁.setTop (entryFrame m #[(.int p0)] 5)) (T4.setTop (mkF m 30 #[.val (.int p0), .val (.ref w_FORMS), .val (.int (3 : Int32)), .val (.int (0 : Int32)), .val (.ref w_LEFT_A)] [(.ref w_LEFT_A)])) := q8.trans (by
        show Steps p.tables e below (T4.setTop (mkF m 28 #[.val (.int p0), .val (.ref w_FORMS), .val (.int (3 : Int32)), .val (.int (0 : Int32)), .val (.ref w_LEFT_A)] [])) _
        refine XS.aload X4.here hx rfl (hb hby d1_28) rfl rfl ?_
        show Steps p.tables e below (T4.setTop (mkF m 30 #[.val (.int p0), .val (.ref w_FORMS), .val (.int (3 : Int32)), .val (.int (0 : Int32)), .val (.ref w_LEFT_A)] [(.ref w_LEFT_A)])) _
        exact Steps.refl _)
    obtain ⟨fs, hr, hrun, hended, hW, hsame⟩ := X4.leave (v := some (.ref w_LEFT_A)) (fun h => by rw [Bd.returns] at h; cases h)
    refine ⟨_, _, q9.trans ?_, hrun, hended, _, _, rfl, ?_, ⟨_, rfl⟩, hW, hsame.mono (by decide) (by decide)⟩
    · exact retA X4 hx Bd.returns rfl rfl (hb hby d1_30) hr
    · show Q_rm1 Z p0 w_LEFT_A w_RIGHT w_LEFT_B w_FORMS h0 n0 _ T4.heap _
      rw [e4]
      exact ⟨(by unfold G1; rw [if_pos hc7]), N0, rfl⟩
  · have q10 : Steps p.tables e below (s₁.setTop (entryFrame m #[(.int p0)] 5)) (T4.setTop (mkF m 31 #[.val (.int p0), .val (.ref w_FORMS), .val (.int (3 : Int32)), .val (.int (0 : Int32)), .val (.ref w_LEFT_A)] [])) := q6.trans (by
        show Steps p.tables e below (T4.setTop (mkF m 25 #[.val (.int p0), .val (.ref w_FORMS), .val (.int (3 : Int32)), .val (.int (0 : Int32)), .val (.ref w_LEFT_A)] [(.int p0), (.int (97 : Int32))])) _
        refine XS.icmpYes X4.here hx rfl (pc0 := 25) (pc' := 31) rfl (hb hby d1_25) rfl (feq hc7).2 (by decide) (by decide) ?_
        show Steps p.tables e below (T4.setTop (mkF m 31 #[.val (.int p0), .val (.ref w_FORMS), .val (.int (3 : Int32)), .val (.int (0 : Int32)), .val (.ref w_LEFT_A)] [])) _
        exact Steps.refl _)
    have q11 : Steps p.tables e below (s₁.setTop (entryFrame m #[(.int p0)] 5)) (T4.setTop (mkF m 21 #[.val (.int p0), .val (.ref w_FORMS), .val (.int (3 : Int32)), .val (.int (1 : Int32)), .val (.ref w_RIGHT)] [(.ref w_RIGHT)])) := q10.trans (by
        show Steps p.tables e below (T4.setTop (mkF m 31 #[.val (.int p0), .val (.ref w_FORMS), .val (.int (3 : Int32)), .val (.int (0 : Int32)), .val (.ref w_LEFT_A)] [])) _
        refine XS.iinc X4.here hx rfl (hb hby d1_31) rfl (l' := #[.val (.int p0), .val (.ref w_FORMS), .val (.int (3 : Int32)), .val (.int (1 : Int32)), .val (.ref w_LEFT_A)]) rfl ?_
        show Steps p.tables e below (T4.setTop (mkF m 34 #[.val (.int p0), .val (.ref w_FORMS), .val (.int (3 : Int32)), .val (.int (1 : Int32)), .val (.ref w_LEFT_A)] [])) _
        refine XS.goto X4.here hx rfl (pc0 := 34) (pc' := 9) rfl (hb hby d1_34) (by decide) (by decide) ?_
        show Steps p.tables e below (T4.setTop (mkF m 9 #[.val (.int p0), .val (.ref w_FORMS), .val (.int (3 : Int32)), .val (.int (1 : Int32)), .val (.ref w_LEFT_A)] [])) _
        refine XS.iloadN X4.here hx rfl (hb hby d1_9) rfl ?_
        show Steps p.tables e below (T4.setTop (mkF m 10 #[.val (.int p0), .val (.ref w_FORMS), .val (.int (3 : Int32)), .val (.int (1 : Int32)), .val (.ref w_LEFT_A)] [(.int (1 : Int32))])) _
        refine XS.iloadN X4.here hx rfl (hb hby d1_10) rfl ?_
        show Steps p.tables e below (T4.setTop (mkF m 11 #[.val (.int p0), .val (.ref w_FORMS), .val (.int (3 : Int32)), .val (.int (1 : Int32)), .val (.ref w_LEFT_A)] [(.int (3 : Int32)), (.int (1 : Int32))])) _
        refine XS.icmpNo X4.here hx rfl (hb hby d1_11) rfl (tlt (by decide : (1 : Int32) < (3 : Int32))).2.1 ?_
        show Steps p.tables e below (T4.setTop (mkF m 14 #[.val (.int p0), .val (.ref w_FORMS), .val (.int (3 : Int32)), .val (.int (1 : Int32)), .val (.ref w_LEFT_A)] [])) _
        refine XS.aloadN X4.here hx rfl (hb hby d1_14) rfl rfl ?_
        show Steps p.tables e below (T4.setTop (mkF m 15 #[.val (.int p0), .val (.ref w_FORMS), .val (.int (3 : Int32)), .val (.int (1 : Int32)), .val (.ref w_LEFT_A)] [(.ref w_FORMS)])) _
        refine XS.iloadN X4.here hx rfl (hb hby d1_15) rfl ?_
        show Steps p.tables e below (T4.setTop (mkF m 16 #[.val (.int p0), .val (.ref w_FORMS), .val (.int (3 : Int32)), .val (.int (1 : Int32)), .val (.ref w_LEFT_A)] [(.int (1 : Int32)), (.ref w_FORMS)])) _
        refine Own.ldAV X4 hx hZ e4 A_FORMS rfl 3 rfl (by decide) (v := (.ref w_RIGHT)) rfl (g := (mkF m 16 #[.val (.int p0), .val (.ref w_FORMS), .val (.int (3 : Int32)), .val (.int (1 : Int32)), .val (.ref w_LEFT_A)] [(.int (1 : Int32)), (.ref w_FORMS)])) rfl rfl (hb hby d1_16) _ ?_
        show Steps p.tables e below (T4.setTop (mkF m 17 #[.val (.int p0), .val (.ref w_FORMS), .val (.int (3 : Int32)), .val (.int (1 : Int32)), .val (.ref w_LEFT_A)] [(.ref w_RIGHT)])) _
        refine XS.astore X4.here hx rfl (hb hby d1_17) rfl rfl (l' := #[.val (.int p0), .val (.ref w_FORMS), .val (.int (3 : Int32)), .val (.int (1 : Int32)), .val (.ref w_RIGHT)]) rfl ?_
        show Steps p.tables e below (T4.setTop (mkF m 19 #[.val (.int p0), .val (.ref w_FORMS), .val (.int (3 : Int32)), .val (.int (1 : Int32)), .val (.ref w_RIGHT)] [])) _
        refine XS.aload X4.here hx rfl (hb hby d1_19) rfl rfl ?_
        show Steps p.tables e below (T4.setTop (mkF m 21 #[.val (.int p0), .val (.ref w_FORMS), .val (.int (3 : Int32)), .val (.int (1 : Int32)), .val (.ref w_RIGHT)] [(.ref w_RIGHT)])) _
        exact Steps.refl _)
    obtain ⟨T12, X12, e12, st12⟩ := getF X4 hx hZ hown (host := "") (Or.inl (hw _ (List.mem_of_getElem? (i := 9) rfl))) Via.refl e4 F_w_RIGHT_letter (g := (mkF m 21 #[.val (.int p0), .val (.ref w_FORMS), .val (.int (3 : Int32)), .val (.int (1 : Int32)), .val (.ref w_RIGHT)] [(.ref w_RIGHT)])) rfl rfl (hb hby d1_21)
    have q13 : Steps p.tables e below (s₁.setTop (entryFrame m #[(.int p0)] 5)) (T12.setTop (mkF m 24 #[.val (.int p0), .val (.ref w_FORMS), .val (.int (3 : Int32)), .val (.int (1 : Int32)), .val (.ref w_RIGHT)] [(.int (99 : Int32))])) := q11.trans (st12 _ (Steps.refl _))
    have q14 : Steps p.tables e below (s₁.setTop (entryFrame m #[(.int p0)] 5)) (T12.setTop (mkF m 25 #[.val (.int p0), .val (.ref w_FORMS), .val (.int (3 : Int32)), .val (.int (1 : Int32)), .val (.ref w_RIGHT)] [(.int p0), (.int (99 : Int32))])) := q13.trans (by
        show Steps p.tables e below (T12.setTop (mkF m 24 #[.val (.int p0), .val (.ref w_FORMS), .val (.int (3 : Int32)), .val (.int (1 : Int32)), .val (.ref w_RIGHT)] [(.int (99 : Int32))])) _
        refine XS.iloadN X12.here hx rfl (hb hby d1_24) rfl ?_
        show Steps p.tables e below (T12.setTop (mkF m 25 #[.val (.int p0), .val (.ref w_FORMS), .val (.int (3 : Int32)), .val (.int (1 : Int32)), .val (.ref w_RIGHT)] [(.int p0), (.int (99 : Int32))])) _
        exact Steps.refl _)
    by_cases hc15 : (99 : Int32) = p0
    · have q16 : Steps p.tables e below (s₁.setTop (entryFrame m #[(.int p0)] 5)) (T12.setTop (mkF m 28 #[.val (.int p0), .val (.ref w_FORMS), .val (.int (3 : Int32)), .val (.int (1 : Int32)), .val (.ref w_RIGHT)] [])) := q14.trans (by
          show Steps p.tables e below (T12.setTop (mkF m 25 #[.val (.int p0), .val (.ref w_FORMS), .val (.int (3 : Int32)), .val (.int (1 : Int32)), .val (.ref w_RIGHT)] [(.int p0), (.int (99 : Int32))])) _
          refine XS.icmpNo X12.here hx rfl (hb hby d1_25) rfl (teq hc15).2 ?_
          show Steps p.tables e below (T12.setTop (mkF m 28 #[.val (.int p0), .val (.ref w_FORMS), .val (.int (3 : Int32)), .val (.int (1 : Int32)), .val (.ref w_RIGHT)] [])) _
          exact Steps.refl _)
      have q17 : Steps p.tables e below (s₁.setTop (entryFrame m #[(.int p0)] 5)) (T12.setTop (mkF m 30 #[.val (.int p0), .val (.ref w_FORMS), .val (.int (3 : Int32)), .val (.int (1 : Int32)), .val (.ref w_RIGHT)] [(.ref w_RIGHT)])) := q16.trans (by
          show Steps p.tables e below (T12.setTop (mkF m 28 #[.val (.int p0), .val (.ref w_FORMS), .val (.int (3 : Int32)), .val (.int (1 : Int32)), .val (.ref w_RIGHT)] [])) _
          refine XS.aload X12.here hx rfl (hb hby d1_28) rfl rfl ?_
          show Steps p.tables e below (T12.setTop (mkF m 30 #[.val (.int p0), .val (.ref w_FORMS), .val (.int (3 : Int32)), .val (.int (1 : Int32)), .val (.ref w_RIGHT)] [(.ref w_RIGHT)])) _
          exact Steps.refl _)
      obtain ⟨fs, hr, hrun, hended, hW, hsame⟩ := X12.leave (v := some (.ref w_RIGHT)) (fun h => by rw [Bd.returns] at h; cases h)
      refine ⟨_, _, q17.trans ?_, hrun, hended, _, _, rfl, ?_, ⟨_, rfl⟩, hW, hsame.mono (by decide) (by decide)⟩
      · exact retA X12 hx Bd.returns rfl rfl (hb hby d1_30) hr
      · show Q_rm1 Z p0 w_LEFT_A w_RIGHT w_LEFT_B w_FORMS h0 n0 _ T12.heap _
        rw [e12]
        exact ⟨(by unfold G1; rw [if_neg hc7, if_pos hc15]), N0, rfl⟩
    · have q18 : Steps p.tables e below (s₁.setTop (entryFrame m #[(.int p0)] 5)) (T12.setTop (mkF m 31 #[.val (.int p0), .val (.ref w_FORMS), .val (.int (3 : Int32)), .val (.int (1 : Int32)), .val (.ref w_RIGHT)] [])) := q14.trans (by
          show Steps p.tables e below (T12.setTop (mkF m 25 #[.val (.int p0), .val (.ref w_FORMS), .val (.int (3 : Int32)), .val (.int (1 : Int32)), .val (.ref w_RIGHT)] [(.int p0), (.int (99 : Int32))])) _
          refine XS.icmpYes X12.here hx rfl (pc0 := 25) (pc' := 31) rfl (hb hby d1_25) rfl (feq hc15).2 (by decide) (by decide) ?_
          show Steps p.tables e below (T12.setTop (mkF m 31 #[.val (.int p0), .val (.ref w_FORMS), .val (.int (3 : Int32)), .val (.int (1 : Int32)), .val (.ref w_RIGHT)] [])) _
          exact Steps.refl _)
      have q19 : Steps p.tables e below (s₁.setTop (entryFrame m #[(.int p0)] 5)) (T12.setTop (mkF m 21 #[.val (.int p0), .val (.ref w_FORMS), .val (.int (3 : Int32)), .val (.int (2 : Int32)), .val (.ref w_LEFT_B)] [(.ref w_LEFT_B)])) := q18.trans (by
          show Steps p.tables e below (T12.setTop (mkF m 31 #[.val (.int p0), .val (.ref w_FORMS), .val (.int (3 : Int32)), .val (.int (1 : Int32)), .val (.ref w_RIGHT)] [])) _
          refine XS.iinc X12.here hx rfl (hb hby d1_31) rfl (l' := #[.val (.int p0), .val (.ref w_FORMS), .val (.int (3 : Int32)), .val (.int (2 : Int32)), .val (.ref w_RIGHT)]) rfl ?_
          show Steps p.tables e below (T12.setTop (mkF m 34 #[.val (.int p0), .val (.ref w_FORMS), .val (.int (3 : Int32)), .val (.int (2 : Int32)), .val (.ref w_RIGHT)] [])) _
          refine XS.goto X12.here hx rfl (pc0 := 34) (pc' := 9) rfl (hb hby d1_34) (by decide) (by decide) ?_
          show Steps p.tables e below (T12.setTop (mkF m 9 #[.val (.int p0), .val (.ref w_FORMS), .val (.int (3 : Int32)), .val (.int (2 : Int32)), .val (.ref w_RIGHT)] [])) _
          refine XS.iloadN X12.here hx rfl (hb hby d1_9) rfl ?_
          show Steps p.tables e below (T12.setTop (mkF m 10 #[.val (.int p0), .val (.ref w_FORMS), .val (.int (3 : Int32)), .val (.int (2 : Int32)), .val (.ref w_RIGHT)] [(.int (2 : Int32))])) _
          refine XS.iloadN X12.here hx rfl (hb hby d1_10) rfl ?_
          show Steps p.tables e below (T12.setTop (mkF m 11 #[.val (.int p0), .val (.ref w_FORMS), .val (.int (3 : Int32)), .val (.int (2 : Int32)), .val (.ref w_RIGHT)] [(.int (3 : Int32)), (.int (2 : Int32))])) _
          refine XS.icmpNo X12.here hx rfl (hb hby d1_11) rfl (tlt (by decide : (2 : Int32) < (3 : Int32))).2.1 ?_
          show Steps p.tables e below (T12.setTop (mkF m 14 #[.val (.int p0), .val (.ref w_FORMS), .val (.int (3 : Int32)), .val (.int (2 : Int32)), .val (.ref w_RIGHT)] [])) _
          refine XS.aloadN X12.here hx rfl (hb hby d1_14) rfl rfl ?_
          show Steps p.tables e below (T12.setTop (mkF m 15 #[.val (.int p0), .val (.ref w_FORMS), .val (.int (3 : Int32)), .val (.int (2 : Int32)), .val (.ref w_RIGHT)] [(.ref w_FORMS)])) _
          refine XS.iloadN X12.here hx rfl (hb hby d1_15) rfl ?_
          show Steps p.tables e below (T12.setTop (mkF m 16 #[.val (.int p0), .val (.ref w_FORMS), .val (.int (3 : Int32)), .val (.int (2 : Int32)), .val (.ref w_RIGHT)] [(.int (2 : Int32)), (.ref w_FORMS)])) _
          refine Own.ldAV X12 hx hZ e12 A_FORMS rfl 3 rfl (by decide) (v := (.ref w_LEFT_B)) rfl (g := (mkF m 16 #[.val (.int p0), .val (.ref w_FORMS), .val (.int (3 : Int32)), .val (.int (2 : Int32)), .val (.ref w_RIGHT)] [(.int (2 : Int32)), (.ref w_FORMS)])) rfl rfl (hb hby d1_16) _ ?_
          show Steps p.tables e below (T12.setTop (mkF m 17 #[.val (.int p0), .val (.ref w_FORMS), .val (.int (3 : Int32)), .val (.int (2 : Int32)), .val (.ref w_RIGHT)] [(.ref w_LEFT_B)])) _
          refine XS.astore X12.here hx rfl (hb hby d1_17) rfl rfl (l' := #[.val (.int p0), .val (.ref w_FORMS), .val (.int (3 : Int32)), .val (.int (2 : Int32)), .val (.ref w_LEFT_B)]) rfl ?_
          show Steps p.tables e below (T12.setTop (mkF m 19 #[.val (.int p0), .val (.ref w_FORMS), .val (.int (3 : Int32)), .val (.int (2 : Int32)), .val (.ref w_LEFT_B)] [])) _
          refine XS.aload X12.here hx rfl (hb hby d1_19) rfl rfl ?_
          show Steps p.tables e below (T12.setTop (mkF m 21 #[.val (.int p0), .val (.ref w_FORMS), .val (.int (3 : Int32)), .val (.int (2 : Int32)), .val (.ref w_LEFT_B)] [(.ref w_LEFT_B)])) _
          exact Steps.refl _)
      obtain ⟨T20, X20, e20, st20⟩ := getF X12 hx hZ hown (host := "") (Or.inl (hw _ (List.mem_of_getElem? (i := 9) rfl))) Via.refl e12 F_w_LEFT_B_letter (g := (mkF m 21 #[.val (.int p0), .val (.ref w_FORMS), .val (.int (3 : Int32)), .val (.int (2 : Int32)), .val (.ref w_LEFT_B)] [(.ref w_LEFT_B)])) rfl rfl (hb hby d1_21)
      have q21 : Steps p.tables e below (s₁.setTop (entryFrame m #[(.int p0)] 5)) (T20.setTop (mkF m 24 #[.val (.int p0), .val (.ref w_FORMS), .val (.int (3 : Int32)), .val (.int (2 : Int32)), .val (.ref w_LEFT_B)] [(.int (98 : Int32))])) := q19.trans (st20 _ (Steps.refl _))
      have q22 : Steps p.tables e below (s₁.setTop (entryFrame m #[(.int p0)] 5)) (T20.setTop (mkF m 25 #[.val (.int p0), .val (.ref w_FORMS), .val (.int (3 : Int32)), .val (.int (2 : Int32)), .val (.ref w_LEFT_B)] [(.int p0), (.int (98 : Int32))])) := q21.trans (by
          show Steps p.tables e below (T20.setTop (mkF m 24 #[.val (.int p0), .val (.ref w_FORMS), .val (.int (3 : Int32)), .val (.int (2 : Int32)), .val (.ref w_LEFT_B)] [(.int (98 : Int32))])) _
          refine XS.iloadN X20.here hx rfl (hb hby d1_24) rfl ?_
          show Steps p.tables e below (T20.setTop (mkF m 25 #[.val (.int p0), .val (.ref w_FORMS), .val (.int (3 : Int32)), .val (.int (2 : Int32)), .val (.ref w_LEFT_B)] [(.int p0), (.int (98 : Int32))])) _
          exact Steps.refl _)
      have hk98 : (98 : Int32) = p0 := by
        rcases hp with q | q | q
        · exact absurd q.symm hc7
        · exact q.symm
        · exact absurd q.symm hc15
      have q23 : Steps p.tables e below (s₁.setTop (entryFrame m #[(.int p0)] 5)) (T20.setTop (mkF m 30 #[.val (.int p0), .val (.ref w_FORMS), .val (.int (3 : Int32)), .val (.int (2 : Int32)), .val (.ref w_LEFT_B)] [(.ref w_LEFT_B)])) := q22.trans (by
          show Steps p.tables e below (T20.setTop (mkF m 25 #[.val (.int p0), .val (.ref w_FORMS), .val (.int (3 : Int32)), .val (.int (2 : Int32)), .val (.ref w_LEFT_B)] [(.int p0), (.int (98 : Int32))])) _
          refine XS.icmpNo X20.here hx rfl (hb hby d1_25) rfl (teq hk98).2 ?_
          show Steps p.tables e below (T20.setTop (mkF m 28 #[.val (.int p0), .val (.ref w_FORMS), .val (.int (3 : Int32)), .val (.int (2 : Int32)), .val (.ref w_LEFT_B)] [])) _
          refine XS.aload X20.here hx rfl (hb hby d1_28) rfl rfl ?_
          show Steps p.tables e below (T20.setTop (mkF m 30 #[.val (.int p0), .val (.ref w_FORMS), .val (.int (3 : Int32)), .val (.int (2 : Int32)), .val (.ref w_LEFT_B)] [(.ref w_LEFT_B)])) _
          exact Steps.refl _)
      obtain ⟨fs, hr, hrun, hended, hW, hsame⟩ := X20.leave (v := some (.ref w_LEFT_B)) (fun h => by rw [Bd.returns] at h; cases h)
      refine ⟨_, _, q23.trans ?_, hrun, hended, _, _, rfl, ?_, ⟨_, rfl⟩, hW, hsame.mono (by decide) (by decide)⟩
      · exact retA X20 hx Bd.returns rfl rfl (hb hby d1_30) hr
      · show Q_rm1 Z p0 w_LEFT_A w_RIGHT w_LEFT_B w_FORMS h0 n0 _ T20.heap _
        rw [e20]
        exact ⟨(by unfold G1; rw [if_neg hc7, if_neg hc15]), N0, rfl⟩

theorem d2_0 : decode prog_1_method_5_code 0 = .ok (.aload_n 0, 1) := by decide +kernel
theorem d2_1 : decode prog_1_method_5_code 1 = .ok (.getfield 32, 3) := by decide +kernel
theorem d2_4 : decode prog_1_method_5_code 4 = .ok (.ireturn, 1) := by decide +kernel
theorem pn_rm2 : plainName "sevenwide/Form" = true := by first | (simp [plainName, overriddenIn]; done) | decide +kernel
theorem ef_rm2 (m : MethodId) (o0 : Addr) : entryFrame m #[(.ref o0)] 1 = mkF m 0 #[.val (.ref o0)] [] := by first | (simp [entryFrame, mkF, argsToLocals, Value.category]; done) | rfl
def Q_rm2 (Z : State) (o0 : Addr) (u : Int32) (h0 : Heap) (n0 : Nat) (v : Option Value) (h : Heap) (L : List Loc) : Prop := v = some (.int (nar .char u)) ∧ Fr n0 L ∧ h = h0
set_option maxRecDepth 65536 in
set_option maxHeartbeats 40000000 in
theorem rm2 (l : Launch) (Z : State) (a0 : Array Value) (hw : ∀ d ∈ tables_1, d.before a0 Z = true) (ws : List Jvm.Cond) (o0 : Addr) (u : Int32) (h0 : Heap) (n0 : Nat) (Z0 : n0 ≤ h0.size) (F_o0_letter : Fld Z h0 o0 "sevenwide/Form" "letter" "C" (.int u)) :
    MetFree l (⟨"sevenwide/Form", "letter", "()C"⟩ : MethodName) (head1 (Jvm.Cond.code (⟨"sevenwide/Form", "letter", "()C"⟩ : MethodName) prog_1_method_5_code 1 (some .char) :: ws) ({ frames := 0, cells := 0, slots := 0, locals := 0 } : Room)) (fun a U => a = #[(.ref o0)] ∧ Z.Warmed39 U.vm ∧ U.heap = h0) (fun _ _ _ _ _ => True) (fun _ U o U' => ∃ v L, o = .returned v ∧ Q_rm2 Z o0 u h0 n0 v U'.heap L ∧ FrameEnd U o U' L ({ frames := 0, cells := 0, slots := 0, locals := 0 } : Room).cells ({ frames := 0, cells := 0, slots := 0, locals := 0 } : Room).slots) := by
  refine MetFree.of_bodySF (plainFor_of_name pn_rm2) hisR ?_
  intro p e s m args below meth c s₁ Bd hml0 hP hK
  obtain ⟨rfl, hZ, hh⟩ := hP
  have hx := Bd.exec
  have hby := Bd.bytes
  have hml : c.maxLocals = 1 := hml0
  have hown : s.vm.findClass "sevenwide/Form" = some m.cls := findClass_of_methodNamed Bd.named
  have hnm := (name_of_methodNamed Bd.named Bd.method).1
  have X0 : Stand p l e ({ frames := 0, cells := 0, slots := 0, locals := 0 } : Room) s m #[(.ref o0)] below meth c s₁ [] 0 0 := Stand.of_body Bd
  have e0 : s₁.heap = h0 := by rw [← hh, Bd.state]; rfl
  have N0 := Fr.nil n0
  have q0 : Steps p.tables e below (s₁.setTop (entryFrame m #[(.ref o0)] 1)) (s₁.setTop (mkF m 0 #[.val (.ref o0)] [])) := castTop (ef_rm2 m o0) (Steps.refl _)
  have q1 : Steps p.tables e below (s₁.setTop (entryFrame m #[(.ref o0)] 1)) (s₁.setTop (mkF m 1 #[.val (.ref o0)] [(.ref o0)])) := q0.trans (by
      show Steps p.tables e below (s₁.setTop (mkF m 0 #[.val (.ref o0)] [])) _
      refine XS.aloadN X0.here hx rfl (hb hby d2_0) rfl rfl ?_
      show Steps p.tables e below (s₁.setTop (mkF m 1 #[.val (.ref o0)] [(.ref o0)])) _
      exact Steps.refl _)
  obtain ⟨T2, X2, e2, st2⟩ := getF X0 hx hZ hown (host := "") (Or.inl (hw _ (List.mem_of_getElem? (i := 9) rfl))) Via.refl e0 F_o0_letter (g := (mkF m 1 #[.val (.ref o0)] [(.ref o0)])) rfl rfl (hb hby d2_1)
  have q3 : Steps p.tables e below (s₁.setTop (entryFrame m #[(.ref o0)] 1)) (T2.setTop (mkF m 4 #[.val (.ref o0)] [(.int u)])) := q1.trans (st2 _ (Steps.refl _))
  obtain ⟨fs, hr, hrun, hended, hW, hsame⟩ := X2.leave (v := some (.int (nar .char u))) (fun h => by rw [Bd.returns] at h; cases h)
  refine ⟨_, _, q3.trans ?_, hrun, hended, _, _, rfl, ?_, ⟨_, rfl⟩, hW, hsame.mono (by decide) (by decide)⟩
  · exact retN X2 hx (t := .char) Bd.returns (by simp) (hb hby d2_4) hr
  · show Q_rm2 Z o0 u h0 n0 _ T2.heap _
    rw [e2]
    exact ⟨rfl, N0, rfl⟩

theorem plainA (p0 : Int32) (vk : Int32) (zr : Int32)
    (hc3 : vk = (0 : Int32))
    (hvk : vk = ((p0 &&& (2147483647 : Int32)) - ((p0 &&& (2147483647 : Int32)) / (3 : Int32)) * (3 : Int32)))
    (hzr : zr = (1 : Int32)) :
    zr = 1 := by
  exact hzr

theorem plainB (p0 : Int32) (vk : Int32) (zr : Int32)
    (hc3 : ¬ (vk = (0 : Int32)))
    (hc17 : vk = (1 : Int32))
    (hvk : vk = ((p0 &&& (2147483647 : Int32)) - ((p0 &&& (2147483647 : Int32)) / (3 : Int32)) * (3 : Int32)))
    (hzr : zr = (1 : Int32)) :
    zr = 1 := by
  exact hzr

theorem plainC (p0 : Int32) (vk : Int32) (zr : Int32)
    (hc3 : ¬ (vk = (0 : Int32)))
    (hc17 : ¬ (vk = (1 : Int32)))
    (hvk : vk = ((p0 &&& (2147483647 : Int32)) - ((p0 &&& (2147483647 : Int32)) / (3 : Int32)) * (3 : Int32)))
    (hzr : zr = (1 : Int32)) :
    zr = 1 := by
  exact hzr

theorem pd_0 : parseMethodDescriptor "(C)Lsevenwide/Form;" = some ⟨[.char], some (.object "sevenwide/Form")⟩ := by decide +kernel
theorem pd_1 : parseMethodDescriptor "()C" = some ⟨[], some .char⟩ := by decide +kernel
theorem pn_rm0 : plainName "sevenwide/FormOfParityPinLaw" = true := by first | (simp [plainName, overriddenIn]; done) | decide +kernel
theorem ef_rm0 (m : MethodId) (p0 : Int32) : entryFrame m #[(.int p0)] maxLocals = mkF m 0 #[.val (.int p0), .unset, .unset, .unset, .unset] [] := by first | (simp [entryFrame, mkF, argsToLocals, Value.category, maxLocals]; done) | rfl
def Q_rm0 (Z : State) (p0 : Int32) (w_LEFT_A : Addr) (w_RIGHT : Addr) (w_LEFT_B : Addr) (w_FORMS : Addr) (h0 : Heap) (n0 : Nat) (v : Option Value) (h : Heap) (L : List Loc) : Prop := v = some (.int (1 : Int32)) ∧ Fr n0 L
set_option maxRecDepth 65536 in
set_option maxHeartbeats 40000000 in
theorem rm0 (l : Launch) (Z : State) (a0 : Array Value) (hw : ∀ d ∈ tables_1, d.before a0 Z = true) (ws : List Jvm.Cond) (p0 : Int32) (w_LEFT_A : Addr) (w_RIGHT : Addr) (w_LEFT_B : Addr) (w_FORMS : Addr) (h0 : Heap) (n0 : Nat) (Z0 : n0 ≤ h0.size) (S_LEFT_A : Sta Z h0 "sevenwide/Form" "LEFT_A" "Lsevenwide/Form;" (.ref w_LEFT_A)) (S_RIGHT : Sta Z h0 "sevenwide/Form" "RIGHT" "Lsevenwide/Form;" (.ref w_RIGHT)) (S_LEFT_B : Sta Z h0 "sevenwide/Form" "LEFT_B" "Lsevenwide/Form;" (.ref w_LEFT_B)) (S_FORMS : Sta Z h0 "sevenwide/Form" "FORMS" "[Lsevenwide/Form;" (.ref w_FORMS)) (A_FORMS : Own.AV Z h0 w_FORMS (.object "sevenwide/Form") [(.ref w_LEFT_A), (.ref w_RIGHT), (.ref w_LEFT_B)]) (F_w_LEFT_A_letter : Fld Z h0 w_LEFT_A "sevenwide/Form" "letter" "C" (.int (97 : Int32))) (E_w_LEFT_A : Exa Z h0 w_LEFT_A "sevenwide/Form") (F_w_RIGHT_letter : Fld Z h0 w_RIGHT "sevenwide/Form" "letter" "C" (.int (99 : Int32))) (E_w_RIGHT : Exa Z h0 w_RIGHT "sevenwide/Form") (F_w_LEFT_B_letter : Fld Z h0 w_LEFT_B "sevenwide/Form" "letter" "C" (.int (98 : Int32))) (E_w_LEFT_B : Exa Z h0 w_LEFT_B "sevenwide/Form") :
    MetFree l x (head1 (Jvm.Cond.code x code maxLocals ret :: ws) room_1) (fun a U => a = #[(.int p0)] ∧ Z.Warmed39 U.vm ∧ U.heap = h0) (fun _ _ _ _ _ => True) (fun _ U o U' => ∃ v L, o = .returned v ∧ Q_rm0 Z p0 w_LEFT_A w_RIGHT w_LEFT_B w_FORMS h0 n0 v U'.heap L ∧ FrameEnd U o U' L room_1.cells room_1.slots) := by
  refine MetFree.of_bodySF (plainFor_of_name pn_rm0) hisR ?_
  intro p e s m args below meth c s₁ Bd hml0 hP hK
  obtain ⟨rfl, hZ, hh⟩ := hP
  have hx := Bd.exec
  have hby := Bd.bytes
  have hml : c.maxLocals = 5 := hml0
  have hown : s.vm.findClass "sevenwide/FormOfParityPinLaw" = some m.cls := findClass_of_methodNamed Bd.named
  have hnm := (name_of_methodNamed Bd.named Bd.method).1
  have X0 : Stand p l e room_1 s m #[(.int p0)] below meth c s₁ [] 0 0 := Stand.of_body Bd
  have e0 : s₁.heap = h0 := by rw [← hh, Bd.state]; rfl
  have N0 := Fr.nil n0
  have q0 : Steps p.tables e below (s₁.setTop (entryFrame m #[(.int p0)] maxLocals)) (s₁.setTop (mkF m 0 #[.val (.int p0), .unset, .unset, .unset, .unset] [])) := castTop (ef_rm0 m p0) (Steps.refl _)
  have q1 : Steps p.tables e below (s₁.setTop (entryFrame m #[(.int p0)] maxLocals)) (s₁.setTop (mkF m 7 #[.val (.int p0), .val (.int ((p0 &&& (2147483647 : Int32)) - ((p0 &&& (2147483647 : Int32)) / (3 : Int32)) * (3 : Int32))), .unset, .unset, .unset] [])) := q0.trans (by
      show Steps p.tables e below (s₁.setTop (mkF m 0 #[.val (.int p0), .unset, .unset, .unset, .unset] [])) _
      refine XS.iloadN X0.here hx rfl (hb hby at_0) rfl ?_
      show Steps p.tables e below (s₁.setTop (mkF m 1 #[.val (.int p0), .unset, .unset, .unset, .unset] [(.int p0)])) _
      refine X0.ldcInt hx hown (mvT hZ (hw _ (List.mem_of_getElem? (i := 0) rfl))) (g := (mkF m 1 #[.val (.int p0), .unset, .unset, .unset, .unset] [(.int p0)])) rfl (hb hby at_1) _ ?_
      show Steps p.tables e below (s₁.setTop (mkF m 3 #[.val (.int p0), .unset, .unset, .unset, .unset] [(.int (2147483647 : Int32)), (.int p0)])) _
      refine XS.iand X0.here hx rfl (hb hby at_3) rfl ?_
      show Steps p.tables e below (s₁.setTop (mkF m 4 #[.val (.int p0), .unset, .unset, .unset, .unset] [(.int (p0 &&& (2147483647 : Int32)))])) _
      refine XS.iconst X0.here hx rfl (hb hby at_4) ?_
      show Steps p.tables e below (s₁.setTop (mkF m 5 #[.val (.int p0), .unset, .unset, .unset, .unset] [(.int (3 : Int32)), (.int (p0 &&& (2147483647 : Int32)))])) _
      refine XS.irem X0.here hx rfl (hb hby at_5) rfl (by decide) ?_
      show Steps p.tables e below (s₁.setTop (mkF m 6 #[.val (.int p0), .unset, .unset, .unset, .unset] [(.int ((p0 &&& (2147483647 : Int32)) - ((p0 &&& (2147483647 : Int32)) / (3 : Int32)) * (3 : Int32)))])) _
      refine XS.istoreN X0.here hx rfl (hb hby at_6) rfl (l' := #[.val (.int p0), .val (.int ((p0 &&& (2147483647 : Int32)) - ((p0 &&& (2147483647 : Int32)) / (3 : Int32)) * (3 : Int32))), .unset, .unset, .unset]) rfl ?_
      show Steps p.tables e below (s₁.setTop (mkF m 7 #[.val (.int p0), .val (.int ((p0 &&& (2147483647 : Int32)) - ((p0 &&& (2147483647 : Int32)) / (3 : Int32)) * (3 : Int32))), .unset, .unset, .unset] [])) _
      exact Steps.refl _)
  obtain ⟨vk, hvk⟩ : ∃ v : Int32, v = ((p0 &&& (2147483647 : Int32)) - ((p0 &&& (2147483647 : Int32)) / (3 : Int32)) * (3 : Int32)) := ⟨_, rfl⟩
  rw [← hvk] at q1
  have q2 : Steps p.tables e below (s₁.setTop (entryFrame m #[(.int p0)] maxLocals)) (s₁.setTop (mkF m 8 #[.val (.int p0), .val (.int vk), .unset, .unset, .unset] [(.int vk)])) := q1.trans (by
      show Steps p.tables e below (s₁.setTop (mkF m 7 #[.val (.int p0), .val (.int vk), .unset, .unset, .unset] [])) _
      refine XS.iloadN X0.here hx rfl (hb hby at_7) rfl ?_
      show Steps p.tables e below (s₁.setTop (mkF m 8 #[.val (.int p0), .val (.int vk), .unset, .unset, .unset] [(.int vk)])) _
      exact Steps.refl _)
  by_cases hc3 : vk = (0 : Int32)
  · have q4 : Steps p.tables e below (s₁.setTop (entryFrame m #[(.int p0)] maxLocals)) (s₁.setTop (mkF m 11 #[.val (.int p0), .val (.int vk), .unset, .unset, .unset] [])) := q2.trans (by
        show Steps p.tables e below (s₁.setTop (mkF m 8 #[.val (.int p0), .val (.int vk), .unset, .unset, .unset] [(.int vk)])) _
        refine XS.ifNo X0.here hx rfl (hb hby at_8) rfl ((if0 _ _).trans (teq hc3).2) ?_
        show Steps p.tables e below (s₁.setTop (mkF m 11 #[.val (.int p0), .val (.int vk), .unset, .unset, .unset] [])) _
        exact Steps.refl _)
    have q5 : Steps p.tables e below (s₁.setTop (entryFrame m #[(.int p0)] maxLocals)) (s₁.setTop (mkF m 14 #[.val (.int p0), .val (.int vk), .val (.int (97 : Int32)), .unset, .unset] [])) := q4.trans (by
        show Steps p.tables e below (s₁.setTop (mkF m 11 #[.val (.int p0), .val (.int vk), .unset, .unset, .unset] [])) _
        refine XS.bipush X0.here hx rfl (hb hby at_11) ?_
        show Steps p.tables e below (s₁.setTop (mkF m 13 #[.val (.int p0), .val (.int vk), .unset, .unset, .unset] [(.int (97 : Int32))])) _
        refine XS.istoreN X0.here hx rfl (hb hby at_13) rfl (l' := #[.val (.int p0), .val (.int vk), .val (.int (97 : Int32)), .unset, .unset]) rfl ?_
        show Steps p.tables e below (s₁.setTop (mkF m 14 #[.val (.int p0), .val (.int vk), .val (.int (97 : Int32)), .unset, .unset] [])) _
        exact Steps.refl _)
    obtain ⟨T6, X6, e6, st6⟩ := getS2 X0 hx hZ hown (host := "") (Or.inl (hw _ (List.mem_of_getElem? (i := 1) rfl))) Via.refl e0 S_LEFT_A (g := (mkF m 14 #[.val (.int p0), .val (.int vk), .val (.int (97 : Int32)), .unset, .unset] [])) rfl (hb hby at_14)
    have q7 : Steps p.tables e below (s₁.setTop (entryFrame m #[(.int p0)] maxLocals)) (T6.setTop (mkF m 17 #[.val (.int p0), .val (.int vk), .val (.int (97 : Int32)), .unset, .unset] [(.ref w_LEFT_A)])) := q5.trans (st6 _ (Steps.refl _))
    have q8 : Steps p.tables e below (s₁.setTop (entryFrame m #[(.int p0)] maxLocals)) (T6.setTop (mkF m 44 #[.val (.int p0), .val (.int vk), .val (.int (97 : Int32)), .val (.ref w_LEFT_A), .unset] [(.int (97 : Int32))])) := q7.trans (by
        show Steps p.tables e below (T6.setTop (mkF m 17 #[.val (.int p0), .val (.int vk), .val (.int (97 : Int32)), .unset, .unset] [(.ref w_LEFT_A)])) _
        refine XS.astoreN X6.here hx rfl (hb hby at_17) rfl rfl (l' := #[.val (.int p0), .val (.int vk), .val (.int (97 : Int32)), .val (.ref w_LEFT_A), .unset]) rfl ?_
        show Steps p.tables e below (T6.setTop (mkF m 18 #[.val (.int p0), .val (.int vk), .val (.int (97 : Int32)), .val (.ref w_LEFT_A), .unset] [])) _
        refine XS.goto X6.here hx rfl (pc0 := 18) (pc' := 43) rfl (hb hby at_18) (by decide) (by decide) ?_
        show Steps p.tables e below (T6.setTop (mkF m 43 #[.val (.int p0), .val (.int vk), .val (.int (97 : Int32)), .val (.ref w_LEFT_A), .unset] [])) _
        refine XS.iloadN X6.here hx rfl (hb hby at_43) rfl ?_
        show Steps p.tables e below (T6.setTop (mkF m 44 #[.val (.int p0), .val (.int vk), .val (.int (97 : Int32)), .val (.ref w_LEFT_A), .unset] [(.int (97 : Int32))])) _
        exact Steps.refl _)
    obtain ⟨_, _, ⟨T9, L9, k9, n9⟩, -, X9, ⟨Lc9, hQ9, l9, y9, z9⟩, st9⟩ := Jvm.LawKit.callS X6 hx (y := (⟨"sevenwide/Form", "ofParity", "(C)Lsevenwide/Form;"⟩ : MethodName)) hown (mvT hZ (hw _ (List.mem_of_getElem? (i := 4) rfl))) (mvT hZ (hw _ (List.mem_of_getElem? (i := 5) rfl))) (mvT hZ (hw _ (List.mem_of_getElem? (i := 2) rfl))) (mvT hZ (hw _ (List.mem_of_getElem? (i := 6) rfl))) (by decide) (backOf (W := 0) (rm1 l Z a0 hw [] (97 : Int32) w_LEFT_A w_RIGHT w_LEFT_B w_FORMS h0 n0 Z0 S_FORMS A_FORMS F_w_LEFT_A_letter F_w_RIGHT_letter F_w_LEFT_B_letter (by decide)) hZ (hw _ (List.mem_of_getElem? (i := 6) rfl)) (hw _ (List.mem_of_getElem? (i := 2) rfl)) (by decide) (by decide)) (g := (mkF m 44 #[.val (.int p0), .val (.int vk), .val (.int (97 : Int32)), .val (.ref w_LEFT_A), .unset] [(.int (97 : Int32))])) rfl (by rw [hml]; rfl) (argsL := [(.int (97 : Int32))]) (rest := []) (lenOf pd_0 rfl) rfl (by show 2 * 0 + _ ≤ _; exact Nat.le_of_eq rfl) (hb hby at_44) (fun _ _ => ⟨rfl, e6, (by decide : 0 + 0 ≤ _), (by decide : 0 + 0 ≤ _)⟩)
    dsimp only [Pt.U, Pt.locs, Pt.cells, Pt.slots] at X9 l9 y9 z9 st9 hQ9
    subst l9 y9 z9
    obtain ⟨rfl, N9q, e9⟩ := hQ9
    have N9 := Fr.app N0 N9q
    have q10 : Steps p.tables e below (s₁.setTop (entryFrame m #[(.int p0)] maxLocals)) (T9.setTop (mkF m 47 #[.val (.int p0), .val (.int vk), .val (.int (97 : Int32)), .val (.ref w_LEFT_A), .unset] [(.ref w_LEFT_A)])) := q8.trans (st9 _ (Steps.refl _))
    have q11 : Steps p.tables e below (s₁.setTop (entryFrame m #[(.int p0)] maxLocals)) (T9.setTop (mkF m 57 #[.val (.int p0), .val (.int vk), .val (.int (97 : Int32)), .val (.ref w_LEFT_A), .val (.ref w_LEFT_A)] [(.ref w_LEFT_A)])) := q10.trans (by
        show Steps p.tables e below (T9.setTop (mkF m 47 #[.val (.int p0), .val (.int vk), .val (.int (97 : Int32)), .val (.ref w_LEFT_A), .unset] [(.ref w_LEFT_A)])) _
        refine XS.astore X9.here hx rfl (hb hby at_47) rfl rfl (l' := #[.val (.int p0), .val (.int vk), .val (.int (97 : Int32)), .val (.ref w_LEFT_A), .val (.ref w_LEFT_A)]) rfl ?_
        show Steps p.tables e below (T9.setTop (mkF m 49 #[.val (.int p0), .val (.int vk), .val (.int (97 : Int32)), .val (.ref w_LEFT_A), .val (.ref w_LEFT_A)] [])) _
        refine XS.aload X9.here hx rfl (hb hby at_49) rfl rfl ?_
        show Steps p.tables e below (T9.setTop (mkF m 51 #[.val (.int p0), .val (.int vk), .val (.int (97 : Int32)), .val (.ref w_LEFT_A), .val (.ref w_LEFT_A)] [(.ref w_LEFT_A)])) _
        refine XS.aloadN X9.here hx rfl (hb hby at_51) rfl rfl ?_
        show Steps p.tables e below (T9.setTop (mkF m 52 #[.val (.int p0), .val (.int vk), .val (.int (97 : Int32)), .val (.ref w_LEFT_A), .val (.ref w_LEFT_A)] [(.ref w_LEFT_A), (.ref w_LEFT_A)])) _
        refine Jvm.RoadKit.acmp (g := (mkF m 52 #[.val (.int p0), .val (.int vk), .val (.int (97 : Int32)), .val (.ref w_LEFT_A), .val (.ref w_LEFT_A)] [(.ref w_LEFT_A), (.ref w_LEFT_A)])) X9 hx rfl rfl rfl (pc0 := 52) (pc' := 55) (same := true) rfl (hb hby at_52) rfl (decide_eq_true (congrArg Value.ref (rfl : w_LEFT_A = w_LEFT_A))) (by decide) (by decide) ?_
        show Steps p.tables e below (T9.setTop (mkF m 55 #[.val (.int p0), .val (.int vk), .val (.int (97 : Int32)), .val (.ref w_LEFT_A), .val (.ref w_LEFT_A)] [])) _
        refine XS.aload X9.here hx rfl (hb hby at_55) rfl rfl ?_
        show Steps p.tables e below (T9.setTop (mkF m 57 #[.val (.int p0), .val (.int vk), .val (.int (97 : Int32)), .val (.ref w_LEFT_A), .val (.ref w_LEFT_A)] [(.ref w_LEFT_A)])) _
        exact Steps.refl _)
    obtain ⟨cq12, kq12, q12a, q12b, q12c⟩ := isOf hZ e9 E_w_LEFT_A
    obtain ⟨_, _, ⟨T12, L12, k12, n12⟩, -, X12, ⟨Lc12, hQ12, l12, y12, z12⟩, st12⟩ := X9.virtualBack hx (y := (⟨"sevenwide/Form", "letter", "()C"⟩ : MethodName)) (z := (⟨"sevenwide/Form", "letter", "()C"⟩ : MethodName)) hown (mvT hZ (hw _ (List.mem_of_getElem? (i := 11) rfl))) (mvT hZ (hw _ (List.mem_of_getElem? (i := 12) rfl))) (notFace_of_selects (args := #[]) (mvT hZ (hw _ (List.mem_of_getElem? (i := 14) rfl)))) (mvT hZ (hw _ (List.mem_of_getElem? (i := 14) rfl))) (mvT hZ (hw _ (List.mem_of_getElem? (i := 13) rfl))) (by decide) (backOf (W := 0) (rm2 l Z a0 hw [] w_LEFT_A (97 : Int32) h0 n0 Z0 F_w_LEFT_A_letter) hZ (hw _ (List.mem_of_getElem? (i := 15) rfl)) (hw _ (List.mem_of_getElem? (i := 2) rfl)) (by decide) (by decide)) q12a q12c (g := (mkF m 57 #[.val (.int p0), .val (.int vk), .val (.int (97 : Int32)), .val (.ref w_LEFT_A), .val (.ref w_LEFT_A)] [(.ref w_LEFT_A)])) rfl (by rw [hml]; rfl) (Steps.refl _) (argsL := []) (rest := []) (lenOf pd_1 rfl) rfl (by show 2 * 0 + _ ≤ _; exact Nat.le_of_eq rfl) (hb hby at_57) (fun _ _ => ⟨rfl, e9, (by decide : 0 + 0 ≤ _), (by decide : 0 + 0 ≤ _)⟩)
    dsimp only [Pt.U, Pt.locs, Pt.cells, Pt.slots] at X12 l12 y12 z12 st12 hQ12
    subst l12 y12 z12
    obtain ⟨rfl, N12q, e12⟩ := hQ12
    have N12 := Fr.app N9 N12q
    have q13 : Steps p.tables e below (s₁.setTop (entryFrame m #[(.int p0)] maxLocals)) (T12.setTop (mkF m 60 #[.val (.int p0), .val (.int vk), .val (.int (97 : Int32)), .val (.ref w_LEFT_A), .val (.ref w_LEFT_A)] [(.int (97 : Int32))])) := q11.trans (st12)
    have q14 : Steps p.tables e below (s₁.setTop (entryFrame m #[(.int p0)] maxLocals)) (T12.setTop (mkF m 69 #[.val (.int p0), .val (.int vk), .val (.int (97 : Int32)), .val (.ref w_LEFT_A), .val (.ref w_LEFT_A)] [(.int (1 : Int32))])) := q13.trans (by
        show Steps p.tables e below (T12.setTop (mkF m 60 #[.val (.int p0), .val (.int vk), .val (.int (97 : Int32)), .val (.ref w_LEFT_A), .val (.ref w_LEFT_A)] [(.int (97 : Int32))])) _
        refine XS.iloadN X12.here hx rfl (hb hby at_60) rfl ?_
        show Steps p.tables e below (T12.setTop (mkF m 61 #[.val (.int p0), .val (.int vk), .val (.int (97 : Int32)), .val (.ref w_LEFT_A), .val (.ref w_LEFT_A)] [(.int (97 : Int32)), (.int (97 : Int32))])) _
        refine XS.icmpNo X12.here hx rfl (hb hby at_61) rfl (teq (by decide : (97 : Int32) = (97 : Int32))).2 ?_
        show Steps p.tables e below (T12.setTop (mkF m 64 #[.val (.int p0), .val (.int vk), .val (.int (97 : Int32)), .val (.ref w_LEFT_A), .val (.ref w_LEFT_A)] [])) _
        refine XS.iconst X12.here hx rfl (hb hby at_64) ?_
        show Steps p.tables e below (T12.setTop (mkF m 65 #[.val (.int p0), .val (.int vk), .val (.int (97 : Int32)), .val (.ref w_LEFT_A), .val (.ref w_LEFT_A)] [(.int (1 : Int32))])) _
        refine XS.goto X12.here hx rfl (pc0 := 65) (pc' := 69) rfl (hb hby at_65) (by decide) (by decide) ?_
        show Steps p.tables e below (T12.setTop (mkF m 69 #[.val (.int p0), .val (.int vk), .val (.int (97 : Int32)), .val (.ref w_LEFT_A), .val (.ref w_LEFT_A)] [(.int (1 : Int32))])) _
        exact Steps.refl _)
    obtain ⟨zr, hzr⟩ : ∃ v : Int32, v = (1 : Int32) := ⟨_, rfl⟩
    have hz1 : zr = 1 := plainA p0 vk zr hc3 hvk hzr
    obtain ⟨fs, hr, hrun, hended, hW, hsame⟩ := X12.leave (v := some (.int (1 : Int32))) (fun h => by rw [Bd.returns] at h; cases h)
    refine ⟨_, _, q14.trans ?_, hrun, hended, _, _, rfl, ?_, ⟨_, rfl⟩, hW, hsame.mono (by decide) (by decide)⟩
    · show Steps p.tables e below (T12.setTop (mkF m 69 #[.val (.int p0), .val (.int vk), .val (.int (97 : Int32)), .val (.ref w_LEFT_A), .val (.ref w_LEFT_A)] [(.int (1 : Int32))])) _
      exact retN X12 hx (t := .boolean) Bd.returns (by simp) (hb hby at_69) hr
    · show Q_rm0 Z p0 w_LEFT_A w_RIGHT w_LEFT_B w_FORMS h0 n0 _ T12.heap _
      rw [e12]
      exact ⟨rfl, N12⟩
  · have q15 : Steps p.tables e below (s₁.setTop (entryFrame m #[(.int p0)] maxLocals)) (s₁.setTop (mkF m 21 #[.val (.int p0), .val (.int vk), .unset, .unset, .unset] [])) := q2.trans (by
        show Steps p.tables e below (s₁.setTop (mkF m 8 #[.val (.int p0), .val (.int vk), .unset, .unset, .unset] [(.int vk)])) _
        refine XS.ifYes X0.here hx rfl (pc0 := 8) (pc' := 21) rfl (hb hby at_8) rfl ((if0 _ _).trans (feq hc3).2) (by decide) (by decide) ?_
        show Steps p.tables e below (s₁.setTop (mkF m 21 #[.val (.int p0), .val (.int vk), .unset, .unset, .unset] [])) _
        exact Steps.refl _)
    have q16 : Steps p.tables e below (s₁.setTop (entryFrame m #[(.int p0)] maxLocals)) (s₁.setTop (mkF m 23 #[.val (.int p0), .val (.int vk), .unset, .unset, .unset] [(.int (1 : Int32)), (.int vk)])) := q15.trans (by
        show Steps p.tables e below (s₁.setTop (mkF m 21 #[.val (.int p0), .val (.int vk), .unset, .unset, .unset] [])) _
        refine XS.iloadN X0.here hx rfl (hb hby at_21) rfl ?_
        show Steps p.tables e below (s₁.setTop (mkF m 22 #[.val (.int p0), .val (.int vk), .unset, .unset, .unset] [(.int vk)])) _
        refine XS.iconst X0.here hx rfl (hb hby at_22) ?_
        show Steps p.tables e below (s₁.setTop (mkF m 23 #[.val (.int p0), .val (.int vk), .unset, .unset, .unset] [(.int (1 : Int32)), (.int vk)])) _
        exact Steps.refl _)
    by_cases hc17 : vk = (1 : Int32)
    · have q18 : Steps p.tables e below (s₁.setTop (entryFrame m #[(.int p0)] maxLocals)) (s₁.setTop (mkF m 26 #[.val (.int p0), .val (.int vk), .unset, .unset, .unset] [])) := q16.trans (by
          show Steps p.tables e below (s₁.setTop (mkF m 23 #[.val (.int p0), .val (.int vk), .unset, .unset, .unset] [(.int (1 : Int32)), (.int vk)])) _
          refine XS.icmpNo X0.here hx rfl (hb hby at_23) rfl (teq hc17).2 ?_
          show Steps p.tables e below (s₁.setTop (mkF m 26 #[.val (.int p0), .val (.int vk), .unset, .unset, .unset] [])) _
          exact Steps.refl _)
      have q19 : Steps p.tables e below (s₁.setTop (entryFrame m #[(.int p0)] maxLocals)) (s₁.setTop (mkF m 29 #[.val (.int p0), .val (.int vk), .val (.int (98 : Int32)), .unset, .unset] [])) := q18.trans (by
          show Steps p.tables e below (s₁.setTop (mkF m 26 #[.val (.int p0), .val (.int vk), .unset, .unset, .unset] [])) _
          refine XS.bipush X0.here hx rfl (hb hby at_26) ?_
          show Steps p.tables e below (s₁.setTop (mkF m 28 #[.val (.int p0), .val (.int vk), .unset, .unset, .unset] [(.int (98 : Int32))])) _
          refine XS.istoreN X0.here hx rfl (hb hby at_28) rfl (l' := #[.val (.int p0), .val (.int vk), .val (.int (98 : Int32)), .unset, .unset]) rfl ?_
          show Steps p.tables e below (s₁.setTop (mkF m 29 #[.val (.int p0), .val (.int vk), .val (.int (98 : Int32)), .unset, .unset] [])) _
          exact Steps.refl _)
      obtain ⟨T20, X20, e20, st20⟩ := getS2 X0 hx hZ hown (host := "") (Or.inl (hw _ (List.mem_of_getElem? (i := 18) rfl))) Via.refl e0 S_LEFT_B (g := (mkF m 29 #[.val (.int p0), .val (.int vk), .val (.int (98 : Int32)), .unset, .unset] [])) rfl (hb hby at_29)
      have q21 : Steps p.tables e below (s₁.setTop (entryFrame m #[(.int p0)] maxLocals)) (T20.setTop (mkF m 32 #[.val (.int p0), .val (.int vk), .val (.int (98 : Int32)), .unset, .unset] [(.ref w_LEFT_B)])) := q19.trans (st20 _ (Steps.refl _))
      have q22 : Steps p.tables e below (s₁.setTop (entryFrame m #[(.int p0)] maxLocals)) (T20.setTop (mkF m 44 #[.val (.int p0), .val (.int vk), .val (.int (98 : Int32)), .val (.ref w_LEFT_B), .unset] [(.int (98 : Int32))])) := q21.trans (by
          show Steps p.tables e below (T20.setTop (mkF m 32 #[.val (.int p0), .val (.int vk), .val (.int (98 : Int32)), .unset, .unset] [(.ref w_LEFT_B)])) _
          refine XS.astoreN X20.here hx rfl (hb hby at_32) rfl rfl (l' := #[.val (.int p0), .val (.int vk), .val (.int (98 : Int32)), .val (.ref w_LEFT_B), .unset]) rfl ?_
          show Steps p.tables e below (T20.setTop (mkF m 33 #[.val (.int p0), .val (.int vk), .val (.int (98 : Int32)), .val (.ref w_LEFT_B), .unset] [])) _
          refine XS.goto X20.here hx rfl (pc0 := 33) (pc' := 43) rfl (hb hby at_33) (by decide) (by decide) ?_
          show Steps p.tables e below (T20.setTop (mkF m 43 #[.val (.int p0), .val (.int vk), .val (.int (98 : Int32)), .val (.ref w_LEFT_B), .unset] [])) _
          refine XS.iloadN X20.here hx rfl (hb hby at_43) rfl ?_
          show Steps p.tables e below (T20.setTop (mkF m 44 #[.val (.int p0), .val (.int vk), .val (.int (98 : Int32)), .val (.ref w_LEFT_B), .unset] [(.int (98 : Int32))])) _
          exact Steps.refl _)
      obtain ⟨_, _, ⟨T23, L23, k23, n23⟩, -, X23, ⟨Lc23, hQ23, l23, y23, z23⟩, st23⟩ := Jvm.LawKit.callS X20 hx (y := (⟨"sevenwide/Form", "ofParity", "(C)Lsevenwide/Form;"⟩ : MethodName)) hown (mvT hZ (hw _ (List.mem_of_getElem? (i := 4) rfl))) (mvT hZ (hw _ (List.mem_of_getElem? (i := 5) rfl))) (mvT hZ (hw _ (List.mem_of_getElem? (i := 2) rfl))) (mvT hZ (hw _ (List.mem_of_getElem? (i := 6) rfl))) (by decide) (backOf (W := 0) (rm1 l Z a0 hw [] (98 : Int32) w_LEFT_A w_RIGHT w_LEFT_B w_FORMS h0 n0 Z0 S_FORMS A_FORMS F_w_LEFT_A_letter F_w_RIGHT_letter F_w_LEFT_B_letter (by decide)) hZ (hw _ (List.mem_of_getElem? (i := 6) rfl)) (hw _ (List.mem_of_getElem? (i := 2) rfl)) (by decide) (by decide)) (g := (mkF m 44 #[.val (.int p0), .val (.int vk), .val (.int (98 : Int32)), .val (.ref w_LEFT_B), .unset] [(.int (98 : Int32))])) rfl (by rw [hml]; rfl) (argsL := [(.int (98 : Int32))]) (rest := []) (lenOf pd_0 rfl) rfl (by show 2 * 0 + _ ≤ _; exact Nat.le_of_eq rfl) (hb hby at_44) (fun _ _ => ⟨rfl, e20, (by decide : 0 + 0 ≤ _), (by decide : 0 + 0 ≤ _)⟩)
      dsimp only [Pt.U, Pt.locs, Pt.cells, Pt.slots] at X23 l23 y23 z23 st23 hQ23
      subst l23 y23 z23
      obtain ⟨rfl, N23q, e23⟩ := hQ23
      have N23 := Fr.app N0 N23q
      have q24 : Steps p.tables e below (s₁.setTop (entryFrame m #[(.int p0)] maxLocals)) (T23.setTop (mkF m 47 #[.val (.int p0), .val (.int vk), .val (.int (98 : Int32)), .val (.ref w_LEFT_B), .unset] [(.ref w_LEFT_B)])) := q22.trans (st23 _ (Steps.refl _))
      have q25 : Steps p.tables e below (s₁.setTop (entryFrame m #[(.int p0)] maxLocals)) (T23.setTop (mkF m 57 #[.val (.int p0), .val (.int vk), .val (.int (98 : Int32)), .val (.ref w_LEFT_B), .val (.ref w_LEFT_B)] [(.ref w_LEFT_B)])) := q24.trans (by
          show Steps p.tables e below (T23.setTop (mkF m 47 #[.val (.int p0), .val (.int vk), .val (.int (98 : Int32)), .val (.ref w_LEFT_B), .unset] [(.ref w_LEFT_B)])) _
          refine XS.astore X23.here hx rfl (hb hby at_47) rfl rfl (l' := #[.val (.int p0), .val (.int vk), .val (.int (98 : Int32)), .val (.ref w_LEFT_B), .val (.ref w_LEFT_B)]) rfl ?_
          show Steps p.tables e below (T23.setTop (mkF m 49 #[.val (.int p0), .val (.int vk), .val (.int (98 : Int32)), .val (.ref w_LEFT_B), .val (.ref w_LEFT_B)] [])) _
          refine XS.aload X23.here hx rfl (hb hby at_49) rfl rfl ?_
          show Steps p.tables e below (T23.setTop (mkF m 51 #[.val (.int p0), .val (.int vk), .val (.int (98 : Int32)), .val (.ref w_LEFT_B), .val (.ref w_LEFT_B)] [(.ref w_LEFT_B)])) _
          refine XS.aloadN X23.here hx rfl (hb hby at_51) rfl rfl ?_
          show Steps p.tables e below (T23.setTop (mkF m 52 #[.val (.int p0), .val (.int vk), .val (.int (98 : Int32)), .val (.ref w_LEFT_B), .val (.ref w_LEFT_B)] [(.ref w_LEFT_B), (.ref w_LEFT_B)])) _
          refine Jvm.RoadKit.acmp (g := (mkF m 52 #[.val (.int p0), .val (.int vk), .val (.int (98 : Int32)), .val (.ref w_LEFT_B), .val (.ref w_LEFT_B)] [(.ref w_LEFT_B), (.ref w_LEFT_B)])) X23 hx rfl rfl rfl (pc0 := 52) (pc' := 55) (same := true) rfl (hb hby at_52) rfl (decide_eq_true (congrArg Value.ref (rfl : w_LEFT_B = w_LEFT_B))) (by decide) (by decide) ?_
          show Steps p.tables e below (T23.setTop (mkF m 55 #[.val (.int p0), .val (.int vk), .val (.int (98 : Int32)), .val (.ref w_LEFT_B), .val (.ref w_LEFT_B)] [])) _
          refine XS.aload X23.here hx rfl (hb hby at_55) rfl rfl ?_
          show Steps p.tables e below (T23.setTop (mkF m 57 #[.val (.int p0), .val (.int vk), .val (.int (98 : Int32)), .val (.ref w_LEFT_B), .val (.ref w_LEFT_B)] [(.ref w_LEFT_B)])) _
          exact Steps.refl _)
      obtain ⟨cq26, kq26, q26a, q26b, q26c⟩ := isOf hZ e23 E_w_LEFT_B
      obtain ⟨_, _, ⟨T26, L26, k26, n26⟩, -, X26, ⟨Lc26, hQ26, l26, y26, z26⟩, st26⟩ := X23.virtualBack hx (y := (⟨"sevenwide/Form", "letter", "()C"⟩ : MethodName)) (z := (⟨"sevenwide/Form", "letter", "()C"⟩ : MethodName)) hown (mvT hZ (hw _ (List.mem_of_getElem? (i := 11) rfl))) (mvT hZ (hw _ (List.mem_of_getElem? (i := 12) rfl))) (notFace_of_selects (args := #[]) (mvT hZ (hw _ (List.mem_of_getElem? (i := 14) rfl)))) (mvT hZ (hw _ (List.mem_of_getElem? (i := 14) rfl))) (mvT hZ (hw _ (List.mem_of_getElem? (i := 13) rfl))) (by decide) (backOf (W := 0) (rm2 l Z a0 hw [] w_LEFT_B (98 : Int32) h0 n0 Z0 F_w_LEFT_B_letter) hZ (hw _ (List.mem_of_getElem? (i := 15) rfl)) (hw _ (List.mem_of_getElem? (i := 2) rfl)) (by decide) (by decide)) q26a q26c (g := (mkF m 57 #[.val (.int p0), .val (.int vk), .val (.int (98 : Int32)), .val (.ref w_LEFT_B), .val (.ref w_LEFT_B)] [(.ref w_LEFT_B)])) rfl (by rw [hml]; rfl) (Steps.refl _) (argsL := []) (rest := []) (lenOf pd_1 rfl) rfl (by show 2 * 0 + _ ≤ _; exact Nat.le_of_eq rfl) (hb hby at_57) (fun _ _ => ⟨rfl, e23, (by decide : 0 + 0 ≤ _), (by decide : 0 + 0 ≤ _)⟩)
      dsimp only [Pt.U, Pt.locs, Pt.cells, Pt.slots] at X26 l26 y26 z26 st26 hQ26
      subst l26 y26 z26
      obtain ⟨rfl, N26q, e26⟩ := hQ26
      have N26 := Fr.app N23 N26q
      have q27 : Steps p.tables e below (s₁.setTop (entryFrame m #[(.int p0)] maxLocals)) (T26.setTop (mkF m 60 #[.val (.int p0), .val (.int vk), .val (.int (98 : Int32)), .val (.ref w_LEFT_B), .val (.ref w_LEFT_B)] [(.int (98 : Int32))])) := q25.trans (st26)
      have q28 : Steps p.tables e below (s₁.setTop (entryFrame m #[(.int p0)] maxLocals)) (T26.setTop (mkF m 69 #[.val (.int p0), .val (.int vk), .val (.int (98 : Int32)), .val (.ref w_LEFT_B), .val (.ref w_LEFT_B)] [(.int (1 : Int32))])) := q27.trans (by
          show Steps p.tables e below (T26.setTop (mkF m 60 #[.val (.int p0), .val (.int vk), .val (.int (98 : Int32)), .val (.ref w_LEFT_B), .val (.ref w_LEFT_B)] [(.int (98 : Int32))])) _
          refine XS.iloadN X26.here hx rfl (hb hby at_60) rfl ?_
          show Steps p.tables e below (T26.setTop (mkF m 61 #[.val (.int p0), .val (.int vk), .val (.int (98 : Int32)), .val (.ref w_LEFT_B), .val (.ref w_LEFT_B)] [(.int (98 : Int32)), (.int (98 : Int32))])) _
          refine XS.icmpNo X26.here hx rfl (hb hby at_61) rfl (teq (by decide : (98 : Int32) = (98 : Int32))).2 ?_
          show Steps p.tables e below (T26.setTop (mkF m 64 #[.val (.int p0), .val (.int vk), .val (.int (98 : Int32)), .val (.ref w_LEFT_B), .val (.ref w_LEFT_B)] [])) _
          refine XS.iconst X26.here hx rfl (hb hby at_64) ?_
          show Steps p.tables e below (T26.setTop (mkF m 65 #[.val (.int p0), .val (.int vk), .val (.int (98 : Int32)), .val (.ref w_LEFT_B), .val (.ref w_LEFT_B)] [(.int (1 : Int32))])) _
          refine XS.goto X26.here hx rfl (pc0 := 65) (pc' := 69) rfl (hb hby at_65) (by decide) (by decide) ?_
          show Steps p.tables e below (T26.setTop (mkF m 69 #[.val (.int p0), .val (.int vk), .val (.int (98 : Int32)), .val (.ref w_LEFT_B), .val (.ref w_LEFT_B)] [(.int (1 : Int32))])) _
          exact Steps.refl _)
      obtain ⟨zr, hzr⟩ : ∃ v : Int32, v = (1 : Int32) := ⟨_, rfl⟩
      have hz1 : zr = 1 := plainB p0 vk zr hc3 hc17 hvk hzr
      obtain ⟨fs, hr, hrun, hended, hW, hsame⟩ := X26.leave (v := some (.int (1 : Int32))) (fun h => by rw [Bd.returns] at h; cases h)
      refine ⟨_, _, q28.trans ?_, hrun, hended, _, _, rfl, ?_, ⟨_, rfl⟩, hW, hsame.mono (by decide) (by decide)⟩
      · show Steps p.tables e below (T26.setTop (mkF m 69 #[.val (.int p0), .val (.int vk), .val (.int (98 : Int32)), .val (.ref w_LEFT_B), .val (.ref w_LEFT_B)] [(.int (1 : Int32))])) _
        exact retN X26 hx (t := .boolean) Bd.returns (by simp) (hb hby at_69) hr
      · show Q_rm0 Z p0 w_LEFT_A w_RIGHT w_LEFT_B w_FORMS h0 n0 _ T26.heap _
        rw [e26]
        exact ⟨rfl, N26⟩
    · have q29 : Steps p.tables e below (s₁.setTop (entryFrame m #[(.int p0)] maxLocals)) (s₁.setTop (mkF m 36 #[.val (.int p0), .val (.int vk), .unset, .unset, .unset] [])) := q16.trans (by
          show Steps p.tables e below (s₁.setTop (mkF m 23 #[.val (.int p0), .val (.int vk), .unset, .unset, .unset] [(.int (1 : Int32)), (.int vk)])) _
          refine XS.icmpYes X0.here hx rfl (pc0 := 23) (pc' := 36) rfl (hb hby at_23) rfl (feq hc17).2 (by decide) (by decide) ?_
          show Steps p.tables e below (s₁.setTop (mkF m 36 #[.val (.int p0), .val (.int vk), .unset, .unset, .unset] [])) _
          exact Steps.refl _)
      have q30 : Steps p.tables e below (s₁.setTop (entryFrame m #[(.int p0)] maxLocals)) (s₁.setTop (mkF m 39 #[.val (.int p0), .val (.int vk), .val (.int (99 : Int32)), .unset, .unset] [])) := q29.trans (by
          show Steps p.tables e below (s₁.setTop (mkF m 36 #[.val (.int p0), .val (.int vk), .unset, .unset, .unset] [])) _
          refine XS.bipush X0.here hx rfl (hb hby at_36) ?_
          show Steps p.tables e below (s₁.setTop (mkF m 38 #[.val (.int p0), .val (.int vk), .unset, .unset, .unset] [(.int (99 : Int32))])) _
          refine XS.istoreN X0.here hx rfl (hb hby at_38) rfl (l' := #[.val (.int p0), .val (.int vk), .val (.int (99 : Int32)), .unset, .unset]) rfl ?_
          show Steps p.tables e below (s₁.setTop (mkF m 39 #[.val (.int p0), .val (.int vk), .val (.int (99 : Int32)), .unset, .unset] [])) _
          exact Steps.refl _)
      obtain ⟨T31, X31, e31, st31⟩ := getS2 X0 hx hZ hown (host := "") (Or.inl (hw _ (List.mem_of_getElem? (i := 16) rfl))) Via.refl e0 S_RIGHT (g := (mkF m 39 #[.val (.int p0), .val (.int vk), .val (.int (99 : Int32)), .unset, .unset] [])) rfl (hb hby at_39)
      have q32 : Steps p.tables e below (s₁.setTop (entryFrame m #[(.int p0)] maxLocals)) (T31.setTop (mkF m 42 #[.val (.int p0), .val (.int vk), .val (.int (99 : Int32)), .unset, .unset] [(.ref w_RIGHT)])) := q30.trans (st31 _ (Steps.refl _))
      have q33 : Steps p.tables e below (s₁.setTop (entryFrame m #[(.int p0)] maxLocals)) (T31.setTop (mkF m 44 #[.val (.int p0), .val (.int vk), .val (.int (99 : Int32)), .val (.ref w_RIGHT), .unset] [(.int (99 : Int32))])) := q32.trans (by
          show Steps p.tables e below (T31.setTop (mkF m 42 #[.val (.int p0), .val (.int vk), .val (.int (99 : Int32)), .unset, .unset] [(.ref w_RIGHT)])) _
          refine XS.astoreN X31.here hx rfl (hb hby at_42) rfl rfl (l' := #[.val (.int p0), .val (.int vk), .val (.int (99 : Int32)), .val (.ref w_RIGHT), .unset]) rfl ?_
          show Steps p.tables e below (T31.setTop (mkF m 43 #[.val (.int p0), .val (.int vk), .val (.int (99 : Int32)), .val (.ref w_RIGHT), .unset] [])) _
          refine XS.iloadN X31.here hx rfl (hb hby at_43) rfl ?_
          show Steps p.tables e below (T31.setTop (mkF m 44 #[.val (.int p0), .val (.int vk), .val (.int (99 : Int32)), .val (.ref w_RIGHT), .unset] [(.int (99 : Int32))])) _
          exact Steps.refl _)
      obtain ⟨_, _, ⟨T34, L34, k34, n34⟩, -, X34, ⟨Lc34, hQ34, l34, y34, z34⟩, st34⟩ := Jvm.LawKit.callS X31 hx (y := (⟨"sevenwide/Form", "ofParity", "(C)Lsevenwide/Form;"⟩ : MethodName)) hown (mvT hZ (hw _ (List.mem_of_getElem? (i := 4) rfl))) (mvT hZ (hw _ (List.mem_of_getElem? (i := 5) rfl))) (mvT hZ (hw _ (List.mem_of_getElem? (i := 2) rfl))) (mvT hZ (hw _ (List.mem_of_getElem? (i := 6) rfl))) (by decide) (backOf (W := 0) (rm1 l Z a0 hw [] (99 : Int32) w_LEFT_A w_RIGHT w_LEFT_B w_FORMS h0 n0 Z0 S_FORMS A_FORMS F_w_LEFT_A_letter F_w_RIGHT_letter F_w_LEFT_B_letter (by decide)) hZ (hw _ (List.mem_of_getElem? (i := 6) rfl)) (hw _ (List.mem_of_getElem? (i := 2) rfl)) (by decide) (by decide)) (g := (mkF m 44 #[.val (.int p0), .val (.int vk), .val (.int (99 : Int32)), .val (.ref w_RIGHT), .unset] [(.int (99 : Int32))])) rfl (by rw [hml]; rfl) (argsL := [(.int (99 : Int32))]) (rest := []) (lenOf pd_0 rfl) rfl (by show 2 * 0 + _ ≤ _; exact Nat.le_of_eq rfl) (hb hby at_44) (fun _ _ => ⟨rfl, e31, (by decide : 0 + 0 ≤ _), (by decide : 0 + 0 ≤ _)⟩)
      dsimp only [Pt.U, Pt.locs, Pt.cells, Pt.slots] at X34 l34 y34 z34 st34 hQ34
      subst l34 y34 z34
      obtain ⟨rfl, N34q, e34⟩ := hQ34
      have N34 := Fr.app N0 N34q
      have q35 : Steps p.tables e below (s₁.setTop (entryFrame m #[(.int p0)] maxLocals)) (T34.setTop (mkF m 47 #[.val (.int p0), .val (.int vk), .val (.int (99 : Int32)), .val (.ref w_RIGHT), .unset] [(.ref w_RIGHT)])) := q33.trans (st34 _ (Steps.refl _))
      have q36 : Steps p.tables e below (s₁.setTop (entryFrame m #[(.int p0)] maxLocals)) (T34.setTop (mkF m 57 #[.val (.int p0), .val (.int vk), .val (.int (99 : Int32)), .val (.ref w_RIGHT), .val (.ref w_RIGHT)] [(.ref w_RIGHT)])) := q35.trans (by
          show Steps p.tables e below (T34.setTop (mkF m 47 #[.val (.int p0), .val (.int vk), .val (.int (99 : Int32)), .val (.ref w_RIGHT), .unset] [(.ref w_RIGHT)])) _
          refine XS.astore X34.here hx rfl (hb hby at_47) rfl rfl (l' := #[.val (.int p0), .val (.int vk), .val (.int (99 : Int32)), .val (.ref w_RIGHT), .val (.ref w_RIGHT)]) rfl ?_
          show Steps p.tables e below (T34.setTop (mkF m 49 #[.val (.int p0), .val (.int vk), .val (.int (99 : Int32)), .val (.ref w_RIGHT), .val (.ref w_RIGHT)] [])) _
          refine XS.aload X34.here hx rfl (hb hby at_49) rfl rfl ?_
          show Steps p.tables e below (T34.setTop (mkF m 51 #[.val (.int p0), .val (.int vk), .val (.int (99 : Int32)), .val (.ref w_RIGHT), .val (.ref w_RIGHT)] [(.ref w_RIGHT)])) _
          refine XS.aloadN X34.here hx rfl (hb hby at_51) rfl rfl ?_
          show Steps p.tables e below (T34.setTop (mkF m 52 #[.val (.int p0), .val (.int vk), .val (.int (99 : Int32)), .val (.ref w_RIGHT), .val (.ref w_RIGHT)] [(.ref w_RIGHT), (.ref w_RIGHT)])) _
          refine Jvm.RoadKit.acmp (g := (mkF m 52 #[.val (.int p0), .val (.int vk), .val (.int (99 : Int32)), .val (.ref w_RIGHT), .val (.ref w_RIGHT)] [(.ref w_RIGHT), (.ref w_RIGHT)])) X34 hx rfl rfl rfl (pc0 := 52) (pc' := 55) (same := true) rfl (hb hby at_52) rfl (decide_eq_true (congrArg Value.ref (rfl : w_RIGHT = w_RIGHT))) (by decide) (by decide) ?_
          show Steps p.tables e below (T34.setTop (mkF m 55 #[.val (.int p0), .val (.int vk), .val (.int (99 : Int32)), .val (.ref w_RIGHT), .val (.ref w_RIGHT)] [])) _
          refine XS.aload X34.here hx rfl (hb hby at_55) rfl rfl ?_
          show Steps p.tables e below (T34.setTop (mkF m 57 #[.val (.int p0), .val (.int vk), .val (.int (99 : Int32)), .val (.ref w_RIGHT), .val (.ref w_RIGHT)] [(.ref w_RIGHT)])) _
          exact Steps.refl _)
      obtain ⟨cq37, kq37, q37a, q37b, q37c⟩ := isOf hZ e34 E_w_RIGHT
      obtain ⟨_, _, ⟨T37, L37, k37, n37⟩, -, X37, ⟨Lc37, hQ37, l37, y37, z37⟩, st37⟩ := X34.virtualBack hx (y := (⟨"sevenwide/Form", "letter", "()C"⟩ : MethodName)) (z := (⟨"sevenwide/Form", "letter", "()C"⟩ : MethodName)) hown (mvT hZ (hw _ (List.mem_of_getElem? (i := 11) rfl))) (mvT hZ (hw _ (List.mem_of_getElem? (i := 12) rfl))) (notFace_of_selects (args := #[]) (mvT hZ (hw _ (List.mem_of_getElem? (i := 14) rfl)))) (mvT hZ (hw _ (List.mem_of_getElem? (i := 14) rfl))) (mvT hZ (hw _ (List.mem_of_getElem? (i := 13) rfl))) (by decide) (backOf (W := 0) (rm2 l Z a0 hw [] w_RIGHT (99 : Int32) h0 n0 Z0 F_w_RIGHT_letter) hZ (hw _ (List.mem_of_getElem? (i := 15) rfl)) (hw _ (List.mem_of_getElem? (i := 2) rfl)) (by decide) (by decide)) q37a q37c (g := (mkF m 57 #[.val (.int p0), .val (.int vk), .val (.int (99 : Int32)), .val (.ref w_RIGHT), .val (.ref w_RIGHT)] [(.ref w_RIGHT)])) rfl (by rw [hml]; rfl) (Steps.refl _) (argsL := []) (rest := []) (lenOf pd_1 rfl) rfl (by show 2 * 0 + _ ≤ _; exact Nat.le_of_eq rfl) (hb hby at_57) (fun _ _ => ⟨rfl, e34, (by decide : 0 + 0 ≤ _), (by decide : 0 + 0 ≤ _)⟩)
      dsimp only [Pt.U, Pt.locs, Pt.cells, Pt.slots] at X37 l37 y37 z37 st37 hQ37
      subst l37 y37 z37
      obtain ⟨rfl, N37q, e37⟩ := hQ37
      have N37 := Fr.app N34 N37q
      have q38 : Steps p.tables e below (s₁.setTop (entryFrame m #[(.int p0)] maxLocals)) (T37.setTop (mkF m 60 #[.val (.int p0), .val (.int vk), .val (.int (99 : Int32)), .val (.ref w_RIGHT), .val (.ref w_RIGHT)] [(.int (99 : Int32))])) := q36.trans (st37)
      have q39 : Steps p.tables e below (s₁.setTop (entryFrame m #[(.int p0)] maxLocals)) (T37.setTop (mkF m 69 #[.val (.int p0), .val (.int vk), .val (.int (99 : Int32)), .val (.ref w_RIGHT), .val (.ref w_RIGHT)] [(.int (1 : Int32))])) := q38.trans (by
          show Steps p.tables e below (T37.setTop (mkF m 60 #[.val (.int p0), .val (.int vk), .val (.int (99 : Int32)), .val (.ref w_RIGHT), .val (.ref w_RIGHT)] [(.int (99 : Int32))])) _
          refine XS.iloadN X37.here hx rfl (hb hby at_60) rfl ?_
          show Steps p.tables e below (T37.setTop (mkF m 61 #[.val (.int p0), .val (.int vk), .val (.int (99 : Int32)), .val (.ref w_RIGHT), .val (.ref w_RIGHT)] [(.int (99 : Int32)), (.int (99 : Int32))])) _
          refine XS.icmpNo X37.here hx rfl (hb hby at_61) rfl (teq (by decide : (99 : Int32) = (99 : Int32))).2 ?_
          show Steps p.tables e below (T37.setTop (mkF m 64 #[.val (.int p0), .val (.int vk), .val (.int (99 : Int32)), .val (.ref w_RIGHT), .val (.ref w_RIGHT)] [])) _
          refine XS.iconst X37.here hx rfl (hb hby at_64) ?_
          show Steps p.tables e below (T37.setTop (mkF m 65 #[.val (.int p0), .val (.int vk), .val (.int (99 : Int32)), .val (.ref w_RIGHT), .val (.ref w_RIGHT)] [(.int (1 : Int32))])) _
          refine XS.goto X37.here hx rfl (pc0 := 65) (pc' := 69) rfl (hb hby at_65) (by decide) (by decide) ?_
          show Steps p.tables e below (T37.setTop (mkF m 69 #[.val (.int p0), .val (.int vk), .val (.int (99 : Int32)), .val (.ref w_RIGHT), .val (.ref w_RIGHT)] [(.int (1 : Int32))])) _
          exact Steps.refl _)
      obtain ⟨zr, hzr⟩ : ∃ v : Int32, v = (1 : Int32) := ⟨_, rfl⟩
      have hz1 : zr = 1 := plainC p0 vk zr hc3 hc17 hvk hzr
      obtain ⟨fs, hr, hrun, hended, hW, hsame⟩ := X37.leave (v := some (.int (1 : Int32))) (fun h => by rw [Bd.returns] at h; cases h)
      refine ⟨_, _, q39.trans ?_, hrun, hended, _, _, rfl, ?_, ⟨_, rfl⟩, hW, hsame.mono (by decide) (by decide)⟩
      · show Steps p.tables e below (T37.setTop (mkF m 69 #[.val (.int p0), .val (.int vk), .val (.int (99 : Int32)), .val (.ref w_RIGHT), .val (.ref w_RIGHT)] [(.int (1 : Int32))])) _
        exact retN X37 hx (t := .boolean) Bd.returns (by simp) (hb hby at_69) hr
      · show Q_rm0 Z p0 w_LEFT_A w_RIGHT w_LEFT_B w_FORMS h0 n0 _ T37.heap _
        rw [e37]
        exact ⟨rfl, N37⟩

set_option maxRecDepth 65536 in
set_option maxHeartbeats 40000000 in
theorem comes_1 {Post : Tables → Env → Array Value → State → Outcome → State → Prop} (hpost : ∀ tb e args s v u, (limb_1_1.after args s (.returned v) u = true ∧ limb_1_2.after args s (.returned v) u = true ∧ True) → FrameEnd s (.returned v) u (Jvm.fieldLocs frame_1_writes args s ++ Jvm.arrayLocs frame_1_arrays args s ++ Jvm.staticLocs frame_1_statics s) 0 0 → Post tb e args s (.returned v) u) :
    ArmFor flags0 classFile x code maxLocals ret World_1 tables_1 room_1 Calls_1 rest_1 Pre_1 Post := by
  intro l hfl _ _ p e ha hc hk s m args below hf hA hF happ hP
  obtain ⟨hcalls, hrest, hpre⟩ := hP
  obtain ⟨-, -, -, hnamed, -, -, -, hat⟩ := (Spec.applies_iff hf).mp happ
  obtain ⟨hg, hn⟩ := and_e (Cond.before_iff.mp (show (Jvm.Cond.and given_1 narrow_1).before args s = true from hpre))
  obtain ⟨hcount, hg0⟩ := and_e hg
  obtain ⟨w0, rfl⟩ : ∃ w0 : Value, args = #[w0] := by
    have hs : args.size = 1 := by simpa [Cond.value, given_1] using hcount
    obtain ⟨L⟩ := args
    match L, hs with
    | [w0], _ => exact ⟨w0, rfl⟩
  have hw := fun d (hd : d ∈ tables_1) => atoms_spec (ws := Jvm.Cond.code x code maxLocals ret :: tables_1) hat d (List.mem_cons_of_mem _ hd)
  have hfit : Fit s := fun {y c} hc i hi => by
    obtain ⟨ha, rfl⟩ := Array.getElem?_eq_some_iff.mp hc
    have q := List.all_eq_true.mp ((Array.all_eq_true_iff_forall_mem.mp hF) _ (Array.getElem_mem ha)) i (List.mem_range.mpr hi)
    simpa [Array.getElem?_eq_getElem hi] using q
  obtain ⟨i0, ei0⟩ := is_v hg0
  obtain rfl : w0 = (.int i0) := Option.some.inj ei0
  obtain ⟨nl1, nr1⟩ := and_e hn
  obtain ⟨nl2, nr2⟩ := and_e nr1
  obtain ⟨nl3, nr3⟩ := and_e nr2
  obtain ⟨nl4, nr4⟩ := and_e nr3
  obtain ⟨nl5, nr5⟩ := and_e nr4
  obtain ⟨nl6, nr6⟩ := and_e nr5
  obtain ⟨nl7, nr7⟩ := and_e nr6
  obtain ⟨nl8, nr8⟩ := and_e nr7
  obtain ⟨nl9, nr9⟩ := and_e nr8
  obtain ⟨nl10, nr10⟩ := and_e nr9
  obtain ⟨w_LEFT_A, ev_LEFT_A⟩ := exa_v nl1
  obtain ⟨w_FORMS, ev_FORMS⟩ := arr_v nl2
  obtain ⟨w_RIGHT, ev_RIGHT⟩ := exa_v nl6
  obtain ⟨w_LEFT_B, ev_LEFT_B⟩ := exa_v nl9
  have E_LEFT_A : Exa s s.heap w_LEFT_A "sevenwide/Form" := Exa.start ev_LEFT_A nl1
  have S_LEFT_A : Sta s s.heap "sevenwide/Form" "LEFT_A" "Lsevenwide/Form;" (.ref w_LEFT_A) := Sta.start ev_LEFT_A (Or.inr ⟨(hw _ (List.mem_of_getElem? (i := 2) rfl)), (hw _ (List.mem_of_getElem? (i := 3) rfl))⟩)
  obtain ⟨cF, AF⟩ := Arr.start ev_FORMS nl2
  have aF : s.arrayAt? w_FORMS = some cF := Arr.fin (Z := s) (U := s) (Vm.Alike.refl _) AF
  have S_FORMS : Sta s s.heap "sevenwide/Form" "FORMS" "[Lsevenwide/Form;" (.ref w_FORMS) := Sta.start ev_FORMS (Or.inr ⟨(hw _ (List.mem_of_getElem? (i := 2) rfl)), (hw _ (List.mem_of_getElem? (i := 8) rfl))⟩)
  have E_RIGHT : Exa s s.heap w_RIGHT "sevenwide/Form" := Exa.start ev_RIGHT nl6
  have S_RIGHT : Sta s s.heap "sevenwide/Form" "RIGHT" "Lsevenwide/Form;" (.ref w_RIGHT) := Sta.start ev_RIGHT (Or.inr ⟨(hw _ (List.mem_of_getElem? (i := 2) rfl)), (hw _ (List.mem_of_getElem? (i := 17) rfl))⟩)
  have E_LEFT_B : Exa s s.heap w_LEFT_B "sevenwide/Form" := Exa.start ev_LEFT_B nl9
  have S_LEFT_B : Sta s s.heap "sevenwide/Form" "LEFT_B" "Lsevenwide/Form;" (.ref w_LEFT_B) := Sta.start ev_LEFT_B (Or.inr ⟨(hw _ (List.mem_of_getElem? (i := 2) rfl)), (hw _ (List.mem_of_getElem? (i := 19) rfl))⟩)
  have szF : cF.slots.size = 3 := own_size3 ev_FORMS aF (own_eqint nl3)
  have el0 : cF.slots[0]? = some (.ref w_LEFT_A) := (elem_f ev_FORMS (Term.int_eval (0)) aF (by decide)).symm.trans (own_eqref nl4 ev_LEFT_A)
  have O_LEFT_A : Fld s s.heap w_LEFT_A "sevenwide/Form" "letter" "C" (.int (97 : Int32)) := Fld.start ((fld_at ev_LEFT_A).symm.trans (own_eqint nl5))
  have el1 : cF.slots[1]? = some (.ref w_RIGHT) := (elem_f ev_FORMS (Term.int_eval (1)) aF (by decide)).symm.trans (own_eqref nl7 ev_RIGHT)
  have O_RIGHT : Fld s s.heap w_RIGHT "sevenwide/Form" "letter" "C" (.int (99 : Int32)) := Fld.start ((fld_at ev_RIGHT).symm.trans (own_eqint nl8))
  have el2 : cF.slots[2]? = some (.ref w_LEFT_B) := (elem_f ev_FORMS (Term.int_eval (2)) aF (by decide)).symm.trans (own_eqref nl10 ev_LEFT_B)
  have O_LEFT_B : Fld s s.heap w_LEFT_B "sevenwide/Form" "letter" "C" (.int (98 : Int32)) := Fld.start ((fld_at ev_LEFT_B).symm.trans (own_eqint nr10))
  have A_FORMS : Own.AV s s.heap w_FORMS (.object "sevenwide/Form") [(.ref w_LEFT_A), (.ref w_RIGHT), (.ref w_LEFT_B)] := own_arr3 AF szF el0 el1 el2
  obtain ⟨n, o, h1, h2, h3, _, L, rfl, ⟨rfl, N⟩, hq⟩ := rm0 l s _ hw tables_1 i0 w_LEFT_A w_RIGHT w_LEFT_B w_FORMS s.heap s.heap.size (Nat.le_refl _) S_LEFT_A S_RIGHT S_LEFT_B S_FORMS A_FORMS O_LEFT_A E_LEFT_A O_RIGHT E_RIGHT O_LEFT_B E_LEFT_B p e ha hc hk s m _ below hf ((Spec.applies_iff_loose hf).mp happ).1 ⟨rfl, State.Warmed39.refl s, rfl⟩ trivial
  refine ⟨n, _, h1, h2, h3, hpost _ _ _ _ _ _ ⟨Cond.after_iff.mpr rfl, Cond.after_iff.mpr (eq_i res_at (Term.int_eval (1)) rfl), trivial⟩ ⟨hq.1, hq.2.1, (hq.2.2.sift fun y hy => Or.inr (N y hy)).mono (by decide) (by decide)⟩⟩
theorem main_1_1 : Claimed_1_1 := comes_1 fun _ _ _ _ _ _ h hF => ⟨h.1, hF⟩
theorem main_1_2 : Claimed_1_2 := comes_1 fun _ _ _ _ _ _ h hF => ⟨h.2.1, hF⟩
end Jvm.Pilot.@@N@@
namespace Jvm.Pilot.@@N@@
open Jvm Jvm.ClassFile Sem Op Lib Jvm.Free Jvm.Stand Jvm.Pilot.@@N@@.Jvm.D
/-! MADE BY PROGRAM (witnessworld.py) out of the Statement's table words and the real class files: 13 classes; the members and pool entries that the words name. The judged class is class 1, her method 1. -/
namespace start1
open Jvm.ClassFile
def u (s : String) : CpInfo := .utf8 (stringToUtf16 s)
/-- a pool by its gaps: so many unusable entries, then the entry; so many at the end -/
def gap : Nat → List CpInfo → List CpInfo
  | 0, r => r
  | n + 1, r => .unusable :: gap n r
def poolList (es : List (Nat × CpInfo)) (last : Nat) : List CpInfo := es.foldr (fun e r => gap e.1 (e.2 :: r)) (gap last [])
def pool (es : List (Nat × CpInfo)) (last : Nat) : Array CpInfo := ⟨poolList es last⟩
def fileOf (pool : Array CpInfo) (this : Nat) (attrs : Array Attribute := #[]) (ms : Array MethodInfo := #[]) (fl : Nat := 33) (sup : Nat := 0) (ifs : Array Nat := #[]) (fds : Array FieldInfo := #[]) : ClassFile where
  minorVersion := 0
  majorVersion := 65
  constantPool := pool
  accessFlags := fl
  thisClass := this
  superClass := sup
  interfaces := ifs
  fields := fds
  methods := ms
  attributes := attrs
def plain (name : String) (sup : Option ClassId) : Class where
  name := name
  kind := .ordinary
  loader := none
  accessFlags := 33
  super := sup
  interfaces := #[]
  cf := none
  fields := #[]
  methods := #[]
  instanceTypes := #[]
  staticTypes := #[]
  resolved := #[]
  callSites := []
  init := .initialized
  statics := none
  mirror := none

def pool0 : Array CpInfo := pool [(5, u "<init>"), (0, u "()V"), (1, .class_ 10), (1, u "java/lang/Object")] 113

def k0m0 : Method := { name := "<init>", desc := "()V", sig := { parameters := [], returnType := none }, accessFlags := 1, code := none }
/-- java/lang/Object -/
def k0 : Class := { plain "java/lang/Object" none with
  accessFlags := 33
  interfaces := #[]
  cf := some (fileOf pool0 8 #[] #[{ accessFlags := 1, nameIndex := 5, descriptorIndex := 6, attributes := #[] }] 33 0 #[] #[])
  fields := #[]
  methods := #[k0m0]
  instanceTypes := #[]
  staticTypes := #[]
  resolved := Array.replicate 124 none
  statics := none }

def pool1 : Array CpInfo := pool [(2, .class_ 4), (1, u "java/lang/Object"), (0, u "<init>"), (0, u "()V"), (0, .integer 2147483647), (0, .fieldref 9 10), (0, .class_ 11), (0, .nameAndType 12 13), (0, u "sevenwide/Form"), (0, u "LEFT_A"), (0, u "Lsevenwide/Form;"), (0, .fieldref 9 15), (0, .nameAndType 16 13), (0, u "LEFT_B"), (0, .fieldref 9 18), (0, .nameAndType 19 13), (0, u "RIGHT"), (0, .methodref 9 21), (0, .nameAndType 22 23), (0, u "ofParity"), (0, u "(C)Lsevenwide/Form;"), (0, .methodref 9 25), (0, .nameAndType 26 27), (0, u "letter"), (0, u "()C"), (0, .class_ 29), (0, u "sevenwide/FormOfParityPinLaw"), (2, u "law"), (0, u "(I)Z")] 3

def k1m0 : Method := { name := "<init>", desc := "()V", sig := { parameters := [], returnType := none }, accessFlags := 1, code := none }
def k1c1 : Code := { maxStack := 2, maxLocals := 5, code := code, exceptionTable := #[], attributes := #[] }
def k1m1 : Method := { name := "law", desc := "(I)Z", sig := { parameters := [.int], returnType := some .boolean }, accessFlags := 9, code := some k1c1 }
/-- sevenwide/FormOfParityPinLaw -/
def k1 : Class := { plain "sevenwide/FormOfParityPinLaw" (some 0) with
  accessFlags := 49
  interfaces := #[]
  cf := some (fileOf pool1 28 #[] #[{ accessFlags := 1, nameIndex := 5, descriptorIndex := 6, attributes := #[] }, { accessFlags := 9, nameIndex := 32, descriptorIndex := 33, attributes := #[] }] 49 2 #[] #[])
  fields := #[]
  methods := #[k1m0, k1m1]
  instanceTypes := #[]
  staticTypes := #[]
  resolved := Array.replicate 37 none
  statics := none }

def pool2 : Array CpInfo := pool [(1, .class_ 2), (0, u "java/lang/constant/Constable"), (0, .class_ 4), (0, u "java/lang/Object")] 6

/-- java/lang/constant/Constable -/
def k2 : Class := { plain "java/lang/constant/Constable" (some 0) with
  accessFlags := 1537
  interfaces := #[]
  cf := some (fileOf pool2 1 #[] #[] 1537 3 #[] #[])
  fields := #[]
  methods := #[]
  instanceTypes := #[]
  staticTypes := #[]
  resolved := Array.replicate 11 none
  statics := none }

def pool3 : Array CpInfo := pool [(1, .class_ 2), (0, u "java/lang/Comparable"), (0, .class_ 4), (0, u "java/lang/Object")] 7

/-- java/lang/Comparable -/
def k3 : Class := { plain "java/lang/Comparable" (some 0) with
  accessFlags := 1537
  interfaces := #[]
  cf := some (fileOf pool3 1 #[] #[] 1537 3 #[] #[])
  fields := #[]
  methods := #[]
  instanceTypes := #[]
  staticTypes := #[]
  resolved := Array.replicate 12 none
  statics := none }

def pool4 : Array CpInfo := pool [(1, .class_ 2), (0, u "java/io/Serializable"), (0, .class_ 4), (0, u "java/lang/Object")] 2

/-- java/io/Serializable -/
def k4 : Class := { plain "java/io/Serializable" (some 0) with
  accessFlags := 1537
  interfaces := #[]
  cf := some (fileOf pool4 1 #[] #[] 1537 3 #[] #[])
  fields := #[]
  methods := #[]
  instanceTypes := #[]
  staticTypes := #[]
  resolved := Array.replicate 7 none
  statics := none }

def pool5 : Array CpInfo := pool [(2, .class_ 4), (1, u "java/lang/Enum"), (0, u "name"), (0, u "Ljava/lang/String;"), (2, u "ordinal"), (0, u "I"), (1, .class_ 14), (1, u "java/lang/Object"), (4, u "hash"), (86, .class_ 108), (1, u "java/lang/Enum$EnumDesc"), (2, .class_ 112), (0, u "java/lang/constant/Constable"), (0, .class_ 114), (0, u "java/lang/Comparable"), (0, .class_ 116), (0, u "java/io/Serializable")] 87

/-- java/lang/Enum -/
def k5 : Class := { plain "java/lang/Enum" (some 0) with
  accessFlags := 1057
  interfaces := #[2, 3, 4]
  cf := some (fileOf pool5 2 #[.nestMembers #[106]] #[] 1057 12 #[111, 113, 115] #[{ accessFlags := 18, nameIndex := 5, descriptorIndex := 6, attributes := #[] }, { accessFlags := 18, nameIndex := 9, descriptorIndex := 10, attributes := #[] }, { accessFlags := 2, nameIndex := 19, descriptorIndex := 10, attributes := #[] }])
  fields := #[{ name := "name", type := (.object "java/lang/String"), accessFlags := 18, slot := 0, constantValue := 0 }, { name := "ordinal", type := .int, accessFlags := 18, slot := 1, constantValue := 0 }, { name := "hash", type := .int, accessFlags := 2, slot := 2, constantValue := 0 }]
  methods := #[]
  instanceTypes := #[(.object "java/lang/String"), .int, .int]
  staticTypes := #[]
  resolved := Array.replicate 204 none
  statics := none }

def pool6 : Array CpInfo := pool [(1, .class_ 2), (0, u "sevenwide/Form"), (2, u "LEFT_A"), (0, u "Lsevenwide/Form;"), (2, u "RIGHT"), (2, u "LEFT_B"), (2, u "$VALUES"), (0, u "[Lsevenwide/Form;"), (6, .class_ 25), (1, u "java/lang/Enum"), (6, .fieldref 1 33), (0, .nameAndType 34 35), (0, u "letter"), (0, u "C"), (2, u "modules"), (0, u "Ljava/util/List;"), (0, .fieldref 1 41), (0, .nameAndType 42 16), (0, u "FORMS"), (29, u "BY_MODULES"), (0, u "[Lsevenwide/Form$Digit;"), (86, .class_ 161), (0, u "sevenwide/Form$Digit"), (12, u "WIDTH"), (0, u "I"), (9, u "ofParity"), (0, u "(C)Lsevenwide/Form;"), (1, u "()C")] 46

def k6c0 : Code := { maxStack := 3, maxLocals := 5, code := prog_1_method_4_code, exceptionTable := #[], attributes := #[] }
def k6m0 : Method := { name := "ofParity", desc := "(C)Lsevenwide/Form;", sig := { parameters := [.char], returnType := some (.object "sevenwide/Form") }, accessFlags := 8, code := some k6c0 }
def k6c1 : Code := { maxStack := 1, maxLocals := 1, code := prog_1_method_5_code, exceptionTable := #[], attributes := #[] }
def k6m1 : Method := { name := "letter", desc := "()C", sig := { parameters := [], returnType := some .char }, accessFlags := 0, code := some k6c1 }
/-- sevenwide/Form -/
def k6 : Class := { plain "sevenwide/Form" (some 5) with
  accessFlags := 16432
  interfaces := #[]
  cf := some (fileOf pool6 1 #[.nestMembers #[160]] #[{ accessFlags := 8, nameIndex := 185, descriptorIndex := 186, attributes := #[] }, { accessFlags := 0, nameIndex := 34, descriptorIndex := 188, attributes := #[] }] 16432 23 #[] #[{ accessFlags := 16409, nameIndex := 5, descriptorIndex := 6, attributes := #[] }, { accessFlags := 16409, nameIndex := 9, descriptorIndex := 6, attributes := #[] }, { accessFlags := 16409, nameIndex := 12, descriptorIndex := 6, attributes := #[] }, { accessFlags := 24, nameIndex := 174, descriptorIndex := 175, attributes := #[] }, { accessFlags := 26, nameIndex := 42, descriptorIndex := 16, attributes := #[] }, { accessFlags := 26, nameIndex := 72, descriptorIndex := 73, attributes := #[] }, { accessFlags := 18, nameIndex := 34, descriptorIndex := 35, attributes := #[] }, { accessFlags := 18, nameIndex := 38, descriptorIndex := 39, attributes := #[] }, { accessFlags := 4122, nameIndex := 15, descriptorIndex := 16, attributes := #[] }])
  fields := #[{ name := "LEFT_A", type := (.object "sevenwide/Form"), accessFlags := 16409, slot := 0, constantValue := 0 }, { name := "RIGHT", type := (.object "sevenwide/Form"), accessFlags := 16409, slot := 1, constantValue := 0 }, { name := "LEFT_B", type := (.object "sevenwide/Form"), accessFlags := 16409, slot := 2, constantValue := 0 }, { name := "WIDTH", type := .int, accessFlags := 24, slot := 3, constantValue := 0 }, { name := "FORMS", type := (.array (.object "sevenwide/Form")), accessFlags := 26, slot := 4, constantValue := 0 }, { name := "BY_MODULES", type := (.array (.object "sevenwide/Form$Digit")), accessFlags := 26, slot := 5, constantValue := 0 }, { name := "letter", type := .char, accessFlags := 18, slot := 3, constantValue := 0 }, { name := "modules", type := (.object "java/util/List"), accessFlags := 18, slot := 4, constantValue := 0 }, { name := "$VALUES", type := (.array (.object "sevenwide/Form")), accessFlags := 4122, slot := 6, constantValue := 0 }]
  methods := #[k6m0, k6m1]
  instanceTypes := #[(.object "java/lang/String"), .int, .int, .char, (.object "java/util/List")]
  staticTypes := #[(.object "sevenwide/Form"), (.object "sevenwide/Form"), (.object "sevenwide/Form"), .int, (.array (.object "sevenwide/Form")), (.array (.object "sevenwide/Form$Digit")), (.array (.object "sevenwide/Form"))]
  resolved := Array.replicate 235 none
  statics := some 0 }

def pool7 : Array CpInfo := pool [(1, u "java/lang/Cloneable"), (0, .class_ 1), (0, u "java/lang/Object"), (0, .class_ 3)] 3

/-- java/lang/Cloneable -/
def k7 : Class := { plain "java/lang/Cloneable" (some 0) with
  accessFlags := 1537
  interfaces := #[]
  cf := some (fileOf pool7 2 #[] #[] 1537 4 #[] #[])
  fields := #[]
  methods := #[]
  instanceTypes := #[]
  staticTypes := #[]
  resolved := Array.replicate 8 none
  statics := none }

/-- the primitive byte -/
def k8 : Class := { plain "byte" none with kind := .primitive 'B', accessFlags := 0x411 }
/-- [B -/
def k9 : Class := { plain "[B" (some 0) with kind := .array 8 .byte, interfaces := #[7, 4], accessFlags := 1041 }

/-- the primitive int -/
def k10 : Class := { plain "int" none with kind := .primitive 'I', accessFlags := 0x411 }
/-- [I -/
def k11 : Class := { plain "[I" (some 0) with kind := .array 10 .int, interfaces := #[7, 4], accessFlags := 1041 }

/-- [Lsevenwide/Form; -/
def k12 : Class := { plain "[Lsevenwide/Form;" (some 0) with kind := .array 6 (.object "sevenwide/Form"), interfaces := #[7, 4], accessFlags := 1041 }

def heap : Heap := #[{ cls := 6, slots := #[.ref 2, .ref 3, .ref 4, .int 0, .ref 1, .null, .null], vm := .statics 6 },
  { cls := 12, slots := #[.ref 2, .ref 3, .ref 4], vm := .none },
  { cls := 6, slots := #[.null, .int 0, .int 0, .int 97, .null], vm := .none },
  { cls := 6, slots := #[.null, .int 1, .int 0, .int 99, .null], vm := .none },
  { cls := 6, slots := #[.null, .int 2, .int 0, .int 98, .null], vm := .none }]
def classes : Array Class := #[k0, k1, k2, k3, k4, k5, k6, k7, k8, k9, k10, k11, k12]
def interned : List (Array UInt16 × Addr) := []
def slotsUsed : Nat := 25
def theMethod : MethodId := ⟨1, 1⟩
def args0 : Array Value := #[.int 5]
def aboutOver (below : List Frame) : State where
  vm := { classes := classes, interned := interned.toArray }
  heap := heap
  slotsUsed := slotsUsed
  threads := #[{ frames := .invoking theMethod args0 :: below }]
def below0 : List Frame := [.native { method := ⟨0, 0⟩, args := #[] }]
def about1 : State := aboutOver below0
def p0 : Program := .bare "" "" ""
def e0 : Env := launch0.env 0 0 0
theorem w_frames : about1.frames = Frame.invoking theMethod args0 :: below0 := rfl
set_option maxRecDepth 65536 in
theorem w_args : argsFit about1.vm theMethod args0 = true := by decide +kernel
set_option maxRecDepth 65536 in
theorem w_heap : heapFits about1 = true := by decide +kernel
set_option maxRecDepth 65536 in
theorem w_runnable : about1.curStatus? = some .runnable := by decide +kernel
set_option maxRecDepth 65536 in
theorem w_alone : about1.alone = true := by decide +kernel
set_option maxRecDepth 65536 in
theorem w_named : about1.methodNamed? x = some theMethod := by decide +kernel
set_option maxRecDepth 65536 in
theorem w_hears : about1.hears theMethod below0 = true := by decide +kernel
set_option maxRecDepth 65536 in
theorem w_ripe : about1.ripe theMethod args0 below0 = true := by decide +kernel
theorem w_running : about1.status = .running := rfl
set_option maxRecDepth 65536 in
theorem w_room : about1.hasRoom e0.platform room_1 = true :=
  launch0.hasRoom_least _ room_1 (by decide +kernel) (by decide +kernel) (by decide +kernel) (by decide +kernel) (by decide +kernel) (by decide +kernel)
theorem allAtoms_all (ts : List Jvm.Cond) (a : Array Jvm.Value) (st : Jvm.State) : (allAtoms ts).before a st = ts.all (fun c => c.before a st) := by
  induction ts with
  | nil => rfl
  | cons c t ih =>
    show (Jvm.Cond.and c (allAtoms t)).before a st = _
    rw [Jvm.Cond.before_and, ih, List.all_cons]
def words1 : List Jvm.Cond := Jvm.Cond.code x code maxLocals ret :: tables_1
/-- a 'code' word, met by the world's own term for the bytes: nothing is compared byte by byte -/
theorem code_word {y : MethodName} {bytes : ByteArray} {mx : Nat} {rt : Option FieldType} {a : Array Value} {s : State} {m : MethodId} {meth : Method} {c : Code} (h1 : s.methodNamed? y = some m) (h2 : s.vm.method? m = some meth) (h3 : meth.code = some c) (h4 : c.code = bytes)
    (h5 : (c.maxLocals == mx && c.exceptionTable.isEmpty && decide (c.maxStack ≤ mostOperands) && decide (meth.sig.returnType = rt) && !meth.locks && decide (parseMethodDescriptor y.desc = some meth.sig)) = true) : (Jvm.Cond.code y bytes mx rt).before a s = true := by
  simp only [Bool.and_eq_true, beq_iff_eq, Bool.not_eq_true', decide_eq_true_eq] at h5
  obtain ⟨⟨⟨⟨⟨g1, g2⟩, g3⟩, g4⟩, g5⟩, g6⟩ := h5
  simp [Cond.before, Cond.holds, Cond.value, h1, h2, h3, h4, g1, g2, g3, g4, g5, g6]
def isCode : Jvm.Cond → Bool
  | .code _ _ _ _ => true
  | _ => false
theorem all_split {L : List Jvm.Cond} {P : Jvm.Cond → Bool} (h1 : L.all (fun c => isCode c || P c) = true) (h2 : ∀ c ∈ L.filter isCode, P c = true) : L.all P = true := by
  refine List.all_eq_true.mpr fun c hc => ?_
  have h := List.all_eq_true.mp h1 c hc
  rcases Bool.eq_false_or_eq_true (isCode c) with hi | hi
  · exact h2 c (List.mem_filter.mpr ⟨hc, hi⟩)
  · simpa [hi] using h
set_option maxRecDepth 65536 in
theorem w_c0 : (Jvm.Cond.code x code maxLocals ret).before args0 about1 = true := code_word (m := ⟨1, 1⟩) (meth := k1m1) (c := k1c1) (by decide +kernel) rfl rfl rfl (by decide +kernel)
set_option maxRecDepth 65536 in
theorem w_c1 : (Jvm.Cond.code ({ cls := "sevenwide/Form", name := "ofParity", desc := "(C)Lsevenwide/Form;" } : Jvm.MethodName) prog_1_method_4_code (5 : Nat) (Option.some (Jvm.ClassFile.FieldType.object "sevenwide/Form"))).before args0 about1 = true := code_word (m := ⟨6, 0⟩) (meth := k6m0) (c := k6c0) (by decide +kernel) rfl rfl rfl (by decide +kernel)
set_option maxRecDepth 65536 in
theorem w_c2 : (Jvm.Cond.code ({ cls := "sevenwide/Form", name := "letter", desc := "()C" } : Jvm.MethodName) prog_1_method_5_code (1 : Nat) (Option.some Jvm.ClassFile.FieldType.char)).before args0 about1 = true := code_word (m := ⟨6, 1⟩) (meth := k6m1) (c := k6c1) (by decide +kernel) rfl rfl rfl (by decide +kernel)
def codes1 : List Jvm.Cond := [Jvm.Cond.code x code maxLocals ret, Jvm.Cond.code ({ cls := "sevenwide/Form", name := "ofParity", desc := "(C)Lsevenwide/Form;" } : Jvm.MethodName) prog_1_method_4_code (5 : Nat) (Option.some (Jvm.ClassFile.FieldType.object "sevenwide/Form")), Jvm.Cond.code ({ cls := "sevenwide/Form", name := "letter", desc := "()C" } : Jvm.MethodName) prog_1_method_5_code (1 : Nat) (Option.some Jvm.ClassFile.FieldType.char)]
set_option maxRecDepth 65536 in
theorem codes_eq : words1.filter isCode = codes1 := rfl
theorem w_codes : ∀ c ∈ words1.filter isCode, c.before args0 about1 = true := by
  rw [codes_eq]
  intro c hc
  simp only [codes1, List.mem_cons, List.not_mem_nil, or_false] at hc
  rcases hc with rfl | rfl | rfl
  · exact w_c0
  · exact w_c1
  · exact w_c2
set_option maxRecDepth 65536 in
theorem w_t1 : words1.all (fun c => isCode c || c.before args0 about1) = true := by decide +kernel
theorem w_tables : (allAtoms (Jvm.Cond.code x code maxLocals ret :: tables_1)).before args0 about1 = true := by
  rw [allAtoms_all]
  show words1.all (fun c => c.before args0 about1) = true
  refine all_split ?_ w_codes
  rw [w_t1]
set_option maxRecDepth 65536 in
theorem w_case : (Jvm.Cond.and given_1 narrow_1).before args0 about1 = true := by decide +kernel
theorem w_applies : (headSpec (Jvm.Cond.code x code maxLocals ret :: tables_1) room_1).applies x e0.platform about1 = true :=
  (Spec.applies_iff w_frames).mpr ⟨w_running, w_runnable, w_alone, w_named, w_hears, w_ripe, w_room, w_tables⟩
theorem atStart : AtStart classFile x code maxLocals ret World_1 tables_1 room_1 Calls_1 rest_1 Pre_1 launch0 p0 e0 about1 theMethod args0 below0 :=
  ⟨lists_1, trivial, launch0.admits_env _ _ _, launch0.least_env, fairChoices_fair.cas, fairChoices_fair.clock, w_frames, w_args, w_heap, w_applies, trivial, trivial, w_case⟩
end start1
theorem witness_1 : WitnessClaimed_1 := ⟨start1.p0, start1.e0, start1.about1, start1.theMethod, start1.args0, start1.below0, start1.atStart⟩
end Jvm.Pilot.@@N@@
