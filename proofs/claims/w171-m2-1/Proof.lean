import JvmDerived
import JvmDerived.Pilot.@@N@@Statement
import JvmDerived.Pilot.@@N@@Code
set_option linter.unusedVariables false
set_option linter.unusedSimpArgs false
@@BLOCK:NumsL.lean.txt@@
namespace Jvm.Own
open Sem ClassFile Op Lib Jvm.Stand Jvm.Free Jvm.LawKit Jvm.RoadKit
section Arrays
variable {p : Program} {l : Launch} {e : Env} {R : Room} {s : State} {m : MethodId} {args : Array Value} {below : List Frame} {meth : Method} {c : Code} {T : State} {locs : List Loc} {cells slots : Nat} {Z : State} {h h' h0 : Heap} {a b : Addr} {ty : FieldType} {vs : List Value} {xs : List Int32} {v : Value} {sl : Nat} {ws : List Addr}
/-- the array at a: of the kind ty, its components vs -/
def AV (Z : State) (h : Heap) (a : Addr) (ty : FieldType) (vs : List Value) : Prop := ∃ c : Cell, Arr Z h a c ty ∧ c.slots = vs.toArray ∧ vs.length < 2147483648
/-- an int array -/
def IA (Z : State) (h : Heap) (a : Addr) (xs : List Int32) : Prop := AV Z h a .int (xs.map Value.int)
theorem AV.lt (F : AV Z h a ty vs) : a < h.size := by obtain ⟨c, A, -⟩ := F; exact A.lt
theorem AV.ext (F : AV Z h a ty vs) (E : Ext h h') : AV Z h' a ty vs := by obtain ⟨c, A, r⟩ := F; exact ⟨c, A.ext E, r⟩
theorem AV.other (F : AV Z h b ty vs) (W : Wr h h' a sl v) (q : b ≠ a) : AV Z h' b ty vs := by obtain ⟨c, A, r⟩ := F; exact ⟨c, A.other W q, r⟩
theorem AV.keep (F : AV Z h a ty vs) (K : Keep h h' ws) (q : a ∉ ws) : AV Z h' a ty vs := by obtain ⟨c, A, r⟩ := F; exact ⟨c, ⟨K.2.1 a c A.1 q, A.2⟩, r⟩
theorem AV.wr (F : AV Z h a ty vs) (W : Wr h h' a sl v) : AV Z h' a ty (vs.set sl v) := by
  obtain ⟨c, A, q, n⟩ := F
  exact ⟨_, A.same W, by simp [Cell.setSlot, q], by simpa using n⟩
theorem clamp_lt (z : Int32) : z.toNatClampNeg < 2147483648 := by
  have := z.toInt_lt
  simp only [Int32.toNatClampNeg]; omega
theorem AV.new {k : ClassId} {z : Int32} (A : Arr Z h a (newA k ty z) ty) (q : List.replicate z.toNatClampNeg (defaultValue ty) = vs) : AV Z h a ty vs := by
  subst q
  exact ⟨_, A, by simp [newA], by rw [List.length_replicate]; exact clamp_lt z⟩
theorem IA.lt (F : IA Z h a xs) : a < h.size := AV.lt F
theorem IA.ext (F : IA Z h a xs) (E : Ext h h') : IA Z h' a xs := AV.ext F E
theorem IA.other (F : IA Z h b xs) (W : Wr h h' a sl v) (q : b ≠ a) : IA Z h' b xs := AV.other F W q
theorem IA.keep (F : IA Z h a xs) (K : Keep h h' ws) (q : a ∉ ws) : IA Z h' a xs := AV.keep F K q
theorem IA.new {k : ClassId} {z : Int32} (A : Arr Z h a (newA k .int z) .int) {n : Nat} (q : z.toNatClampNeg = n) : IA Z h a (List.replicate n (0 : Int32)) := AV.new A (by subst q; rw [List.map_replicate]; rfl)
theorem IA.wr {x : Int32} (F : IA Z h a xs) (W : Wr h h' a sl (.int x)) : IA Z h' a (xs.set sl x) := by
  have := AV.wr F W
  rw [← List.map_set] at this; exact this
/-- the place j of an int array; the array with x there -/
def gi (xs : List Int32) (j : Int32) : Int32 := xs.getD j.toNatClampNeg 0
def si (xs : List Int32) (j x : Int32) : List Int32 := xs.set j.toNatClampNeg x
theorem si_len (xs : List Int32) (j x : Int32) : (si xs j x).length = xs.length := by simp [si]
theorem clamp_of {j : Int32} {n : Nat} (hj : 0 ≤ j.toInt ∧ j.toInt < (n : Int)) : j.toNatClampNeg < n ∧ ¬ j < 0 := by
  obtain ⟨h1, h2⟩ := hj
  refine ⟨by simp only [Int32.toNatClampNeg]; omega, ?_⟩
  rw [Int32.lt_iff_toInt_lt]; show ¬ _ < (0 : Int); omega
theorem inb_of' {cl : Cell} {j : Int32} {n : Nat} (hn : cl.slots.size = n) (hj : 0 ≤ j.toInt ∧ j.toInt < (n : Int)) : ¬ (j < 0 ∨ cl.slots.size ≤ j.toNatClampNeg) := by
  obtain ⟨h1, h2⟩ := clamp_of hj
  rintro (q | q)
  · exact h2 q
  · omega
theorem ldI (X : Stand p l e R s m args below meth c T locs cells slots) (hx : p.tables.exec = Jvm.exec) (hZ : Z.Warmed39 s.vm) (eT : T.heap = h) (F : IA Z h a xs) {j : Int32} (n : Nat) (hl : xs.length = n) (hj : 0 ≤ j.toInt ∧ j.toInt < (n : Int)) {g : JFrame} (hg : g.method = m) {rest : List Value} (hs : g.stack = .int j :: .ref a :: rest) (hd : decode c.code g.pc = .ok (.iaload, 1)) :
    ∀ target, Steps p.tables e below (T.setTop { g with pc := g.pc + 1, stack := .int (gi xs j) :: rest }) target → Steps p.tables e below (T.setTop g) target := by
  obtain ⟨cl, A, q, r⟩ := F
  have hsz : cl.slots.size = n := by rw [q]; simp [hl]
  have hi := (clamp_of hj).1
  refine X.iaload hx (v := .int (gi xs j)) (by rw [eT]; exact A.1) (State.isArrayOf_alike hZ.alike A.2.1) A.2.2 (inb_of' hsz hj) ?_ hg hs hd
  rw [q]
  have : j.toNatClampNeg < xs.length := by omega
  simp [gi, List.getD_eq_getElem?_getD, this]
theorem lnV (X : Stand p l e R s m args below meth c T locs cells slots) (hx : p.tables.exec = Jvm.exec) (hZ : Z.Warmed39 s.vm) (eT : T.heap = h) (F : AV Z h a ty vs) {z : Int32} (hz : vs.length.toInt32 = z) {g : JFrame} (hg : g.method = m) {rest : List Value} (hs : g.stack = .ref a :: rest) (hd : decode c.code g.pc = .ok (.arraylength, 1)) :
    ∀ target, Steps p.tables e below (T.setTop { g with pc := g.pc + 1, stack := .int z :: rest }) target → Steps p.tables e below (T.setTop g) target := by
  obtain ⟨cl, A, q, r⟩ := F
  intro target k
  refine X.arraylength hx (by rw [eT]; exact A.1) (State.isArrayOf_alike hZ.alike A.2.1) hg hs hd _ ?_
  have : cl.slots.size.toInt32 = z := by rw [q]; simpa using hz
  rw [this]; exact k
theorem lnI (X : Stand p l e R s m args below meth c T locs cells slots) (hx : p.tables.exec = Jvm.exec) (hZ : Z.Warmed39 s.vm) (eT : T.heap = h) (F : IA Z h a xs) {z : Int32} (hz : xs.length.toInt32 = z) {g : JFrame} (hg : g.method = m) {rest : List Value} (hs : g.stack = .ref a :: rest) (hd : decode c.code g.pc = .ok (.arraylength, 1)) :
    ∀ target, Steps p.tables e below (T.setTop { g with pc := g.pc + 1, stack := .int z :: rest }) target → Steps p.tables e below (T.setTop g) target :=
  lnV X hx hZ eT F (by rw [List.length_map]; exact hz) hg hs hd
theorem stIA (X : Stand p l e R s m args below meth c T locs cells slots) (hx : p.tables.exec = Jvm.exec) (hZ : Z.Warmed39 s.vm) (eT : T.heap = h) (F : IA Z h a xs) {j x : Int32} (n : Nat) (hl : xs.length = n) (hj : 0 ≤ j.toInt ∧ j.toInt < (n : Int)) {g : JFrame} (hg : g.method = m) {rest : List Value} (hs : g.stack = .int x :: .int j :: .ref a :: rest) (hd : decode c.code g.pc = .ok (.iastore, 1)) :
    ∃ T' h', Stand p l e R s m args below meth c T' (locs ++ [⟨a, j.toNatClampNeg⟩]) cells slots ∧ T'.heap = h' ∧ Wr h h' a j.toNatClampNeg (.int x) ∧ IA Z h' a (si xs j x) ∧ ∀ target, Steps p.tables e below (T'.setTop { g with pc := g.pc + 1, stack := rest }) target → Steps p.tables e below (T.setTop g) target := by
  have F0 := F
  obtain ⟨cl, A, q, r⟩ := F
  have hsz : cl.slots.size = n := by rw [q]; simp [hl]
  obtain ⟨T', h', X', e', W, st⟩ := stI X hx hZ eT A (inb_of' hsz hj) hg hs hd
  exact ⟨T', h', X', e', W, IA.wr F0 W, st⟩
/-- a place read or written, where it lies in the array; a fresh array of at most cap places -/
def rd (xs : List Int32) (j : Int32) : Option Int32 := if j.toBitVec.toNat < 2147483648 then xs[j.toBitVec.toNat]? else none
def wt (xs : List Int32) (j x : Int32) : Option (List Int32) := if j.toBitVec.toNat < 2147483648 then (if j.toBitVec.toNat < xs.length then some (xs.set j.toBitVec.toNat x) else none) else none
theorem nat_of {j : Int32} (h : j.toBitVec.toNat < 2147483648) : j.toInt = (j.toBitVec.toNat : Int) ∧ j.toNatClampNeg = j.toBitVec.toNat := by
  have e : j.toInt = (j.toBitVec.toNat : Int) := by
    show j.toBitVec.toInt = _
    exact BitVec.toInt_eq_toNat_of_lt (by omega)
  exact ⟨e, by simp only [Int32.toNatClampNeg, e]; omega⟩
def mk (cap : Nat) (n : Int32) : Option (List Int32) := if 0 ≤ n.toInt ∧ n.toInt ≤ (cap : Int) then some (List.replicate n.toNatClampNeg 0) else none
def ln (xs : List Int32) : Int32 := xs.length.toInt32
theorem rd_some {xs : List Int32} {j v : Int32} (q : rd xs j = some v) : (0 ≤ j.toInt ∧ j.toInt < (xs.length : Int)) ∧ gi xs j = v := by
  unfold rd at q
  split at q
  · next h =>
    obtain ⟨e1, e2⟩ := nat_of h
    obtain ⟨hl, hv⟩ := List.getElem?_eq_some_iff.mp q
    refine ⟨by omega, ?_⟩
    simp [gi, e2, List.getD_eq_getElem?_getD, q]
  · cases q
theorem wt_some {xs ys : List Int32} {j x : Int32} (q : wt xs j x = some ys) : (0 ≤ j.toInt ∧ j.toInt < (xs.length : Int)) ∧ si xs j x = ys := by
  unfold wt at q
  split at q
  · next h =>
    obtain ⟨e1, e2⟩ := nat_of h
    split at q
    · next hl => exact ⟨by omega, by rw [← Option.some.inj q]; simp [si, e2]⟩
    · cases q
  · cases q
theorem mk_some {cap : Nat} {n : Int32} {ys : List Int32} (q : mk cap n = some ys) : ¬ n < 0 ∧ n.toNatClampNeg ≤ cap ∧ ys = List.replicate n.toNatClampNeg 0 := by
  unfold mk at q
  split at q
  · next h =>
    refine ⟨?_, ?_, (Option.some.inj q).symm⟩
    · rw [Int32.lt_iff_toInt_lt]; show ¬ _ < (0 : Int); omega
    · simp only [Int32.toNatClampNeg]; omega
  · cases q
theorem ldO (X : Stand p l e R s m args below meth c T locs cells slots) (hx : p.tables.exec = Jvm.exec) (hZ : Z.Warmed39 s.vm) (eT : T.heap = h) (F : IA Z h a xs) {j x : Int32} (q : rd xs j = some x) {g : JFrame} (hg : g.method = m) {rest : List Value} (hs : g.stack = .int j :: .ref a :: rest) (hd : decode c.code g.pc = .ok (.iaload, 1)) :
    ∀ target, Steps p.tables e below (T.setTop { g with pc := g.pc + 1, stack := .int x :: rest }) target → Steps p.tables e below (T.setTop g) target := by
  obtain ⟨hb, rfl⟩ := rd_some q
  exact ldI X hx hZ eT F xs.length rfl hb hg hs hd
theorem stO (X : Stand p l e R s m args below meth c T locs cells slots) (hx : p.tables.exec = Jvm.exec) (hZ : Z.Warmed39 s.vm) (eT : T.heap = h) (F : IA Z h a xs) {j x : Int32} {ys : List Int32} (q : wt xs j x = some ys) {g : JFrame} (hg : g.method = m) {rest : List Value} (hs : g.stack = .int x :: .int j :: .ref a :: rest) (hd : decode c.code g.pc = .ok (.iastore, 1)) :
    ∃ T' h', Stand p l e R s m args below meth c T' (locs ++ [⟨a, j.toNatClampNeg⟩]) cells slots ∧ T'.heap = h' ∧ Wr h h' a j.toNatClampNeg (.int x) ∧ IA Z h' a ys ∧ ∀ target, Steps p.tables e below (T'.setTop { g with pc := g.pc + 1, stack := rest }) target → Steps p.tables e below (T.setTop g) target := by
  obtain ⟨hb, rfl⟩ := wt_some q
  exact stIA X hx hZ eT F xs.length rfl hb hg hs hd
def lim (cap : Nat) (xs : List Int32) : Option (List Int32) := if xs.length ≤ cap then some xs else none
theorem lim_some {cap : Nat} {ys : List Int32} (q : lim cap xs = some ys) : xs.length ≤ cap ∧ ys = xs := by
  unfold lim at q
  split at q
  · next h => exact ⟨h, (Option.some.inj q).symm⟩
  · cases q
theorem IA.fit {c : Cell} (A : Arr Z h a c .int) (q : c.slots = (xs.map Value.int).toArray) : FitC Z c := fitC_of A fun i hi v hv => by
  rw [q] at hv
  simp at hv
  obtain ⟨x, -, rfl⟩ := hv
  rfl
theorem clI (X : Stand p l e R s m args below meth c T locs cells slots) (hx : p.tables.exec = Jvm.exec) (hZ : Z.Warmed39 s.vm) {a0 : Array Value} {own : String} {index : Nat} (hown : s.vm.findClass own = some m.cls)
    (w1 : (Cond.methodLink own index ⟨"[I", "clone", "()Ljava/lang/Object;"⟩).before a0 Z = true) (w2 : (Cond.sameMethod "[I" "java/lang/Object" "clone" "()Ljava/lang/Object;").before a0 Z = true) (w3 : (Cond.native ⟨"java/lang/Object", "clone", "()Ljava/lang/Object;"⟩).before a0 Z = true)
    (w4 : (Cond.instanceMethod ⟨"java/lang/Object", "clone", "()Ljava/lang/Object;"⟩).before a0 Z = true) (w5 : (Cond.selects "[I" ⟨"[I", "clone", "()Ljava/lang/Object;"⟩ ⟨"java/lang/Object", "clone", "()Ljava/lang/Object;"⟩).before a0 Z = true) (w6 : (Cond.castable "[I" "java/lang/Cloneable").before a0 Z = true)
    (eT : T.heap = h) (F : IA Z h a xs) (E : Exa Z h a "[I") {g : JFrame} (hg : g.method = m) (hsize : g.locals.size = c.maxLocals) {rest : List Value} (hs : g.stack = .ref a :: rest) (hd : decode c.code g.pc = .ok (.invokevirtual index, 3))
    (hf : 1 ≤ R.frames) {W cap : Nat} (hW : 2 * g.monitorRoom + (rest.map fun v => v.category).sum ≤ W) (hl : W + 14 ≤ R.locals) (hcap : xs.length ≤ cap) (hc : cells + 1 ≤ R.cells) (hsl : slots + cap ≤ R.slots) :
    ∃ T' h', Stand p l e R s m args below meth c T' locs (cells + 1) (slots + cap) ∧ T'.heap = h' ∧ Ext h h' ∧ IA Z h' h.size xs ∧ Exa Z h' h.size "[I" ∧
      ∀ target, Steps p.tables e below (T'.setTop { g with pc := g.pc + 3, stack := .ref h.size :: rest }) target → Steps p.tables e below (T.setTop g) target := by
  obtain ⟨cl, A, q, r⟩ := F
  have hsz : cl.slots.size = xs.length := by rw [q]; simp
  obtain ⟨T', h', X', e', E', A', EE, st⟩ := cloneA X hx hZ hown w1 w2 w3 w4 w5 w6 eT A E (IA.fit A q) hg hsize hs hd hf hW hl (by rw [hsz]; exact hcap) hc hsl
  exact ⟨T', h', X', e', E', ⟨_, A', q, r⟩, EE, st⟩
/-- a byte array -/
def BA (Z : State) (h : Heap) (a : Addr) (xs : List Int32) : Prop := AV Z h a .byte (xs.map Value.int)
theorem BA.lt (F : BA Z h a xs) : a < h.size := AV.lt F
theorem BA.ext (F : BA Z h a xs) (E : Ext h h') : BA Z h' a xs := AV.ext F E
theorem BA.other (F : BA Z h b xs) (W : Wr h h' a sl v) (q : b ≠ a) : BA Z h' b xs := AV.other F W q
theorem BA.keep (F : BA Z h a xs) (K : Keep h h' ws) (q : a ∉ ws) : BA Z h' a xs := AV.keep F K q
theorem BA.new {k : ClassId} {z : Int32} (A : Arr Z h a (newA k .byte z) .byte) {n : Nat} (q : z.toNatClampNeg = n) : BA Z h a (List.replicate n (0 : Int32)) := AV.new A (by subst q; rw [List.map_replicate]; rfl)
theorem BA.wr {x : Int32} (F : BA Z h a xs) (W : Wr h h' a sl (.int x)) : BA Z h' a (xs.set sl x) := by
  have := AV.wr F W
  rw [← List.map_set] at this; exact this
theorem ldBO (X : Stand p l e R s m args below meth c T locs cells slots) (hx : p.tables.exec = Jvm.exec) (hZ : Z.Warmed39 s.vm) (eT : T.heap = h) (F : BA Z h a xs) {j x : Int32} (q : rd xs j = some x) {g : JFrame} (hg : g.method = m) {rest : List Value} (hs : g.stack = .int j :: .ref a :: rest) (hd : decode c.code g.pc = .ok (.baload, 1)) :
    ∀ target, Steps p.tables e below (T.setTop { g with pc := g.pc + 1, stack := .int x :: rest }) target → Steps p.tables e below (T.setTop g) target := by
  obtain ⟨hj, rfl⟩ := rd_some q
  obtain ⟨cl, A, q, r⟩ := F
  have hsz : cl.slots.size = xs.length := by rw [q]; simp
  have hi := (clamp_of hj).1
  refine X.baloadBytes hx (v := .int (gi xs j)) (by rw [eT]; exact A.1) (State.isArrayOf_alike hZ.alike A.2.1) A.2.2 (inb_of' hsz hj) ?_ hg hs hd
  rw [q]
  simp [gi, List.getD_eq_getElem?_getD, hi]
theorem stBO (X : Stand p l e R s m args below meth c T locs cells slots) (hx : p.tables.exec = Jvm.exec) (hZ : Z.Warmed39 s.vm) (eT : T.heap = h) (F : BA Z h a xs) {j x : Int32} {ys : List Int32} (q : wt xs j (nar .byte x) = some ys) {g : JFrame} (hg : g.method = m) {rest : List Value} (hs : g.stack = .int x :: .int j :: .ref a :: rest) (hd : decode c.code g.pc = .ok (.bastore, 1)) :
    ∃ T' h', Stand p l e R s m args below meth c T' (locs ++ [⟨a, j.toNatClampNeg⟩]) cells slots ∧ T'.heap = h' ∧ Wr h h' a j.toNatClampNeg (.int (nar .byte x)) ∧ BA Z h' a ys ∧ ∀ target, Steps p.tables e below (T'.setTop { g with pc := g.pc + 1, stack := rest }) target → Steps p.tables e below (T.setTop g) target := by
  obtain ⟨hj, rfl⟩ := wt_some q
  have F0 := F
  obtain ⟨cl, A, q, r⟩ := F
  have hsz : cl.slots.size = xs.length := by rw [q]; simp
  obtain ⟨T', h', X', e', W, st⟩ := stB X hx hZ eT A (inb_of' hsz hj) hg hs hd
  exact ⟨T', h', X', e', W, BA.wr F0 W, st⟩
/-- an array of references to objects of the class C -/
def RA (Z : State) (h : Heap) (a : Addr) (C : String) (vs : List Value) : Prop := ∃ c : Cell, Arr Z h a c (.object C) ∧ c.slots = vs.toArray ∧ vs.length < 2147483648 ∧ Ovr Z c.cls C
variable {C : String}
theorem RA.lt (F : RA Z h a C vs) : a < h.size := by obtain ⟨c, A, -⟩ := F; exact A.lt
theorem RA.ext (F : RA Z h a C vs) (E : Ext h h') : RA Z h' a C vs := by obtain ⟨c, A, r⟩ := F; exact ⟨c, A.ext E, r⟩
theorem RA.other (F : RA Z h b C vs) (W : Wr h h' a sl v) (q : b ≠ a) : RA Z h' b C vs := by obtain ⟨c, A, r⟩ := F; exact ⟨c, A.other W q, r⟩
theorem RA.new {k : ClassId} {z : Int32} (A : Arr Z h a (newA k (.object C) z) (.object C)) (O : Ovr Z k C) (q : List.replicate z.toNatClampNeg Value.null = vs) : RA Z h a C vs := by
  subst q
  exact ⟨_, A, by simp [newA, defaultValue], by rw [List.length_replicate]; exact clamp_lt z, O⟩
theorem stRA (X : Stand p l e R s m args below meth c T locs cells slots) (hx : p.tables.exec = Jvm.exec) (hZ : Z.Warmed39 s.vm) (eT : T.heap = h) (F : RA Z h a C vs) {j : Int32} {y : Addr} (n : Nat) (hl : vs.length = n) (hj : 0 ≤ j.toInt ∧ j.toInt < (n : Int)) (I : Ins Z h y C true) {g : JFrame} (hg : g.method = m) {rest : List Value} (hs : g.stack = .ref y :: .int j :: .ref a :: rest) (hd : decode c.code g.pc = .ok (.aastore, 1)) :
    ∃ T' h', Stand p l e R s m args below meth c T' (locs ++ [⟨a, j.toNatClampNeg⟩]) cells slots ∧ T'.heap = h' ∧ Wr h h' a j.toNatClampNeg (.ref y) ∧ RA Z h' a C (vs.set j.toNatClampNeg (.ref y)) ∧ ∀ target, Steps p.tables e below (T'.setTop { g with pc := g.pc + 1, stack := rest }) target → Steps p.tables e below (T.setTop g) target := by
  obtain ⟨cl, A, q, r, O⟩ := F
  have hsz : cl.slots.size = n := by rw [q]; simp [hl]
  obtain ⟨T', h', X', e', W, st⟩ := stR X hx hZ eT A (inb_of' hsz hj) rfl (Sto.of A O I) hg hs hd
  exact ⟨T', h', X', e', W, ⟨_, A.same W, by simp [Cell.setSlot, q], by simpa using r, O⟩, st⟩
theorem ldRA (X : Stand p l e R s m args below meth c T locs cells slots) (hx : p.tables.exec = Jvm.exec) (hZ : Z.Warmed39 s.vm) (eT : T.heap = h) (F : RA Z h a C vs) {j : Int32} (n : Nat) (hl : vs.length = n) (hj : 0 ≤ j.toInt ∧ j.toInt < (n : Int)) (hv : vs[j.toNatClampNeg]? = some v) {g : JFrame} (hg : g.method = m) {rest : List Value} (hs : g.stack = .int j :: .ref a :: rest) (hd : decode c.code g.pc = .ok (.aaload, 1)) :
    ∀ target, Steps p.tables e below (T.setTop { g with pc := g.pc + 1, stack := v :: rest }) target → Steps p.tables e below (T.setTop g) target := by
  obtain ⟨cl, A, q, r, O⟩ := F
  have hsz : cl.slots.size = n := by rw [q]; simp [hl]
  exact X.aaload hx (by rw [eT]; exact A.1) (State.isArrayOf_alike hZ.alike A.2.1) rfl A.2.2 (inb_of' hsz hj) (by rw [q]; simpa using hv) hg hs hd
theorem ldAV (X : Stand p l e R s m args below meth c T locs cells slots) (hx : p.tables.exec = Jvm.exec) (hZ : Z.Warmed39 s.vm) (eT : T.heap = h) (F : AV Z h a ty vs) (hty : ty.isReference = true) {j : Int32} (n : Nat) (hl : vs.length = n) (hj : 0 ≤ j.toInt ∧ j.toInt < (n : Int)) (hv : vs[j.toNatClampNeg]? = some v) {g : JFrame} (hg : g.method = m) {rest : List Value} (hs : g.stack = .int j :: .ref a :: rest) (hd : decode c.code g.pc = .ok (.aaload, 1)) :
    ∀ target, Steps p.tables e below (T.setTop { g with pc := g.pc + 1, stack := v :: rest }) target → Steps p.tables e below (T.setTop g) target := by
  obtain ⟨cl, A, q, r⟩ := F
  have hsz : cl.slots.size = n := by rw [q]; simp [hl]
  exact X.aaload hx (by rw [eT]; exact A.1) (State.isArrayOf_alike hZ.alike A.2.1) hty A.2.2 (inb_of' hsz hj) (by rw [q]; simpa using hv) hg hs hd
def ga (as : List Addr) (j : Int32) : Addr := as.getD j.toNatClampNeg 0
theorem ga_at {as : List Addr} {j : Int32} {n : Nat} (hl : as.length = n) (hj : 0 ≤ j.toInt ∧ j.toInt < (n : Int)) : (as.map Value.ref)[j.toNatClampNeg]? = some (.ref (ga as j)) := by
  have : j.toNatClampNeg < as.length := by rw [hl]; exact (clamp_of hj).1
  simp [ga, List.getD_eq_getElem?_getD, this]
theorem ga_all {as : List Addr} {j : Int32} {n : Nat} {P : Addr → Prop} (hl : as.length = n) (hj : 0 ≤ j.toInt ∧ j.toInt < (n : Int)) (q : ∀ x ∈ as, P x) : P (ga as j) := by
  have h : j.toNatClampNeg < as.length := by rw [hl]; exact (clamp_of hj).1
  have : ga as j = as[j.toNatClampNeg] := by simp [ga, List.getD_eq_getElem?_getD, h]
  rw [this]; exact q _ (List.getElem_mem h)
theorem size_wr (W : Wr h h' a sl v) {n : Nat} (q : n ≤ h.size) : n ≤ h'.size := by rw [W.size]; exact q
end Arrays
end Jvm.Own
namespace Jvm.RoadKit
open Sem ClassFile Op Lib Jvm.Stand Jvm.Free Jvm.LawKit
section New
variable {p : Program} {l : Launch} {e : Env} {R : Room} {s : State} {m : MethodId} {args : Array Value} {below : List Frame} {meth : Method} {c : Code} {T : State} {locs : List Loc} {cells slots : Nat}
theorem retI (X : Stand p l e R s m args below meth c T locs cells slots) (hx : p.tables.exec = Jvm.exec) {pc : Nat} {Ls : Array Slot} {z : Int32} {rest : List Value} (hret : meth.sig.returnType = some .int) (hd : decode c.code pc = .ok (.ireturn, 1)) {fs : List Frame}
    (hl : ∀ (f : JFrame) (acts : List Action), f.method = m → f.locked = none → f.entered = [] → (doReturn e (T.setTop f) acts (some (.int z))).1 = T.setFrames fs) : Steps p.tables e below (T.setTop (mkF m pc Ls (.int z :: rest))) (T.setFrames fs) := by
  have hm' : T.vm.method? m = some meth := X.method'
  have hn : narrow .int (.int z) = .int z := rfl
  show Steps p.tables e below (T.setTop { method := m, pc := pc, locals := Ls, stack := _ :: rest, locked := none }) _
  jvm_step X.here [X.here.top, hx, hd, hm', hret, hn]
  first | (intro acts; rw [hl _ acts rfl rfl rfl]) | rw [hl _ _ rfl rfl rfl]
  exact Steps.refl _
theorem retA (X : Stand p l e R s m args below meth c T locs cells slots) (hx : p.tables.exec = Jvm.exec) {pc : Nat} {Ls : Array Slot} {z : Value} {t : FieldType} {rest : List Value} (hret : meth.sig.returnType = some t) (ht : t.isReference = true) (hz : z.isRef = true) (hd : decode c.code pc = .ok (.areturn, 1)) {fs : List Frame}
    (hl : ∀ (f : JFrame) (acts : List Action), f.method = m → f.locked = none → f.entered = [] → (doReturn e (T.setTop f) acts (some z)).1 = T.setFrames fs) : Steps p.tables e below (T.setTop (mkF m pc Ls (z :: rest))) (T.setFrames fs) := by
  have hm' : T.vm.method? m = some meth := X.method'
  show Steps p.tables e below (T.setTop { method := m, pc := pc, locals := Ls, stack := _ :: rest, locked := none }) _
  jvm_step X.here [X.here.top, hx, hd, hm', hret, ht, hz]
  first | (intro acts; rw [hl _ acts rfl rfl rfl]) | rw [hl _ _ rfl rfl rfl]
  exact Steps.refl _
end New
end Jvm.RoadKit
namespace Jvm.Pilot.@@N@@
open Jvm Jvm.ClassFile Sem Op Lib Jvm.Free Jvm.Stand Jvm.LawKit Jvm.RoadKit Bundle Jvm.Pilot.@@N@@.Jvm.D
theorem own_tsw {x : Int32} {k : Int} (h : ¬ x = Int32.ofInt k) (h1 : -2147483648 ≤ k) (h2 : k < 2147483648) : x.toInt ≠ k := fun q => h (by rw [← q]; exact (Int32.ofInt_toInt x).symm)
theorem own_rem {x y : Int32} (hx : 0 ≤ x.toInt) (hy : 0 < y.toInt) : (x - (x / y) * y).toInt = x.toInt % y.toInt := by
  have hxl := x.toInt_lt
  have e1 : (x / y).toInt = x.toInt / y.toInt := by rw [Jvm.Kit.i32_div (by omega), Int.tdiv_eq_ediv_of_nonneg hx]
  have m1 : x.toInt / y.toInt * y.toInt = x.toInt - x.toInt % y.toInt := by
    have := Int.mul_ediv_add_emod x.toInt y.toInt
    rw [Int.mul_comm] at this; omega
  have m2 : 0 ≤ x.toInt % y.toInt := Int.emod_nonneg _ (by omega)
  have m3 : x.toInt % y.toInt ≤ x.toInt := by
    have := Int.mul_nonneg (Int.ediv_nonneg hx (by omega : 0 ≤ y.toInt)) (by omega : 0 ≤ y.toInt); omega
  have e2 : ((x / y) * y).toInt = x.toInt - x.toInt % y.toInt := by rw [Jvm.Kit.i32_mul (by rw [e1, m1]; omega) (by rw [e1, m1]; omega), e1, m1]
  rw [Jvm.Kit.i32_sub (by rw [e2]; omega) (by rw [e2]; omega), e2]; omega
theorem own_pos (x : Int32) : (x &&& 2147483647).toInt = x.toInt % 2147483648 := Jvm.Kit.i32_mask x 2147483647 (k := 31) (by decide) (by decide)

theorem d1_0 : decode method_3_code 0 = .ok (.iload_n 1, 1) := by decide +kernel
theorem d1_1 : decode method_3_code 1 = .ok (.ifCond .eq 12, 3) := by decide +kernel
theorem d1_4 : decode method_3_code 4 = .ok (.iconst 0, 1) := by decide +kernel
theorem d1_5 : decode method_3_code 5 = .ok (.iload_n 0, 1) := by decide +kernel
theorem d1_6 : decode method_3_code 6 = .ok (.if_icmp .ge 7, 3) := by decide +kernel
theorem d1_9 : decode method_3_code 9 = .ok (.iconst 1, 1) := by decide +kernel
theorem d1_10 : decode method_3_code 10 = .ok (.goto 4, 3) := by decide +kernel
theorem d1_13 : decode method_3_code 13 = .ok (.iconst 0, 1) := by decide +kernel
theorem d1_14 : decode method_3_code 14 = .ok (.iload_n 2, 1) := by decide +kernel
theorem d1_15 : decode method_3_code 15 = .ok (.ifCond .eq 12, 3) := by decide +kernel
theorem d1_18 : decode method_3_code 18 = .ok (.iconst 1, 1) := by decide +kernel
theorem d1_19 : decode method_3_code 19 = .ok (.iload_n 0, 1) := by decide +kernel
theorem d1_20 : decode method_3_code 20 = .ok (.if_icmp .ge 7, 3) := by decide +kernel
theorem d1_23 : decode method_3_code 23 = .ok (.iconst 1, 1) := by decide +kernel
theorem d1_24 : decode method_3_code 24 = .ok (.goto 4, 3) := by decide +kernel
theorem d1_27 : decode method_3_code 27 = .ok (.iconst 0, 1) := by decide +kernel
theorem d1_28 : decode method_3_code 28 = .ok (.iadd, 1) := by decide +kernel
theorem d1_29 : decode method_3_code 29 = .ok (.iload_n 3, 1) := by decide +kernel
theorem d1_30 : decode method_3_code 30 = .ok (.ifCond .eq 12, 3) := by decide +kernel
theorem d1_33 : decode method_3_code 33 = .ok (.iconst 2, 1) := by decide +kernel
theorem d1_34 : decode method_3_code 34 = .ok (.iload_n 0, 1) := by decide +kernel
theorem d1_35 : decode method_3_code 35 = .ok (.if_icmp .ge 7, 3) := by decide +kernel
theorem d1_38 : decode method_3_code 38 = .ok (.iconst 1, 1) := by decide +kernel
theorem d1_39 : decode method_3_code 39 = .ok (.goto 4, 3) := by decide +kernel
theorem d1_42 : decode method_3_code 42 = .ok (.iconst 0, 1) := by decide +kernel
theorem d1_43 : decode method_3_code 43 = .ok (.iadd, 1) := by decide +kernel
theorem d1_44 : decode method_3_code 44 = .ok (.ireturn, 1) := by decide +kernel
theorem pn_rmR : plainName "com/example/libpathsum/libpathsum/BlocksMarkPinLaw" = true := by first | (simp [plainName, overriddenIn]; done) | decide +kernel
theorem ef_rmR (m : MethodId) (p0 : Int32) (p1 : Int32) (p2 : Int32) (p3 : Int32) : entryFrame m #[(.int p0), (.int p1), (.int p2), (.int p3)] 4 = mkF m 0 #[.val (.int p0), .val (.int p1), .val (.int p2), .val (.int p3)] [] := by first | (simp [entryFrame, mkF, argsToLocals, Value.category]; done) | rfl
def M_rank (p0 : Int32) (p1 : Int32) (p2 : Int32) (p3 : Int32) : Option (Int32) := (some (if p1 = (0 : Int32) then (0 : Int32) else (if (0 : Int32) < p0 then (1 : Int32) else (0 : Int32)))).bind fun v4 => (some (if p2 = (0 : Int32) then (0 : Int32) else (if (1 : Int32) < p0 then (1 : Int32) else (0 : Int32)))).bind fun v9 => (some (if p3 = (0 : Int32) then (0 : Int32) else (if (2 : Int32) < p0 then (1 : Int32) else (0 : Int32)))).bind fun v14 => some ((v4 + v9) + v14)
def Q_rmR (Z : State) (p0 : Int32) (p1 : Int32) (p2 : Int32) (p3 : Int32) (out : Int32) (h0 : Heap) (n0 : Nat) (v : Option Value) (h : Heap) (L : List Loc) : Prop := v = some (.int out) ∧ Fr n0 L ∧ h = h0
set_option maxRecDepth 65536 in
set_option maxHeartbeats 40000000 in
theorem rmR (l : Launch) (Z : State) (a0 : Array Value) (hw : ∀ d ∈ tables_1, d.before a0 Z = true) (ws : List Jvm.Cond) (p0 : Int32) (p1 : Int32) (p2 : Int32) (p3 : Int32) (out : Int32) (h0 : Heap) (n0 : Nat) (Z0 : n0 ≤ h0.size) (hM : M_rank p0 p1 p2 p3 = some out) :
    MetFree l (⟨"com/example/libpathsum/libpathsum/BlocksMarkPinLaw", "rank", "(IZZZ)I"⟩ : MethodName) (head1 (Jvm.Cond.code (⟨"com/example/libpathsum/libpathsum/BlocksMarkPinLaw", "rank", "(IZZZ)I"⟩ : MethodName) method_3_code 4 (some .int) :: ws) ({ frames := 0, cells := 0, slots := 0, locals := 0 } : Room)) (fun a U => a = #[(.int p0), (.int p1), (.int p2), (.int p3)] ∧ Z.Warmed39 U.vm ∧ U.heap = h0) (fun _ _ _ _ _ => True) (fun _ U o U' => ∃ v L, o = .returned v ∧ Q_rmR Z p0 p1 p2 p3 out h0 n0 v U'.heap L ∧ FrameEnd U o U' L ({ frames := 0, cells := 0, slots := 0, locals := 0 } : Room).cells ({ frames := 0, cells := 0, slots := 0, locals := 0 } : Room).slots) := by
  refine MetFree.of_bodySF (plainFor_of_name pn_rmR) hisR ?_
  intro p e s m args below meth c s₁ Bd hml0 hP hK
  obtain ⟨rfl, hZ, hh⟩ := hP
  have hx := Bd.exec
  have hby := Bd.bytes
  have hml : c.maxLocals = 4 := hml0
  have hown : s.vm.findClass "com/example/libpathsum/libpathsum/BlocksMarkPinLaw" = some m.cls := findClass_of_methodNamed Bd.named
  have hnm := (name_of_methodNamed Bd.named Bd.method).1
  have X0 : Stand p l e ({ frames := 0, cells := 0, slots := 0, locals := 0 } : Room) s m #[(.int p0), (.int p1), (.int p2), (.int p3)] below meth c s₁ [] 0 0 := Stand.of_body Bd
  have e0 : s₁.heap = h0 := by rw [← hh, Bd.state]; rfl
  have N0 := Fr.nil n0
  have q0 : Steps p.tables e below (s₁.setTop (entryFrame m #[(.int p0), (.int p1), (.int p2), (.int p3)] 4)) (s₁.setTop (mkF m 0 #[.val (.int p0), .val (.int p1), .val (.int p2), .val (.int p3)] [])) := castTop (ef_rmR m p0 p1 p2 p3) (Steps.refl _)
  unfold M_rank at hM
  have q1 : Steps p.tables e below (s₁.setTop (entryFrame m #[(.int p0), (.int p1), (.int p2), (.int p3)] 4)) (s₁.setTop (mkF m 1 #[.val (.int p0), .val (.int p1), .val (.int p2), .val (.int p3)] [(.int p1)])) := q0.trans (by
      show Steps p.tables e below (s₁.setTop (mkF m 0 #[.val (.int p0), .val (.int p1), .val (.int p2), .val (.int p3)] [])) _
      refine XS.iloadN X0.here hx rfl (hb hby d1_0) rfl ?_
      show Steps p.tables e below (s₁.setTop (mkF m 1 #[.val (.int p0), .val (.int p1), .val (.int p2), .val (.int p3)] [(.int p1)])) _
      exact Steps.refl _)
  obtain ⟨v4, hv4, hM⟩ := Option.bind_eq_some_iff.mp hM
  have hv4 := (Option.some.inj hv4).symm
  have q5 : Steps p.tables e below (s₁.setTop (entryFrame m #[(.int p0), (.int p1), (.int p2), (.int p3)] 4)) (s₁.setTop (mkF m 14 #[.val (.int p0), .val (.int p1), .val (.int p2), .val (.int p3)] [(.int v4)])) := by
    refine q1.trans ?_
    show Steps p.tables e below (s₁.setTop (mkF m 1 #[.val (.int p0), .val (.int p1), .val (.int p2), .val (.int p3)] [(.int p1)])) _
    by_cases hc2 : p1 = (0 : Int32)
    · rw [if_pos hc2] at hv4
      refine XS.ifYes X0.here hx rfl (pc0 := 1) (pc' := 13) rfl (hb hby d1_1) rfl ((if0 _ _).trans (teq hc2).1) (by decide) (by decide) ?_
      show Steps p.tables e below (s₁.setTop (mkF m 13 #[.val (.int p0), .val (.int p1), .val (.int p2), .val (.int p3)] [])) _
      refine XS.iconst X0.here hx rfl (hb hby d1_13) ?_
      show Steps p.tables e below (s₁.setTop (mkF m 14 #[.val (.int p0), .val (.int p1), .val (.int p2), .val (.int p3)] [(.int (0 : Int32))])) _
      rw [hv4]
      exact Steps.refl _
    · rw [if_neg hc2] at hv4
      refine XS.ifNo X0.here hx rfl (hb hby d1_1) rfl ((if0 _ _).trans (feq hc2).1) ?_
      show Steps p.tables e below (s₁.setTop (mkF m 4 #[.val (.int p0), .val (.int p1), .val (.int p2), .val (.int p3)] [])) _
      refine XS.iconst X0.here hx rfl (hb hby d1_4) ?_
      show Steps p.tables e below (s₁.setTop (mkF m 5 #[.val (.int p0), .val (.int p1), .val (.int p2), .val (.int p3)] [(.int (0 : Int32))])) _
      refine XS.iloadN X0.here hx rfl (hb hby d1_5) rfl ?_
      show Steps p.tables e below (s₁.setTop (mkF m 6 #[.val (.int p0), .val (.int p1), .val (.int p2), .val (.int p3)] [(.int p0), (.int (0 : Int32))])) _
      by_cases hc3 : (0 : Int32) < p0
      · rw [if_pos hc3] at hv4
        refine XS.icmpNo X0.here hx rfl (hb hby d1_6) rfl (tlt hc3).2.1 ?_
        show Steps p.tables e below (s₁.setTop (mkF m 9 #[.val (.int p0), .val (.int p1), .val (.int p2), .val (.int p3)] [])) _
        refine XS.iconst X0.here hx rfl (hb hby d1_9) ?_
        show Steps p.tables e below (s₁.setTop (mkF m 10 #[.val (.int p0), .val (.int p1), .val (.int p2), .val (.int p3)] [(.int (1 : Int32))])) _
        refine XS.goto X0.here hx rfl (pc0 := 10) (pc' := 14) rfl (hb hby d1_10) (by decide) (by decide) ?_
        show Steps p.tables e below (s₁.setTop (mkF m 14 #[.val (.int p0), .val (.int p1), .val (.int p2), .val (.int p3)] [(.int (1 : Int32))])) _
        rw [hv4]
        exact Steps.refl _
      · rw [if_neg hc3] at hv4
        refine XS.icmpYes X0.here hx rfl (pc0 := 6) (pc' := 13) rfl (hb hby d1_6) rfl (flt hc3).2.1 (by decide) (by decide) ?_
        show Steps p.tables e below (s₁.setTop (mkF m 13 #[.val (.int p0), .val (.int p1), .val (.int p2), .val (.int p3)] [])) _
        refine XS.iconst X0.here hx rfl (hb hby d1_13) ?_
        show Steps p.tables e below (s₁.setTop (mkF m 14 #[.val (.int p0), .val (.int p1), .val (.int p2), .val (.int p3)] [(.int (0 : Int32))])) _
        rw [hv4]
        exact Steps.refl _
  have q6 : Steps p.tables e below (s₁.setTop (entryFrame m #[(.int p0), (.int p1), (.int p2), (.int p3)] 4)) (s₁.setTop (mkF m 15 #[.val (.int p0), .val (.int p1), .val (.int p2), .val (.int p3)] [(.int p2), (.int v4)])) := q5.trans (by
      show Steps p.tables e below (s₁.setTop (mkF m 14 #[.val (.int p0), .val (.int p1), .val (.int p2), .val (.int p3)] [(.int v4)])) _
      refine XS.iloadN X0.here hx rfl (hb hby d1_14) rfl ?_
      show Steps p.tables e below (s₁.setTop (mkF m 15 #[.val (.int p0), .val (.int p1), .val (.int p2), .val (.int p3)] [(.int p2), (.int v4)])) _
      exact Steps.refl _)
  obtain ⟨v9, hv9, hM⟩ := Option.bind_eq_some_iff.mp hM
  have hv9 := (Option.some.inj hv9).symm
  have q10 : Steps p.tables e below (s₁.setTop (entryFrame m #[(.int p0), (.int p1), (.int p2), (.int p3)] 4)) (s₁.setTop (mkF m 28 #[.val (.int p0), .val (.int p1), .val (.int p2), .val (.int p3)] [(.int v9), (.int v4)])) := by
    refine q6.trans ?_
    show Steps p.tables e below (s₁.setTop (mkF m 15 #[.val (.int p0), .val (.int p1), .val (.int p2), .val (.int p3)] [(.int p2), (.int v4)])) _
    by_cases hc7 : p2 = (0 : Int32)
    · rw [if_pos hc7] at hv9
      refine XS.ifYes X0.here hx rfl (pc0 := 15) (pc' := 27) rfl (hb hby d1_15) rfl ((if0 _ _).trans (teq hc7).1) (by decide) (by decide) ?_
      show Steps p.tables e below (s₁.setTop (mkF m 27 #[.val (.int p0), .val (.int p1), .val (.int p2), .val (.int p3)] [(.int v4)])) _
      refine XS.iconst X0.here hx rfl (hb hby d1_27) ?_
      show Steps p.tables e below (s₁.setTop (mkF m 28 #[.val (.int p0), .val (.int p1), .val (.int p2), .val (.int p3)] [(.int (0 : Int32)), (.int v4)])) _
      rw [hv9]
      exact Steps.refl _
    · rw [if_neg hc7] at hv9
      refine XS.ifNo X0.here hx rfl (hb hby d1_15) rfl ((if0 _ _).trans (feq hc7).1) ?_
      show Steps p.tables e below (s₁.setTop (mkF m 18 #[.val (.int p0), .val (.int p1), .val (.int p2), .val (.int p3)] [(.int v4)])) _
      refine XS.iconst X0.here hx rfl (hb hby d1_18) ?_
      show Steps p.tables e below (s₁.setTop (mkF m 19 #[.val (.int p0), .val (.int p1), .val (.int p2), .val (.int p3)] [(.int (1 : Int32)), (.int v4)])) _
      refine XS.iloadN X0.here hx rfl (hb hby d1_19) rfl ?_
      show Steps p.tables e below (s₁.setTop (mkF m 20 #[.val (.int p0), .val (.int p1), .val (.int p2), .val (.int p3)] [(.int p0), (.int (1 : Int32)), (.int v4)])) _
      by_cases hc8 : (1 : Int32) < p0
      · rw [if_pos hc8] at hv9
        refine XS.icmpNo X0.here hx rfl (hb hby d1_20) rfl (tlt hc8).2.1 ?_
        show Steps p.tables e below (s₁.setTop (mkF m 23 #[.val (.int p0), .val (.int p1), .val (.int p2), .val (.int p3)] [(.int v4)])) _
        refine XS.iconst X0.here hx rfl (hb hby d1_23) ?_
        show Steps p.tables e below (s₁.setTop (mkF m 24 #[.val (.int p0), .val (.int p1), .val (.int p2), .val (.int p3)] [(.int (1 : Int32)), (.int v4)])) _
        refine XS.goto X0.here hx rfl (pc0 := 24) (pc' := 28) rfl (hb hby d1_24) (by decide) (by decide) ?_
        show Steps p.tables e below (s₁.setTop (mkF m 28 #[.val (.int p0), .val (.int p1), .val (.int p2), .val (.int p3)] [(.int (1 : Int32)), (.int v4)])) _
        rw [hv9]
        exact Steps.refl _
      · rw [if_neg hc8] at hv9
        refine XS.icmpYes X0.here hx rfl (pc0 := 20) (pc' := 27) rfl (hb hby d1_20) rfl (flt hc8).2.1 (by decide) (by decide) ?_
        show Steps p.tables e below (s₁.setTop (mkF m 27 #[.val (.int p0), .val (.int p1), .val (.int p2), .val (.int p3)] [(.int v4)])) _
        refine XS.iconst X0.here hx rfl (hb hby d1_27) ?_
        show Steps p.tables e below (s₁.setTop (mkF m 28 #[.val (.int p0), .val (.int p1), .val (.int p2), .val (.int p3)] [(.int (0 : Int32)), (.int v4)])) _
        rw [hv9]
        exact Steps.refl _
  have q11 : Steps p.tables e below (s₁.setTop (entryFrame m #[(.int p0), (.int p1), (.int p2), (.int p3)] 4)) (s₁.setTop (mkF m 30 #[.val (.int p0), .val (.int p1), .val (.int p2), .val (.int p3)] [(.int p3), (.int (v4 + v9))])) := q10.trans (by
      show Steps p.tables e below (s₁.setTop (mkF m 28 #[.val (.int p0), .val (.int p1), .val (.int p2), .val (.int p3)] [(.int v9), (.int v4)])) _
      refine XS.iadd X0.here hx rfl (hb hby d1_28) rfl ?_
      show Steps p.tables e below (s₁.setTop (mkF m 29 #[.val (.int p0), .val (.int p1), .val (.int p2), .val (.int p3)] [(.int (v4 + v9))])) _
      refine XS.iloadN X0.here hx rfl (hb hby d1_29) rfl ?_
      show Steps p.tables e below (s₁.setTop (mkF m 30 #[.val (.int p0), .val (.int p1), .val (.int p2), .val (.int p3)] [(.int p3), (.int (v4 + v9))])) _
      exact Steps.refl _)
  obtain ⟨v14, hv14, hM⟩ := Option.bind_eq_some_iff.mp hM
  have hv14 := (Option.some.inj hv14).symm
  have q15 : Steps p.tables e below (s₁.setTop (entryFrame m #[(.int p0), (.int p1), (.int p2), (.int p3)] 4)) (s₁.setTop (mkF m 43 #[.val (.int p0), .val (.int p1), .val (.int p2), .val (.int p3)] [(.int v14), (.int (v4 + v9))])) := by
    refine q11.trans ?_
    show Steps p.tables e below (s₁.setTop (mkF m 30 #[.val (.int p0), .val (.int p1), .val (.int p2), .val (.int p3)] [(.int p3), (.int (v4 + v9))])) _
    by_cases hc12 : p3 = (0 : Int32)
    · rw [if_pos hc12] at hv14
      refine XS.ifYes X0.here hx rfl (pc0 := 30) (pc' := 42) rfl (hb hby d1_30) rfl ((if0 _ _).trans (teq hc12).1) (by decide) (by decide) ?_
      show Steps p.tables e below (s₁.setTop (mkF m 42 #[.val (.int p0), .val (.int p1), .val (.int p2), .val (.int p3)] [(.int (v4 + v9))])) _
      refine XS.iconst X0.here hx rfl (hb hby d1_42) ?_
      show Steps p.tables e below (s₁.setTop (mkF m 43 #[.val (.int p0), .val (.int p1), .val (.int p2), .val (.int p3)] [(.int (0 : Int32)), (.int (v4 + v9))])) _
      rw [hv14]
      exact Steps.refl _
    · rw [if_neg hc12] at hv14
      refine XS.ifNo X0.here hx rfl (hb hby d1_30) rfl ((if0 _ _).trans (feq hc12).1) ?_
      show Steps p.tables e below (s₁.setTop (mkF m 33 #[.val (.int p0), .val (.int p1), .val (.int p2), .val (.int p3)] [(.int (v4 + v9))])) _
      refine XS.iconst X0.here hx rfl (hb hby d1_33) ?_
      show Steps p.tables e below (s₁.setTop (mkF m 34 #[.val (.int p0), .val (.int p1), .val (.int p2), .val (.int p3)] [(.int (2 : Int32)), (.int (v4 + v9))])) _
      refine XS.iloadN X0.here hx rfl (hb hby d1_34) rfl ?_
      show Steps p.tables e below (s₁.setTop (mkF m 35 #[.val (.int p0), .val (.int p1), .val (.int p2), .val (.int p3)] [(.int p0), (.int (2 : Int32)), (.int (v4 + v9))])) _
      by_cases hc13 : (2 : Int32) < p0
      · rw [if_pos hc13] at hv14
        refine XS.icmpNo X0.here hx rfl (hb hby d1_35) rfl (tlt hc13).2.1 ?_
        show Steps p.tables e below (s₁.setTop (mkF m 38 #[.val (.int p0), .val (.int p1), .val (.int p2), .val (.int p3)] [(.int (v4 + v9))])) _
        refine XS.iconst X0.here hx rfl (hb hby d1_38) ?_
        show Steps p.tables e below (s₁.setTop (mkF m 39 #[.val (.int p0), .val (.int p1), .val (.int p2), .val (.int p3)] [(.int (1 : Int32)), (.int (v4 + v9))])) _
        refine XS.goto X0.here hx rfl (pc0 := 39) (pc' := 43) rfl (hb hby d1_39) (by decide) (by decide) ?_
        show Steps p.tables e below (s₁.setTop (mkF m 43 #[.val (.int p0), .val (.int p1), .val (.int p2), .val (.int p3)] [(.int (1 : Int32)), (.int (v4 + v9))])) _
        rw [hv14]
        exact Steps.refl _
      · rw [if_neg hc13] at hv14
        refine XS.icmpYes X0.here hx rfl (pc0 := 35) (pc' := 42) rfl (hb hby d1_35) rfl (flt hc13).2.1 (by decide) (by decide) ?_
        show Steps p.tables e below (s₁.setTop (mkF m 42 #[.val (.int p0), .val (.int p1), .val (.int p2), .val (.int p3)] [(.int (v4 + v9))])) _
        refine XS.iconst X0.here hx rfl (hb hby d1_42) ?_
        show Steps p.tables e below (s₁.setTop (mkF m 43 #[.val (.int p0), .val (.int p1), .val (.int p2), .val (.int p3)] [(.int (0 : Int32)), (.int (v4 + v9))])) _
        rw [hv14]
        exact Steps.refl _
  have q16 : Steps p.tables e below (s₁.setTop (entryFrame m #[(.int p0), (.int p1), (.int p2), (.int p3)] 4)) (s₁.setTop (mkF m 44 #[.val (.int p0), .val (.int p1), .val (.int p2), .val (.int p3)] [(.int ((v4 + v9) + v14))])) := q15.trans (by
      show Steps p.tables e below (s₁.setTop (mkF m 43 #[.val (.int p0), .val (.int p1), .val (.int p2), .val (.int p3)] [(.int v14), (.int (v4 + v9))])) _
      refine XS.iadd X0.here hx rfl (hb hby d1_43) rfl ?_
      show Steps p.tables e below (s₁.setTop (mkF m 44 #[.val (.int p0), .val (.int p1), .val (.int p2), .val (.int p3)] [(.int ((v4 + v9) + v14))])) _
      exact Steps.refl _)
  obtain rfl := Option.some.inj hM
  obtain ⟨fs, hr, hrun, hended, hW, hsame⟩ := X0.leave (v := some (.int ((v4 + v9) + v14))) (fun h => by rw [Bd.returns] at h; cases h)
  refine ⟨_, _, q16.trans ?_, hrun, hended, _, _, rfl, ?_, ⟨_, rfl⟩, hW, hsame.mono (by decide) (by decide)⟩
  · exact retI X0 hx Bd.returns (hb hby d1_44) hr
  · show Q_rmR Z p0 p1 p2 p3 _ h0 n0 _ s₁.heap _
    rw [e0]
    exact ⟨rfl, N0, rfl⟩

theorem d5_0 : decode method_4_code 0 = .ok (.iload_n 1, 1) := by decide +kernel
theorem d5_1 : decode method_4_code 1 = .ok (.ifCond .eq 11, 3) := by decide +kernel
theorem d5_4 : decode method_4_code 4 = .ok (.iload_n 0, 1) := by decide +kernel
theorem d5_5 : decode method_4_code 5 = .ok (.iload_n 2, 1) := by decide +kernel
theorem d5_6 : decode method_4_code 6 = .ok (.isub, 1) := by decide +kernel
theorem d5_7 : decode method_4_code 7 = .ok (.iconst 3, 1) := by decide +kernel
theorem d5_8 : decode method_4_code 8 = .ok (.iand, 1) := by decide +kernel
theorem d5_9 : decode method_4_code 9 = .ok (.goto 8, 3) := by decide +kernel
theorem d5_12 : decode method_4_code 12 = .ok (.iload_n 0, 1) := by decide +kernel
theorem d5_13 : decode method_4_code 13 = .ok (.iload_n 2, 1) := by decide +kernel
theorem d5_14 : decode method_4_code 14 = .ok (.iadd, 1) := by decide +kernel
theorem d5_15 : decode method_4_code 15 = .ok (.iconst 3, 1) := by decide +kernel
theorem d5_16 : decode method_4_code 16 = .ok (.iand, 1) := by decide +kernel
theorem d5_17 : decode method_4_code 17 = .ok (.ireturn, 1) := by decide +kernel
theorem pn_rmPos : plainName "com/example/libpathsum/libpathsum/BlocksMarkPinLaw" = true := by first | (simp [plainName, overriddenIn]; done) | decide +kernel
theorem ef_rmPos (m : MethodId) (p0 : Int32) (p1 : Int32) (p2 : Int32) : entryFrame m #[(.int p0), (.int p1), (.int p2)] 3 = mkF m 0 #[.val (.int p0), .val (.int p1), .val (.int p2)] [] := by first | (simp [entryFrame, mkF, argsToLocals, Value.category]; done) | rfl
def Fpos (p0 : Int32) (p1 : Int32) (p2 : Int32) : Int32 := (if p1 = (0 : Int32) then ((p0 + p2) &&& (3 : Int32)) else ((p0 - p2) &&& (3 : Int32)))
def Q_rmPos (Z : State) (p0 : Int32) (p1 : Int32) (p2 : Int32) (h0 : Heap) (n0 : Nat) (v : Option Value) (h : Heap) (L : List Loc) : Prop := v = some (.int (Fpos p0 p1 p2)) ∧ Fr n0 L ∧ h = h0
set_option maxRecDepth 65536 in
set_option maxHeartbeats 40000000 in
theorem rmPos (l : Launch) (Z : State) (a0 : Array Value) (hw : ∀ d ∈ tables_1, d.before a0 Z = true) (ws : List Jvm.Cond) (p0 : Int32) (p1 : Int32) (p2 : Int32) (h0 : Heap) (n0 : Nat) (Z0 : n0 ≤ h0.size) :
    MetFree l (⟨"com/example/libpathsum/libpathsum/BlocksMarkPinLaw", "pos", "(IZI)I"⟩ : MethodName) (head1 (Jvm.Cond.code (⟨"com/example/libpathsum/libpathsum/BlocksMarkPinLaw", "pos", "(IZI)I"⟩ : MethodName) method_4_code 3 (some .int) :: ws) ({ frames := 0, cells := 0, slots := 0, locals := 0 } : Room)) (fun a U => a = #[(.int p0), (.int p1), (.int p2)] ∧ Z.Warmed39 U.vm ∧ U.heap = h0) (fun _ _ _ _ _ => True) (fun _ U o U' => ∃ v L, o = .returned v ∧ Q_rmPos Z p0 p1 p2 h0 n0 v U'.heap L ∧ FrameEnd U o U' L ({ frames := 0, cells := 0, slots := 0, locals := 0 } : Room).cells ({ frames := 0, cells := 0, slots := 0, locals := 0 } : Room).slots) := by
  refine MetFree.of_bodySF (plainFor_of_name pn_rmPos) hisR ?_
  intro p e s m args below meth c s₁ Bd hml0 hP hK
  obtain ⟨rfl, hZ, hh⟩ := hP
  have hx := Bd.exec
  have hby := Bd.bytes
  have hml : c.maxLocals = 3 := hml0
  have hown : s.vm.findClass "com/example/libpathsum/libpathsum/BlocksMarkPinLaw" = some m.cls := findClass_of_methodNamed Bd.named
  have hnm := (name_of_methodNamed Bd.named Bd.method).1
  have X0 : Stand p l e ({ frames := 0, cells := 0, slots := 0, locals := 0 } : Room) s m #[(.int p0), (.int p1), (.int p2)] below meth c s₁ [] 0 0 := Stand.of_body Bd
  have e0 : s₁.heap = h0 := by rw [← hh, Bd.state]; rfl
  have N0 := Fr.nil n0
  have q0 : Steps p.tables e below (s₁.setTop (entryFrame m #[(.int p0), (.int p1), (.int p2)] 3)) (s₁.setTop (mkF m 0 #[.val (.int p0), .val (.int p1), .val (.int p2)] [])) := castTop (ef_rmPos m p0 p1 p2) (Steps.refl _)
  obtain ⟨fs, hr, hrun, hended, hW, hsame⟩ := X0.leave (v := some (.int (Fpos p0 p1 p2))) (fun h => by rw [Bd.returns] at h; cases h)
  refine ⟨_, _, q0.trans ?_, hrun, hended, _, _, rfl, ?_, ⟨_, rfl⟩, hW, hsame.mono (by decide) (by decide)⟩
  · show Steps p.tables e below (s₁.setTop (mkF m 0 #[.val (.int p0), .val (.int p1), .val (.int p2)] [])) _
    refine XS.iloadN X0.here hx rfl (hb hby d5_0) rfl ?_
    show Steps p.tables e below (s₁.setTop (mkF m 1 #[.val (.int p0), .val (.int p1), .val (.int p2)] [(.int p1)])) _
    by_cases hc1 : p1 = (0 : Int32)
    · refine XS.ifYes X0.here hx rfl (pc0 := 1) (pc' := 12) rfl (hb hby d5_1) rfl ((if0 _ _).trans (teq hc1).1) (by decide) (by decide) ?_
      show Steps p.tables e below (s₁.setTop (mkF m 12 #[.val (.int p0), .val (.int p1), .val (.int p2)] [])) _
      refine XS.iloadN X0.here hx rfl (hb hby d5_12) rfl ?_
      show Steps p.tables e below (s₁.setTop (mkF m 13 #[.val (.int p0), .val (.int p1), .val (.int p2)] [(.int p0)])) _
      refine XS.iloadN X0.here hx rfl (hb hby d5_13) rfl ?_
      show Steps p.tables e below (s₁.setTop (mkF m 14 #[.val (.int p0), .val (.int p1), .val (.int p2)] [(.int p2), (.int p0)])) _
      refine XS.iadd X0.here hx rfl (hb hby d5_14) rfl ?_
      show Steps p.tables e below (s₁.setTop (mkF m 15 #[.val (.int p0), .val (.int p1), .val (.int p2)] [(.int (p0 + p2))])) _
      refine XS.iconst X0.here hx rfl (hb hby d5_15) ?_
      show Steps p.tables e below (s₁.setTop (mkF m 16 #[.val (.int p0), .val (.int p1), .val (.int p2)] [(.int (3 : Int32)), (.int (p0 + p2))])) _
      refine XS.iand X0.here hx rfl (hb hby d5_16) rfl ?_
      show Steps p.tables e below (s₁.setTop (mkF m 17 #[.val (.int p0), .val (.int p1), .val (.int p2)] [(.int ((p0 + p2) &&& (3 : Int32)))])) _
      have hz : (Fpos p0 p1 p2) = ((p0 + p2) &&& (3 : Int32)) := by unfold Fpos; rw [if_pos hc1]
      rw [hz] at hr
      exact retI X0 hx Bd.returns (hb hby d5_17) hr
    · refine XS.ifNo X0.here hx rfl (hb hby d5_1) rfl ((if0 _ _).trans (feq hc1).1) ?_
      show Steps p.tables e below (s₁.setTop (mkF m 4 #[.val (.int p0), .val (.int p1), .val (.int p2)] [])) _
      refine XS.iloadN X0.here hx rfl (hb hby d5_4) rfl ?_
      show Steps p.tables e below (s₁.setTop (mkF m 5 #[.val (.int p0), .val (.int p1), .val (.int p2)] [(.int p0)])) _
      refine XS.iloadN X0.here hx rfl (hb hby d5_5) rfl ?_
      show Steps p.tables e below (s₁.setTop (mkF m 6 #[.val (.int p0), .val (.int p1), .val (.int p2)] [(.int p2), (.int p0)])) _
      refine XS.isub X0.here hx rfl (hb hby d5_6) rfl ?_
      show Steps p.tables e below (s₁.setTop (mkF m 7 #[.val (.int p0), .val (.int p1), .val (.int p2)] [(.int (p0 - p2))])) _
      refine XS.iconst X0.here hx rfl (hb hby d5_7) ?_
      show Steps p.tables e below (s₁.setTop (mkF m 8 #[.val (.int p0), .val (.int p1), .val (.int p2)] [(.int (3 : Int32)), (.int (p0 - p2))])) _
      refine XS.iand X0.here hx rfl (hb hby d5_8) rfl ?_
      show Steps p.tables e below (s₁.setTop (mkF m 9 #[.val (.int p0), .val (.int p1), .val (.int p2)] [(.int ((p0 - p2) &&& (3 : Int32)))])) _
      refine XS.goto X0.here hx rfl (pc0 := 9) (pc' := 17) rfl (hb hby d5_9) (by decide) (by decide) ?_
      show Steps p.tables e below (s₁.setTop (mkF m 17 #[.val (.int p0), .val (.int p1), .val (.int p2)] [(.int ((p0 - p2) &&& (3 : Int32)))])) _
      have hz : (Fpos p0 p1 p2) = ((p0 - p2) &&& (3 : Int32)) := by unfold Fpos; rw [if_neg hc1]
      rw [hz] at hr
      exact retI X0 hx Bd.returns (hb hby d5_17) hr
  · show Q_rmPos Z p0 p1 p2 h0 n0 _ s₁.heap _
    rw [e0]
    exact ⟨rfl, N0, rfl⟩

theorem d4_0 : decode jdk_65_method_123_code 0 = .ok (.iload_n 1, 1) := by decide +kernel
theorem d4_1 : decode jdk_65_method_123_code 1 = .ok (.aload_n 0, 1) := by decide +kernel
theorem d4_2 : decode jdk_65_method_123_code 2 = .ok (.arraylength, 1) := by decide +kernel
theorem d4_3 : decode jdk_65_method_123_code 3 = .ok (.if_icmp .ne 11, 3) := by decide +kernel
theorem d4_6 : decode jdk_65_method_123_code 6 = .ok (.aload_n 0, 1) := by decide +kernel
theorem d4_7 : decode jdk_65_method_123_code 7 = .ok (.invokevirtual 316, 3) := by decide +kernel
theorem d4_10 : decode jdk_65_method_123_code 10 = .ok (.checkcast 317, 3) := by decide +kernel
theorem d4_13 : decode jdk_65_method_123_code 13 = .ok (.areturn, 1) := by decide +kernel
theorem pn_rmCp : plainName "java/util/Arrays" = true := by first | (simp [plainName, overriddenIn]; done) | decide +kernel
theorem ef_rmCp (m : MethodId) (o0 : Addr) (p1 : Int32) : entryFrame m #[(.ref o0), (.int p1)] 3 = mkF m 0 #[.val (.ref o0), .val (.int p1), .unset] [] := by first | (simp [entryFrame, mkF, argsToLocals, Value.category]; done) | rfl
def M_copy (p1 : Int32) (xs : List Int32) : Option (List Int32) := (if p1 = (Own.ln xs) then (Own.lim 4 xs).bind fun y5 => some xs else none)
def Q_rmCp (Z : State) (o0 : Addr) (p1 : Int32) (xs : List Int32) (out : List Int32) (h0 : Heap) (n0 : Nat) (v : Option Value) (h : Heap) (L : List Loc) : Prop := ∃ d : Addr, v = some (.ref d) ∧ Fr n0 L ∧ Keep h0 h [] ∧ h0.size ≤ d ∧ Own.IA Z h d out
set_option maxRecDepth 65536 in
set_option maxHeartbeats 40000000 in
theorem rmCp (l : Launch) (Z : State) (a0 : Array Value) (hw : ∀ d ∈ tables_1, d.before a0 Z = true) (ws : List Jvm.Cond) (o0 : Addr) (p1 : Int32) (xs : List Int32) (out : List Int32) (h0 : Heap) (n0 : Nat) (Z0 : n0 ≤ h0.size) (I_o0 : Own.IA Z h0 o0 xs) (E_o0 : Exa Z h0 o0 "[I") (hM : M_copy p1 xs = some out) :
    MetFree l (⟨"java/util/Arrays", "copyOf", "([II)[I"⟩ : MethodName) (head1 (Jvm.Cond.code (⟨"java/util/Arrays", "copyOf", "([II)[I"⟩ : MethodName) jdk_65_method_123_code 3 (some (.array .int)) :: ws) ({ frames := 1, cells := 1, slots := 4, locals := 14 } : Room)) (fun a U => a = #[(.ref o0), (.int p1)] ∧ Z.Warmed39 U.vm ∧ U.heap = h0) (fun _ _ _ _ _ => True) (fun _ U o U' => ∃ v L, o = .returned v ∧ Q_rmCp Z o0 p1 xs out h0 n0 v U'.heap L ∧ FrameEnd U o U' L ({ frames := 1, cells := 1, slots := 4, locals := 14 } : Room).cells ({ frames := 1, cells := 1, slots := 4, locals := 14 } : Room).slots) := by
  refine MetFree.of_bodySF (plainFor_of_name pn_rmCp) hisR ?_
  intro p e s m args below meth c s₁ Bd hml0 hP hK
  obtain ⟨rfl, hZ, hh⟩ := hP
  have hx := Bd.exec
  have hby := Bd.bytes
  have hml : c.maxLocals = 3 := hml0
  have hown : s.vm.findClass "java/util/Arrays" = some m.cls := findClass_of_methodNamed Bd.named
  have hnm := (name_of_methodNamed Bd.named Bd.method).1
  have X0 : Stand p l e ({ frames := 1, cells := 1, slots := 4, locals := 14 } : Room) s m #[(.ref o0), (.int p1)] below meth c s₁ [] 0 0 := Stand.of_body Bd
  have e0 : s₁.heap = h0 := by rw [← hh, Bd.state]; rfl
  have N0 := Fr.nil n0
  have q0 : Steps p.tables e below (s₁.setTop (entryFrame m #[(.ref o0), (.int p1)] 3)) (s₁.setTop (mkF m 0 #[.val (.ref o0), .val (.int p1), .unset] [])) := castTop (ef_rmCp m o0 p1) (Steps.refl _)
  unfold M_copy at hM
  have K0 : Keep h0 h0 [] := Keep.refl _ _
  have q1 : Steps p.tables e below (s₁.setTop (entryFrame m #[(.ref o0), (.int p1)] 3)) (s₁.setTop (mkF m 3 #[.val (.ref o0), .val (.int p1), .unset] [(.int (Own.ln xs)), (.int p1)])) := q0.trans (by
      show Steps p.tables e below (s₁.setTop (mkF m 0 #[.val (.ref o0), .val (.int p1), .unset] [])) _
      refine XS.iloadN X0.here hx rfl (hb hby d4_0) rfl ?_
      show Steps p.tables e below (s₁.setTop (mkF m 1 #[.val (.ref o0), .val (.int p1), .unset] [(.int p1)])) _
      refine XS.aloadN X0.here hx rfl (hb hby d4_1) rfl rfl ?_
      show Steps p.tables e below (s₁.setTop (mkF m 2 #[.val (.ref o0), .val (.int p1), .unset] [(.ref o0), (.int p1)])) _
      refine Own.lnV X0 hx hZ e0 I_o0 (z := Own.ln xs) (by rw [List.length_map]; rfl) (g := (mkF m 2 #[.val (.ref o0), .val (.int p1), .unset] [(.ref o0), (.int p1)])) rfl rfl (hb hby d4_2) _ ?_
      show Steps p.tables e below (s₁.setTop (mkF m 3 #[.val (.ref o0), .val (.int p1), .unset] [(.int (Own.ln xs)), (.int p1)])) _
      exact Steps.refl _)
  by_cases hc2 : p1 = (Own.ln xs)
  · rw [if_pos hc2] at hM
    have q3 : Steps p.tables e below (s₁.setTop (entryFrame m #[(.ref o0), (.int p1)] 3)) (s₁.setTop (mkF m 6 #[.val (.ref o0), .val (.int p1), .unset] [])) := q1.trans (by
        show Steps p.tables e below (s₁.setTop (mkF m 3 #[.val (.ref o0), .val (.int p1), .unset] [(.int (Own.ln xs)), (.int p1)])) _
        refine XS.icmpNo X0.here hx rfl (hb hby d4_3) rfl (teq hc2).2 ?_
        show Steps p.tables e below (s₁.setTop (mkF m 6 #[.val (.ref o0), .val (.int p1), .unset] [])) _
        exact Steps.refl _)
    have q4 : Steps p.tables e below (s₁.setTop (entryFrame m #[(.ref o0), (.int p1)] 3)) (s₁.setTop (mkF m 7 #[.val (.ref o0), .val (.int p1), .unset] [(.ref o0)])) := q3.trans (by
        show Steps p.tables e below (s₁.setTop (mkF m 6 #[.val (.ref o0), .val (.int p1), .unset] [])) _
        refine XS.aloadN X0.here hx rfl (hb hby d4_6) rfl rfl ?_
        show Steps p.tables e below (s₁.setTop (mkF m 7 #[.val (.ref o0), .val (.int p1), .unset] [(.ref o0)])) _
        exact Steps.refl _)
    obtain ⟨y5, hy5, hM⟩ := Option.bind_eq_some_iff.mp hM
    obtain ⟨T6, h6, X6, e6, E6, A6, AE6, st6⟩ := Own.clI X0 hx hZ hown (hw _ (List.mem_of_getElem? (i := 22) rfl)) (hw _ (List.mem_of_getElem? (i := 23) rfl)) (hw _ (List.mem_of_getElem? (i := 27) rfl)) (hw _ (List.mem_of_getElem? (i := 25) rfl)) (hw _ (List.mem_of_getElem? (i := 26) rfl)) (hw _ (List.mem_of_getElem? (i := 28) rfl)) e0 I_o0 E_o0 (g := (mkF m 7 #[.val (.ref o0), .val (.int p1), .unset] [(.ref o0)])) rfl (by rw [hml]; rfl) rfl (hb hby d4_7) (by decide) (W := 0) (cap := 4) (by show 2 * 0 + _ ≤ _; exact Nat.le_of_eq rfl) (by decide) (Own.lim_some hy5).1 (by decide) (by decide)
    obtain ⟨d, g6⟩ : ∃ z, z = h0.size := ⟨_, rfl⟩
    rw [← g6] at A6 AE6 st6
    have ge_d : n0 ≤ d := Nat.le_trans Z0 (Nat.le_of_eq g6.symm)
    have ne_o0_d : o0 ≠ d := Nat.ne_of_lt (Nat.lt_of_lt_of_le I_o0.lt (Nat.le_of_eq g6.symm))
    have old_d : h0.size ≤ d := Nat.le_trans K0.1 (Nat.le_of_eq g6.symm)
    have Io0_6 := I_o0.ext E6
    have Xo0_6 := E_o0.ext E6
    have Z6 : n0 ≤ h6.size := Nat.le_trans Z0 E6.1
    have K6 : Keep h0 h6 [] := K0.ext E6
    have q7 : Steps p.tables e below (s₁.setTop (entryFrame m #[(.ref o0), (.int p1)] 3)) (T6.setTop (mkF m 10 #[.val (.ref o0), .val (.int p1), .unset] [(.ref d)])) := q4.trans (st6 _ (Steps.refl _))
    obtain ⟨T8, X8, e8, st8⟩ := castY X6 hx hZ hown (hw _ (List.mem_of_getElem? (i := 29) rfl)) e6 (Ins.self AE6) (g := (mkF m 10 #[.val (.ref o0), .val (.int p1), .unset] [(.ref d)])) rfl rfl (hb hby d4_10)
    have q9 : Steps p.tables e below (s₁.setTop (entryFrame m #[(.ref o0), (.int p1)] 3)) (T8.setTop (mkF m 13 #[.val (.ref o0), .val (.int p1), .unset] [(.ref d)])) := q7.trans (st8 _ (Steps.refl _))
    obtain rfl := Option.some.inj hM
    obtain ⟨fs, hr, hrun, hended, hW, hsame⟩ := X8.leave (v := some (.ref d)) (fun h => by rw [Bd.returns] at h; cases h)
    refine ⟨_, _, q9.trans ?_, hrun, hended, _, _, rfl, ?_, ⟨_, rfl⟩, hW, hsame.mono (by decide) (by decide)⟩
    · exact retA X8 hx Bd.returns rfl rfl (hb hby d4_13) hr
    · show Q_rmCp Z o0 p1 xs _ h0 n0 _ T8.heap _
      rw [e8]
      exact ⟨d, rfl, N0, K6, old_d, A6⟩
  · rw [if_neg hc2] at hM
    have q10 : Steps p.tables e below (s₁.setTop (entryFrame m #[(.ref o0), (.int p1)] 3)) (s₁.setTop (mkF m 14 #[.val (.ref o0), .val (.int p1), .unset] [])) := q1.trans (by
        show Steps p.tables e below (s₁.setTop (mkF m 3 #[.val (.ref o0), .val (.int p1), .unset] [(.int (Own.ln xs)), (.int p1)])) _
        refine XS.icmpYes X0.here hx rfl (pc0 := 3) (pc' := 14) rfl (hb hby d4_3) rfl (feq hc2).2 (by decide) (by decide) ?_
        show Steps p.tables e below (s₁.setTop (mkF m 14 #[.val (.ref o0), .val (.int p1), .unset] [])) _
        exact Steps.refl _)
    cases hM

theorem d12_5 : decode jdk_65_method_103_code 5 = .ok (.iload_n 2, 1) := by decide +kernel
theorem d12_6 : decode jdk_65_method_103_code 6 = .ok (.iload_n 3, 1) := by decide +kernel
theorem d12_7 : decode jdk_65_method_103_code 7 = .ok (.if_icmp .ge 13, 3) := by decide +kernel
theorem d12_10 : decode jdk_65_method_103_code 10 = .ok (.aload_n 0, 1) := by decide +kernel
theorem d12_11 : decode jdk_65_method_103_code 11 = .ok (.iload_n 2, 1) := by decide +kernel
theorem d12_12 : decode jdk_65_method_103_code 12 = .ok (.iload_n 1, 1) := by decide +kernel
theorem d12_13 : decode jdk_65_method_103_code 13 = .ok (.iastore, 1) := by decide +kernel
theorem d12_14 : decode jdk_65_method_103_code 14 = .ok (.iinc 2 1, 3) := by decide +kernel
theorem d12_17 : decode jdk_65_method_103_code 17 = .ok (.goto (-12), 3) := by decide +kernel
def M_lpFl : Nat → Int32 → Int32 → Int32 → List Int32 → Option (Int32 × List Int32)
  | 0, _, _, _, _ => none
  | k + 1, p1, nn, i, xs => (if i < nn then (Own.wt xs i p1).bind fun y5 => M_lpFl k p1 nn (i + (1 : Int32)) y5 else some (i, xs))
theorem M_lpFl_s (k : Nat) (p1 : Int32) (nn : Int32) (i : Int32) (xs : List Int32) : M_lpFl (k + 1) p1 nn i xs = (if i < nn then (Own.wt xs i p1).bind fun y5 => M_lpFl k p1 nn (i + (1 : Int32)) y5 else some (i, xs)) := rfl
set_option maxRecDepth 65536 in
set_option maxHeartbeats 40000000 in
theorem lpFl {p : Program} {l : Launch} {e : Env} {R : Room} {s : State} {m : MethodId} {args : Array Value} {below : List Frame} {meth : Method} {c : Code} {Z : State} {a0 : Array Value} {n0 cells slots : Nat} (hx : p.tables.exec = Jvm.exec) (hZ : Z.Warmed39 s.vm) (hw : ∀ d ∈ tables_1, d.before a0 Z = true) (hby : c.code = jdk_65_method_103_code) (hml : c.maxLocals = 4) (hown : s.vm.findClass "java/util/Arrays" = some m.cls) (o0 : Addr) (p1 : Int32) (nn : Int32) (ge_o0 : n0 ≤ o0) (k : Nat) : ∀ {T0 : State} {locs : List Loc} {h0 : Heap} (i : Int32) (xs : List Int32)  (out : Int32 × List Int32) (hM : M_lpFl k p1 nn i xs = some out) (X0 : Stand p l e R s m args below meth c T0 locs cells slots) (e0 : T0.heap = h0) (N0 : Fr n0 locs) (Z0 : n0 ≤ h0.size)  (I_o0 : Own.IA Z h0 o0 xs),
    ∃ (T' : State) (locs' : List Loc) (h' : Heap) , Stand p l e R s m args below meth c T' locs' cells slots ∧ T'.heap = h' ∧ Fr n0 locs' ∧ n0 ≤ h'.size ∧ Keep h0 h' [o0] ∧ Own.IA Z h' o0 out.2 ∧ Steps p.tables e below (T0.setTop (mkF m 5 #[.val (.ref o0), .val (.int p1), .val (.int i), .val (.int nn)] [])) (T'.setTop (mkF m 20 #[.val (.ref o0), .val (.int p1), .val (.int out.1), .val (.int nn)] [])) := by
  induction k with
  | zero => intro T0 locs h0 i xs out hM X0 e0 N0 Z0 I_o0; cases hM
  | succ k ih =>
    intro T0 locs h0 i xs out hM X0 e0 N0 Z0 I_o0
    rw [M_lpFl_s] at hM
    have q0 : Steps p.tables e below (T0.setTop (mkF m 5 #[.val (.ref o0), .val (.int p1), .val (.int i), .val (.int nn)] [])) (T0.setTop (mkF m 5 #[.val (.ref o0), .val (.int p1), .val (.int i), .val (.int nn)] [])) := Steps.refl _
    have K0 : Keep h0 h0 [o0] := Keep.refl _ _
    have q1 : Steps p.tables e below (T0.setTop (mkF m 5 #[.val (.ref o0), .val (.int p1), .val (.int i), .val (.int nn)] [])) (T0.setTop (mkF m 7 #[.val (.ref o0), .val (.int p1), .val (.int i), .val (.int nn)] [(.int nn), (.int i)])) := q0.trans (by
        show Steps p.tables e below (T0.setTop (mkF m 5 #[.val (.ref o0), .val (.int p1), .val (.int i), .val (.int nn)] [])) _
        refine XS.iloadN X0.here hx rfl (hb hby d12_5) rfl ?_
        show Steps p.tables e below (T0.setTop (mkF m 6 #[.val (.ref o0), .val (.int p1), .val (.int i), .val (.int nn)] [(.int i)])) _
        refine XS.iloadN X0.here hx rfl (hb hby d12_6) rfl ?_
        show Steps p.tables e below (T0.setTop (mkF m 7 #[.val (.ref o0), .val (.int p1), .val (.int i), .val (.int nn)] [(.int nn), (.int i)])) _
        exact Steps.refl _)
    by_cases hc2 : i < nn
    · rw [if_pos hc2] at hM
      have q3 : Steps p.tables e below (T0.setTop (mkF m 5 #[.val (.ref o0), .val (.int p1), .val (.int i), .val (.int nn)] [])) (T0.setTop (mkF m 10 #[.val (.ref o0), .val (.int p1), .val (.int i), .val (.int nn)] [])) := q1.trans (by
          show Steps p.tables e below (T0.setTop (mkF m 7 #[.val (.ref o0), .val (.int p1), .val (.int i), .val (.int nn)] [(.int nn), (.int i)])) _
          refine XS.icmpNo X0.here hx rfl (hb hby d12_7) rfl (tlt hc2).2.1 ?_
          show Steps p.tables e below (T0.setTop (mkF m 10 #[.val (.ref o0), .val (.int p1), .val (.int i), .val (.int nn)] [])) _
          exact Steps.refl _)
      have q4 : Steps p.tables e below (T0.setTop (mkF m 5 #[.val (.ref o0), .val (.int p1), .val (.int i), .val (.int nn)] [])) (T0.setTop (mkF m 13 #[.val (.ref o0), .val (.int p1), .val (.int i), .val (.int nn)] [(.int p1), (.int i), (.ref o0)])) := q3.trans (by
          show Steps p.tables e below (T0.setTop (mkF m 10 #[.val (.ref o0), .val (.int p1), .val (.int i), .val (.int nn)] [])) _
          refine XS.aloadN X0.here hx rfl (hb hby d12_10) rfl rfl ?_
          show Steps p.tables e below (T0.setTop (mkF m 11 #[.val (.ref o0), .val (.int p1), .val (.int i), .val (.int nn)] [(.ref o0)])) _
          refine XS.iloadN X0.here hx rfl (hb hby d12_11) rfl ?_
          show Steps p.tables e below (T0.setTop (mkF m 12 #[.val (.ref o0), .val (.int p1), .val (.int i), .val (.int nn)] [(.int i), (.ref o0)])) _
          refine XS.iloadN X0.here hx rfl (hb hby d12_12) rfl ?_
          show Steps p.tables e below (T0.setTop (mkF m 13 #[.val (.ref o0), .val (.int p1), .val (.int i), .val (.int nn)] [(.int p1), (.int i), (.ref o0)])) _
          exact Steps.refl _)
      obtain ⟨y5, hy5, hM⟩ := Option.bind_eq_some_iff.mp hM
      obtain ⟨T6, h6, X6, e6, W6, J6, st6⟩ := Own.stO X0 hx hZ e0 I_o0 hy5 (g := (mkF m 13 #[.val (.ref o0), .val (.int p1), .val (.int i), .val (.int nn)] [(.int p1), (.int i), (.ref o0)])) rfl rfl (hb hby d12_13)
      have N6 := Fr.snoc X6 N0 ge_o0
      have Z6 : n0 ≤ h6.size := Own.size_wr W6 Z0
      have K6 : Keep h0 h6 [o0] := K0.wr W6 (Or.inl (List.mem_of_getElem? (i := 0) rfl))
      have q7 : Steps p.tables e below (T0.setTop (mkF m 5 #[.val (.ref o0), .val (.int p1), .val (.int i), .val (.int nn)] [])) (T6.setTop (mkF m 14 #[.val (.ref o0), .val (.int p1), .val (.int i), .val (.int nn)] [])) := q4.trans (st6 _ (Steps.refl _))
      have q8 : Steps p.tables e below (T0.setTop (mkF m 5 #[.val (.ref o0), .val (.int p1), .val (.int i), .val (.int nn)] [])) (T6.setTop (mkF m 5 #[.val (.ref o0), .val (.int p1), .val (.int (i + (1 : Int32))), .val (.int nn)] [])) := q7.trans (by
          show Steps p.tables e below (T6.setTop (mkF m 14 #[.val (.ref o0), .val (.int p1), .val (.int i), .val (.int nn)] [])) _
          refine XS.iinc X6.here hx rfl (hb hby d12_14) rfl (l' := #[.val (.ref o0), .val (.int p1), .val (.int (i + (1 : Int32))), .val (.int nn)]) rfl ?_
          show Steps p.tables e below (T6.setTop (mkF m 17 #[.val (.ref o0), .val (.int p1), .val (.int (i + (1 : Int32))), .val (.int nn)] [])) _
          refine XS.goto X6.here hx rfl (pc0 := 17) (pc' := 5) rfl (hb hby d12_17) (by decide) (by decide) ?_
          show Steps p.tables e below (T6.setTop (mkF m 5 #[.val (.ref o0), .val (.int p1), .val (.int (i + (1 : Int32))), .val (.int nn)] [])) _
          exact Steps.refl _)
      obtain ⟨T', locs', h', X', e', N', Z', K', J0', q'⟩ := ih (i + (1 : Int32)) y5  _ hM X6 e6 N6 Z6  J6
      exact ⟨T', locs', h', X', e', N', Z', K6.trans K' (fun _ hx' => Or.inl hx'), J0', q8.trans q'⟩
    · rw [if_neg hc2] at hM
      have q9 : Steps p.tables e below (T0.setTop (mkF m 5 #[.val (.ref o0), .val (.int p1), .val (.int i), .val (.int nn)] [])) (T0.setTop (mkF m 20 #[.val (.ref o0), .val (.int p1), .val (.int i), .val (.int nn)] [])) := q1.trans (by
          show Steps p.tables e below (T0.setTop (mkF m 7 #[.val (.ref o0), .val (.int p1), .val (.int i), .val (.int nn)] [(.int nn), (.int i)])) _
          refine XS.icmpYes X0.here hx rfl (pc0 := 7) (pc' := 20) rfl (hb hby d12_7) rfl (flt hc2).2.1 (by decide) (by decide) ?_
          show Steps p.tables e below (T0.setTop (mkF m 20 #[.val (.ref o0), .val (.int p1), .val (.int i), .val (.int nn)] [])) _
          exact Steps.refl _)
      obtain rfl := Option.some.inj hM
      exact ⟨_, _, _, X0, e0, N0, Z0, K0, I_o0, q9⟩

theorem d12_0 : decode jdk_65_method_103_code 0 = .ok (.iconst 0, 1) := by decide +kernel
theorem d12_1 : decode jdk_65_method_103_code 1 = .ok (.istore_n 2, 1) := by decide +kernel
theorem d12_2 : decode jdk_65_method_103_code 2 = .ok (.aload_n 0, 1) := by decide +kernel
theorem d12_3 : decode jdk_65_method_103_code 3 = .ok (.arraylength, 1) := by decide +kernel
theorem d12_4 : decode jdk_65_method_103_code 4 = .ok (.istore_n 3, 1) := by decide +kernel
theorem d12_20 : decode jdk_65_method_103_code 20 = .ok (.return_, 1) := by decide +kernel
theorem pn_rmFl : plainName "java/util/Arrays" = true := by first | (simp [plainName, overriddenIn]; done) | decide +kernel
theorem ef_rmFl (m : MethodId) (o0 : Addr) (p1 : Int32) : entryFrame m #[(.ref o0), (.int p1)] 4 = mkF m 0 #[.val (.ref o0), .val (.int p1), .unset, .unset] [] := by first | (simp [entryFrame, mkF, argsToLocals, Value.category]; done) | rfl
def M_fill (p1 : Int32) (xs : List Int32) : Option (List Int32) := (M_lpFl 8 p1 (Own.ln xs) (0 : Int32) xs).bind fun r2 => some r2.2
def Q_rmFl (Z : State) (o0 : Addr) (p1 : Int32) (xs : List Int32) (out : List Int32) (h0 : Heap) (n0 : Nat) (v : Option Value) (h : Heap) (L : List Loc) : Prop := v = none ∧ Fr n0 L ∧ Keep h0 h [o0] ∧ Own.IA Z h o0 out
set_option maxRecDepth 65536 in
set_option maxHeartbeats 40000000 in
theorem rmFl (l : Launch) (Z : State) (a0 : Array Value) (hw : ∀ d ∈ tables_1, d.before a0 Z = true) (ws : List Jvm.Cond) (o0 : Addr) (p1 : Int32) (xs : List Int32) (out : List Int32) (h0 : Heap) (n0 : Nat) (Z0 : n0 ≤ h0.size) (I_o0 : Own.IA Z h0 o0 xs) (ge_o0 : n0 ≤ o0) (hM : M_fill p1 xs = some out) :
    MetFree l (⟨"java/util/Arrays", "fill", "([II)V"⟩ : MethodName) (head1 (Jvm.Cond.code (⟨"java/util/Arrays", "fill", "([II)V"⟩ : MethodName) jdk_65_method_103_code 4 none :: ws) ({ frames := 0, cells := 0, slots := 0, locals := 0 } : Room)) (fun a U => a = #[(.ref o0), (.int p1)] ∧ Z.Warmed39 U.vm ∧ U.heap = h0) (fun _ _ _ _ _ => True) (fun _ U o U' => ∃ v L, o = .returned v ∧ Q_rmFl Z o0 p1 xs out h0 n0 v U'.heap L ∧ FrameEnd U o U' L ({ frames := 0, cells := 0, slots := 0, locals := 0 } : Room).cells ({ frames := 0, cells := 0, slots := 0, locals := 0 } : Room).slots) := by
  refine MetFree.of_bodySF (plainFor_of_name pn_rmFl) hisR ?_
  intro p e s m args below meth c s₁ Bd hml0 hP hK
  obtain ⟨rfl, hZ, hh⟩ := hP
  have hx := Bd.exec
  have hby := Bd.bytes
  have hml : c.maxLocals = 4 := hml0
  have hown : s.vm.findClass "java/util/Arrays" = some m.cls := findClass_of_methodNamed Bd.named
  have hnm := (name_of_methodNamed Bd.named Bd.method).1
  have X0 : Stand p l e ({ frames := 0, cells := 0, slots := 0, locals := 0 } : Room) s m #[(.ref o0), (.int p1)] below meth c s₁ [] 0 0 := Stand.of_body Bd
  have e0 : s₁.heap = h0 := by rw [← hh, Bd.state]; rfl
  have N0 := Fr.nil n0
  have q0 : Steps p.tables e below (s₁.setTop (entryFrame m #[(.ref o0), (.int p1)] 4)) (s₁.setTop (mkF m 0 #[.val (.ref o0), .val (.int p1), .unset, .unset] [])) := castTop (ef_rmFl m o0 p1) (Steps.refl _)
  unfold M_fill at hM
  have K0 : Keep h0 h0 [o0] := Keep.refl _ _
  have q1 : Steps p.tables e below (s₁.setTop (entryFrame m #[(.ref o0), (.int p1)] 4)) (s₁.setTop (mkF m 5 #[.val (.ref o0), .val (.int p1), .val (.int (0 : Int32)), .val (.int (Own.ln xs))] [])) := q0.trans (by
      show Steps p.tables e below (s₁.setTop (mkF m 0 #[.val (.ref o0), .val (.int p1), .unset, .unset] [])) _
      refine XS.iconst X0.here hx rfl (hb hby d12_0) ?_
      show Steps p.tables e below (s₁.setTop (mkF m 1 #[.val (.ref o0), .val (.int p1), .unset, .unset] [(.int (0 : Int32))])) _
      refine XS.istoreN X0.here hx rfl (hb hby d12_1) rfl (l' := #[.val (.ref o0), .val (.int p1), .val (.int (0 : Int32)), .unset]) rfl ?_
      show Steps p.tables e below (s₁.setTop (mkF m 2 #[.val (.ref o0), .val (.int p1), .val (.int (0 : Int32)), .unset] [])) _
      refine XS.aloadN X0.here hx rfl (hb hby d12_2) rfl rfl ?_
      show Steps p.tables e below (s₁.setTop (mkF m 3 #[.val (.ref o0), .val (.int p1), .val (.int (0 : Int32)), .unset] [(.ref o0)])) _
      refine Own.lnV X0 hx hZ e0 I_o0 (z := Own.ln xs) (by rw [List.length_map]; rfl) (g := (mkF m 3 #[.val (.ref o0), .val (.int p1), .val (.int (0 : Int32)), .unset] [(.ref o0)])) rfl rfl (hb hby d12_3) _ ?_
      show Steps p.tables e below (s₁.setTop (mkF m 4 #[.val (.ref o0), .val (.int p1), .val (.int (0 : Int32)), .unset] [(.int (Own.ln xs))])) _
      refine XS.istoreN X0.here hx rfl (hb hby d12_4) rfl (l' := #[.val (.ref o0), .val (.int p1), .val (.int (0 : Int32)), .val (.int (Own.ln xs))]) rfl ?_
      show Steps p.tables e below (s₁.setTop (mkF m 5 #[.val (.ref o0), .val (.int p1), .val (.int (0 : Int32)), .val (.int (Own.ln xs))] [])) _
      exact Steps.refl _)
  obtain ⟨r2, hr2, hM⟩ := Option.bind_eq_some_iff.mp hM
  obtain ⟨T3, L3, h3, X3, e3, N3, Zq3, K3, J3_0, ql3⟩ := lpFl hx hZ hw hby hml hown o0 p1 (Own.ln xs) ge_o0 8 (0 : Int32) xs  _ hr2 X0 e0 N0 Z0  I_o0
  have Z3 : n0 ≤ h3.size := Nat.le_trans Z0 K3.1
  have KK3 : Keep h0 h3 [o0] := K0.trans K3 (allS (Or.inl (List.mem_of_getElem? (i := 0) rfl)) all0)
  have q4 : Steps p.tables e below (s₁.setTop (entryFrame m #[(.ref o0), (.int p1)] 4)) (T3.setTop (mkF m 20 #[.val (.ref o0), .val (.int p1), .val (.int r2.1), .val (.int (Own.ln xs))] [])) := q1.trans ql3
  obtain rfl := Option.some.inj hM
  obtain ⟨fs, hr, hrun, hended, hW, hsame⟩ := X3.leave (v := none) (fun _ => rfl)
  refine ⟨_, _, q4.trans ?_, hrun, hended, _, _, rfl, ?_, ⟨_, rfl⟩, hW, hsame.mono (by decide) (by decide)⟩
  · exact X3.returnOut hx Bd.returns (hb hby d12_20) hr
  · show Q_rmFl Z o0 p1 xs _ h0 n0 _ T3.heap _
    rw [e3]
    exact ⟨rfl, N3, KK3, J3_0⟩

theorem d2_68 : decode prog_1_method_1_code 68 = .ok (.iload 4, 2) := by decide +kernel
theorem d2_70 : decode prog_1_method_1_code 70 = .ok (.iload_n 3, 1) := by decide +kernel
theorem d2_71 : decode prog_1_method_1_code 71 = .ok (.if_icmp .ge 25, 3) := by decide +kernel
theorem d2_74 : decode prog_1_method_1_code 74 = .ok (.aload_n 0, 1) := by decide +kernel
theorem d2_75 : decode prog_1_method_1_code 75 = .ok (.getfield 28, 3) := by decide +kernel
theorem d2_78 : decode prog_1_method_1_code 78 = .ok (.aload_n 0, 1) := by decide +kernel
theorem d2_79 : decode prog_1_method_1_code 79 = .ok (.getfield 22, 3) := by decide +kernel
theorem d2_82 : decode prog_1_method_1_code 82 = .ok (.iload 4, 2) := by decide +kernel
theorem d2_84 : decode prog_1_method_1_code 84 = .ok (.iaload, 1) := by decide +kernel
theorem d2_85 : decode prog_1_method_1_code 85 = .ok (.dup2, 1) := by decide +kernel
theorem d2_86 : decode prog_1_method_1_code 86 = .ok (.iaload, 1) := by decide +kernel
theorem d2_87 : decode prog_1_method_1_code 87 = .ok (.iconst 1, 1) := by decide +kernel
theorem d2_88 : decode prog_1_method_1_code 88 = .ok (.iadd, 1) := by decide +kernel
theorem d2_89 : decode prog_1_method_1_code 89 = .ok (.iastore, 1) := by decide +kernel
theorem d2_90 : decode prog_1_method_1_code 90 = .ok (.iinc 4 1, 3) := by decide +kernel
theorem d2_93 : decode prog_1_method_1_code 93 = .ok (.goto (-25), 3) := by decide +kernel
def M_lpC1 : Nat → Int32 → List Int32 → Int32 → List Int32 → Option (Int32 × List Int32)
  | 0, _, _, _, _ => none
  | k + 1, nn, xB, i, xE => (if i < nn then (Own.rd xB i).bind fun v12 => (Own.rd xE v12).bind fun v15 => (Own.wt xE v12 (v15 + (1 : Int32))).bind fun y18 => M_lpC1 k nn xB (i + (1 : Int32)) y18 else some (i, xE))
theorem M_lpC1_s (k : Nat) (nn : Int32) (xB : List Int32) (i : Int32) (xE : List Int32) : M_lpC1 (k + 1) nn xB i xE = (if i < nn then (Own.rd xB i).bind fun v12 => (Own.rd xE v12).bind fun v15 => (Own.wt xE v12 (v15 + (1 : Int32))).bind fun y18 => M_lpC1 k nn xB (i + (1 : Int32)) y18 else some (i, xE)) := rfl
set_option maxRecDepth 65536 in
set_option maxHeartbeats 40000000 in
theorem lpC1 {p : Program} {l : Launch} {e : Env} {R : Room} {s : State} {m : MethodId} {args : Array Value} {below : List Frame} {meth : Method} {c : Code} {Z : State} {a0 : Array Value} {n0 cells slots : Nat} (hx : p.tables.exec = Jvm.exec) (hZ : Z.Warmed39 s.vm) (hw : ∀ d ∈ tables_1, d.before a0 Z = true) (hby : c.code = prog_1_method_1_code) (hml : c.maxLocals = 7) (hown : s.vm.findClass "com/example/libpathsum/libpathsum/Blocks" = some m.cls) (o0 o1 aM aI aB aS aE aF aC aK : Addr) (cn mc : Int32) (xM : List Int32) (xI : List Int32) (xS : List Int32) (xF : List Int32) (xC : List Int32) (xK : List Int32) (p2 : Int32) (nn : Int32) (xB : List Int32) (ge_aM : n0 ≤ aM) (ge_aI : n0 ≤ aI) (ge_aB : n0 ≤ aB) (ge_aS : n0 ≤ aS) (ge_aE : n0 ≤ aE) (ge_aF : n0 ≤ aF) (ge_aC : n0 ≤ aC) (ge_aK : n0 ≤ aK) (ge_o0 : n0 ≤ o0) (ne_aM_aI : aM ≠ aI) (ne_aM_aB : aM ≠ aB) (ne_aM_aS : aM ≠ aS) (ne_aM_aE : aM ≠ aE) (ne_aM_aF : aM ≠ aF) (ne_aM_aC : aM ≠ aC) (ne_aM_aK : aM ≠ aK) (ne_aI_aB : aI ≠ aB) (ne_aI_aS : aI ≠ aS) (ne_aI_aE : aI ≠ aE) (ne_aI_aF : aI ≠ aF) (ne_aI_aC : aI ≠ aC) (ne_aI_aK : aI ≠ aK) (ne_aB_aS : aB ≠ aS) (ne_aB_aE : aB ≠ aE) (ne_aB_aF : aB ≠ aF) (ne_aB_aC : aB ≠ aC) (ne_aB_aK : aB ≠ aK) (ne_aS_aE : aS ≠ aE) (ne_aS_aF : aS ≠ aF) (ne_aS_aC : aS ≠ aC) (ne_aS_aK : aS ≠ aK) (ne_aE_aF : aE ≠ aF) (ne_aE_aC : aE ≠ aC) (ne_aE_aK : aE ≠ aK) (ne_aF_aC : aF ≠ aC) (ne_aF_aK : aF ≠ aK) (ne_aC_aK : aC ≠ aK) (ne_o0_aM : o0 ≠ aM) (ne_o0_aI : o0 ≠ aI) (ne_o0_aB : o0 ≠ aB) (ne_o0_aS : o0 ≠ aS) (ne_o0_aE : o0 ≠ aE) (ne_o0_aF : o0 ≠ aF) (ne_o0_aC : o0 ≠ aC) (ne_o0_aK : o0 ≠ aK) (k : Nat) : ∀ {T0 : State} {locs : List Loc} {h0 : Heap} (i : Int32) (xE : List Int32)  (out : Int32 × List Int32) (hM : M_lpC1 k nn xB i xE = some out) (X0 : Stand p l e R s m args below meth c T0 locs cells slots) (e0 : T0.heap = h0) (N0 : Fr n0 locs) (Z0 : n0 ≤ h0.size)  (E_o0 : Exa Z h0 o0 "com/example/libpathsum/libpathsum/Blocks") (F_o0_members : Fld Z h0 o0 "com/example/libpathsum/libpathsum/Blocks" "members" "[I" (.ref aM)) (F_o0_memberIndex : Fld Z h0 o0 "com/example/libpathsum/libpathsum/Blocks" "memberIndex" "[I" (.ref aI)) (F_o0_blockOf : Fld Z h0 o0 "com/example/libpathsum/libpathsum/Blocks" "blockOf" "[I" (.ref aB)) (F_o0_start : Fld Z h0 o0 "com/example/libpathsum/libpathsum/Blocks" "start" "[I" (.ref aS)) (F_o0_end : Fld Z h0 o0 "com/example/libpathsum/libpathsum/Blocks" "end" "[I" (.ref aE)) (F_o0_splitFrom : Fld Z h0 o0 "com/example/libpathsum/libpathsum/Blocks" "splitFrom" "[I" (.ref aF)) (F_o0_markedCount : Fld Z h0 o0 "com/example/libpathsum/libpathsum/Blocks" "markedCount" "[I" (.ref aC)) (F_o0_markedBlocks : Fld Z h0 o0 "com/example/libpathsum/libpathsum/Blocks" "markedBlocks" "[I" (.ref aK)) (F_o0_count : Fld Z h0 o0 "com/example/libpathsum/libpathsum/Blocks" "count" "I" (.int cn)) (F_o0_markedBlockCount : Fld Z h0 o0 "com/example/libpathsum/libpathsum/Blocks" "markedBlockCount" "I" (.int mc)) (I_aM : Own.IA Z h0 aM xM) (I_aI : Own.IA Z h0 aI xI) (I_aB : Own.IA Z h0 aB xB) (I_aS : Own.IA Z h0 aS xS) (I_aE : Own.IA Z h0 aE xE) (I_aF : Own.IA Z h0 aF xF) (I_aC : Own.IA Z h0 aC xC) (I_aK : Own.IA Z h0 aK xK),
    ∃ (T' : State) (locs' : List Loc) (h' : Heap) , Stand p l e R s m args below meth c T' locs' cells slots ∧ T'.heap = h' ∧ Fr n0 locs' ∧ n0 ≤ h'.size ∧ Keep h0 h' [aE] ∧ Own.IA Z h' aE out.2 ∧ Steps p.tables e below (T0.setTop (mkF m 68 #[.val (.ref o0), .val (.ref o1), .val (.int p2), .val (.int nn), .val (.int i), .unset, .unset] [])) (T'.setTop (mkF m 96 #[.val (.ref o0), .val (.ref o1), .val (.int p2), .val (.int nn), .val (.int out.1), .unset, .unset] [])) := by
  induction k with
  | zero => intro T0 locs h0 i xE out hM X0 e0 N0 Z0 E_o0 F_o0_members F_o0_memberIndex F_o0_blockOf F_o0_start F_o0_end F_o0_splitFrom F_o0_markedCount F_o0_markedBlocks F_o0_count F_o0_markedBlockCount I_aM I_aI I_aB I_aS I_aE I_aF I_aC I_aK; cases hM
  | succ k ih =>
    intro T0 locs h0 i xE out hM X0 e0 N0 Z0 E_o0 F_o0_members F_o0_memberIndex F_o0_blockOf F_o0_start F_o0_end F_o0_splitFrom F_o0_markedCount F_o0_markedBlocks F_o0_count F_o0_markedBlockCount I_aM I_aI I_aB I_aS I_aE I_aF I_aC I_aK
    rw [M_lpC1_s] at hM
    have q0 : Steps p.tables e below (T0.setTop (mkF m 68 #[.val (.ref o0), .val (.ref o1), .val (.int p2), .val (.int nn), .val (.int i), .unset, .unset] [])) (T0.setTop (mkF m 68 #[.val (.ref o0), .val (.ref o1), .val (.int p2), .val (.int nn), .val (.int i), .unset, .unset] [])) := Steps.refl _
    have K0 : Keep h0 h0 [aE] := Keep.refl _ _
    have q1 : Steps p.tables e below (T0.setTop (mkF m 68 #[.val (.ref o0), .val (.ref o1), .val (.int p2), .val (.int nn), .val (.int i), .unset, .unset] [])) (T0.setTop (mkF m 71 #[.val (.ref o0), .val (.ref o1), .val (.int p2), .val (.int nn), .val (.int i), .unset, .unset] [(.int nn), (.int i)])) := q0.trans (by
        show Steps p.tables e below (T0.setTop (mkF m 68 #[.val (.ref o0), .val (.ref o1), .val (.int p2), .val (.int nn), .val (.int i), .unset, .unset] [])) _
        refine XS.iload X0.here hx rfl (hb hby d2_68) rfl ?_
        show Steps p.tables e below (T0.setTop (mkF m 70 #[.val (.ref o0), .val (.ref o1), .val (.int p2), .val (.int nn), .val (.int i), .unset, .unset] [(.int i)])) _
        refine XS.iloadN X0.here hx rfl (hb hby d2_70) rfl ?_
        show Steps p.tables e below (T0.setTop (mkF m 71 #[.val (.ref o0), .val (.ref o1), .val (.int p2), .val (.int nn), .val (.int i), .unset, .unset] [(.int nn), (.int i)])) _
        exact Steps.refl _)
    by_cases hc3 : i < nn
    · rw [if_pos hc3] at hM
      have q4 : Steps p.tables e below (T0.setTop (mkF m 68 #[.val (.ref o0), .val (.ref o1), .val (.int p2), .val (.int nn), .val (.int i), .unset, .unset] [])) (T0.setTop (mkF m 74 #[.val (.ref o0), .val (.ref o1), .val (.int p2), .val (.int nn), .val (.int i), .unset, .unset] [])) := q1.trans (by
          show Steps p.tables e below (T0.setTop (mkF m 71 #[.val (.ref o0), .val (.ref o1), .val (.int p2), .val (.int nn), .val (.int i), .unset, .unset] [(.int nn), (.int i)])) _
          refine XS.icmpNo X0.here hx rfl (hb hby d2_71) rfl (tlt hc3).2.1 ?_
          show Steps p.tables e below (T0.setTop (mkF m 74 #[.val (.ref o0), .val (.ref o1), .val (.int p2), .val (.int nn), .val (.int i), .unset, .unset] [])) _
          exact Steps.refl _)
      have q5 : Steps p.tables e below (T0.setTop (mkF m 68 #[.val (.ref o0), .val (.ref o1), .val (.int p2), .val (.int nn), .val (.int i), .unset, .unset] [])) (T0.setTop (mkF m 75 #[.val (.ref o0), .val (.ref o1), .val (.int p2), .val (.int nn), .val (.int i), .unset, .unset] [(.ref o0)])) := q4.trans (by
          show Steps p.tables e below (T0.setTop (mkF m 74 #[.val (.ref o0), .val (.ref o1), .val (.int p2), .val (.int nn), .val (.int i), .unset, .unset] [])) _
          refine XS.aloadN X0.here hx rfl (hb hby d2_74) rfl rfl ?_
          show Steps p.tables e below (T0.setTop (mkF m 75 #[.val (.ref o0), .val (.ref o1), .val (.int p2), .val (.int nn), .val (.int i), .unset, .unset] [(.ref o0)])) _
          exact Steps.refl _)
      obtain ⟨T6, X6, e6, st6⟩ := getF X0 hx hZ hown (host := "") (Or.inl (hw _ (List.mem_of_getElem? (i := 35) rfl))) Via.refl e0 F_o0_end (g := (mkF m 75 #[.val (.ref o0), .val (.ref o1), .val (.int p2), .val (.int nn), .val (.int i), .unset, .unset] [(.ref o0)])) rfl rfl (hb hby d2_75)
      have q7 : Steps p.tables e below (T0.setTop (mkF m 68 #[.val (.ref o0), .val (.ref o1), .val (.int p2), .val (.int nn), .val (.int i), .unset, .unset] [])) (T6.setTop (mkF m 78 #[.val (.ref o0), .val (.ref o1), .val (.int p2), .val (.int nn), .val (.int i), .unset, .unset] [(.ref aE)])) := q5.trans (st6 _ (Steps.refl _))
      have q8 : Steps p.tables e below (T0.setTop (mkF m 68 #[.val (.ref o0), .val (.ref o1), .val (.int p2), .val (.int nn), .val (.int i), .unset, .unset] [])) (T6.setTop (mkF m 79 #[.val (.ref o0), .val (.ref o1), .val (.int p2), .val (.int nn), .val (.int i), .unset, .unset] [(.ref o0), (.ref aE)])) := q7.trans (by
          show Steps p.tables e below (T6.setTop (mkF m 78 #[.val (.ref o0), .val (.ref o1), .val (.int p2), .val (.int nn), .val (.int i), .unset, .unset] [(.ref aE)])) _
          refine XS.aloadN X6.here hx rfl (hb hby d2_78) rfl rfl ?_
          show Steps p.tables e below (T6.setTop (mkF m 79 #[.val (.ref o0), .val (.ref o1), .val (.int p2), .val (.int nn), .val (.int i), .unset, .unset] [(.ref o0), (.ref aE)])) _
          exact Steps.refl _)
      obtain ⟨T9, X9, e9, st9⟩ := getF X6 hx hZ hown (host := "") (Or.inl (hw _ (List.mem_of_getElem? (i := 31) rfl))) Via.refl e6 F_o0_blockOf (g := (mkF m 79 #[.val (.ref o0), .val (.ref o1), .val (.int p2), .val (.int nn), .val (.int i), .unset, .unset] [(.ref o0), (.ref aE)])) rfl rfl (hb hby d2_79)
      have q10 : Steps p.tables e below (T0.setTop (mkF m 68 #[.val (.ref o0), .val (.ref o1), .val (.int p2), .val (.int nn), .val (.int i), .unset, .unset] [])) (T9.setTop (mkF m 82 #[.val (.ref o0), .val (.ref o1), .val (.int p2), .val (.int nn), .val (.int i), .unset, .unset] [(.ref aB), (.ref aE)])) := q8.trans (st9 _ (Steps.refl _))
      have q11 : Steps p.tables e below (T0.setTop (mkF m 68 #[.val (.ref o0), .val (.ref o1), .val (.int p2), .val (.int nn), .val (.int i), .unset, .unset] [])) (T9.setTop (mkF m 84 #[.val (.ref o0), .val (.ref o1), .val (.int p2), .val (.int nn), .val (.int i), .unset, .unset] [(.int i), (.ref aB), (.ref aE)])) := q10.trans (by
          show Steps p.tables e below (T9.setTop (mkF m 82 #[.val (.ref o0), .val (.ref o1), .val (.int p2), .val (.int nn), .val (.int i), .unset, .unset] [(.ref aB), (.ref aE)])) _
          refine XS.iload X9.here hx rfl (hb hby d2_82) rfl ?_
          show Steps p.tables e below (T9.setTop (mkF m 84 #[.val (.ref o0), .val (.ref o1), .val (.int p2), .val (.int nn), .val (.int i), .unset, .unset] [(.int i), (.ref aB), (.ref aE)])) _
          exact Steps.refl _)
      obtain ⟨v12, hv12, hM⟩ := Option.bind_eq_some_iff.mp hM
      have q13 : Steps p.tables e below (T0.setTop (mkF m 68 #[.val (.ref o0), .val (.ref o1), .val (.int p2), .val (.int nn), .val (.int i), .unset, .unset] [])) (T9.setTop (mkF m 85 #[.val (.ref o0), .val (.ref o1), .val (.int p2), .val (.int nn), .val (.int i), .unset, .unset] [(.int v12), (.ref aE)])) := q11.trans (Own.ldO X9 hx hZ e9 I_aB hv12 (g := (mkF m 84 #[.val (.ref o0), .val (.ref o1), .val (.int p2), .val (.int nn), .val (.int i), .unset, .unset] [(.int i), (.ref aB), (.ref aE)])) rfl rfl (hb hby d2_84) _ (Steps.refl _))
      have q14 : Steps p.tables e below (T0.setTop (mkF m 68 #[.val (.ref o0), .val (.ref o1), .val (.int p2), .val (.int nn), .val (.int i), .unset, .unset] [])) (T9.setTop (mkF m 86 #[.val (.ref o0), .val (.ref o1), .val (.int p2), .val (.int nn), .val (.int i), .unset, .unset] [(.int v12), (.ref aE), (.int v12), (.ref aE)])) := q13.trans (by
          show Steps p.tables e below (T9.setTop (mkF m 85 #[.val (.ref o0), .val (.ref o1), .val (.int p2), .val (.int nn), .val (.int i), .unset, .unset] [(.int v12), (.ref aE)])) _
          refine XT.dup2 X9.here hx rfl (hb hby d2_85) rfl rfl rfl ?_
          show Steps p.tables e below (T9.setTop (mkF m 86 #[.val (.ref o0), .val (.ref o1), .val (.int p2), .val (.int nn), .val (.int i), .unset, .unset] [(.int v12), (.ref aE), (.int v12), (.ref aE)])) _
          exact Steps.refl _)
      obtain ⟨v15, hv15, hM⟩ := Option.bind_eq_some_iff.mp hM
      have q16 : Steps p.tables e below (T0.setTop (mkF m 68 #[.val (.ref o0), .val (.ref o1), .val (.int p2), .val (.int nn), .val (.int i), .unset, .unset] [])) (T9.setTop (mkF m 87 #[.val (.ref o0), .val (.ref o1), .val (.int p2), .val (.int nn), .val (.int i), .unset, .unset] [(.int v15), (.int v12), (.ref aE)])) := q14.trans (Own.ldO X9 hx hZ e9 I_aE hv15 (g := (mkF m 86 #[.val (.ref o0), .val (.ref o1), .val (.int p2), .val (.int nn), .val (.int i), .unset, .unset] [(.int v12), (.ref aE), (.int v12), (.ref aE)])) rfl rfl (hb hby d2_86) _ (Steps.refl _))
      have q17 : Steps p.tables e below (T0.setTop (mkF m 68 #[.val (.ref o0), .val (.ref o1), .val (.int p2), .val (.int nn), .val (.int i), .unset, .unset] [])) (T9.setTop (mkF m 89 #[.val (.ref o0), .val (.ref o1), .val (.int p2), .val (.int nn), .val (.int i), .unset, .unset] [(.int (v15 + (1 : Int32))), (.int v12), (.ref aE)])) := q16.trans (by
          show Steps p.tables e below (T9.setTop (mkF m 87 #[.val (.ref o0), .val (.ref o1), .val (.int p2), .val (.int nn), .val (.int i), .unset, .unset] [(.int v15), (.int v12), (.ref aE)])) _
          refine XS.iconst X9.here hx rfl (hb hby d2_87) ?_
          show Steps p.tables e below (T9.setTop (mkF m 88 #[.val (.ref o0), .val (.ref o1), .val (.int p2), .val (.int nn), .val (.int i), .unset, .unset] [(.int (1 : Int32)), (.int v15), (.int v12), (.ref aE)])) _
          refine XS.iadd X9.here hx rfl (hb hby d2_88) rfl ?_
          show Steps p.tables e below (T9.setTop (mkF m 89 #[.val (.ref o0), .val (.ref o1), .val (.int p2), .val (.int nn), .val (.int i), .unset, .unset] [(.int (v15 + (1 : Int32))), (.int v12), (.ref aE)])) _
          exact Steps.refl _)
      obtain ⟨y18, hy18, hM⟩ := Option.bind_eq_some_iff.mp hM
      obtain ⟨T19, h19, X19, e19, W19, J19, st19⟩ := Own.stO X9 hx hZ e9 I_aE hy18 (g := (mkF m 89 #[.val (.ref o0), .val (.ref o1), .val (.int p2), .val (.int nn), .val (.int i), .unset, .unset] [(.int (v15 + (1 : Int32))), (.int v12), (.ref aE)])) rfl rfl (hb hby d2_89)
      have N19 := Fr.snoc X19 N0 ge_aE
      have IaM_19 := I_aM.other W19 ne_aM_aE
      have IaI_19 := I_aI.other W19 ne_aI_aE
      have IaB_19 := I_aB.other W19 ne_aB_aE
      have IaS_19 := I_aS.other W19 ne_aS_aE
      have IaF_19 := I_aF.other W19 (Ne.symm ne_aE_aF)
      have IaC_19 := I_aC.other W19 (Ne.symm ne_aE_aC)
      have IaK_19 := I_aK.other W19 (Ne.symm ne_aE_aK)
      have Xo0_19 := E_o0.wr W19
      have Fo0_members_19 := F_o0_members.other W19 (Or.inl ne_o0_aE)
      have Fo0_memberIndex_19 := F_o0_memberIndex.other W19 (Or.inl ne_o0_aE)
      have Fo0_blockOf_19 := F_o0_blockOf.other W19 (Or.inl ne_o0_aE)
      have Fo0_start_19 := F_o0_start.other W19 (Or.inl ne_o0_aE)
      have Fo0_end_19 := F_o0_end.other W19 (Or.inl ne_o0_aE)
      have Fo0_splitFrom_19 := F_o0_splitFrom.other W19 (Or.inl ne_o0_aE)
      have Fo0_markedCount_19 := F_o0_markedCount.other W19 (Or.inl ne_o0_aE)
      have Fo0_markedBlocks_19 := F_o0_markedBlocks.other W19 (Or.inl ne_o0_aE)
      have Fo0_count_19 := F_o0_count.other W19 (Or.inl ne_o0_aE)
      have Fo0_markedBlockCount_19 := F_o0_markedBlockCount.other W19 (Or.inl ne_o0_aE)
      have Z19 : n0 ≤ h19.size := Own.size_wr W19 Z0
      have K19 : Keep h0 h19 [aE] := K0.wr W19 (Or.inl (List.mem_of_getElem? (i := 0) rfl))
      have q20 : Steps p.tables e below (T0.setTop (mkF m 68 #[.val (.ref o0), .val (.ref o1), .val (.int p2), .val (.int nn), .val (.int i), .unset, .unset] [])) (T19.setTop (mkF m 90 #[.val (.ref o0), .val (.ref o1), .val (.int p2), .val (.int nn), .val (.int i), .unset, .unset] [])) := q17.trans (st19 _ (Steps.refl _))
      have q21 : Steps p.tables e below (T0.setTop (mkF m 68 #[.val (.ref o0), .val (.ref o1), .val (.int p2), .val (.int nn), .val (.int i), .unset, .unset] [])) (T19.setTop (mkF m 68 #[.val (.ref o0), .val (.ref o1), .val (.int p2), .val (.int nn), .val (.int (i + (1 : Int32))), .unset, .unset] [])) := q20.trans (by
          show Steps p.tables e below (T19.setTop (mkF m 90 #[.val (.ref o0), .val (.ref o1), .val (.int p2), .val (.int nn), .val (.int i), .unset, .unset] [])) _
          refine XS.iinc X19.here hx rfl (hb hby d2_90) rfl (l' := #[.val (.ref o0), .val (.ref o1), .val (.int p2), .val (.int nn), .val (.int (i + (1 : Int32))), .unset, .unset]) rfl ?_
          show Steps p.tables e below (T19.setTop (mkF m 93 #[.val (.ref o0), .val (.ref o1), .val (.int p2), .val (.int nn), .val (.int (i + (1 : Int32))), .unset, .unset] [])) _
          refine XS.goto X19.here hx rfl (pc0 := 93) (pc' := 68) rfl (hb hby d2_93) (by decide) (by decide) ?_
          show Steps p.tables e below (T19.setTop (mkF m 68 #[.val (.ref o0), .val (.ref o1), .val (.int p2), .val (.int nn), .val (.int (i + (1 : Int32))), .unset, .unset] [])) _
          exact Steps.refl _)
      obtain ⟨T', locs', h', X', e', N', Z', K', J0', q'⟩ := ih (i + (1 : Int32)) y18  _ hM X19 e19 N19 Z19  Xo0_19 Fo0_members_19 Fo0_memberIndex_19 Fo0_blockOf_19 Fo0_start_19 Fo0_end_19 Fo0_splitFrom_19 Fo0_markedCount_19 Fo0_markedBlocks_19 Fo0_count_19 Fo0_markedBlockCount_19 IaM_19 IaI_19 IaB_19 IaS_19 J19 IaF_19 IaC_19 IaK_19
      exact ⟨T', locs', h', X', e', N', Z', K19.trans K' (fun _ hx' => Or.inl hx'), J0', q21.trans q'⟩
    · rw [if_neg hc3] at hM
      have q22 : Steps p.tables e below (T0.setTop (mkF m 68 #[.val (.ref o0), .val (.ref o1), .val (.int p2), .val (.int nn), .val (.int i), .unset, .unset] [])) (T0.setTop (mkF m 96 #[.val (.ref o0), .val (.ref o1), .val (.int p2), .val (.int nn), .val (.int i), .unset, .unset] [])) := q1.trans (by
          show Steps p.tables e below (T0.setTop (mkF m 71 #[.val (.ref o0), .val (.ref o1), .val (.int p2), .val (.int nn), .val (.int i), .unset, .unset] [(.int nn), (.int i)])) _
          refine XS.icmpYes X0.here hx rfl (pc0 := 71) (pc' := 96) rfl (hb hby d2_71) rfl (flt hc3).2.1 (by decide) (by decide) ?_
          show Steps p.tables e below (T0.setTop (mkF m 96 #[.val (.ref o0), .val (.ref o1), .val (.int p2), .val (.int nn), .val (.int i), .unset, .unset] [])) _
          exact Steps.refl _)
      obtain rfl := Option.some.inj hM
      exact ⟨_, _, _, X0, e0, N0, Z0, K0, I_aE, q22⟩

theorem d2_102 : decode prog_1_method_1_code 102 = .ok (.iload 5, 2) := by decide +kernel
theorem d2_104 : decode prog_1_method_1_code 104 = .ok (.iload_n 2, 1) := by decide +kernel
theorem d2_105 : decode prog_1_method_1_code 105 = .ok (.if_icmp .ge 44, 3) := by decide +kernel
theorem d2_108 : decode prog_1_method_1_code 108 = .ok (.aload_n 0, 1) := by decide +kernel
theorem d2_109 : decode prog_1_method_1_code 109 = .ok (.getfield 25, 3) := by decide +kernel
theorem d2_112 : decode prog_1_method_1_code 112 = .ok (.iload 5, 2) := by decide +kernel
theorem d2_114 : decode prog_1_method_1_code 114 = .ok (.iload 4, 2) := by decide +kernel
theorem d2_116 : decode prog_1_method_1_code 116 = .ok (.iastore, 1) := by decide +kernel
theorem d2_117 : decode prog_1_method_1_code 117 = .ok (.iload 4, 2) := by decide +kernel
theorem d2_119 : decode prog_1_method_1_code 119 = .ok (.aload_n 0, 1) := by decide +kernel
theorem d2_120 : decode prog_1_method_1_code 120 = .ok (.getfield 28, 3) := by decide +kernel
theorem d2_123 : decode prog_1_method_1_code 123 = .ok (.iload 5, 2) := by decide +kernel
theorem d2_125 : decode prog_1_method_1_code 125 = .ok (.iaload, 1) := by decide +kernel
theorem d2_126 : decode prog_1_method_1_code 126 = .ok (.iadd, 1) := by decide +kernel
theorem d2_127 : decode prog_1_method_1_code 127 = .ok (.istore 4, 2) := by decide +kernel
theorem d2_129 : decode prog_1_method_1_code 129 = .ok (.aload_n 0, 1) := by decide +kernel
theorem d2_130 : decode prog_1_method_1_code 130 = .ok (.getfield 28, 3) := by decide +kernel
theorem d2_133 : decode prog_1_method_1_code 133 = .ok (.iload 5, 2) := by decide +kernel
theorem d2_135 : decode prog_1_method_1_code 135 = .ok (.aload_n 0, 1) := by decide +kernel
theorem d2_136 : decode prog_1_method_1_code 136 = .ok (.getfield 25, 3) := by decide +kernel
theorem d2_139 : decode prog_1_method_1_code 139 = .ok (.iload 5, 2) := by decide +kernel
theorem d2_141 : decode prog_1_method_1_code 141 = .ok (.iaload, 1) := by decide +kernel
theorem d2_142 : decode prog_1_method_1_code 142 = .ok (.iastore, 1) := by decide +kernel
theorem d2_143 : decode prog_1_method_1_code 143 = .ok (.iinc 5 1, 3) := by decide +kernel
theorem d2_146 : decode prog_1_method_1_code 146 = .ok (.goto (-44), 3) := by decide +kernel
def M_lpC2 : Nat → Int32 → Int32 → Int32 → List Int32 → List Int32 → Option (Int32 × Int32 × List Int32 × List Int32)
  | 0, _, _, _, _, _ => none
  | k + 1, p2, nx, i, xS, xE => (if i < p2 then (Own.wt xS i nx).bind fun y9 => (Own.rd xE i).bind fun v16 => (Own.rd y9 i).bind fun v25 => (Own.wt xE i v25).bind fun y27 => M_lpC2 k p2 (nx + v16) (i + (1 : Int32)) y9 y27 else some (nx, i, xS, xE))
theorem M_lpC2_s (k : Nat) (p2 : Int32) (nx : Int32) (i : Int32) (xS : List Int32) (xE : List Int32) : M_lpC2 (k + 1) p2 nx i xS xE = (if i < p2 then (Own.wt xS i nx).bind fun y9 => (Own.rd xE i).bind fun v16 => (Own.rd y9 i).bind fun v25 => (Own.wt xE i v25).bind fun y27 => M_lpC2 k p2 (nx + v16) (i + (1 : Int32)) y9 y27 else some (nx, i, xS, xE)) := rfl
set_option maxRecDepth 65536 in
set_option maxHeartbeats 40000000 in
theorem lpC2 {p : Program} {l : Launch} {e : Env} {R : Room} {s : State} {m : MethodId} {args : Array Value} {below : List Frame} {meth : Method} {c : Code} {Z : State} {a0 : Array Value} {n0 cells slots : Nat} (hx : p.tables.exec = Jvm.exec) (hZ : Z.Warmed39 s.vm) (hw : ∀ d ∈ tables_1, d.before a0 Z = true) (hby : c.code = prog_1_method_1_code) (hml : c.maxLocals = 7) (hown : s.vm.findClass "com/example/libpathsum/libpathsum/Blocks" = some m.cls) (o0 o1 aM aI aB aS aE aF aC aK : Addr) (cn mc : Int32) (xM : List Int32) (xI : List Int32) (xB : List Int32) (xF : List Int32) (xC : List Int32) (xK : List Int32) (nn : Int32) (p2 : Int32) (ge_aM : n0 ≤ aM) (ge_aI : n0 ≤ aI) (ge_aB : n0 ≤ aB) (ge_aS : n0 ≤ aS) (ge_aE : n0 ≤ aE) (ge_aF : n0 ≤ aF) (ge_aC : n0 ≤ aC) (ge_aK : n0 ≤ aK) (ge_o0 : n0 ≤ o0) (ne_aM_aI : aM ≠ aI) (ne_aM_aB : aM ≠ aB) (ne_aM_aS : aM ≠ aS) (ne_aM_aE : aM ≠ aE) (ne_aM_aF : aM ≠ aF) (ne_aM_aC : aM ≠ aC) (ne_aM_aK : aM ≠ aK) (ne_aI_aB : aI ≠ aB) (ne_aI_aS : aI ≠ aS) (ne_aI_aE : aI ≠ aE) (ne_aI_aF : aI ≠ aF) (ne_aI_aC : aI ≠ aC) (ne_aI_aK : aI ≠ aK) (ne_aB_aS : aB ≠ aS) (ne_aB_aE : aB ≠ aE) (ne_aB_aF : aB ≠ aF) (ne_aB_aC : aB ≠ aC) (ne_aB_aK : aB ≠ aK) (ne_aS_aE : aS ≠ aE) (ne_aS_aF : aS ≠ aF) (ne_aS_aC : aS ≠ aC) (ne_aS_aK : aS ≠ aK) (ne_aE_aF : aE ≠ aF) (ne_aE_aC : aE ≠ aC) (ne_aE_aK : aE ≠ aK) (ne_aF_aC : aF ≠ aC) (ne_aF_aK : aF ≠ aK) (ne_aC_aK : aC ≠ aK) (ne_o0_aM : o0 ≠ aM) (ne_o0_aI : o0 ≠ aI) (ne_o0_aB : o0 ≠ aB) (ne_o0_aS : o0 ≠ aS) (ne_o0_aE : o0 ≠ aE) (ne_o0_aF : o0 ≠ aF) (ne_o0_aC : o0 ≠ aC) (ne_o0_aK : o0 ≠ aK) (k : Nat) : ∀ {T0 : State} {locs : List Loc} {h0 : Heap} (nx : Int32) (i : Int32) (xS : List Int32) (xE : List Int32)  (out : Int32 × Int32 × List Int32 × List Int32) (hM : M_lpC2 k p2 nx i xS xE = some out) (X0 : Stand p l e R s m args below meth c T0 locs cells slots) (e0 : T0.heap = h0) (N0 : Fr n0 locs) (Z0 : n0 ≤ h0.size)  (E_o0 : Exa Z h0 o0 "com/example/libpathsum/libpathsum/Blocks") (F_o0_members : Fld Z h0 o0 "com/example/libpathsum/libpathsum/Blocks" "members" "[I" (.ref aM)) (F_o0_memberIndex : Fld Z h0 o0 "com/example/libpathsum/libpathsum/Blocks" "memberIndex" "[I" (.ref aI)) (F_o0_blockOf : Fld Z h0 o0 "com/example/libpathsum/libpathsum/Blocks" "blockOf" "[I" (.ref aB)) (F_o0_start : Fld Z h0 o0 "com/example/libpathsum/libpathsum/Blocks" "start" "[I" (.ref aS)) (F_o0_end : Fld Z h0 o0 "com/example/libpathsum/libpathsum/Blocks" "end" "[I" (.ref aE)) (F_o0_splitFrom : Fld Z h0 o0 "com/example/libpathsum/libpathsum/Blocks" "splitFrom" "[I" (.ref aF)) (F_o0_markedCount : Fld Z h0 o0 "com/example/libpathsum/libpathsum/Blocks" "markedCount" "[I" (.ref aC)) (F_o0_markedBlocks : Fld Z h0 o0 "com/example/libpathsum/libpathsum/Blocks" "markedBlocks" "[I" (.ref aK)) (F_o0_count : Fld Z h0 o0 "com/example/libpathsum/libpathsum/Blocks" "count" "I" (.int cn)) (F_o0_markedBlockCount : Fld Z h0 o0 "com/example/libpathsum/libpathsum/Blocks" "markedBlockCount" "I" (.int mc)) (I_aM : Own.IA Z h0 aM xM) (I_aI : Own.IA Z h0 aI xI) (I_aB : Own.IA Z h0 aB xB) (I_aS : Own.IA Z h0 aS xS) (I_aE : Own.IA Z h0 aE xE) (I_aF : Own.IA Z h0 aF xF) (I_aC : Own.IA Z h0 aC xC) (I_aK : Own.IA Z h0 aK xK),
    ∃ (T' : State) (locs' : List Loc) (h' : Heap) , Stand p l e R s m args below meth c T' locs' cells slots ∧ T'.heap = h' ∧ Fr n0 locs' ∧ n0 ≤ h'.size ∧ Keep h0 h' [aS, aE] ∧ Own.IA Z h' aS out.2.2.1 ∧ Own.IA Z h' aE out.2.2.2 ∧ Steps p.tables e below (T0.setTop (mkF m 102 #[.val (.ref o0), .val (.ref o1), .val (.int p2), .val (.int nn), .val (.int nx), .val (.int i), .unset] [])) (T'.setTop (mkF m 149 #[.val (.ref o0), .val (.ref o1), .val (.int p2), .val (.int nn), .val (.int out.1), .val (.int out.2.1), .unset] [])) := by
  induction k with
  | zero => intro T0 locs h0 nx i xS xE out hM X0 e0 N0 Z0 E_o0 F_o0_members F_o0_memberIndex F_o0_blockOf F_o0_start F_o0_end F_o0_splitFrom F_o0_markedCount F_o0_markedBlocks F_o0_count F_o0_markedBlockCount I_aM I_aI I_aB I_aS I_aE I_aF I_aC I_aK; cases hM
  | succ k ih =>
    intro T0 locs h0 nx i xS xE out hM X0 e0 N0 Z0 E_o0 F_o0_members F_o0_memberIndex F_o0_blockOf F_o0_start F_o0_end F_o0_splitFrom F_o0_markedCount F_o0_markedBlocks F_o0_count F_o0_markedBlockCount I_aM I_aI I_aB I_aS I_aE I_aF I_aC I_aK
    rw [M_lpC2_s] at hM
    have q0 : Steps p.tables e below (T0.setTop (mkF m 102 #[.val (.ref o0), .val (.ref o1), .val (.int p2), .val (.int nn), .val (.int nx), .val (.int i), .unset] [])) (T0.setTop (mkF m 102 #[.val (.ref o0), .val (.ref o1), .val (.int p2), .val (.int nn), .val (.int nx), .val (.int i), .unset] [])) := Steps.refl _
    have K0 : Keep h0 h0 [aS, aE] := Keep.refl _ _
    have q1 : Steps p.tables e below (T0.setTop (mkF m 102 #[.val (.ref o0), .val (.ref o1), .val (.int p2), .val (.int nn), .val (.int nx), .val (.int i), .unset] [])) (T0.setTop (mkF m 105 #[.val (.ref o0), .val (.ref o1), .val (.int p2), .val (.int nn), .val (.int nx), .val (.int i), .unset] [(.int p2), (.int i)])) := q0.trans (by
        show Steps p.tables e below (T0.setTop (mkF m 102 #[.val (.ref o0), .val (.ref o1), .val (.int p2), .val (.int nn), .val (.int nx), .val (.int i), .unset] [])) _
        refine XS.iload X0.here hx rfl (hb hby d2_102) rfl ?_
        show Steps p.tables e below (T0.setTop (mkF m 104 #[.val (.ref o0), .val (.ref o1), .val (.int p2), .val (.int nn), .val (.int nx), .val (.int i), .unset] [(.int i)])) _
        refine XS.iloadN X0.here hx rfl (hb hby d2_104) rfl ?_
        show Steps p.tables e below (T0.setTop (mkF m 105 #[.val (.ref o0), .val (.ref o1), .val (.int p2), .val (.int nn), .val (.int nx), .val (.int i), .unset] [(.int p2), (.int i)])) _
        exact Steps.refl _)
    by_cases hc3 : i < p2
    · rw [if_pos hc3] at hM
      have q4 : Steps p.tables e below (T0.setTop (mkF m 102 #[.val (.ref o0), .val (.ref o1), .val (.int p2), .val (.int nn), .val (.int nx), .val (.int i), .unset] [])) (T0.setTop (mkF m 108 #[.val (.ref o0), .val (.ref o1), .val (.int p2), .val (.int nn), .val (.int nx), .val (.int i), .unset] [])) := q1.trans (by
          show Steps p.tables e below (T0.setTop (mkF m 105 #[.val (.ref o0), .val (.ref o1), .val (.int p2), .val (.int nn), .val (.int nx), .val (.int i), .unset] [(.int p2), (.int i)])) _
          refine XS.icmpNo X0.here hx rfl (hb hby d2_105) rfl (tlt hc3).2.1 ?_
          show Steps p.tables e below (T0.setTop (mkF m 108 #[.val (.ref o0), .val (.ref o1), .val (.int p2), .val (.int nn), .val (.int nx), .val (.int i), .unset] [])) _
          exact Steps.refl _)
      have q5 : Steps p.tables e below (T0.setTop (mkF m 102 #[.val (.ref o0), .val (.ref o1), .val (.int p2), .val (.int nn), .val (.int nx), .val (.int i), .unset] [])) (T0.setTop (mkF m 109 #[.val (.ref o0), .val (.ref o1), .val (.int p2), .val (.int nn), .val (.int nx), .val (.int i), .unset] [(.ref o0)])) := q4.trans (by
          show Steps p.tables e below (T0.setTop (mkF m 108 #[.val (.ref o0), .val (.ref o1), .val (.int p2), .val (.int nn), .val (.int nx), .val (.int i), .unset] [])) _
          refine XS.aloadN X0.here hx rfl (hb hby d2_108) rfl rfl ?_
          show Steps p.tables e below (T0.setTop (mkF m 109 #[.val (.ref o0), .val (.ref o1), .val (.int p2), .val (.int nn), .val (.int nx), .val (.int i), .unset] [(.ref o0)])) _
          exact Steps.refl _)
      obtain ⟨T6, X6, e6, st6⟩ := getF X0 hx hZ hown (host := "") (Or.inl (hw _ (List.mem_of_getElem? (i := 33) rfl))) Via.refl e0 F_o0_start (g := (mkF m 109 #[.val (.ref o0), .val (.ref o1), .val (.int p2), .val (.int nn), .val (.int nx), .val (.int i), .unset] [(.ref o0)])) rfl rfl (hb hby d2_109)
      have q7 : Steps p.tables e below (T0.setTop (mkF m 102 #[.val (.ref o0), .val (.ref o1), .val (.int p2), .val (.int nn), .val (.int nx), .val (.int i), .unset] [])) (T6.setTop (mkF m 112 #[.val (.ref o0), .val (.ref o1), .val (.int p2), .val (.int nn), .val (.int nx), .val (.int i), .unset] [(.ref aS)])) := q5.trans (st6 _ (Steps.refl _))
      have q8 : Steps p.tables e below (T0.setTop (mkF m 102 #[.val (.ref o0), .val (.ref o1), .val (.int p2), .val (.int nn), .val (.int nx), .val (.int i), .unset] [])) (T6.setTop (mkF m 116 #[.val (.ref o0), .val (.ref o1), .val (.int p2), .val (.int nn), .val (.int nx), .val (.int i), .unset] [(.int nx), (.int i), (.ref aS)])) := q7.trans (by
          show Steps p.tables e below (T6.setTop (mkF m 112 #[.val (.ref o0), .val (.ref o1), .val (.int p2), .val (.int nn), .val (.int nx), .val (.int i), .unset] [(.ref aS)])) _
          refine XS.iload X6.here hx rfl (hb hby d2_112) rfl ?_
          show Steps p.tables e below (T6.setTop (mkF m 114 #[.val (.ref o0), .val (.ref o1), .val (.int p2), .val (.int nn), .val (.int nx), .val (.int i), .unset] [(.int i), (.ref aS)])) _
          refine XS.iload X6.here hx rfl (hb hby d2_114) rfl ?_
          show Steps p.tables e below (T6.setTop (mkF m 116 #[.val (.ref o0), .val (.ref o1), .val (.int p2), .val (.int nn), .val (.int nx), .val (.int i), .unset] [(.int nx), (.int i), (.ref aS)])) _
          exact Steps.refl _)
      obtain ⟨y9, hy9, hM⟩ := Option.bind_eq_some_iff.mp hM
      obtain ⟨T10, h10, X10, e10, W10, J10, st10⟩ := Own.stO X6 hx hZ e6 I_aS hy9 (g := (mkF m 116 #[.val (.ref o0), .val (.ref o1), .val (.int p2), .val (.int nn), .val (.int nx), .val (.int i), .unset] [(.int nx), (.int i), (.ref aS)])) rfl rfl (hb hby d2_116)
      have N10 := Fr.snoc X10 N0 ge_aS
      have IaM_10 := I_aM.other W10 ne_aM_aS
      have IaI_10 := I_aI.other W10 ne_aI_aS
      have IaB_10 := I_aB.other W10 ne_aB_aS
      have IaE_10 := I_aE.other W10 (Ne.symm ne_aS_aE)
      have IaF_10 := I_aF.other W10 (Ne.symm ne_aS_aF)
      have IaC_10 := I_aC.other W10 (Ne.symm ne_aS_aC)
      have IaK_10 := I_aK.other W10 (Ne.symm ne_aS_aK)
      have Xo0_10 := E_o0.wr W10
      have Fo0_members_10 := F_o0_members.other W10 (Or.inl ne_o0_aS)
      have Fo0_memberIndex_10 := F_o0_memberIndex.other W10 (Or.inl ne_o0_aS)
      have Fo0_blockOf_10 := F_o0_blockOf.other W10 (Or.inl ne_o0_aS)
      have Fo0_start_10 := F_o0_start.other W10 (Or.inl ne_o0_aS)
      have Fo0_end_10 := F_o0_end.other W10 (Or.inl ne_o0_aS)
      have Fo0_splitFrom_10 := F_o0_splitFrom.other W10 (Or.inl ne_o0_aS)
      have Fo0_markedCount_10 := F_o0_markedCount.other W10 (Or.inl ne_o0_aS)
      have Fo0_markedBlocks_10 := F_o0_markedBlocks.other W10 (Or.inl ne_o0_aS)
      have Fo0_count_10 := F_o0_count.other W10 (Or.inl ne_o0_aS)
      have Fo0_markedBlockCount_10 := F_o0_markedBlockCount.other W10 (Or.inl ne_o0_aS)
      have Z10 : n0 ≤ h10.size := Own.size_wr W10 Z0
      have K10 : Keep h0 h10 [aS, aE] := K0.wr W10 (Or.inl (List.mem_of_getElem? (i := 0) rfl))
      have q11 : Steps p.tables e below (T0.setTop (mkF m 102 #[.val (.ref o0), .val (.ref o1), .val (.int p2), .val (.int nn), .val (.int nx), .val (.int i), .unset] [])) (T10.setTop (mkF m 117 #[.val (.ref o0), .val (.ref o1), .val (.int p2), .val (.int nn), .val (.int nx), .val (.int i), .unset] [])) := q8.trans (st10 _ (Steps.refl _))
      have q12 : Steps p.tables e below (T0.setTop (mkF m 102 #[.val (.ref o0), .val (.ref o1), .val (.int p2), .val (.int nn), .val (.int nx), .val (.int i), .unset] [])) (T10.setTop (mkF m 120 #[.val (.ref o0), .val (.ref o1), .val (.int p2), .val (.int nn), .val (.int nx), .val (.int i), .unset] [(.ref o0), (.int nx)])) := q11.trans (by
          show Steps p.tables e below (T10.setTop (mkF m 117 #[.val (.ref o0), .val (.ref o1), .val (.int p2), .val (.int nn), .val (.int nx), .val (.int i), .unset] [])) _
          refine XS.iload X10.here hx rfl (hb hby d2_117) rfl ?_
          show Steps p.tables e below (T10.setTop (mkF m 119 #[.val (.ref o0), .val (.ref o1), .val (.int p2), .val (.int nn), .val (.int nx), .val (.int i), .unset] [(.int nx)])) _
          refine XS.aloadN X10.here hx rfl (hb hby d2_119) rfl rfl ?_
          show Steps p.tables e below (T10.setTop (mkF m 120 #[.val (.ref o0), .val (.ref o1), .val (.int p2), .val (.int nn), .val (.int nx), .val (.int i), .unset] [(.ref o0), (.int nx)])) _
          exact Steps.refl _)
      obtain ⟨T13, X13, e13, st13⟩ := getF X10 hx hZ hown (host := "") (Or.inl (hw _ (List.mem_of_getElem? (i := 35) rfl))) Via.refl e10 Fo0_end_10 (g := (mkF m 120 #[.val (.ref o0), .val (.ref o1), .val (.int p2), .val (.int nn), .val (.int nx), .val (.int i), .unset] [(.ref o0), (.int nx)])) rfl rfl (hb hby d2_120)
      have q14 : Steps p.tables e below (T0.setTop (mkF m 102 #[.val (.ref o0), .val (.ref o1), .val (.int p2), .val (.int nn), .val (.int nx), .val (.int i), .unset] [])) (T13.setTop (mkF m 123 #[.val (.ref o0), .val (.ref o1), .val (.int p2), .val (.int nn), .val (.int nx), .val (.int i), .unset] [(.ref aE), (.int nx)])) := q12.trans (st13 _ (Steps.refl _))
      have q15 : Steps p.tables e below (T0.setTop (mkF m 102 #[.val (.ref o0), .val (.ref o1), .val (.int p2), .val (.int nn), .val (.int nx), .val (.int i), .unset] [])) (T13.setTop (mkF m 125 #[.val (.ref o0), .val (.ref o1), .val (.int p2), .val (.int nn), .val (.int nx), .val (.int i), .unset] [(.int i), (.ref aE), (.int nx)])) := q14.trans (by
          show Steps p.tables e below (T13.setTop (mkF m 123 #[.val (.ref o0), .val (.ref o1), .val (.int p2), .val (.int nn), .val (.int nx), .val (.int i), .unset] [(.ref aE), (.int nx)])) _
          refine XS.iload X13.here hx rfl (hb hby d2_123) rfl ?_
          show Steps p.tables e below (T13.setTop (mkF m 125 #[.val (.ref o0), .val (.ref o1), .val (.int p2), .val (.int nn), .val (.int nx), .val (.int i), .unset] [(.int i), (.ref aE), (.int nx)])) _
          exact Steps.refl _)
      obtain ⟨v16, hv16, hM⟩ := Option.bind_eq_some_iff.mp hM
      have q17 : Steps p.tables e below (T0.setTop (mkF m 102 #[.val (.ref o0), .val (.ref o1), .val (.int p2), .val (.int nn), .val (.int nx), .val (.int i), .unset] [])) (T13.setTop (mkF m 126 #[.val (.ref o0), .val (.ref o1), .val (.int p2), .val (.int nn), .val (.int nx), .val (.int i), .unset] [(.int v16), (.int nx)])) := q15.trans (Own.ldO X13 hx hZ e13 IaE_10 hv16 (g := (mkF m 125 #[.val (.ref o0), .val (.ref o1), .val (.int p2), .val (.int nn), .val (.int nx), .val (.int i), .unset] [(.int i), (.ref aE), (.int nx)])) rfl rfl (hb hby d2_125) _ (Steps.refl _))
      have q18 : Steps p.tables e below (T0.setTop (mkF m 102 #[.val (.ref o0), .val (.ref o1), .val (.int p2), .val (.int nn), .val (.int nx), .val (.int i), .unset] [])) (T13.setTop (mkF m 130 #[.val (.ref o0), .val (.ref o1), .val (.int p2), .val (.int nn), .val (.int (nx + v16)), .val (.int i), .unset] [(.ref o0)])) := q17.trans (by
          show Steps p.tables e below (T13.setTop (mkF m 126 #[.val (.ref o0), .val (.ref o1), .val (.int p2), .val (.int nn), .val (.int nx), .val (.int i), .unset] [(.int v16), (.int nx)])) _
          refine XS.iadd X13.here hx rfl (hb hby d2_126) rfl ?_
          show Steps p.tables e below (T13.setTop (mkF m 127 #[.val (.ref o0), .val (.ref o1), .val (.int p2), .val (.int nn), .val (.int nx), .val (.int i), .unset] [(.int (nx + v16))])) _
          refine XS.istore X13.here hx rfl (hb hby d2_127) rfl (l' := #[.val (.ref o0), .val (.ref o1), .val (.int p2), .val (.int nn), .val (.int (nx + v16)), .val (.int i), .unset]) rfl ?_
          show Steps p.tables e below (T13.setTop (mkF m 129 #[.val (.ref o0), .val (.ref o1), .val (.int p2), .val (.int nn), .val (.int (nx + v16)), .val (.int i), .unset] [])) _
          refine XS.aloadN X13.here hx rfl (hb hby d2_129) rfl rfl ?_
          show Steps p.tables e below (T13.setTop (mkF m 130 #[.val (.ref o0), .val (.ref o1), .val (.int p2), .val (.int nn), .val (.int (nx + v16)), .val (.int i), .unset] [(.ref o0)])) _
          exact Steps.refl _)
      obtain ⟨T19, X19, e19, st19⟩ := getF X13 hx hZ hown (host := "") (Or.inl (hw _ (List.mem_of_getElem? (i := 35) rfl))) Via.refl e13 Fo0_end_10 (g := (mkF m 130 #[.val (.ref o0), .val (.ref o1), .val (.int p2), .val (.int nn), .val (.int (nx + v16)), .val (.int i), .unset] [(.ref o0)])) rfl rfl (hb hby d2_130)
      have q20 : Steps p.tables e below (T0.setTop (mkF m 102 #[.val (.ref o0), .val (.ref o1), .val (.int p2), .val (.int nn), .val (.int nx), .val (.int i), .unset] [])) (T19.setTop (mkF m 133 #[.val (.ref o0), .val (.ref o1), .val (.int p2), .val (.int nn), .val (.int (nx + v16)), .val (.int i), .unset] [(.ref aE)])) := q18.trans (st19 _ (Steps.refl _))
      have q21 : Steps p.tables e below (T0.setTop (mkF m 102 #[.val (.ref o0), .val (.ref o1), .val (.int p2), .val (.int nn), .val (.int nx), .val (.int i), .unset] [])) (T19.setTop (mkF m 136 #[.val (.ref o0), .val (.ref o1), .val (.int p2), .val (.int nn), .val (.int (nx + v16)), .val (.int i), .unset] [(.ref o0), (.int i), (.ref aE)])) := q20.trans (by
          show Steps p.tables e below (T19.setTop (mkF m 133 #[.val (.ref o0), .val (.ref o1), .val (.int p2), .val (.int nn), .val (.int (nx + v16)), .val (.int i), .unset] [(.ref aE)])) _
          refine XS.iload X19.here hx rfl (hb hby d2_133) rfl ?_
          show Steps p.tables e below (T19.setTop (mkF m 135 #[.val (.ref o0), .val (.ref o1), .val (.int p2), .val (.int nn), .val (.int (nx + v16)), .val (.int i), .unset] [(.int i), (.ref aE)])) _
          refine XS.aloadN X19.here hx rfl (hb hby d2_135) rfl rfl ?_
          show Steps p.tables e below (T19.setTop (mkF m 136 #[.val (.ref o0), .val (.ref o1), .val (.int p2), .val (.int nn), .val (.int (nx + v16)), .val (.int i), .unset] [(.ref o0), (.int i), (.ref aE)])) _
          exact Steps.refl _)
      obtain ⟨T22, X22, e22, st22⟩ := getF X19 hx hZ hown (host := "") (Or.inl (hw _ (List.mem_of_getElem? (i := 33) rfl))) Via.refl e19 Fo0_start_10 (g := (mkF m 136 #[.val (.ref o0), .val (.ref o1), .val (.int p2), .val (.int nn), .val (.int (nx + v16)), .val (.int i), .unset] [(.ref o0), (.int i), (.ref aE)])) rfl rfl (hb hby d2_136)
      have q23 : Steps p.tables e below (T0.setTop (mkF m 102 #[.val (.ref o0), .val (.ref o1), .val (.int p2), .val (.int nn), .val (.int nx), .val (.int i), .unset] [])) (T22.setTop (mkF m 139 #[.val (.ref o0), .val (.ref o1), .val (.int p2), .val (.int nn), .val (.int (nx + v16)), .val (.int i), .unset] [(.ref aS), (.int i), (.ref aE)])) := q21.trans (st22 _ (Steps.refl _))
      have q24 : Steps p.tables e below (T0.setTop (mkF m 102 #[.val (.ref o0), .val (.ref o1), .val (.int p2), .val (.int nn), .val (.int nx), .val (.int i), .unset] [])) (T22.setTop (mkF m 141 #[.val (.ref o0), .val (.ref o1), .val (.int p2), .val (.int nn), .val (.int (nx + v16)), .val (.int i), .unset] [(.int i), (.ref aS), (.int i), (.ref aE)])) := q23.trans (by
          show Steps p.tables e below (T22.setTop (mkF m 139 #[.val (.ref o0), .val (.ref o1), .val (.int p2), .val (.int nn), .val (.int (nx + v16)), .val (.int i), .unset] [(.ref aS), (.int i), (.ref aE)])) _
          refine XS.iload X22.here hx rfl (hb hby d2_139) rfl ?_
          show Steps p.tables e below (T22.setTop (mkF m 141 #[.val (.ref o0), .val (.ref o1), .val (.int p2), .val (.int nn), .val (.int (nx + v16)), .val (.int i), .unset] [(.int i), (.ref aS), (.int i), (.ref aE)])) _
          exact Steps.refl _)
      obtain ⟨v25, hv25, hM⟩ := Option.bind_eq_some_iff.mp hM
      have q26 : Steps p.tables e below (T0.setTop (mkF m 102 #[.val (.ref o0), .val (.ref o1), .val (.int p2), .val (.int nn), .val (.int nx), .val (.int i), .unset] [])) (T22.setTop (mkF m 142 #[.val (.ref o0), .val (.ref o1), .val (.int p2), .val (.int nn), .val (.int (nx + v16)), .val (.int i), .unset] [(.int v25), (.int i), (.ref aE)])) := q24.trans (Own.ldO X22 hx hZ e22 J10 hv25 (g := (mkF m 141 #[.val (.ref o0), .val (.ref o1), .val (.int p2), .val (.int nn), .val (.int (nx + v16)), .val (.int i), .unset] [(.int i), (.ref aS), (.int i), (.ref aE)])) rfl rfl (hb hby d2_141) _ (Steps.refl _))
      obtain ⟨y27, hy27, hM⟩ := Option.bind_eq_some_iff.mp hM
      obtain ⟨T28, h28, X28, e28, W28, J28, st28⟩ := Own.stO X22 hx hZ e22 IaE_10 hy27 (g := (mkF m 142 #[.val (.ref o0), .val (.ref o1), .val (.int p2), .val (.int nn), .val (.int (nx + v16)), .val (.int i), .unset] [(.int v25), (.int i), (.ref aE)])) rfl rfl (hb hby d2_142)
      have N28 := Fr.snoc X28 N10 ge_aE
      have IaM_28 := IaM_10.other W28 ne_aM_aE
      have IaI_28 := IaI_10.other W28 ne_aI_aE
      have IaB_28 := IaB_10.other W28 ne_aB_aE
      have IaS_28 := J10.other W28 ne_aS_aE
      have IaF_28 := IaF_10.other W28 (Ne.symm ne_aE_aF)
      have IaC_28 := IaC_10.other W28 (Ne.symm ne_aE_aC)
      have IaK_28 := IaK_10.other W28 (Ne.symm ne_aE_aK)
      have Xo0_28 := Xo0_10.wr W28
      have Fo0_members_28 := Fo0_members_10.other W28 (Or.inl ne_o0_aE)
      have Fo0_memberIndex_28 := Fo0_memberIndex_10.other W28 (Or.inl ne_o0_aE)
      have Fo0_blockOf_28 := Fo0_blockOf_10.other W28 (Or.inl ne_o0_aE)
      have Fo0_start_28 := Fo0_start_10.other W28 (Or.inl ne_o0_aE)
      have Fo0_end_28 := Fo0_end_10.other W28 (Or.inl ne_o0_aE)
      have Fo0_splitFrom_28 := Fo0_splitFrom_10.other W28 (Or.inl ne_o0_aE)
      have Fo0_markedCount_28 := Fo0_markedCount_10.other W28 (Or.inl ne_o0_aE)
      have Fo0_markedBlocks_28 := Fo0_markedBlocks_10.other W28 (Or.inl ne_o0_aE)
      have Fo0_count_28 := Fo0_count_10.other W28 (Or.inl ne_o0_aE)
      have Fo0_markedBlockCount_28 := Fo0_markedBlockCount_10.other W28 (Or.inl ne_o0_aE)
      have Z28 : n0 ≤ h28.size := Own.size_wr W28 Z10
      have K28 : Keep h0 h28 [aS, aE] := K10.wr W28 (Or.inl (List.mem_of_getElem? (i := 1) rfl))
      have q29 : Steps p.tables e below (T0.setTop (mkF m 102 #[.val (.ref o0), .val (.ref o1), .val (.int p2), .val (.int nn), .val (.int nx), .val (.int i), .unset] [])) (T28.setTop (mkF m 143 #[.val (.ref o0), .val (.ref o1), .val (.int p2), .val (.int nn), .val (.int (nx + v16)), .val (.int i), .unset] [])) := q26.trans (st28 _ (Steps.refl _))
      have q30 : Steps p.tables e below (T0.setTop (mkF m 102 #[.val (.ref o0), .val (.ref o1), .val (.int p2), .val (.int nn), .val (.int nx), .val (.int i), .unset] [])) (T28.setTop (mkF m 102 #[.val (.ref o0), .val (.ref o1), .val (.int p2), .val (.int nn), .val (.int (nx + v16)), .val (.int (i + (1 : Int32))), .unset] [])) := q29.trans (by
          show Steps p.tables e below (T28.setTop (mkF m 143 #[.val (.ref o0), .val (.ref o1), .val (.int p2), .val (.int nn), .val (.int (nx + v16)), .val (.int i), .unset] [])) _
          refine XS.iinc X28.here hx rfl (hb hby d2_143) rfl (l' := #[.val (.ref o0), .val (.ref o1), .val (.int p2), .val (.int nn), .val (.int (nx + v16)), .val (.int (i + (1 : Int32))), .unset]) rfl ?_
          show Steps p.tables e below (T28.setTop (mkF m 146 #[.val (.ref o0), .val (.ref o1), .val (.int p2), .val (.int nn), .val (.int (nx + v16)), .val (.int (i + (1 : Int32))), .unset] [])) _
          refine XS.goto X28.here hx rfl (pc0 := 146) (pc' := 102) rfl (hb hby d2_146) (by decide) (by decide) ?_
          show Steps p.tables e below (T28.setTop (mkF m 102 #[.val (.ref o0), .val (.ref o1), .val (.int p2), .val (.int nn), .val (.int (nx + v16)), .val (.int (i + (1 : Int32))), .unset] [])) _
          exact Steps.refl _)
      obtain ⟨T', locs', h', X', e', N', Z', K', J0', J1', q'⟩ := ih (nx + v16) (i + (1 : Int32)) y9 y27  _ hM X28 e28 N28 Z28  Xo0_28 Fo0_members_28 Fo0_memberIndex_28 Fo0_blockOf_28 Fo0_start_28 Fo0_end_28 Fo0_splitFrom_28 Fo0_markedCount_28 Fo0_markedBlocks_28 Fo0_count_28 Fo0_markedBlockCount_28 IaM_28 IaI_28 IaB_28 IaS_28 J28 IaF_28 IaC_28 IaK_28
      exact ⟨T', locs', h', X', e', N', Z', K28.trans K' (fun _ hx' => Or.inl hx'), J0', J1', q30.trans q'⟩
    · rw [if_neg hc3] at hM
      have q31 : Steps p.tables e below (T0.setTop (mkF m 102 #[.val (.ref o0), .val (.ref o1), .val (.int p2), .val (.int nn), .val (.int nx), .val (.int i), .unset] [])) (T0.setTop (mkF m 149 #[.val (.ref o0), .val (.ref o1), .val (.int p2), .val (.int nn), .val (.int nx), .val (.int i), .unset] [])) := q1.trans (by
          show Steps p.tables e below (T0.setTop (mkF m 105 #[.val (.ref o0), .val (.ref o1), .val (.int p2), .val (.int nn), .val (.int nx), .val (.int i), .unset] [(.int p2), (.int i)])) _
          refine XS.icmpYes X0.here hx rfl (pc0 := 105) (pc' := 149) rfl (hb hby d2_105) rfl (flt hc3).2.1 (by decide) (by decide) ?_
          show Steps p.tables e below (T0.setTop (mkF m 149 #[.val (.ref o0), .val (.ref o1), .val (.int p2), .val (.int nn), .val (.int nx), .val (.int i), .unset] [])) _
          exact Steps.refl _)
      obtain rfl := Option.some.inj hM
      exact ⟨_, _, _, X0, e0, N0, Z0, K0, I_aS, I_aE, q31⟩

theorem d2_152 : decode prog_1_method_1_code 152 = .ok (.iload 5, 2) := by decide +kernel
theorem d2_154 : decode prog_1_method_1_code 154 = .ok (.iload_n 3, 1) := by decide +kernel
theorem d2_155 : decode prog_1_method_1_code 155 = .ok (.if_icmp .ge 51, 3) := by decide +kernel
theorem d2_158 : decode prog_1_method_1_code 158 = .ok (.aload_n 0, 1) := by decide +kernel
theorem d2_159 : decode prog_1_method_1_code 159 = .ok (.getfield 22, 3) := by decide +kernel
theorem d2_162 : decode prog_1_method_1_code 162 = .ok (.iload 5, 2) := by decide +kernel
theorem d2_164 : decode prog_1_method_1_code 164 = .ok (.iaload, 1) := by decide +kernel
theorem d2_165 : decode prog_1_method_1_code 165 = .ok (.istore 6, 2) := by decide +kernel
theorem d2_167 : decode prog_1_method_1_code 167 = .ok (.aload_n 0, 1) := by decide +kernel
theorem d2_168 : decode prog_1_method_1_code 168 = .ok (.getfield 13, 3) := by decide +kernel
theorem d2_171 : decode prog_1_method_1_code 171 = .ok (.iload 5, 2) := by decide +kernel
theorem d2_173 : decode prog_1_method_1_code 173 = .ok (.aload_n 0, 1) := by decide +kernel
theorem d2_174 : decode prog_1_method_1_code 174 = .ok (.getfield 28, 3) := by decide +kernel
theorem d2_177 : decode prog_1_method_1_code 177 = .ok (.iload 6, 2) := by decide +kernel
theorem d2_179 : decode prog_1_method_1_code 179 = .ok (.iaload, 1) := by decide +kernel
theorem d2_180 : decode prog_1_method_1_code 180 = .ok (.iastore, 1) := by decide +kernel
theorem d2_181 : decode prog_1_method_1_code 181 = .ok (.aload_n 0, 1) := by decide +kernel
theorem d2_182 : decode prog_1_method_1_code 182 = .ok (.getfield 7, 3) := by decide +kernel
theorem d2_185 : decode prog_1_method_1_code 185 = .ok (.aload_n 0, 1) := by decide +kernel
theorem d2_186 : decode prog_1_method_1_code 186 = .ok (.getfield 28, 3) := by decide +kernel
theorem d2_189 : decode prog_1_method_1_code 189 = .ok (.iload 6, 2) := by decide +kernel
theorem d2_191 : decode prog_1_method_1_code 191 = .ok (.dup2, 1) := by decide +kernel
theorem d2_192 : decode prog_1_method_1_code 192 = .ok (.iaload, 1) := by decide +kernel
theorem d2_193 : decode prog_1_method_1_code 193 = .ok (.dup_x2, 1) := by decide +kernel
theorem d2_194 : decode prog_1_method_1_code 194 = .ok (.iconst 1, 1) := by decide +kernel
theorem d2_195 : decode prog_1_method_1_code 195 = .ok (.iadd, 1) := by decide +kernel
theorem d2_196 : decode prog_1_method_1_code 196 = .ok (.iastore, 1) := by decide +kernel
theorem d2_197 : decode prog_1_method_1_code 197 = .ok (.iload 5, 2) := by decide +kernel
theorem d2_199 : decode prog_1_method_1_code 199 = .ok (.iastore, 1) := by decide +kernel
theorem d2_200 : decode prog_1_method_1_code 200 = .ok (.iinc 5 1, 3) := by decide +kernel
theorem d2_203 : decode prog_1_method_1_code 203 = .ok (.goto (-51), 3) := by decide +kernel
def M_lpC3 : Nat → Int32 → List Int32 → Int32 → List Int32 → List Int32 → List Int32 → Option (Int32 × List Int32 × List Int32 × List Int32)
  | 0, _, _, _, _, _, _ => none
  | k + 1, nn, xB, i, xI, xM, xE => (if i < nn then (Own.rd xB i).bind fun v9 => (Own.rd xE v9).bind fun v18 => (Own.wt xI i v18).bind fun y20 => (Own.rd xE v9).bind fun v30 => (Own.wt xE v9 (v30 + (1 : Int32))).bind fun y33 => (Own.wt xM v30 i).bind fun y37 => M_lpC3 k nn xB (i + (1 : Int32)) y20 y37 y33 else some (i, xI, xM, xE))
theorem M_lpC3_s (k : Nat) (nn : Int32) (xB : List Int32) (i : Int32) (xI : List Int32) (xM : List Int32) (xE : List Int32) : M_lpC3 (k + 1) nn xB i xI xM xE = (if i < nn then (Own.rd xB i).bind fun v9 => (Own.rd xE v9).bind fun v18 => (Own.wt xI i v18).bind fun y20 => (Own.rd xE v9).bind fun v30 => (Own.wt xE v9 (v30 + (1 : Int32))).bind fun y33 => (Own.wt xM v30 i).bind fun y37 => M_lpC3 k nn xB (i + (1 : Int32)) y20 y37 y33 else some (i, xI, xM, xE)) := rfl
set_option maxRecDepth 65536 in
set_option maxHeartbeats 40000000 in
theorem lpC3 {p : Program} {l : Launch} {e : Env} {R : Room} {s : State} {m : MethodId} {args : Array Value} {below : List Frame} {meth : Method} {c : Code} {Z : State} {a0 : Array Value} {n0 cells slots : Nat} (hx : p.tables.exec = Jvm.exec) (hZ : Z.Warmed39 s.vm) (hw : ∀ d ∈ tables_1, d.before a0 Z = true) (hby : c.code = prog_1_method_1_code) (hml : c.maxLocals = 7) (hown : s.vm.findClass "com/example/libpathsum/libpathsum/Blocks" = some m.cls) (o0 o1 aM aI aB aS aE aF aC aK : Addr) (cn mc : Int32) (xS : List Int32) (xF : List Int32) (xC : List Int32) (xK : List Int32) (p2 : Int32) (z4 : Int32) (nn : Int32) (xB : List Int32) (ge_aM : n0 ≤ aM) (ge_aI : n0 ≤ aI) (ge_aB : n0 ≤ aB) (ge_aS : n0 ≤ aS) (ge_aE : n0 ≤ aE) (ge_aF : n0 ≤ aF) (ge_aC : n0 ≤ aC) (ge_aK : n0 ≤ aK) (ge_o0 : n0 ≤ o0) (ne_aM_aI : aM ≠ aI) (ne_aM_aB : aM ≠ aB) (ne_aM_aS : aM ≠ aS) (ne_aM_aE : aM ≠ aE) (ne_aM_aF : aM ≠ aF) (ne_aM_aC : aM ≠ aC) (ne_aM_aK : aM ≠ aK) (ne_aI_aB : aI ≠ aB) (ne_aI_aS : aI ≠ aS) (ne_aI_aE : aI ≠ aE) (ne_aI_aF : aI ≠ aF) (ne_aI_aC : aI ≠ aC) (ne_aI_aK : aI ≠ aK) (ne_aB_aS : aB ≠ aS) (ne_aB_aE : aB ≠ aE) (ne_aB_aF : aB ≠ aF) (ne_aB_aC : aB ≠ aC) (ne_aB_aK : aB ≠ aK) (ne_aS_aE : aS ≠ aE) (ne_aS_aF : aS ≠ aF) (ne_aS_aC : aS ≠ aC) (ne_aS_aK : aS ≠ aK) (ne_aE_aF : aE ≠ aF) (ne_aE_aC : aE ≠ aC) (ne_aE_aK : aE ≠ aK) (ne_aF_aC : aF ≠ aC) (ne_aF_aK : aF ≠ aK) (ne_aC_aK : aC ≠ aK) (ne_o0_aM : o0 ≠ aM) (ne_o0_aI : o0 ≠ aI) (ne_o0_aB : o0 ≠ aB) (ne_o0_aS : o0 ≠ aS) (ne_o0_aE : o0 ≠ aE) (ne_o0_aF : o0 ≠ aF) (ne_o0_aC : o0 ≠ aC) (ne_o0_aK : o0 ≠ aK) (k : Nat) : ∀ {T0 : State} {locs : List Loc} {h0 : Heap} (i : Int32) (xI : List Int32) (xM : List Int32) (xE : List Int32) (s6 : Slot) (out : Int32 × List Int32 × List Int32 × List Int32) (hM : M_lpC3 k nn xB i xI xM xE = some out) (X0 : Stand p l e R s m args below meth c T0 locs cells slots) (e0 : T0.heap = h0) (N0 : Fr n0 locs) (Z0 : n0 ≤ h0.size) (os_s6 : One s6) (E_o0 : Exa Z h0 o0 "com/example/libpathsum/libpathsum/Blocks") (F_o0_members : Fld Z h0 o0 "com/example/libpathsum/libpathsum/Blocks" "members" "[I" (.ref aM)) (F_o0_memberIndex : Fld Z h0 o0 "com/example/libpathsum/libpathsum/Blocks" "memberIndex" "[I" (.ref aI)) (F_o0_blockOf : Fld Z h0 o0 "com/example/libpathsum/libpathsum/Blocks" "blockOf" "[I" (.ref aB)) (F_o0_start : Fld Z h0 o0 "com/example/libpathsum/libpathsum/Blocks" "start" "[I" (.ref aS)) (F_o0_end : Fld Z h0 o0 "com/example/libpathsum/libpathsum/Blocks" "end" "[I" (.ref aE)) (F_o0_splitFrom : Fld Z h0 o0 "com/example/libpathsum/libpathsum/Blocks" "splitFrom" "[I" (.ref aF)) (F_o0_markedCount : Fld Z h0 o0 "com/example/libpathsum/libpathsum/Blocks" "markedCount" "[I" (.ref aC)) (F_o0_markedBlocks : Fld Z h0 o0 "com/example/libpathsum/libpathsum/Blocks" "markedBlocks" "[I" (.ref aK)) (F_o0_count : Fld Z h0 o0 "com/example/libpathsum/libpathsum/Blocks" "count" "I" (.int cn)) (F_o0_markedBlockCount : Fld Z h0 o0 "com/example/libpathsum/libpathsum/Blocks" "markedBlockCount" "I" (.int mc)) (I_aM : Own.IA Z h0 aM xM) (I_aI : Own.IA Z h0 aI xI) (I_aB : Own.IA Z h0 aB xB) (I_aS : Own.IA Z h0 aS xS) (I_aE : Own.IA Z h0 aE xE) (I_aF : Own.IA Z h0 aF xF) (I_aC : Own.IA Z h0 aC xC) (I_aK : Own.IA Z h0 aK xK),
    ∃ (T' : State) (locs' : List Loc) (h' : Heap) (s6' : Slot), Stand p l e R s m args below meth c T' locs' cells slots ∧ T'.heap = h' ∧ Fr n0 locs' ∧ n0 ≤ h'.size ∧ Keep h0 h' [aI, aM, aE] ∧ One s6' ∧ Own.IA Z h' aI out.2.1 ∧ Own.IA Z h' aM out.2.2.1 ∧ Own.IA Z h' aE out.2.2.2 ∧ Steps p.tables e below (T0.setTop (mkF m 152 #[.val (.ref o0), .val (.ref o1), .val (.int p2), .val (.int nn), .val (.int z4), .val (.int i), s6] [])) (T'.setTop (mkF m 206 #[.val (.ref o0), .val (.ref o1), .val (.int p2), .val (.int nn), .val (.int z4), .val (.int out.1), s6'] [])) := by
  induction k with
  | zero => intro T0 locs h0 i xI xM xE s6 out hM X0 e0 N0 Z0 os_s6 E_o0 F_o0_members F_o0_memberIndex F_o0_blockOf F_o0_start F_o0_end F_o0_splitFrom F_o0_markedCount F_o0_markedBlocks F_o0_count F_o0_markedBlockCount I_aM I_aI I_aB I_aS I_aE I_aF I_aC I_aK; cases hM
  | succ k ih =>
    intro T0 locs h0 i xI xM xE s6 out hM X0 e0 N0 Z0 os_s6 E_o0 F_o0_members F_o0_memberIndex F_o0_blockOf F_o0_start F_o0_end F_o0_splitFrom F_o0_markedCount F_o0_markedBlocks F_o0_count F_o0_markedBlockCount I_aM I_aI I_aB I_aS I_aE I_aF I_aC I_aK
    rw [M_lpC3_s] at hM
    have q0 : Steps p.tables e below (T0.setTop (mkF m 152 #[.val (.ref o0), .val (.ref o1), .val (.int p2), .val (.int nn), .val (.int z4), .val (.int i), s6] [])) (T0.setTop (mkF m 152 #[.val (.ref o0), .val (.ref o1), .val (.int p2), .val (.int nn), .val (.int z4), .val (.int i), s6] [])) := Steps.refl _
    have K0 : Keep h0 h0 [aI, aM, aE] := Keep.refl _ _
    have q1 : Steps p.tables e below (T0.setTop (mkF m 152 #[.val (.ref o0), .val (.ref o1), .val (.int p2), .val (.int nn), .val (.int z4), .val (.int i), s6] [])) (T0.setTop (mkF m 155 #[.val (.ref o0), .val (.ref o1), .val (.int p2), .val (.int nn), .val (.int z4), .val (.int i), s6] [(.int nn), (.int i)])) := q0.trans (by
        show Steps p.tables e below (T0.setTop (mkF m 152 #[.val (.ref o0), .val (.ref o1), .val (.int p2), .val (.int nn), .val (.int z4), .val (.int i), s6] [])) _
        refine XS.iload X0.here hx rfl (hb hby d2_152) rfl ?_
        show Steps p.tables e below (T0.setTop (mkF m 154 #[.val (.ref o0), .val (.ref o1), .val (.int p2), .val (.int nn), .val (.int z4), .val (.int i), s6] [(.int i)])) _
        refine XS.iloadN X0.here hx rfl (hb hby d2_154) rfl ?_
        show Steps p.tables e below (T0.setTop (mkF m 155 #[.val (.ref o0), .val (.ref o1), .val (.int p2), .val (.int nn), .val (.int z4), .val (.int i), s6] [(.int nn), (.int i)])) _
        exact Steps.refl _)
    by_cases hc3 : i < nn
    · rw [if_pos hc3] at hM
      have q4 : Steps p.tables e below (T0.setTop (mkF m 152 #[.val (.ref o0), .val (.ref o1), .val (.int p2), .val (.int nn), .val (.int z4), .val (.int i), s6] [])) (T0.setTop (mkF m 158 #[.val (.ref o0), .val (.ref o1), .val (.int p2), .val (.int nn), .val (.int z4), .val (.int i), s6] [])) := q1.trans (by
          show Steps p.tables e below (T0.setTop (mkF m 155 #[.val (.ref o0), .val (.ref o1), .val (.int p2), .val (.int nn), .val (.int z4), .val (.int i), s6] [(.int nn), (.int i)])) _
          refine XS.icmpNo X0.here hx rfl (hb hby d2_155) rfl (tlt hc3).2.1 ?_
          show Steps p.tables e below (T0.setTop (mkF m 158 #[.val (.ref o0), .val (.ref o1), .val (.int p2), .val (.int nn), .val (.int z4), .val (.int i), s6] [])) _
          exact Steps.refl _)
      have q5 : Steps p.tables e below (T0.setTop (mkF m 152 #[.val (.ref o0), .val (.ref o1), .val (.int p2), .val (.int nn), .val (.int z4), .val (.int i), s6] [])) (T0.setTop (mkF m 159 #[.val (.ref o0), .val (.ref o1), .val (.int p2), .val (.int nn), .val (.int z4), .val (.int i), s6] [(.ref o0)])) := q4.trans (by
          show Steps p.tables e below (T0.setTop (mkF m 158 #[.val (.ref o0), .val (.ref o1), .val (.int p2), .val (.int nn), .val (.int z4), .val (.int i), s6] [])) _
          refine XS.aloadN X0.here hx rfl (hb hby d2_158) rfl rfl ?_
          show Steps p.tables e below (T0.setTop (mkF m 159 #[.val (.ref o0), .val (.ref o1), .val (.int p2), .val (.int nn), .val (.int z4), .val (.int i), s6] [(.ref o0)])) _
          exact Steps.refl _)
      obtain ⟨T6, X6, e6, st6⟩ := getF X0 hx hZ hown (host := "") (Or.inl (hw _ (List.mem_of_getElem? (i := 31) rfl))) Via.refl e0 F_o0_blockOf (g := (mkF m 159 #[.val (.ref o0), .val (.ref o1), .val (.int p2), .val (.int nn), .val (.int z4), .val (.int i), s6] [(.ref o0)])) rfl rfl (hb hby d2_159)
      have q7 : Steps p.tables e below (T0.setTop (mkF m 152 #[.val (.ref o0), .val (.ref o1), .val (.int p2), .val (.int nn), .val (.int z4), .val (.int i), s6] [])) (T6.setTop (mkF m 162 #[.val (.ref o0), .val (.ref o1), .val (.int p2), .val (.int nn), .val (.int z4), .val (.int i), s6] [(.ref aB)])) := q5.trans (st6 _ (Steps.refl _))
      have q8 : Steps p.tables e below (T0.setTop (mkF m 152 #[.val (.ref o0), .val (.ref o1), .val (.int p2), .val (.int nn), .val (.int z4), .val (.int i), s6] [])) (T6.setTop (mkF m 164 #[.val (.ref o0), .val (.ref o1), .val (.int p2), .val (.int nn), .val (.int z4), .val (.int i), s6] [(.int i), (.ref aB)])) := q7.trans (by
          show Steps p.tables e below (T6.setTop (mkF m 162 #[.val (.ref o0), .val (.ref o1), .val (.int p2), .val (.int nn), .val (.int z4), .val (.int i), s6] [(.ref aB)])) _
          refine XS.iload X6.here hx rfl (hb hby d2_162) rfl ?_
          show Steps p.tables e below (T6.setTop (mkF m 164 #[.val (.ref o0), .val (.ref o1), .val (.int p2), .val (.int nn), .val (.int z4), .val (.int i), s6] [(.int i), (.ref aB)])) _
          exact Steps.refl _)
      obtain ⟨v9, hv9, hM⟩ := Option.bind_eq_some_iff.mp hM
      have q10 : Steps p.tables e below (T0.setTop (mkF m 152 #[.val (.ref o0), .val (.ref o1), .val (.int p2), .val (.int nn), .val (.int z4), .val (.int i), s6] [])) (T6.setTop (mkF m 165 #[.val (.ref o0), .val (.ref o1), .val (.int p2), .val (.int nn), .val (.int z4), .val (.int i), s6] [(.int v9)])) := q8.trans (Own.ldO X6 hx hZ e6 I_aB hv9 (g := (mkF m 164 #[.val (.ref o0), .val (.ref o1), .val (.int p2), .val (.int nn), .val (.int z4), .val (.int i), s6] [(.int i), (.ref aB)])) rfl rfl (hb hby d2_164) _ (Steps.refl _))
      have q11 : Steps p.tables e below (T0.setTop (mkF m 152 #[.val (.ref o0), .val (.ref o1), .val (.int p2), .val (.int nn), .val (.int z4), .val (.int i), s6] [])) (T6.setTop (mkF m 168 #[.val (.ref o0), .val (.ref o1), .val (.int p2), .val (.int nn), .val (.int z4), .val (.int i), .val (.int v9)] [(.ref o0)])) := q10.trans (by
          show Steps p.tables e below (T6.setTop (mkF m 165 #[.val (.ref o0), .val (.ref o1), .val (.int p2), .val (.int nn), .val (.int z4), .val (.int i), s6] [(.int v9)])) _
          refine XS.istoreS X6.here hx rfl (hb hby d2_165) rfl rfl os_s6 ?_
          show Steps p.tables e below (T6.setTop (mkF m 167 #[.val (.ref o0), .val (.ref o1), .val (.int p2), .val (.int nn), .val (.int z4), .val (.int i), .val (.int v9)] [])) _
          refine XS.aloadN X6.here hx rfl (hb hby d2_167) rfl rfl ?_
          show Steps p.tables e below (T6.setTop (mkF m 168 #[.val (.ref o0), .val (.ref o1), .val (.int p2), .val (.int nn), .val (.int z4), .val (.int i), .val (.int v9)] [(.ref o0)])) _
          exact Steps.refl _)
      obtain ⟨T12, X12, e12, st12⟩ := getF X6 hx hZ hown (host := "") (Or.inl (hw _ (List.mem_of_getElem? (i := 16) rfl))) Via.refl e6 F_o0_memberIndex (g := (mkF m 168 #[.val (.ref o0), .val (.ref o1), .val (.int p2), .val (.int nn), .val (.int z4), .val (.int i), .val (.int v9)] [(.ref o0)])) rfl rfl (hb hby d2_168)
      have q13 : Steps p.tables e below (T0.setTop (mkF m 152 #[.val (.ref o0), .val (.ref o1), .val (.int p2), .val (.int nn), .val (.int z4), .val (.int i), s6] [])) (T12.setTop (mkF m 171 #[.val (.ref o0), .val (.ref o1), .val (.int p2), .val (.int nn), .val (.int z4), .val (.int i), .val (.int v9)] [(.ref aI)])) := q11.trans (st12 _ (Steps.refl _))
      have q14 : Steps p.tables e below (T0.setTop (mkF m 152 #[.val (.ref o0), .val (.ref o1), .val (.int p2), .val (.int nn), .val (.int z4), .val (.int i), s6] [])) (T12.setTop (mkF m 174 #[.val (.ref o0), .val (.ref o1), .val (.int p2), .val (.int nn), .val (.int z4), .val (.int i), .val (.int v9)] [(.ref o0), (.int i), (.ref aI)])) := q13.trans (by
          show Steps p.tables e below (T12.setTop (mkF m 171 #[.val (.ref o0), .val (.ref o1), .val (.int p2), .val (.int nn), .val (.int z4), .val (.int i), .val (.int v9)] [(.ref aI)])) _
          refine XS.iload X12.here hx rfl (hb hby d2_171) rfl ?_
          show Steps p.tables e below (T12.setTop (mkF m 173 #[.val (.ref o0), .val (.ref o1), .val (.int p2), .val (.int nn), .val (.int z4), .val (.int i), .val (.int v9)] [(.int i), (.ref aI)])) _
          refine XS.aloadN X12.here hx rfl (hb hby d2_173) rfl rfl ?_
          show Steps p.tables e below (T12.setTop (mkF m 174 #[.val (.ref o0), .val (.ref o1), .val (.int p2), .val (.int nn), .val (.int z4), .val (.int i), .val (.int v9)] [(.ref o0), (.int i), (.ref aI)])) _
          exact Steps.refl _)
      obtain ⟨T15, X15, e15, st15⟩ := getF X12 hx hZ hown (host := "") (Or.inl (hw _ (List.mem_of_getElem? (i := 35) rfl))) Via.refl e12 F_o0_end (g := (mkF m 174 #[.val (.ref o0), .val (.ref o1), .val (.int p2), .val (.int nn), .val (.int z4), .val (.int i), .val (.int v9)] [(.ref o0), (.int i), (.ref aI)])) rfl rfl (hb hby d2_174)
      have q16 : Steps p.tables e below (T0.setTop (mkF m 152 #[.val (.ref o0), .val (.ref o1), .val (.int p2), .val (.int nn), .val (.int z4), .val (.int i), s6] [])) (T15.setTop (mkF m 177 #[.val (.ref o0), .val (.ref o1), .val (.int p2), .val (.int nn), .val (.int z4), .val (.int i), .val (.int v9)] [(.ref aE), (.int i), (.ref aI)])) := q14.trans (st15 _ (Steps.refl _))
      have q17 : Steps p.tables e below (T0.setTop (mkF m 152 #[.val (.ref o0), .val (.ref o1), .val (.int p2), .val (.int nn), .val (.int z4), .val (.int i), s6] [])) (T15.setTop (mkF m 179 #[.val (.ref o0), .val (.ref o1), .val (.int p2), .val (.int nn), .val (.int z4), .val (.int i), .val (.int v9)] [(.int v9), (.ref aE), (.int i), (.ref aI)])) := q16.trans (by
          show Steps p.tables e below (T15.setTop (mkF m 177 #[.val (.ref o0), .val (.ref o1), .val (.int p2), .val (.int nn), .val (.int z4), .val (.int i), .val (.int v9)] [(.ref aE), (.int i), (.ref aI)])) _
          refine XS.iload X15.here hx rfl (hb hby d2_177) rfl ?_
          show Steps p.tables e below (T15.setTop (mkF m 179 #[.val (.ref o0), .val (.ref o1), .val (.int p2), .val (.int nn), .val (.int z4), .val (.int i), .val (.int v9)] [(.int v9), (.ref aE), (.int i), (.ref aI)])) _
          exact Steps.refl _)
      obtain ⟨v18, hv18, hM⟩ := Option.bind_eq_some_iff.mp hM
      have q19 : Steps p.tables e below (T0.setTop (mkF m 152 #[.val (.ref o0), .val (.ref o1), .val (.int p2), .val (.int nn), .val (.int z4), .val (.int i), s6] [])) (T15.setTop (mkF m 180 #[.val (.ref o0), .val (.ref o1), .val (.int p2), .val (.int nn), .val (.int z4), .val (.int i), .val (.int v9)] [(.int v18), (.int i), (.ref aI)])) := q17.trans (Own.ldO X15 hx hZ e15 I_aE hv18 (g := (mkF m 179 #[.val (.ref o0), .val (.ref o1), .val (.int p2), .val (.int nn), .val (.int z4), .val (.int i), .val (.int v9)] [(.int v9), (.ref aE), (.int i), (.ref aI)])) rfl rfl (hb hby d2_179) _ (Steps.refl _))
      obtain ⟨y20, hy20, hM⟩ := Option.bind_eq_some_iff.mp hM
      obtain ⟨T21, h21, X21, e21, W21, J21, st21⟩ := Own.stO X15 hx hZ e15 I_aI hy20 (g := (mkF m 180 #[.val (.ref o0), .val (.ref o1), .val (.int p2), .val (.int nn), .val (.int z4), .val (.int i), .val (.int v9)] [(.int v18), (.int i), (.ref aI)])) rfl rfl (hb hby d2_180)
      have N21 := Fr.snoc X21 N0 ge_aI
      have IaM_21 := I_aM.other W21 ne_aM_aI
      have IaB_21 := I_aB.other W21 (Ne.symm ne_aI_aB)
      have IaS_21 := I_aS.other W21 (Ne.symm ne_aI_aS)
      have IaE_21 := I_aE.other W21 (Ne.symm ne_aI_aE)
      have IaF_21 := I_aF.other W21 (Ne.symm ne_aI_aF)
      have IaC_21 := I_aC.other W21 (Ne.symm ne_aI_aC)
      have IaK_21 := I_aK.other W21 (Ne.symm ne_aI_aK)
      have Xo0_21 := E_o0.wr W21
      have Fo0_members_21 := F_o0_members.other W21 (Or.inl ne_o0_aI)
      have Fo0_memberIndex_21 := F_o0_memberIndex.other W21 (Or.inl ne_o0_aI)
      have Fo0_blockOf_21 := F_o0_blockOf.other W21 (Or.inl ne_o0_aI)
      have Fo0_start_21 := F_o0_start.other W21 (Or.inl ne_o0_aI)
      have Fo0_end_21 := F_o0_end.other W21 (Or.inl ne_o0_aI)
      have Fo0_splitFrom_21 := F_o0_splitFrom.other W21 (Or.inl ne_o0_aI)
      have Fo0_markedCount_21 := F_o0_markedCount.other W21 (Or.inl ne_o0_aI)
      have Fo0_markedBlocks_21 := F_o0_markedBlocks.other W21 (Or.inl ne_o0_aI)
      have Fo0_count_21 := F_o0_count.other W21 (Or.inl ne_o0_aI)
      have Fo0_markedBlockCount_21 := F_o0_markedBlockCount.other W21 (Or.inl ne_o0_aI)
      have Z21 : n0 ≤ h21.size := Own.size_wr W21 Z0
      have K21 : Keep h0 h21 [aI, aM, aE] := K0.wr W21 (Or.inl (List.mem_of_getElem? (i := 0) rfl))
      have q22 : Steps p.tables e below (T0.setTop (mkF m 152 #[.val (.ref o0), .val (.ref o1), .val (.int p2), .val (.int nn), .val (.int z4), .val (.int i), s6] [])) (T21.setTop (mkF m 181 #[.val (.ref o0), .val (.ref o1), .val (.int p2), .val (.int nn), .val (.int z4), .val (.int i), .val (.int v9)] [])) := q19.trans (st21 _ (Steps.refl _))
      have q23 : Steps p.tables e below (T0.setTop (mkF m 152 #[.val (.ref o0), .val (.ref o1), .val (.int p2), .val (.int nn), .val (.int z4), .val (.int i), s6] [])) (T21.setTop (mkF m 182 #[.val (.ref o0), .val (.ref o1), .val (.int p2), .val (.int nn), .val (.int z4), .val (.int i), .val (.int v9)] [(.ref o0)])) := q22.trans (by
          show Steps p.tables e below (T21.setTop (mkF m 181 #[.val (.ref o0), .val (.ref o1), .val (.int p2), .val (.int nn), .val (.int z4), .val (.int i), .val (.int v9)] [])) _
          refine XS.aloadN X21.here hx rfl (hb hby d2_181) rfl rfl ?_
          show Steps p.tables e below (T21.setTop (mkF m 182 #[.val (.ref o0), .val (.ref o1), .val (.int p2), .val (.int nn), .val (.int z4), .val (.int i), .val (.int v9)] [(.ref o0)])) _
          exact Steps.refl _)
      obtain ⟨T24, X24, e24, st24⟩ := getF X21 hx hZ hown (host := "") (Or.inl (hw _ (List.mem_of_getElem? (i := 14) rfl))) Via.refl e21 Fo0_members_21 (g := (mkF m 182 #[.val (.ref o0), .val (.ref o1), .val (.int p2), .val (.int nn), .val (.int z4), .val (.int i), .val (.int v9)] [(.ref o0)])) rfl rfl (hb hby d2_182)
      have q25 : Steps p.tables e below (T0.setTop (mkF m 152 #[.val (.ref o0), .val (.ref o1), .val (.int p2), .val (.int nn), .val (.int z4), .val (.int i), s6] [])) (T24.setTop (mkF m 185 #[.val (.ref o0), .val (.ref o1), .val (.int p2), .val (.int nn), .val (.int z4), .val (.int i), .val (.int v9)] [(.ref aM)])) := q23.trans (st24 _ (Steps.refl _))
      have q26 : Steps p.tables e below (T0.setTop (mkF m 152 #[.val (.ref o0), .val (.ref o1), .val (.int p2), .val (.int nn), .val (.int z4), .val (.int i), s6] [])) (T24.setTop (mkF m 186 #[.val (.ref o0), .val (.ref o1), .val (.int p2), .val (.int nn), .val (.int z4), .val (.int i), .val (.int v9)] [(.ref o0), (.ref aM)])) := q25.trans (by
          show Steps p.tables e below (T24.setTop (mkF m 185 #[.val (.ref o0), .val (.ref o1), .val (.int p2), .val (.int nn), .val (.int z4), .val (.int i), .val (.int v9)] [(.ref aM)])) _
          refine XS.aloadN X24.here hx rfl (hb hby d2_185) rfl rfl ?_
          show Steps p.tables e below (T24.setTop (mkF m 186 #[.val (.ref o0), .val (.ref o1), .val (.int p2), .val (.int nn), .val (.int z4), .val (.int i), .val (.int v9)] [(.ref o0), (.ref aM)])) _
          exact Steps.refl _)
      obtain ⟨T27, X27, e27, st27⟩ := getF X24 hx hZ hown (host := "") (Or.inl (hw _ (List.mem_of_getElem? (i := 35) rfl))) Via.refl e24 Fo0_end_21 (g := (mkF m 186 #[.val (.ref o0), .val (.ref o1), .val (.int p2), .val (.int nn), .val (.int z4), .val (.int i), .val (.int v9)] [(.ref o0), (.ref aM)])) rfl rfl (hb hby d2_186)
      have q28 : Steps p.tables e below (T0.setTop (mkF m 152 #[.val (.ref o0), .val (.ref o1), .val (.int p2), .val (.int nn), .val (.int z4), .val (.int i), s6] [])) (T27.setTop (mkF m 189 #[.val (.ref o0), .val (.ref o1), .val (.int p2), .val (.int nn), .val (.int z4), .val (.int i), .val (.int v9)] [(.ref aE), (.ref aM)])) := q26.trans (st27 _ (Steps.refl _))
      have q29 : Steps p.tables e below (T0.setTop (mkF m 152 #[.val (.ref o0), .val (.ref o1), .val (.int p2), .val (.int nn), .val (.int z4), .val (.int i), s6] [])) (T27.setTop (mkF m 192 #[.val (.ref o0), .val (.ref o1), .val (.int p2), .val (.int nn), .val (.int z4), .val (.int i), .val (.int v9)] [(.int v9), (.ref aE), (.int v9), (.ref aE), (.ref aM)])) := q28.trans (by
          show Steps p.tables e below (T27.setTop (mkF m 189 #[.val (.ref o0), .val (.ref o1), .val (.int p2), .val (.int nn), .val (.int z4), .val (.int i), .val (.int v9)] [(.ref aE), (.ref aM)])) _
          refine XS.iload X27.here hx rfl (hb hby d2_189) rfl ?_
          show Steps p.tables e below (T27.setTop (mkF m 191 #[.val (.ref o0), .val (.ref o1), .val (.int p2), .val (.int nn), .val (.int z4), .val (.int i), .val (.int v9)] [(.int v9), (.ref aE), (.ref aM)])) _
          refine XT.dup2 X27.here hx rfl (hb hby d2_191) rfl rfl rfl ?_
          show Steps p.tables e below (T27.setTop (mkF m 192 #[.val (.ref o0), .val (.ref o1), .val (.int p2), .val (.int nn), .val (.int z4), .val (.int i), .val (.int v9)] [(.int v9), (.ref aE), (.int v9), (.ref aE), (.ref aM)])) _
          exact Steps.refl _)
      obtain ⟨v30, hv30, hM⟩ := Option.bind_eq_some_iff.mp hM
      have q31 : Steps p.tables e below (T0.setTop (mkF m 152 #[.val (.ref o0), .val (.ref o1), .val (.int p2), .val (.int nn), .val (.int z4), .val (.int i), s6] [])) (T27.setTop (mkF m 193 #[.val (.ref o0), .val (.ref o1), .val (.int p2), .val (.int nn), .val (.int z4), .val (.int i), .val (.int v9)] [(.int v30), (.int v9), (.ref aE), (.ref aM)])) := q29.trans (Own.ldO X27 hx hZ e27 IaE_21 hv30 (g := (mkF m 192 #[.val (.ref o0), .val (.ref o1), .val (.int p2), .val (.int nn), .val (.int z4), .val (.int i), .val (.int v9)] [(.int v9), (.ref aE), (.int v9), (.ref aE), (.ref aM)])) rfl rfl (hb hby d2_192) _ (Steps.refl _))
      have q32 : Steps p.tables e below (T0.setTop (mkF m 152 #[.val (.ref o0), .val (.ref o1), .val (.int p2), .val (.int nn), .val (.int z4), .val (.int i), s6] [])) (T27.setTop (mkF m 196 #[.val (.ref o0), .val (.ref o1), .val (.int p2), .val (.int nn), .val (.int z4), .val (.int i), .val (.int v9)] [(.int (v30 + (1 : Int32))), (.int v9), (.ref aE), (.int v30), (.ref aM)])) := q31.trans (by
          show Steps p.tables e below (T27.setTop (mkF m 193 #[.val (.ref o0), .val (.ref o1), .val (.int p2), .val (.int nn), .val (.int z4), .val (.int i), .val (.int v9)] [(.int v30), (.int v9), (.ref aE), (.ref aM)])) _
          jvm_step X27.here [X27.here.top, hx, (hb hby d2_193), Value.category]
          show Steps p.tables e below (T27.setTop (mkF m 194 #[.val (.ref o0), .val (.ref o1), .val (.int p2), .val (.int nn), .val (.int z4), .val (.int i), .val (.int v9)] [(.int v30), (.int v9), (.ref aE), (.int v30), (.ref aM)])) _
          refine XS.iconst X27.here hx rfl (hb hby d2_194) ?_
          show Steps p.tables e below (T27.setTop (mkF m 195 #[.val (.ref o0), .val (.ref o1), .val (.int p2), .val (.int nn), .val (.int z4), .val (.int i), .val (.int v9)] [(.int (1 : Int32)), (.int v30), (.int v9), (.ref aE), (.int v30), (.ref aM)])) _
          refine XS.iadd X27.here hx rfl (hb hby d2_195) rfl ?_
          show Steps p.tables e below (T27.setTop (mkF m 196 #[.val (.ref o0), .val (.ref o1), .val (.int p2), .val (.int nn), .val (.int z4), .val (.int i), .val (.int v9)] [(.int (v30 + (1 : Int32))), (.int v9), (.ref aE), (.int v30), (.ref aM)])) _
          exact Steps.refl _)
      obtain ⟨y33, hy33, hM⟩ := Option.bind_eq_some_iff.mp hM
      obtain ⟨T34, h34, X34, e34, W34, J34, st34⟩ := Own.stO X27 hx hZ e27 IaE_21 hy33 (g := (mkF m 196 #[.val (.ref o0), .val (.ref o1), .val (.int p2), .val (.int nn), .val (.int z4), .val (.int i), .val (.int v9)] [(.int (v30 + (1 : Int32))), (.int v9), (.ref aE), (.int v30), (.ref aM)])) rfl rfl (hb hby d2_196)
      have N34 := Fr.snoc X34 N21 ge_aE
      have IaM_34 := IaM_21.other W34 ne_aM_aE
      have IaI_34 := J21.other W34 ne_aI_aE
      have IaB_34 := IaB_21.other W34 ne_aB_aE
      have IaS_34 := IaS_21.other W34 ne_aS_aE
      have IaF_34 := IaF_21.other W34 (Ne.symm ne_aE_aF)
      have IaC_34 := IaC_21.other W34 (Ne.symm ne_aE_aC)
      have IaK_34 := IaK_21.other W34 (Ne.symm ne_aE_aK)
      have Xo0_34 := Xo0_21.wr W34
      have Fo0_members_34 := Fo0_members_21.other W34 (Or.inl ne_o0_aE)
      have Fo0_memberIndex_34 := Fo0_memberIndex_21.other W34 (Or.inl ne_o0_aE)
      have Fo0_blockOf_34 := Fo0_blockOf_21.other W34 (Or.inl ne_o0_aE)
      have Fo0_start_34 := Fo0_start_21.other W34 (Or.inl ne_o0_aE)
      have Fo0_end_34 := Fo0_end_21.other W34 (Or.inl ne_o0_aE)
      have Fo0_splitFrom_34 := Fo0_splitFrom_21.other W34 (Or.inl ne_o0_aE)
      have Fo0_markedCount_34 := Fo0_markedCount_21.other W34 (Or.inl ne_o0_aE)
      have Fo0_markedBlocks_34 := Fo0_markedBlocks_21.other W34 (Or.inl ne_o0_aE)
      have Fo0_count_34 := Fo0_count_21.other W34 (Or.inl ne_o0_aE)
      have Fo0_markedBlockCount_34 := Fo0_markedBlockCount_21.other W34 (Or.inl ne_o0_aE)
      have Z34 : n0 ≤ h34.size := Own.size_wr W34 Z21
      have K34 : Keep h0 h34 [aI, aM, aE] := K21.wr W34 (Or.inl (List.mem_of_getElem? (i := 2) rfl))
      have q35 : Steps p.tables e below (T0.setTop (mkF m 152 #[.val (.ref o0), .val (.ref o1), .val (.int p2), .val (.int nn), .val (.int z4), .val (.int i), s6] [])) (T34.setTop (mkF m 197 #[.val (.ref o0), .val (.ref o1), .val (.int p2), .val (.int nn), .val (.int z4), .val (.int i), .val (.int v9)] [(.int v30), (.ref aM)])) := q32.trans (st34 _ (Steps.refl _))
      have q36 : Steps p.tables e below (T0.setTop (mkF m 152 #[.val (.ref o0), .val (.ref o1), .val (.int p2), .val (.int nn), .val (.int z4), .val (.int i), s6] [])) (T34.setTop (mkF m 199 #[.val (.ref o0), .val (.ref o1), .val (.int p2), .val (.int nn), .val (.int z4), .val (.int i), .val (.int v9)] [(.int i), (.int v30), (.ref aM)])) := q35.trans (by
          show Steps p.tables e below (T34.setTop (mkF m 197 #[.val (.ref o0), .val (.ref o1), .val (.int p2), .val (.int nn), .val (.int z4), .val (.int i), .val (.int v9)] [(.int v30), (.ref aM)])) _
          refine XS.iload X34.here hx rfl (hb hby d2_197) rfl ?_
          show Steps p.tables e below (T34.setTop (mkF m 199 #[.val (.ref o0), .val (.ref o1), .val (.int p2), .val (.int nn), .val (.int z4), .val (.int i), .val (.int v9)] [(.int i), (.int v30), (.ref aM)])) _
          exact Steps.refl _)
      obtain ⟨y37, hy37, hM⟩ := Option.bind_eq_some_iff.mp hM
      obtain ⟨T38, h38, X38, e38, W38, J38, st38⟩ := Own.stO X34 hx hZ e34 IaM_34 hy37 (g := (mkF m 199 #[.val (.ref o0), .val (.ref o1), .val (.int p2), .val (.int nn), .val (.int z4), .val (.int i), .val (.int v9)] [(.int i), (.int v30), (.ref aM)])) rfl rfl (hb hby d2_199)
      have N38 := Fr.snoc X38 N34 ge_aM
      have IaI_38 := IaI_34.other W38 (Ne.symm ne_aM_aI)
      have IaB_38 := IaB_34.other W38 (Ne.symm ne_aM_aB)
      have IaS_38 := IaS_34.other W38 (Ne.symm ne_aM_aS)
      have IaE_38 := J34.other W38 (Ne.symm ne_aM_aE)
      have IaF_38 := IaF_34.other W38 (Ne.symm ne_aM_aF)
      have IaC_38 := IaC_34.other W38 (Ne.symm ne_aM_aC)
      have IaK_38 := IaK_34.other W38 (Ne.symm ne_aM_aK)
      have Xo0_38 := Xo0_34.wr W38
      have Fo0_members_38 := Fo0_members_34.other W38 (Or.inl ne_o0_aM)
      have Fo0_memberIndex_38 := Fo0_memberIndex_34.other W38 (Or.inl ne_o0_aM)
      have Fo0_blockOf_38 := Fo0_blockOf_34.other W38 (Or.inl ne_o0_aM)
      have Fo0_start_38 := Fo0_start_34.other W38 (Or.inl ne_o0_aM)
      have Fo0_end_38 := Fo0_end_34.other W38 (Or.inl ne_o0_aM)
      have Fo0_splitFrom_38 := Fo0_splitFrom_34.other W38 (Or.inl ne_o0_aM)
      have Fo0_markedCount_38 := Fo0_markedCount_34.other W38 (Or.inl ne_o0_aM)
      have Fo0_markedBlocks_38 := Fo0_markedBlocks_34.other W38 (Or.inl ne_o0_aM)
      have Fo0_count_38 := Fo0_count_34.other W38 (Or.inl ne_o0_aM)
      have Fo0_markedBlockCount_38 := Fo0_markedBlockCount_34.other W38 (Or.inl ne_o0_aM)
      have Z38 : n0 ≤ h38.size := Own.size_wr W38 Z34
      have K38 : Keep h0 h38 [aI, aM, aE] := K34.wr W38 (Or.inl (List.mem_of_getElem? (i := 1) rfl))
      have q39 : Steps p.tables e below (T0.setTop (mkF m 152 #[.val (.ref o0), .val (.ref o1), .val (.int p2), .val (.int nn), .val (.int z4), .val (.int i), s6] [])) (T38.setTop (mkF m 200 #[.val (.ref o0), .val (.ref o1), .val (.int p2), .val (.int nn), .val (.int z4), .val (.int i), .val (.int v9)] [])) := q36.trans (st38 _ (Steps.refl _))
      have q40 : Steps p.tables e below (T0.setTop (mkF m 152 #[.val (.ref o0), .val (.ref o1), .val (.int p2), .val (.int nn), .val (.int z4), .val (.int i), s6] [])) (T38.setTop (mkF m 152 #[.val (.ref o0), .val (.ref o1), .val (.int p2), .val (.int nn), .val (.int z4), .val (.int (i + (1 : Int32))), .val (.int v9)] [])) := q39.trans (by
          show Steps p.tables e below (T38.setTop (mkF m 200 #[.val (.ref o0), .val (.ref o1), .val (.int p2), .val (.int nn), .val (.int z4), .val (.int i), .val (.int v9)] [])) _
          refine XS.iinc X38.here hx rfl (hb hby d2_200) rfl (l' := #[.val (.ref o0), .val (.ref o1), .val (.int p2), .val (.int nn), .val (.int z4), .val (.int (i + (1 : Int32))), .val (.int v9)]) rfl ?_
          show Steps p.tables e below (T38.setTop (mkF m 203 #[.val (.ref o0), .val (.ref o1), .val (.int p2), .val (.int nn), .val (.int z4), .val (.int (i + (1 : Int32))), .val (.int v9)] [])) _
          refine XS.goto X38.here hx rfl (pc0 := 203) (pc' := 152) rfl (hb hby d2_203) (by decide) (by decide) ?_
          show Steps p.tables e below (T38.setTop (mkF m 152 #[.val (.ref o0), .val (.ref o1), .val (.int p2), .val (.int nn), .val (.int z4), .val (.int (i + (1 : Int32))), .val (.int v9)] [])) _
          exact Steps.refl _)
      obtain ⟨T', locs', h', u0, X', e', N', Z', K', o0_, J0', J1', J2', q'⟩ := ih (i + (1 : Int32)) y20 y37 y33 (.val (.int v9)) _ hM X38 e38 N38 Z38 (One.val rfl) Xo0_38 Fo0_members_38 Fo0_memberIndex_38 Fo0_blockOf_38 Fo0_start_38 Fo0_end_38 Fo0_splitFrom_38 Fo0_markedCount_38 Fo0_markedBlocks_38 Fo0_count_38 Fo0_markedBlockCount_38 J38 IaI_38 IaB_38 IaS_38 IaE_38 IaF_38 IaC_38 IaK_38
      exact ⟨T', locs', h', u0, X', e', N', Z', K38.trans K' (fun _ hx' => Or.inl hx'), o0_, J0', J1', J2', q40.trans q'⟩
    · rw [if_neg hc3] at hM
      have q41 : Steps p.tables e below (T0.setTop (mkF m 152 #[.val (.ref o0), .val (.ref o1), .val (.int p2), .val (.int nn), .val (.int z4), .val (.int i), s6] [])) (T0.setTop (mkF m 206 #[.val (.ref o0), .val (.ref o1), .val (.int p2), .val (.int nn), .val (.int z4), .val (.int i), s6] [])) := q1.trans (by
          show Steps p.tables e below (T0.setTop (mkF m 155 #[.val (.ref o0), .val (.ref o1), .val (.int p2), .val (.int nn), .val (.int z4), .val (.int i), s6] [(.int nn), (.int i)])) _
          refine XS.icmpYes X0.here hx rfl (pc0 := 155) (pc' := 206) rfl (hb hby d2_155) rfl (flt hc3).2.1 (by decide) (by decide) ?_
          show Steps p.tables e below (T0.setTop (mkF m 206 #[.val (.ref o0), .val (.ref o1), .val (.int p2), .val (.int nn), .val (.int z4), .val (.int i), s6] [])) _
          exact Steps.refl _)
      obtain rfl := Option.some.inj hM
      exact ⟨_, _, _, s6, X0, e0, N0, Z0, K0, os_s6, I_aI, I_aM, I_aE, q41⟩

theorem d2_0 : decode prog_1_method_1_code 0 = .ok (.aload_n 0, 1) := by decide +kernel
theorem d2_1 : decode prog_1_method_1_code 1 = .ok (.invokespecial 1, 3) := by decide +kernel
theorem d2_4 : decode prog_1_method_1_code 4 = .ok (.aload_n 1, 1) := by decide +kernel
theorem d2_5 : decode prog_1_method_1_code 5 = .ok (.arraylength, 1) := by decide +kernel
theorem d2_6 : decode prog_1_method_1_code 6 = .ok (.istore_n 3, 1) := by decide +kernel
theorem d2_7 : decode prog_1_method_1_code 7 = .ok (.aload_n 0, 1) := by decide +kernel
theorem d2_8 : decode prog_1_method_1_code 8 = .ok (.iload_n 3, 1) := by decide +kernel
theorem d2_9 : decode prog_1_method_1_code 9 = .ok (.newarray .int, 2) := by decide +kernel
theorem d2_11 : decode prog_1_method_1_code 11 = .ok (.putfield 7, 3) := by decide +kernel
theorem d2_14 : decode prog_1_method_1_code 14 = .ok (.aload_n 0, 1) := by decide +kernel
theorem d2_15 : decode prog_1_method_1_code 15 = .ok (.iload_n 3, 1) := by decide +kernel
theorem d2_16 : decode prog_1_method_1_code 16 = .ok (.newarray .int, 2) := by decide +kernel
theorem d2_18 : decode prog_1_method_1_code 18 = .ok (.putfield 13, 3) := by decide +kernel
theorem d2_21 : decode prog_1_method_1_code 21 = .ok (.aload_n 0, 1) := by decide +kernel
theorem d2_22 : decode prog_1_method_1_code 22 = .ok (.aload_n 1, 1) := by decide +kernel
theorem d2_23 : decode prog_1_method_1_code 23 = .ok (.iload_n 3, 1) := by decide +kernel
theorem d2_24 : decode prog_1_method_1_code 24 = .ok (.invokestatic 16, 3) := by decide +kernel
theorem d2_27 : decode prog_1_method_1_code 27 = .ok (.putfield 22, 3) := by decide +kernel
theorem d2_30 : decode prog_1_method_1_code 30 = .ok (.aload_n 0, 1) := by decide +kernel
theorem d2_31 : decode prog_1_method_1_code 31 = .ok (.iload_n 3, 1) := by decide +kernel
theorem d2_32 : decode prog_1_method_1_code 32 = .ok (.newarray .int, 2) := by decide +kernel
theorem d2_34 : decode prog_1_method_1_code 34 = .ok (.putfield 25, 3) := by decide +kernel
theorem d2_37 : decode prog_1_method_1_code 37 = .ok (.aload_n 0, 1) := by decide +kernel
theorem d2_38 : decode prog_1_method_1_code 38 = .ok (.iload_n 3, 1) := by decide +kernel
theorem d2_39 : decode prog_1_method_1_code 39 = .ok (.newarray .int, 2) := by decide +kernel
theorem d2_41 : decode prog_1_method_1_code 41 = .ok (.putfield 28, 3) := by decide +kernel
theorem d2_44 : decode prog_1_method_1_code 44 = .ok (.aload_n 0, 1) := by decide +kernel
theorem d2_45 : decode prog_1_method_1_code 45 = .ok (.iload_n 3, 1) := by decide +kernel
theorem d2_46 : decode prog_1_method_1_code 46 = .ok (.newarray .int, 2) := by decide +kernel
theorem d2_48 : decode prog_1_method_1_code 48 = .ok (.putfield 31, 3) := by decide +kernel
theorem d2_51 : decode prog_1_method_1_code 51 = .ok (.aload_n 0, 1) := by decide +kernel
theorem d2_52 : decode prog_1_method_1_code 52 = .ok (.iload_n 3, 1) := by decide +kernel
theorem d2_53 : decode prog_1_method_1_code 53 = .ok (.newarray .int, 2) := by decide +kernel
theorem d2_55 : decode prog_1_method_1_code 55 = .ok (.putfield 34, 3) := by decide +kernel
theorem d2_58 : decode prog_1_method_1_code 58 = .ok (.aload_n 0, 1) := by decide +kernel
theorem d2_59 : decode prog_1_method_1_code 59 = .ok (.iload_n 3, 1) := by decide +kernel
theorem d2_60 : decode prog_1_method_1_code 60 = .ok (.newarray .int, 2) := by decide +kernel
theorem d2_62 : decode prog_1_method_1_code 62 = .ok (.putfield 37, 3) := by decide +kernel
theorem d2_65 : decode prog_1_method_1_code 65 = .ok (.iconst 0, 1) := by decide +kernel
theorem d2_66 : decode prog_1_method_1_code 66 = .ok (.istore 4, 2) := by decide +kernel
theorem d2_96 : decode prog_1_method_1_code 96 = .ok (.iconst 0, 1) := by decide +kernel
theorem d2_97 : decode prog_1_method_1_code 97 = .ok (.istore 4, 2) := by decide +kernel
theorem d2_99 : decode prog_1_method_1_code 99 = .ok (.iconst 0, 1) := by decide +kernel
theorem d2_100 : decode prog_1_method_1_code 100 = .ok (.istore 5, 2) := by decide +kernel
theorem d2_149 : decode prog_1_method_1_code 149 = .ok (.iconst 0, 1) := by decide +kernel
theorem d2_150 : decode prog_1_method_1_code 150 = .ok (.istore 5, 2) := by decide +kernel
theorem d2_206 : decode prog_1_method_1_code 206 = .ok (.aload_n 0, 1) := by decide +kernel
theorem d2_207 : decode prog_1_method_1_code 207 = .ok (.iload_n 2, 1) := by decide +kernel
theorem d2_208 : decode prog_1_method_1_code 208 = .ok (.putfield 40, 3) := by decide +kernel
theorem d2_211 : decode prog_1_method_1_code 211 = .ok (.return_, 1) := by decide +kernel
theorem pd_0 : parseMethodDescriptor "([II)[I" = some ⟨[(.array .int), .int], some (.array .int)⟩ := by decide +kernel
theorem pn_rmC : plainName "com/example/libpathsum/libpathsum/Blocks" = true := by first | (simp [plainName, overriddenIn]; done) | decide +kernel
theorem ef_rmC (m : MethodId) (o0 : Addr) (o1 : Addr) (p2 : Int32) : entryFrame m #[(.ref o0), (.ref o1), (.int p2)] 7 = mkF m 0 #[.val (.ref o0), .val (.ref o1), .val (.int p2), .unset, .unset, .unset, .unset] [] := by first | (simp [entryFrame, mkF, argsToLocals, Value.category]; done) | rfl
def M_new (p2 : Int32) (xc : List Int32) : Option (List Int32 × List Int32 × List Int32 × List Int32 × List Int32 × List Int32 × List Int32 × List Int32) := (Own.mk 4 (Own.ln xc)).bind fun y5 => (Own.mk 4 (Own.ln xc)).bind fun y11 => (M_copy (Own.ln xc) xc).bind fun r17 => (Own.mk 4 (Own.ln xc)).bind fun y23 => (Own.mk 4 (Own.ln xc)).bind fun y29 => (Own.mk 4 (Own.ln xc)).bind fun y35 => (Own.mk 4 (Own.ln xc)).bind fun y41 => (Own.mk 4 (Own.ln xc)).bind fun y47 => (M_lpC1 8 (Own.ln xc) r17 (0 : Int32) y29).bind fun r53 => (M_lpC2 8 p2 (0 : Int32) (0 : Int32) y23 r53.2).bind fun r57 => (M_lpC3 8 (Own.ln xc) r17 (0 : Int32) y11 y5 r57.2.2.2).bind fun r61 => some (r61.2.2.1, r61.2.1, r17, r57.2.2.1, r61.2.2.2, y35, y41, y47)
def Q_rmC (Z : State) (o0 : Addr) (o1 : Addr) (p2 : Int32) (xc : List Int32) (out : List Int32 × List Int32 × List Int32 × List Int32 × List Int32 × List Int32 × List Int32 × List Int32) (h0 : Heap) (n0 : Nat) (v : Option Value) (h : Heap) (L : List Loc) : Prop := ∃ aM aI aB aS aE aF aC aK : Addr, v = none ∧ Fr n0 L ∧ Keep h0 h [o0] ∧ Exa Z h o0 "com/example/libpathsum/libpathsum/Blocks" ∧ Fld Z h o0 "com/example/libpathsum/libpathsum/Blocks" "members" "[I" (.ref aM) ∧ Fld Z h o0 "com/example/libpathsum/libpathsum/Blocks" "memberIndex" "[I" (.ref aI) ∧ Fld Z h o0 "com/example/libpathsum/libpathsum/Blocks" "blockOf" "[I" (.ref aB) ∧ Fld Z h o0 "com/example/libpathsum/libpathsum/Blocks" "start" "[I" (.ref aS) ∧ Fld Z h o0 "com/example/libpathsum/libpathsum/Blocks" "end" "[I" (.ref aE) ∧ Fld Z h o0 "com/example/libpathsum/libpathsum/Blocks" "splitFrom" "[I" (.ref aF) ∧ Fld Z h o0 "com/example/libpathsum/libpathsum/Blocks" "markedCount" "[I" (.ref aC) ∧ Fld Z h o0 "com/example/libpathsum/libpathsum/Blocks" "markedBlocks" "[I" (.ref aK) ∧ Fld Z h o0 "com/example/libpathsum/libpathsum/Blocks" "count" "I" (.int p2) ∧ Fld Z h o0 "com/example/libpathsum/libpathsum/Blocks" "markedBlockCount" "I" (.int (0 : Int32)) ∧ Own.IA Z h aM out.1 ∧ Own.IA Z h aI out.2.1 ∧ Own.IA Z h aB out.2.2.1 ∧ Own.IA Z h aS out.2.2.2.1 ∧ Own.IA Z h aE out.2.2.2.2.1 ∧ Own.IA Z h aF out.2.2.2.2.2.1 ∧ Own.IA Z h aC out.2.2.2.2.2.2.1 ∧ Own.IA Z h aK out.2.2.2.2.2.2.2 ∧ h0.size ≤ aM ∧ h0.size ≤ aI ∧ h0.size ≤ aB ∧ h0.size ≤ aS ∧ h0.size ≤ aE ∧ h0.size ≤ aF ∧ h0.size ≤ aC ∧ h0.size ≤ aK ∧ aM ≠ aI ∧ aM ≠ aB ∧ aM ≠ aS ∧ aM ≠ aE ∧ aM ≠ aF ∧ aM ≠ aC ∧ aM ≠ aK ∧ aI ≠ aB ∧ aI ≠ aS ∧ aI ≠ aE ∧ aI ≠ aF ∧ aI ≠ aC ∧ aI ≠ aK ∧ aB ≠ aS ∧ aB ≠ aE ∧ aB ≠ aF ∧ aB ≠ aC ∧ aB ≠ aK ∧ aS ≠ aE ∧ aS ≠ aF ∧ aS ≠ aC ∧ aS ≠ aK ∧ aE ≠ aF ∧ aE ≠ aC ∧ aE ≠ aK ∧ aF ≠ aC ∧ aF ≠ aK ∧ aC ≠ aK
set_option maxRecDepth 65536 in
set_option maxHeartbeats 40000000 in
theorem rmC (l : Launch) (Z : State) (a0 : Array Value) (hw : ∀ d ∈ tables_1, d.before a0 Z = true) (ws : List Jvm.Cond) (o0 : Addr) (o1 : Addr) (p2 : Int32) (xc : List Int32) (out : List Int32 × List Int32 × List Int32 × List Int32 × List Int32 × List Int32 × List Int32 × List Int32) (h0 : Heap) (n0 : Nat) (Z0 : n0 ≤ h0.size) (F_o0_members : Fld Z h0 o0 "com/example/libpathsum/libpathsum/Blocks" "members" "[I" .null) (F_o0_memberIndex : Fld Z h0 o0 "com/example/libpathsum/libpathsum/Blocks" "memberIndex" "[I" .null) (F_o0_blockOf : Fld Z h0 o0 "com/example/libpathsum/libpathsum/Blocks" "blockOf" "[I" .null) (F_o0_start : Fld Z h0 o0 "com/example/libpathsum/libpathsum/Blocks" "start" "[I" .null) (F_o0_end : Fld Z h0 o0 "com/example/libpathsum/libpathsum/Blocks" "end" "[I" .null) (F_o0_splitFrom : Fld Z h0 o0 "com/example/libpathsum/libpathsum/Blocks" "splitFrom" "[I" .null) (F_o0_markedCount : Fld Z h0 o0 "com/example/libpathsum/libpathsum/Blocks" "markedCount" "[I" .null) (F_o0_markedBlocks : Fld Z h0 o0 "com/example/libpathsum/libpathsum/Blocks" "markedBlocks" "[I" .null) (F_o0_count : Fld Z h0 o0 "com/example/libpathsum/libpathsum/Blocks" "count" "I" (.int (0 : Int32))) (F_o0_markedBlockCount : Fld Z h0 o0 "com/example/libpathsum/libpathsum/Blocks" "markedBlockCount" "I" (.int (0 : Int32))) (E_o0 : Exa Z h0 o0 "com/example/libpathsum/libpathsum/Blocks") (ge_o0 : n0 ≤ o0) (I_o1 : Own.IA Z h0 o1 xc) (E_o1 : Exa Z h0 o1 "[I") (ne_o0_o1 : o0 ≠ o1) (hM : M_new p2 xc = some out) :
    MetFree l (⟨"com/example/libpathsum/libpathsum/Blocks", "<init>", "([II)V"⟩ : MethodName) (head1 (Jvm.Cond.code (⟨"com/example/libpathsum/libpathsum/Blocks", "<init>", "([II)V"⟩ : MethodName) prog_1_method_1_code 7 none :: ws) ({ frames := 2, cells := 8, slots := 32, locals := 30 } : Room)) (fun a U => a = #[(.ref o0), (.ref o1), (.int p2)] ∧ Z.Warmed39 U.vm ∧ U.heap = h0) (fun _ _ _ _ _ => True) (fun _ U o U' => ∃ v L, o = .returned v ∧ Q_rmC Z o0 o1 p2 xc out h0 n0 v U'.heap L ∧ FrameEnd U o U' L ({ frames := 2, cells := 8, slots := 32, locals := 30 } : Room).cells ({ frames := 2, cells := 8, slots := 32, locals := 30 } : Room).slots) := by
  refine MetFree.of_bodySF (plainFor_of_name pn_rmC) hisR ?_
  intro p e s m args below meth c s₁ Bd hml0 hP hK
  obtain ⟨rfl, hZ, hh⟩ := hP
  have hx := Bd.exec
  have hby := Bd.bytes
  have hml : c.maxLocals = 7 := hml0
  have hown : s.vm.findClass "com/example/libpathsum/libpathsum/Blocks" = some m.cls := findClass_of_methodNamed Bd.named
  have hnm := (name_of_methodNamed Bd.named Bd.method).1
  have X0 : Stand p l e ({ frames := 2, cells := 8, slots := 32, locals := 30 } : Room) s m #[(.ref o0), (.ref o1), (.int p2)] below meth c s₁ [] 0 0 := Stand.of_body Bd
  have e0 : s₁.heap = h0 := by rw [← hh, Bd.state]; rfl
  have N0 := Fr.nil n0
  have q0 : Steps p.tables e below (s₁.setTop (entryFrame m #[(.ref o0), (.ref o1), (.int p2)] 7)) (s₁.setTop (mkF m 0 #[.val (.ref o0), .val (.ref o1), .val (.int p2), .unset, .unset, .unset, .unset] [])) := castTop (ef_rmC m o0 o1 p2) (Steps.refl _)
  unfold M_new at hM
  have K0 : Keep h0 h0 [o0] := Keep.refl _ _
  have q1 : Steps p.tables e below (s₁.setTop (entryFrame m #[(.ref o0), (.ref o1), (.int p2)] 7)) (s₁.setTop (mkF m 1 #[.val (.ref o0), .val (.ref o1), .val (.int p2), .unset, .unset, .unset, .unset] [(.ref o0)])) := q0.trans (by
      show Steps p.tables e below (s₁.setTop (mkF m 0 #[.val (.ref o0), .val (.ref o1), .val (.int p2), .unset, .unset, .unset, .unset] [])) _
      refine XS.aloadN X0.here hx rfl (hb hby d2_0) rfl rfl ?_
      show Steps p.tables e below (s₁.setTop (mkF m 1 #[.val (.ref o0), .val (.ref o1), .val (.int p2), .unset, .unset, .unset, .unset] [(.ref o0)])) _
      exact Steps.refl _)
  obtain ⟨T2, X2, e2, st2⟩ := initO X0 hx hZ hown (hw _ (List.mem_of_getElem? (i := 11) rfl)) (hw _ (List.mem_of_getElem? (i := 12) rfl)) (hw _ (List.mem_of_getElem? (i := 13) rfl)) e0 (g := (mkF m 1 #[.val (.ref o0), .val (.ref o1), .val (.int p2), .unset, .unset, .unset, .unset] [(.ref o0)])) rfl (by rw [hml]; rfl) rfl (hb hby d2_1) (by decide) (W := 0) (by show 2 * 0 + _ ≤ _; exact Nat.le_of_eq rfl) (by decide)
  have q3 : Steps p.tables e below (s₁.setTop (entryFrame m #[(.ref o0), (.ref o1), (.int p2)] 7)) (T2.setTop (mkF m 4 #[.val (.ref o0), .val (.ref o1), .val (.int p2), .unset, .unset, .unset, .unset] [])) := q1.trans (st2 _ (Steps.refl _))
  have q4 : Steps p.tables e below (s₁.setTop (entryFrame m #[(.ref o0), (.ref o1), (.int p2)] 7)) (T2.setTop (mkF m 9 #[.val (.ref o0), .val (.ref o1), .val (.int p2), .val (.int (Own.ln xc)), .unset, .unset, .unset] [(.int (Own.ln xc)), (.ref o0)])) := q3.trans (by
      show Steps p.tables e below (T2.setTop (mkF m 4 #[.val (.ref o0), .val (.ref o1), .val (.int p2), .unset, .unset, .unset, .unset] [])) _
      refine XS.aloadN X2.here hx rfl (hb hby d2_4) rfl rfl ?_
      show Steps p.tables e below (T2.setTop (mkF m 5 #[.val (.ref o0), .val (.ref o1), .val (.int p2), .unset, .unset, .unset, .unset] [(.ref o1)])) _
      refine Own.lnV X2 hx hZ e2 I_o1 (z := Own.ln xc) (by rw [List.length_map]; rfl) (g := (mkF m 5 #[.val (.ref o0), .val (.ref o1), .val (.int p2), .unset, .unset, .unset, .unset] [(.ref o1)])) rfl rfl (hb hby d2_5) _ ?_
      show Steps p.tables e below (T2.setTop (mkF m 6 #[.val (.ref o0), .val (.ref o1), .val (.int p2), .unset, .unset, .unset, .unset] [(.int (Own.ln xc))])) _
      refine XS.istoreN X2.here hx rfl (hb hby d2_6) rfl (l' := #[.val (.ref o0), .val (.ref o1), .val (.int p2), .val (.int (Own.ln xc)), .unset, .unset, .unset]) rfl ?_
      show Steps p.tables e below (T2.setTop (mkF m 7 #[.val (.ref o0), .val (.ref o1), .val (.int p2), .val (.int (Own.ln xc)), .unset, .unset, .unset] [])) _
      refine XS.aloadN X2.here hx rfl (hb hby d2_7) rfl rfl ?_
      show Steps p.tables e below (T2.setTop (mkF m 8 #[.val (.ref o0), .val (.ref o1), .val (.int p2), .val (.int (Own.ln xc)), .unset, .unset, .unset] [(.ref o0)])) _
      refine XS.iloadN X2.here hx rfl (hb hby d2_8) rfl ?_
      show Steps p.tables e below (T2.setTop (mkF m 9 #[.val (.ref o0), .val (.ref o1), .val (.int p2), .val (.int (Own.ln xc)), .unset, .unset, .unset] [(.int (Own.ln xc)), (.ref o0)])) _
      exact Steps.refl _)
  obtain ⟨y5, hy5, hM⟩ := Option.bind_eq_some_iff.mp hM
  obtain ⟨T6, h6, k6, X6, e6, E6, A6, AE6, st6⟩ := newPE X2 hx hZ (hw _ (List.mem_of_getElem? (i := 0) rfl)) e2 (g := (mkF m 9 #[.val (.ref o0), .val (.ref o1), .val (.int p2), .val (.int (Own.ln xc)), .unset, .unset, .unset] [(.int (Own.ln xc)), (.ref o0)])) rfl (hb hby d2_9) rfl (Own.mk_some hy5).1 (cap := 4) (Own.mk_some hy5).2.1 (by decide) (by decide) (by decide) (ad := "[I") (by decide)
  obtain ⟨aM, g6⟩ : ∃ z, z = h0.size := ⟨_, rfl⟩
  rw [← g6] at A6 AE6 st6
  have ge_aM : n0 ≤ aM := Nat.le_trans Z0 (Nat.le_of_eq g6.symm)
  have ne_o1_aM : o1 ≠ aM := Nat.ne_of_lt (Nat.lt_of_lt_of_le I_o1.lt (Nat.le_of_eq g6.symm))
  have ne_o0_aM : o0 ≠ aM := Nat.ne_of_lt (Nat.lt_of_lt_of_le E_o0.lt (Nat.le_of_eq g6.symm))
  have old_aM : h0.size ≤ aM := Nat.le_trans K0.1 (Nat.le_of_eq g6.symm)
  have Io1_6 := I_o1.ext E6
  have Xo0_6 := E_o0.ext E6
  have Fo0_members_6 := F_o0_members.ext E6
  have Fo0_memberIndex_6 := F_o0_memberIndex.ext E6
  have Fo0_blockOf_6 := F_o0_blockOf.ext E6
  have Fo0_start_6 := F_o0_start.ext E6
  have Fo0_end_6 := F_o0_end.ext E6
  have Fo0_splitFrom_6 := F_o0_splitFrom.ext E6
  have Fo0_markedCount_6 := F_o0_markedCount.ext E6
  have Fo0_markedBlocks_6 := F_o0_markedBlocks.ext E6
  have Fo0_count_6 := F_o0_count.ext E6
  have Fo0_markedBlockCount_6 := F_o0_markedBlockCount.ext E6
  have Xo1_6 := E_o1.ext E6
  have Z6 : n0 ≤ h6.size := Nat.le_trans Z0 E6.1
  have K6 : Keep h0 h6 [o0] := K0.ext E6
  have I_aM : Own.IA Z h6 aM y5 := (Own.mk_some hy5).2.2 ▸ Own.IA.new A6 rfl
  have q7 : Steps p.tables e below (s₁.setTop (entryFrame m #[(.ref o0), (.ref o1), (.int p2)] 7)) (T6.setTop (mkF m 11 #[.val (.ref o0), .val (.ref o1), .val (.int p2), .val (.int (Own.ln xc)), .unset, .unset, .unset] [(.ref aM), (.ref o0)])) := q4.trans (st6 _ (Steps.refl _))
  obtain ⟨T8, h8, X8, e8, W8, st8⟩ := putF X6 hx hZ hown (host := "") (Or.inl (hw _ (List.mem_of_getElem? (i := 14) rfl))) Via.refl e6 Fo0_members_6 Xo0_6 (Or.inr ⟨(hw _ (List.mem_of_getElem? (i := 15) rfl)), rfl, hnm⟩) (hw _ (List.mem_of_getElem? (i := 6) rfl)) (ty := (.array .int)) (by decide) rfl rfl (g := (mkF m 11 #[.val (.ref o0), .val (.ref o1), .val (.int p2), .val (.int (Own.ln xc)), .unset, .unset, .unset] [(.ref aM), (.ref o0)])) rfl rfl (hb hby d2_11)
  have N8 := Fr.snoc X8 N0 ge_o0
  have Io1_8 := Io1_6.other W8 (Ne.symm ne_o0_o1)
  have IaM_8 := I_aM.other W8 (Ne.symm ne_o0_aM)
  have Xo0_8 := Xo0_6.wr W8
  have Fo0_memberIndex_8 := Fo0_memberIndex_6.other W8 (Or.inr (slot_ne (Or.inr (hw _ (List.mem_of_getElem? (i := 17) rfl))) (Or.inr (hw _ (List.mem_of_getElem? (i := 15) rfl))) (by decide) (t := (.array .int)) (t' := (.array .int)) (by decide) (by decide)))
  have Fo0_blockOf_8 := Fo0_blockOf_6.other W8 (Or.inr (slot_ne (Or.inr (hw _ (List.mem_of_getElem? (i := 32) rfl))) (Or.inr (hw _ (List.mem_of_getElem? (i := 15) rfl))) (by decide) (t := (.array .int)) (t' := (.array .int)) (by decide) (by decide)))
  have Fo0_start_8 := Fo0_start_6.other W8 (Or.inr (slot_ne (Or.inr (hw _ (List.mem_of_getElem? (i := 34) rfl))) (Or.inr (hw _ (List.mem_of_getElem? (i := 15) rfl))) (by decide) (t := (.array .int)) (t' := (.array .int)) (by decide) (by decide)))
  have Fo0_end_8 := Fo0_end_6.other W8 (Or.inr (slot_ne (Or.inr (hw _ (List.mem_of_getElem? (i := 36) rfl))) (Or.inr (hw _ (List.mem_of_getElem? (i := 15) rfl))) (by decide) (t := (.array .int)) (t' := (.array .int)) (by decide) (by decide)))
  have Fo0_splitFrom_8 := Fo0_splitFrom_6.other W8 (Or.inr (slot_ne (Or.inr (hw _ (List.mem_of_getElem? (i := 38) rfl))) (Or.inr (hw _ (List.mem_of_getElem? (i := 15) rfl))) (by decide) (t := (.array .int)) (t' := (.array .int)) (by decide) (by decide)))
  have Fo0_markedCount_8 := Fo0_markedCount_6.other W8 (Or.inr (slot_ne (Or.inr (hw _ (List.mem_of_getElem? (i := 40) rfl))) (Or.inr (hw _ (List.mem_of_getElem? (i := 15) rfl))) (by decide) (t := (.array .int)) (t' := (.array .int)) (by decide) (by decide)))
  have Fo0_markedBlocks_8 := Fo0_markedBlocks_6.other W8 (Or.inr (slot_ne (Or.inr (hw _ (List.mem_of_getElem? (i := 42) rfl))) (Or.inr (hw _ (List.mem_of_getElem? (i := 15) rfl))) (by decide) (t := (.array .int)) (t' := (.array .int)) (by decide) (by decide)))
  have Fo0_count_8 := Fo0_count_6.other W8 (Or.inr (slot_ne (Or.inl (hw _ (List.mem_of_getElem? (i := 44) rfl))) (Or.inr (hw _ (List.mem_of_getElem? (i := 15) rfl))) (by decide) (t := .int) (t' := (.array .int)) (by decide) (by decide)))
  have Fo0_markedBlockCount_8 := Fo0_markedBlockCount_6.other W8 (Or.inr (slot_ne (Or.inl (hw _ (List.mem_of_getElem? (i := 57) rfl))) (Or.inr (hw _ (List.mem_of_getElem? (i := 15) rfl))) (by decide) (t := .int) (t' := (.array .int)) (by decide) (by decide)))
  have Xo1_8 := Xo1_6.wr W8
  have Z8 : n0 ≤ h8.size := Own.size_wr W8 Z6
  have K8 : Keep h0 h8 [o0] := K6.wr W8 (Or.inl (List.mem_of_getElem? (i := 0) rfl))
  have Fo0_members_8 := Fo0_members_6.same W8
  have q9 : Steps p.tables e below (s₁.setTop (entryFrame m #[(.ref o0), (.ref o1), (.int p2)] 7)) (T8.setTop (mkF m 14 #[.val (.ref o0), .val (.ref o1), .val (.int p2), .val (.int (Own.ln xc)), .unset, .unset, .unset] [])) := q7.trans (st8 _ (Steps.refl _))
  have q10 : Steps p.tables e below (s₁.setTop (entryFrame m #[(.ref o0), (.ref o1), (.int p2)] 7)) (T8.setTop (mkF m 16 #[.val (.ref o0), .val (.ref o1), .val (.int p2), .val (.int (Own.ln xc)), .unset, .unset, .unset] [(.int (Own.ln xc)), (.ref o0)])) := q9.trans (by
      show Steps p.tables e below (T8.setTop (mkF m 14 #[.val (.ref o0), .val (.ref o1), .val (.int p2), .val (.int (Own.ln xc)), .unset, .unset, .unset] [])) _
      refine XS.aloadN X8.here hx rfl (hb hby d2_14) rfl rfl ?_
      show Steps p.tables e below (T8.setTop (mkF m 15 #[.val (.ref o0), .val (.ref o1), .val (.int p2), .val (.int (Own.ln xc)), .unset, .unset, .unset] [(.ref o0)])) _
      refine XS.iloadN X8.here hx rfl (hb hby d2_15) rfl ?_
      show Steps p.tables e below (T8.setTop (mkF m 16 #[.val (.ref o0), .val (.ref o1), .val (.int p2), .val (.int (Own.ln xc)), .unset, .unset, .unset] [(.int (Own.ln xc)), (.ref o0)])) _
      exact Steps.refl _)
  obtain ⟨y11, hy11, hM⟩ := Option.bind_eq_some_iff.mp hM
  obtain ⟨T12, h12, k12, X12, e12, E12, A12, AE12, st12⟩ := newPE X8 hx hZ (hw _ (List.mem_of_getElem? (i := 0) rfl)) e8 (g := (mkF m 16 #[.val (.ref o0), .val (.ref o1), .val (.int p2), .val (.int (Own.ln xc)), .unset, .unset, .unset] [(.int (Own.ln xc)), (.ref o0)])) rfl (hb hby d2_16) rfl (Own.mk_some hy11).1 (cap := 4) (Own.mk_some hy11).2.1 (by decide) (by decide) (by decide) (ad := "[I") (by decide)
  obtain ⟨aI, g12⟩ : ∃ z, z = h8.size := ⟨_, rfl⟩
  rw [← g12] at A12 AE12 st12
  have ge_aI : n0 ≤ aI := Nat.le_trans Z8 (Nat.le_of_eq g12.symm)
  have ne_o1_aI : o1 ≠ aI := Nat.ne_of_lt (Nat.lt_of_lt_of_le Io1_8.lt (Nat.le_of_eq g12.symm))
  have ne_aM_aI : aM ≠ aI := Nat.ne_of_lt (Nat.lt_of_lt_of_le IaM_8.lt (Nat.le_of_eq g12.symm))
  have ne_o0_aI : o0 ≠ aI := Nat.ne_of_lt (Nat.lt_of_lt_of_le Xo0_8.lt (Nat.le_of_eq g12.symm))
  have old_aI : h0.size ≤ aI := Nat.le_trans K8.1 (Nat.le_of_eq g12.symm)
  have Io1_12 := Io1_8.ext E12
  have IaM_12 := IaM_8.ext E12
  have Xo0_12 := Xo0_8.ext E12
  have Fo0_members_12 := Fo0_members_8.ext E12
  have Fo0_memberIndex_12 := Fo0_memberIndex_8.ext E12
  have Fo0_blockOf_12 := Fo0_blockOf_8.ext E12
  have Fo0_start_12 := Fo0_start_8.ext E12
  have Fo0_end_12 := Fo0_end_8.ext E12
  have Fo0_splitFrom_12 := Fo0_splitFrom_8.ext E12
  have Fo0_markedCount_12 := Fo0_markedCount_8.ext E12
  have Fo0_markedBlocks_12 := Fo0_markedBlocks_8.ext E12
  have Fo0_count_12 := Fo0_count_8.ext E12
  have Fo0_markedBlockCount_12 := Fo0_markedBlockCount_8.ext E12
  have Xo1_12 := Xo1_8.ext E12
  have Z12 : n0 ≤ h12.size := Nat.le_trans Z8 E12.1
  have K12 : Keep h0 h12 [o0] := K8.ext E12
  have I_aI : Own.IA Z h12 aI y11 := (Own.mk_some hy11).2.2 ▸ Own.IA.new A12 rfl
  have q13 : Steps p.tables e below (s₁.setTop (entryFrame m #[(.ref o0), (.ref o1), (.int p2)] 7)) (T12.setTop (mkF m 18 #[.val (.ref o0), .val (.ref o1), .val (.int p2), .val (.int (Own.ln xc)), .unset, .unset, .unset] [(.ref aI), (.ref o0)])) := q10.trans (st12 _ (Steps.refl _))
  obtain ⟨T14, h14, X14, e14, W14, st14⟩ := putF X12 hx hZ hown (host := "") (Or.inl (hw _ (List.mem_of_getElem? (i := 16) rfl))) Via.refl e12 Fo0_memberIndex_12 Xo0_12 (Or.inr ⟨(hw _ (List.mem_of_getElem? (i := 17) rfl)), rfl, hnm⟩) (hw _ (List.mem_of_getElem? (i := 6) rfl)) (ty := (.array .int)) (by decide) rfl rfl (g := (mkF m 18 #[.val (.ref o0), .val (.ref o1), .val (.int p2), .val (.int (Own.ln xc)), .unset, .unset, .unset] [(.ref aI), (.ref o0)])) rfl rfl (hb hby d2_18)
  have N14 := Fr.snoc X14 N8 ge_o0
  have Io1_14 := Io1_12.other W14 (Ne.symm ne_o0_o1)
  have IaM_14 := IaM_12.other W14 (Ne.symm ne_o0_aM)
  have IaI_14 := I_aI.other W14 (Ne.symm ne_o0_aI)
  have Xo0_14 := Xo0_12.wr W14
  have Fo0_members_14 := Fo0_members_12.other W14 (Or.inr (slot_ne (Or.inr (hw _ (List.mem_of_getElem? (i := 15) rfl))) (Or.inr (hw _ (List.mem_of_getElem? (i := 17) rfl))) (by decide) (t := (.array .int)) (t' := (.array .int)) (by decide) (by decide)))
  have Fo0_blockOf_14 := Fo0_blockOf_12.other W14 (Or.inr (slot_ne (Or.inr (hw _ (List.mem_of_getElem? (i := 32) rfl))) (Or.inr (hw _ (List.mem_of_getElem? (i := 17) rfl))) (by decide) (t := (.array .int)) (t' := (.array .int)) (by decide) (by decide)))
  have Fo0_start_14 := Fo0_start_12.other W14 (Or.inr (slot_ne (Or.inr (hw _ (List.mem_of_getElem? (i := 34) rfl))) (Or.inr (hw _ (List.mem_of_getElem? (i := 17) rfl))) (by decide) (t := (.array .int)) (t' := (.array .int)) (by decide) (by decide)))
  have Fo0_end_14 := Fo0_end_12.other W14 (Or.inr (slot_ne (Or.inr (hw _ (List.mem_of_getElem? (i := 36) rfl))) (Or.inr (hw _ (List.mem_of_getElem? (i := 17) rfl))) (by decide) (t := (.array .int)) (t' := (.array .int)) (by decide) (by decide)))
  have Fo0_splitFrom_14 := Fo0_splitFrom_12.other W14 (Or.inr (slot_ne (Or.inr (hw _ (List.mem_of_getElem? (i := 38) rfl))) (Or.inr (hw _ (List.mem_of_getElem? (i := 17) rfl))) (by decide) (t := (.array .int)) (t' := (.array .int)) (by decide) (by decide)))
  have Fo0_markedCount_14 := Fo0_markedCount_12.other W14 (Or.inr (slot_ne (Or.inr (hw _ (List.mem_of_getElem? (i := 40) rfl))) (Or.inr (hw _ (List.mem_of_getElem? (i := 17) rfl))) (by decide) (t := (.array .int)) (t' := (.array .int)) (by decide) (by decide)))
  have Fo0_markedBlocks_14 := Fo0_markedBlocks_12.other W14 (Or.inr (slot_ne (Or.inr (hw _ (List.mem_of_getElem? (i := 42) rfl))) (Or.inr (hw _ (List.mem_of_getElem? (i := 17) rfl))) (by decide) (t := (.array .int)) (t' := (.array .int)) (by decide) (by decide)))
  have Fo0_count_14 := Fo0_count_12.other W14 (Or.inr (slot_ne (Or.inl (hw _ (List.mem_of_getElem? (i := 44) rfl))) (Or.inr (hw _ (List.mem_of_getElem? (i := 17) rfl))) (by decide) (t := .int) (t' := (.array .int)) (by decide) (by decide)))
  have Fo0_markedBlockCount_14 := Fo0_markedBlockCount_12.other W14 (Or.inr (slot_ne (Or.inl (hw _ (List.mem_of_getElem? (i := 57) rfl))) (Or.inr (hw _ (List.mem_of_getElem? (i := 17) rfl))) (by decide) (t := .int) (t' := (.array .int)) (by decide) (by decide)))
  have Xo1_14 := Xo1_12.wr W14
  have Z14 : n0 ≤ h14.size := Own.size_wr W14 Z12
  have K14 : Keep h0 h14 [o0] := K12.wr W14 (Or.inl (List.mem_of_getElem? (i := 0) rfl))
  have Fo0_memberIndex_14 := Fo0_memberIndex_12.same W14
  have q15 : Steps p.tables e below (s₁.setTop (entryFrame m #[(.ref o0), (.ref o1), (.int p2)] 7)) (T14.setTop (mkF m 21 #[.val (.ref o0), .val (.ref o1), .val (.int p2), .val (.int (Own.ln xc)), .unset, .unset, .unset] [])) := q13.trans (st14 _ (Steps.refl _))
  have q16 : Steps p.tables e below (s₁.setTop (entryFrame m #[(.ref o0), (.ref o1), (.int p2)] 7)) (T14.setTop (mkF m 24 #[.val (.ref o0), .val (.ref o1), .val (.int p2), .val (.int (Own.ln xc)), .unset, .unset, .unset] [(.int (Own.ln xc)), (.ref o1), (.ref o0)])) := q15.trans (by
      show Steps p.tables e below (T14.setTop (mkF m 21 #[.val (.ref o0), .val (.ref o1), .val (.int p2), .val (.int (Own.ln xc)), .unset, .unset, .unset] [])) _
      refine XS.aloadN X14.here hx rfl (hb hby d2_21) rfl rfl ?_
      show Steps p.tables e below (T14.setTop (mkF m 22 #[.val (.ref o0), .val (.ref o1), .val (.int p2), .val (.int (Own.ln xc)), .unset, .unset, .unset] [(.ref o0)])) _
      refine XS.aloadN X14.here hx rfl (hb hby d2_22) rfl rfl ?_
      show Steps p.tables e below (T14.setTop (mkF m 23 #[.val (.ref o0), .val (.ref o1), .val (.int p2), .val (.int (Own.ln xc)), .unset, .unset, .unset] [(.ref o1), (.ref o0)])) _
      refine XS.iloadN X14.here hx rfl (hb hby d2_23) rfl ?_
      show Steps p.tables e below (T14.setTop (mkF m 24 #[.val (.ref o0), .val (.ref o1), .val (.int p2), .val (.int (Own.ln xc)), .unset, .unset, .unset] [(.int (Own.ln xc)), (.ref o1), (.ref o0)])) _
      exact Steps.refl _)
  obtain ⟨r17, hr17, hM⟩ := Option.bind_eq_some_iff.mp hM
  obtain ⟨_, _, ⟨T18, L18, k18, n18⟩, -, X18, ⟨Lc18, hQ18, l18, y18, z18⟩, st18⟩ := Jvm.LawKit.callS X14 hx (y := (⟨"java/util/Arrays", "copyOf", "([II)[I"⟩ : MethodName)) hown (mvT hZ (hw _ (List.mem_of_getElem? (i := 18) rfl))) (mvT hZ (hw _ (List.mem_of_getElem? (i := 19) rfl))) (mvT hZ (hw _ (List.mem_of_getElem? (i := 20) rfl))) (mvT hZ (hw _ (List.mem_of_getElem? (i := 21) rfl))) (by decide) (backOf (W := 1) (rmCp l Z a0 hw [] o1 (Own.ln xc) xc r17 h14 n0 Z14 Io1_14 Xo1_14 hr17) hZ (hw _ (List.mem_of_getElem? (i := 21) rfl)) (hw _ (List.mem_of_getElem? (i := 20) rfl)) (by decide) (by decide)) (g := (mkF m 24 #[.val (.ref o0), .val (.ref o1), .val (.int p2), .val (.int (Own.ln xc)), .unset, .unset, .unset] [(.int (Own.ln xc)), (.ref o1), (.ref o0)])) rfl (by rw [hml]; rfl) (argsL := [(.ref o1), (.int (Own.ln xc))]) (rest := [(.ref o0)]) (lenOf pd_0 rfl) rfl (by show 2 * 0 + _ ≤ _; exact Nat.le_of_eq rfl) (hb hby d2_24) (fun _ _ => ⟨rfl, e14, (by decide : 2 + 1 ≤ _), (by decide : 8 + 4 ≤ _)⟩)
  dsimp only [Pt.U, Pt.locs, Pt.cells, Pt.slots] at X18 l18 y18 z18 st18 hQ18
  subst l18 y18 z18
  obtain ⟨aB, rfl, N18q, K18, ob18, J18⟩ := hQ18
  have N18 := Fr.app N14 N18q
  have ge_aB : n0 ≤ aB := Nat.le_trans Z14 ob18
  have ne_o1_aB : o1 ≠ aB := Nat.ne_of_lt (Nat.lt_of_lt_of_le Io1_14.lt ob18)
  have ne_aM_aB : aM ≠ aB := Nat.ne_of_lt (Nat.lt_of_lt_of_le IaM_14.lt ob18)
  have ne_aI_aB : aI ≠ aB := Nat.ne_of_lt (Nat.lt_of_lt_of_le IaI_14.lt ob18)
  have ne_o0_aB : o0 ≠ aB := Nat.ne_of_lt (Nat.lt_of_lt_of_le Xo0_14.lt ob18)
  have old_aB : h0.size ≤ aB := Nat.le_trans K14.1 ob18
  have Io1_18 := Io1_14.keep K18 nin0
  have IaM_18 := IaM_14.keep K18 nin0
  have IaI_18 := IaI_14.keep K18 nin0
  have Xo0_18 := Xo0_14.keep K18
  have Fo0_members_18 := Fo0_members_14.keep K18 nin0
  have Fo0_memberIndex_18 := Fo0_memberIndex_14.keep K18 nin0
  have Fo0_blockOf_18 := Fo0_blockOf_14.keep K18 nin0
  have Fo0_start_18 := Fo0_start_14.keep K18 nin0
  have Fo0_end_18 := Fo0_end_14.keep K18 nin0
  have Fo0_splitFrom_18 := Fo0_splitFrom_14.keep K18 nin0
  have Fo0_markedCount_18 := Fo0_markedCount_14.keep K18 nin0
  have Fo0_markedBlocks_18 := Fo0_markedBlocks_14.keep K18 nin0
  have Fo0_count_18 := Fo0_count_14.keep K18 nin0
  have Fo0_markedBlockCount_18 := Fo0_markedBlockCount_14.keep K18 nin0
  have Xo1_18 := Xo1_14.keep K18
  have Z18 : n0 ≤ T18.heap.size := Nat.le_trans Z14 K18.1
  have KK18 : Keep h0 T18.heap [o0] := K14.trans K18 all0
  have q19 : Steps p.tables e below (s₁.setTop (entryFrame m #[(.ref o0), (.ref o1), (.int p2)] 7)) (T18.setTop (mkF m 27 #[.val (.ref o0), .val (.ref o1), .val (.int p2), .val (.int (Own.ln xc)), .unset, .unset, .unset] [(.ref aB), (.ref o0)])) := q16.trans (st18 _ (Steps.refl _))
  obtain ⟨T20, h20, X20, e20, W20, st20⟩ := putF X18 hx hZ hown (host := "") (Or.inl (hw _ (List.mem_of_getElem? (i := 31) rfl))) Via.refl rfl Fo0_blockOf_18 Xo0_18 (Or.inr ⟨(hw _ (List.mem_of_getElem? (i := 32) rfl)), rfl, hnm⟩) (hw _ (List.mem_of_getElem? (i := 6) rfl)) (ty := (.array .int)) (by decide) rfl rfl (g := (mkF m 27 #[.val (.ref o0), .val (.ref o1), .val (.int p2), .val (.int (Own.ln xc)), .unset, .unset, .unset] [(.ref aB), (.ref o0)])) rfl rfl (hb hby d2_27)
  have N20 := Fr.snoc X20 N18 ge_o0
  have Io1_20 := Io1_18.other W20 (Ne.symm ne_o0_o1)
  have IaM_20 := IaM_18.other W20 (Ne.symm ne_o0_aM)
  have IaI_20 := IaI_18.other W20 (Ne.symm ne_o0_aI)
  have IaB_20 := J18.other W20 (Ne.symm ne_o0_aB)
  have Xo0_20 := Xo0_18.wr W20
  have Fo0_members_20 := Fo0_members_18.other W20 (Or.inr (slot_ne (Or.inr (hw _ (List.mem_of_getElem? (i := 15) rfl))) (Or.inr (hw _ (List.mem_of_getElem? (i := 32) rfl))) (by decide) (t := (.array .int)) (t' := (.array .int)) (by decide) (by decide)))
  have Fo0_memberIndex_20 := Fo0_memberIndex_18.other W20 (Or.inr (slot_ne (Or.inr (hw _ (List.mem_of_getElem? (i := 17) rfl))) (Or.inr (hw _ (List.mem_of_getElem? (i := 32) rfl))) (by decide) (t := (.array .int)) (t' := (.array .int)) (by decide) (by decide)))
  have Fo0_start_20 := Fo0_start_18.other W20 (Or.inr (slot_ne (Or.inr (hw _ (List.mem_of_getElem? (i := 34) rfl))) (Or.inr (hw _ (List.mem_of_getElem? (i := 32) rfl))) (by decide) (t := (.array .int)) (t' := (.array .int)) (by decide) (by decide)))
  have Fo0_end_20 := Fo0_end_18.other W20 (Or.inr (slot_ne (Or.inr (hw _ (List.mem_of_getElem? (i := 36) rfl))) (Or.inr (hw _ (List.mem_of_getElem? (i := 32) rfl))) (by decide) (t := (.array .int)) (t' := (.array .int)) (by decide) (by decide)))
  have Fo0_splitFrom_20 := Fo0_splitFrom_18.other W20 (Or.inr (slot_ne (Or.inr (hw _ (List.mem_of_getElem? (i := 38) rfl))) (Or.inr (hw _ (List.mem_of_getElem? (i := 32) rfl))) (by decide) (t := (.array .int)) (t' := (.array .int)) (by decide) (by decide)))
  have Fo0_markedCount_20 := Fo0_markedCount_18.other W20 (Or.inr (slot_ne (Or.inr (hw _ (List.mem_of_getElem? (i := 40) rfl))) (Or.inr (hw _ (List.mem_of_getElem? (i := 32) rfl))) (by decide) (t := (.array .int)) (t' := (.array .int)) (by decide) (by decide)))
  have Fo0_markedBlocks_20 := Fo0_markedBlocks_18.other W20 (Or.inr (slot_ne (Or.inr (hw _ (List.mem_of_getElem? (i := 42) rfl))) (Or.inr (hw _ (List.mem_of_getElem? (i := 32) rfl))) (by decide) (t := (.array .int)) (t' := (.array .int)) (by decide) (by decide)))
  have Fo0_count_20 := Fo0_count_18.other W20 (Or.inr (slot_ne (Or.inl (hw _ (List.mem_of_getElem? (i := 44) rfl))) (Or.inr (hw _ (List.mem_of_getElem? (i := 32) rfl))) (by decide) (t := .int) (t' := (.array .int)) (by decide) (by decide)))
  have Fo0_markedBlockCount_20 := Fo0_markedBlockCount_18.other W20 (Or.inr (slot_ne (Or.inl (hw _ (List.mem_of_getElem? (i := 57) rfl))) (Or.inr (hw _ (List.mem_of_getElem? (i := 32) rfl))) (by decide) (t := .int) (t' := (.array .int)) (by decide) (by decide)))
  have Xo1_20 := Xo1_18.wr W20
  have Z20 : n0 ≤ h20.size := Own.size_wr W20 Z18
  have K20 : Keep h0 h20 [o0] := KK18.wr W20 (Or.inl (List.mem_of_getElem? (i := 0) rfl))
  have Fo0_blockOf_20 := Fo0_blockOf_18.same W20
  have q21 : Steps p.tables e below (s₁.setTop (entryFrame m #[(.ref o0), (.ref o1), (.int p2)] 7)) (T20.setTop (mkF m 30 #[.val (.ref o0), .val (.ref o1), .val (.int p2), .val (.int (Own.ln xc)), .unset, .unset, .unset] [])) := q19.trans (st20 _ (Steps.refl _))
  have q22 : Steps p.tables e below (s₁.setTop (entryFrame m #[(.ref o0), (.ref o1), (.int p2)] 7)) (T20.setTop (mkF m 32 #[.val (.ref o0), .val (.ref o1), .val (.int p2), .val (.int (Own.ln xc)), .unset, .unset, .unset] [(.int (Own.ln xc)), (.ref o0)])) := q21.trans (by
      show Steps p.tables e below (T20.setTop (mkF m 30 #[.val (.ref o0), .val (.ref o1), .val (.int p2), .val (.int (Own.ln xc)), .unset, .unset, .unset] [])) _
      refine XS.aloadN X20.here hx rfl (hb hby d2_30) rfl rfl ?_
      show Steps p.tables e below (T20.setTop (mkF m 31 #[.val (.ref o0), .val (.ref o1), .val (.int p2), .val (.int (Own.ln xc)), .unset, .unset, .unset] [(.ref o0)])) _
      refine XS.iloadN X20.here hx rfl (hb hby d2_31) rfl ?_
      show Steps p.tables e below (T20.setTop (mkF m 32 #[.val (.ref o0), .val (.ref o1), .val (.int p2), .val (.int (Own.ln xc)), .unset, .unset, .unset] [(.int (Own.ln xc)), (.ref o0)])) _
      exact Steps.refl _)
  obtain ⟨y23, hy23, hM⟩ := Option.bind_eq_some_iff.mp hM
  obtain ⟨T24, h24, k24, X24, e24, E24, A24, AE24, st24⟩ := newPE X20 hx hZ (hw _ (List.mem_of_getElem? (i := 0) rfl)) e20 (g := (mkF m 32 #[.val (.ref o0), .val (.ref o1), .val (.int p2), .val (.int (Own.ln xc)), .unset, .unset, .unset] [(.int (Own.ln xc)), (.ref o0)])) rfl (hb hby d2_32) rfl (Own.mk_some hy23).1 (cap := 4) (Own.mk_some hy23).2.1 (by decide) (by decide) (by decide) (ad := "[I") (by decide)
  obtain ⟨aS, g24⟩ : ∃ z, z = h20.size := ⟨_, rfl⟩
  rw [← g24] at A24 AE24 st24
  have ge_aS : n0 ≤ aS := Nat.le_trans Z20 (Nat.le_of_eq g24.symm)
  have ne_o1_aS : o1 ≠ aS := Nat.ne_of_lt (Nat.lt_of_lt_of_le Io1_20.lt (Nat.le_of_eq g24.symm))
  have ne_aM_aS : aM ≠ aS := Nat.ne_of_lt (Nat.lt_of_lt_of_le IaM_20.lt (Nat.le_of_eq g24.symm))
  have ne_aI_aS : aI ≠ aS := Nat.ne_of_lt (Nat.lt_of_lt_of_le IaI_20.lt (Nat.le_of_eq g24.symm))
  have ne_aB_aS : aB ≠ aS := Nat.ne_of_lt (Nat.lt_of_lt_of_le IaB_20.lt (Nat.le_of_eq g24.symm))
  have ne_o0_aS : o0 ≠ aS := Nat.ne_of_lt (Nat.lt_of_lt_of_le Xo0_20.lt (Nat.le_of_eq g24.symm))
  have old_aS : h0.size ≤ aS := Nat.le_trans K20.1 (Nat.le_of_eq g24.symm)
  have Io1_24 := Io1_20.ext E24
  have IaM_24 := IaM_20.ext E24
  have IaI_24 := IaI_20.ext E24
  have IaB_24 := IaB_20.ext E24
  have Xo0_24 := Xo0_20.ext E24
  have Fo0_members_24 := Fo0_members_20.ext E24
  have Fo0_memberIndex_24 := Fo0_memberIndex_20.ext E24
  have Fo0_blockOf_24 := Fo0_blockOf_20.ext E24
  have Fo0_start_24 := Fo0_start_20.ext E24
  have Fo0_end_24 := Fo0_end_20.ext E24
  have Fo0_splitFrom_24 := Fo0_splitFrom_20.ext E24
  have Fo0_markedCount_24 := Fo0_markedCount_20.ext E24
  have Fo0_markedBlocks_24 := Fo0_markedBlocks_20.ext E24
  have Fo0_count_24 := Fo0_count_20.ext E24
  have Fo0_markedBlockCount_24 := Fo0_markedBlockCount_20.ext E24
  have Xo1_24 := Xo1_20.ext E24
  have Z24 : n0 ≤ h24.size := Nat.le_trans Z20 E24.1
  have K24 : Keep h0 h24 [o0] := K20.ext E24
  have I_aS : Own.IA Z h24 aS y23 := (Own.mk_some hy23).2.2 ▸ Own.IA.new A24 rfl
  have q25 : Steps p.tables e below (s₁.setTop (entryFrame m #[(.ref o0), (.ref o1), (.int p2)] 7)) (T24.setTop (mkF m 34 #[.val (.ref o0), .val (.ref o1), .val (.int p2), .val (.int (Own.ln xc)), .unset, .unset, .unset] [(.ref aS), (.ref o0)])) := q22.trans (st24 _ (Steps.refl _))
  obtain ⟨T26, h26, X26, e26, W26, st26⟩ := putF X24 hx hZ hown (host := "") (Or.inl (hw _ (List.mem_of_getElem? (i := 33) rfl))) Via.refl e24 Fo0_start_24 Xo0_24 (Or.inr ⟨(hw _ (List.mem_of_getElem? (i := 34) rfl)), rfl, hnm⟩) (hw _ (List.mem_of_getElem? (i := 6) rfl)) (ty := (.array .int)) (by decide) rfl rfl (g := (mkF m 34 #[.val (.ref o0), .val (.ref o1), .val (.int p2), .val (.int (Own.ln xc)), .unset, .unset, .unset] [(.ref aS), (.ref o0)])) rfl rfl (hb hby d2_34)
  have N26 := Fr.snoc X26 N20 ge_o0
  have Io1_26 := Io1_24.other W26 (Ne.symm ne_o0_o1)
  have IaM_26 := IaM_24.other W26 (Ne.symm ne_o0_aM)
  have IaI_26 := IaI_24.other W26 (Ne.symm ne_o0_aI)
  have IaB_26 := IaB_24.other W26 (Ne.symm ne_o0_aB)
  have IaS_26 := I_aS.other W26 (Ne.symm ne_o0_aS)
  have Xo0_26 := Xo0_24.wr W26
  have Fo0_members_26 := Fo0_members_24.other W26 (Or.inr (slot_ne (Or.inr (hw _ (List.mem_of_getElem? (i := 15) rfl))) (Or.inr (hw _ (List.mem_of_getElem? (i := 34) rfl))) (by decide) (t := (.array .int)) (t' := (.array .int)) (by decide) (by decide)))
  have Fo0_memberIndex_26 := Fo0_memberIndex_24.other W26 (Or.inr (slot_ne (Or.inr (hw _ (List.mem_of_getElem? (i := 17) rfl))) (Or.inr (hw _ (List.mem_of_getElem? (i := 34) rfl))) (by decide) (t := (.array .int)) (t' := (.array .int)) (by decide) (by decide)))
  have Fo0_blockOf_26 := Fo0_blockOf_24.other W26 (Or.inr (slot_ne (Or.inr (hw _ (List.mem_of_getElem? (i := 32) rfl))) (Or.inr (hw _ (List.mem_of_getElem? (i := 34) rfl))) (by decide) (t := (.array .int)) (t' := (.array .int)) (by decide) (by decide)))
  have Fo0_end_26 := Fo0_end_24.other W26 (Or.inr (slot_ne (Or.inr (hw _ (List.mem_of_getElem? (i := 36) rfl))) (Or.inr (hw _ (List.mem_of_getElem? (i := 34) rfl))) (by decide) (t := (.array .int)) (t' := (.array .int)) (by decide) (by decide)))
  have Fo0_splitFrom_26 := Fo0_splitFrom_24.other W26 (Or.inr (slot_ne (Or.inr (hw _ (List.mem_of_getElem? (i := 38) rfl))) (Or.inr (hw _ (List.mem_of_getElem? (i := 34) rfl))) (by decide) (t := (.array .int)) (t' := (.array .int)) (by decide) (by decide)))
  have Fo0_markedCount_26 := Fo0_markedCount_24.other W26 (Or.inr (slot_ne (Or.inr (hw _ (List.mem_of_getElem? (i := 40) rfl))) (Or.inr (hw _ (List.mem_of_getElem? (i := 34) rfl))) (by decide) (t := (.array .int)) (t' := (.array .int)) (by decide) (by decide)))
  have Fo0_markedBlocks_26 := Fo0_markedBlocks_24.other W26 (Or.inr (slot_ne (Or.inr (hw _ (List.mem_of_getElem? (i := 42) rfl))) (Or.inr (hw _ (List.mem_of_getElem? (i := 34) rfl))) (by decide) (t := (.array .int)) (t' := (.array .int)) (by decide) (by decide)))
  have Fo0_count_26 := Fo0_count_24.other W26 (Or.inr (slot_ne (Or.inl (hw _ (List.mem_of_getElem? (i := 44) rfl))) (Or.inr (hw _ (List.mem_of_getElem? (i := 34) rfl))) (by decide) (t := .int) (t' := (.array .int)) (by decide) (by decide)))
  have Fo0_markedBlockCount_26 := Fo0_markedBlockCount_24.other W26 (Or.inr (slot_ne (Or.inl (hw _ (List.mem_of_getElem? (i := 57) rfl))) (Or.inr (hw _ (List.mem_of_getElem? (i := 34) rfl))) (by decide) (t := .int) (t' := (.array .int)) (by decide) (by decide)))
  have Xo1_26 := Xo1_24.wr W26
  have Z26 : n0 ≤ h26.size := Own.size_wr W26 Z24
  have K26 : Keep h0 h26 [o0] := K24.wr W26 (Or.inl (List.mem_of_getElem? (i := 0) rfl))
  have Fo0_start_26 := Fo0_start_24.same W26
  have q27 : Steps p.tables e below (s₁.setTop (entryFrame m #[(.ref o0), (.ref o1), (.int p2)] 7)) (T26.setTop (mkF m 37 #[.val (.ref o0), .val (.ref o1), .val (.int p2), .val (.int (Own.ln xc)), .unset, .unset, .unset] [])) := q25.trans (st26 _ (Steps.refl _))
  have q28 : Steps p.tables e below (s₁.setTop (entryFrame m #[(.ref o0), (.ref o1), (.int p2)] 7)) (T26.setTop (mkF m 39 #[.val (.ref o0), .val (.ref o1), .val (.int p2), .val (.int (Own.ln xc)), .unset, .unset, .unset] [(.int (Own.ln xc)), (.ref o0)])) := q27.trans (by
      show Steps p.tables e below (T26.setTop (mkF m 37 #[.val (.ref o0), .val (.ref o1), .val (.int p2), .val (.int (Own.ln xc)), .unset, .unset, .unset] [])) _
      refine XS.aloadN X26.here hx rfl (hb hby d2_37) rfl rfl ?_
      show Steps p.tables e below (T26.setTop (mkF m 38 #[.val (.ref o0), .val (.ref o1), .val (.int p2), .val (.int (Own.ln xc)), .unset, .unset, .unset] [(.ref o0)])) _
      refine XS.iloadN X26.here hx rfl (hb hby d2_38) rfl ?_
      show Steps p.tables e below (T26.setTop (mkF m 39 #[.val (.ref o0), .val (.ref o1), .val (.int p2), .val (.int (Own.ln xc)), .unset, .unset, .unset] [(.int (Own.ln xc)), (.ref o0)])) _
      exact Steps.refl _)
  obtain ⟨y29, hy29, hM⟩ := Option.bind_eq_some_iff.mp hM
  obtain ⟨T30, h30, k30, X30, e30, E30, A30, AE30, st30⟩ := newPE X26 hx hZ (hw _ (List.mem_of_getElem? (i := 0) rfl)) e26 (g := (mkF m 39 #[.val (.ref o0), .val (.ref o1), .val (.int p2), .val (.int (Own.ln xc)), .unset, .unset, .unset] [(.int (Own.ln xc)), (.ref o0)])) rfl (hb hby d2_39) rfl (Own.mk_some hy29).1 (cap := 4) (Own.mk_some hy29).2.1 (by decide) (by decide) (by decide) (ad := "[I") (by decide)
  obtain ⟨aE, g30⟩ : ∃ z, z = h26.size := ⟨_, rfl⟩
  rw [← g30] at A30 AE30 st30
  have ge_aE : n0 ≤ aE := Nat.le_trans Z26 (Nat.le_of_eq g30.symm)
  have ne_o1_aE : o1 ≠ aE := Nat.ne_of_lt (Nat.lt_of_lt_of_le Io1_26.lt (Nat.le_of_eq g30.symm))
  have ne_aM_aE : aM ≠ aE := Nat.ne_of_lt (Nat.lt_of_lt_of_le IaM_26.lt (Nat.le_of_eq g30.symm))
  have ne_aI_aE : aI ≠ aE := Nat.ne_of_lt (Nat.lt_of_lt_of_le IaI_26.lt (Nat.le_of_eq g30.symm))
  have ne_aB_aE : aB ≠ aE := Nat.ne_of_lt (Nat.lt_of_lt_of_le IaB_26.lt (Nat.le_of_eq g30.symm))
  have ne_aS_aE : aS ≠ aE := Nat.ne_of_lt (Nat.lt_of_lt_of_le IaS_26.lt (Nat.le_of_eq g30.symm))
  have ne_o0_aE : o0 ≠ aE := Nat.ne_of_lt (Nat.lt_of_lt_of_le Xo0_26.lt (Nat.le_of_eq g30.symm))
  have old_aE : h0.size ≤ aE := Nat.le_trans K26.1 (Nat.le_of_eq g30.symm)
  have Io1_30 := Io1_26.ext E30
  have IaM_30 := IaM_26.ext E30
  have IaI_30 := IaI_26.ext E30
  have IaB_30 := IaB_26.ext E30
  have IaS_30 := IaS_26.ext E30
  have Xo0_30 := Xo0_26.ext E30
  have Fo0_members_30 := Fo0_members_26.ext E30
  have Fo0_memberIndex_30 := Fo0_memberIndex_26.ext E30
  have Fo0_blockOf_30 := Fo0_blockOf_26.ext E30
  have Fo0_start_30 := Fo0_start_26.ext E30
  have Fo0_end_30 := Fo0_end_26.ext E30
  have Fo0_splitFrom_30 := Fo0_splitFrom_26.ext E30
  have Fo0_markedCount_30 := Fo0_markedCount_26.ext E30
  have Fo0_markedBlocks_30 := Fo0_markedBlocks_26.ext E30
  have Fo0_count_30 := Fo0_count_26.ext E30
  have Fo0_markedBlockCount_30 := Fo0_markedBlockCount_26.ext E30
  have Xo1_30 := Xo1_26.ext E30
  have Z30 : n0 ≤ h30.size := Nat.le_trans Z26 E30.1
  have K30 : Keep h0 h30 [o0] := K26.ext E30
  have I_aE : Own.IA Z h30 aE y29 := (Own.mk_some hy29).2.2 ▸ Own.IA.new A30 rfl
  have q31 : Steps p.tables e below (s₁.setTop (entryFrame m #[(.ref o0), (.ref o1), (.int p2)] 7)) (T30.setTop (mkF m 41 #[.val (.ref o0), .val (.ref o1), .val (.int p2), .val (.int (Own.ln xc)), .unset, .unset, .unset] [(.ref aE), (.ref o0)])) := q28.trans (st30 _ (Steps.refl _))
  obtain ⟨T32, h32, X32, e32, W32, st32⟩ := putF X30 hx hZ hown (host := "") (Or.inl (hw _ (List.mem_of_getElem? (i := 35) rfl))) Via.refl e30 Fo0_end_30 Xo0_30 (Or.inr ⟨(hw _ (List.mem_of_getElem? (i := 36) rfl)), rfl, hnm⟩) (hw _ (List.mem_of_getElem? (i := 6) rfl)) (ty := (.array .int)) (by decide) rfl rfl (g := (mkF m 41 #[.val (.ref o0), .val (.ref o1), .val (.int p2), .val (.int (Own.ln xc)), .unset, .unset, .unset] [(.ref aE), (.ref o0)])) rfl rfl (hb hby d2_41)
  have N32 := Fr.snoc X32 N26 ge_o0
  have Io1_32 := Io1_30.other W32 (Ne.symm ne_o0_o1)
  have IaM_32 := IaM_30.other W32 (Ne.symm ne_o0_aM)
  have IaI_32 := IaI_30.other W32 (Ne.symm ne_o0_aI)
  have IaB_32 := IaB_30.other W32 (Ne.symm ne_o0_aB)
  have IaS_32 := IaS_30.other W32 (Ne.symm ne_o0_aS)
  have IaE_32 := I_aE.other W32 (Ne.symm ne_o0_aE)
  have Xo0_32 := Xo0_30.wr W32
  have Fo0_members_32 := Fo0_members_30.other W32 (Or.inr (slot_ne (Or.inr (hw _ (List.mem_of_getElem? (i := 15) rfl))) (Or.inr (hw _ (List.mem_of_getElem? (i := 36) rfl))) (by decide) (t := (.array .int)) (t' := (.array .int)) (by decide) (by decide)))
  have Fo0_memberIndex_32 := Fo0_memberIndex_30.other W32 (Or.inr (slot_ne (Or.inr (hw _ (List.mem_of_getElem? (i := 17) rfl))) (Or.inr (hw _ (List.mem_of_getElem? (i := 36) rfl))) (by decide) (t := (.array .int)) (t' := (.array .int)) (by decide) (by decide)))
  have Fo0_blockOf_32 := Fo0_blockOf_30.other W32 (Or.inr (slot_ne (Or.inr (hw _ (List.mem_of_getElem? (i := 32) rfl))) (Or.inr (hw _ (List.mem_of_getElem? (i := 36) rfl))) (by decide) (t := (.array .int)) (t' := (.array .int)) (by decide) (by decide)))
  have Fo0_start_32 := Fo0_start_30.other W32 (Or.inr (slot_ne (Or.inr (hw _ (List.mem_of_getElem? (i := 34) rfl))) (Or.inr (hw _ (List.mem_of_getElem? (i := 36) rfl))) (by decide) (t := (.array .int)) (t' := (.array .int)) (by decide) (by decide)))
  have Fo0_splitFrom_32 := Fo0_splitFrom_30.other W32 (Or.inr (slot_ne (Or.inr (hw _ (List.mem_of_getElem? (i := 38) rfl))) (Or.inr (hw _ (List.mem_of_getElem? (i := 36) rfl))) (by decide) (t := (.array .int)) (t' := (.array .int)) (by decide) (by decide)))
  have Fo0_markedCount_32 := Fo0_markedCount_30.other W32 (Or.inr (slot_ne (Or.inr (hw _ (List.mem_of_getElem? (i := 40) rfl))) (Or.inr (hw _ (List.mem_of_getElem? (i := 36) rfl))) (by decide) (t := (.array .int)) (t' := (.array .int)) (by decide) (by decide)))
  have Fo0_markedBlocks_32 := Fo0_markedBlocks_30.other W32 (Or.inr (slot_ne (Or.inr (hw _ (List.mem_of_getElem? (i := 42) rfl))) (Or.inr (hw _ (List.mem_of_getElem? (i := 36) rfl))) (by decide) (t := (.array .int)) (t' := (.array .int)) (by decide) (by decide)))
  have Fo0_count_32 := Fo0_count_30.other W32 (Or.inr (slot_ne (Or.inl (hw _ (List.mem_of_getElem? (i := 44) rfl))) (Or.inr (hw _ (List.mem_of_getElem? (i := 36) rfl))) (by decide) (t := .int) (t' := (.array .int)) (by decide) (by decide)))
  have Fo0_markedBlockCount_32 := Fo0_markedBlockCount_30.other W32 (Or.inr (slot_ne (Or.inl (hw _ (List.mem_of_getElem? (i := 57) rfl))) (Or.inr (hw _ (List.mem_of_getElem? (i := 36) rfl))) (by decide) (t := .int) (t' := (.array .int)) (by decide) (by decide)))
  have Xo1_32 := Xo1_30.wr W32
  have Z32 : n0 ≤ h32.size := Own.size_wr W32 Z30
  have K32 : Keep h0 h32 [o0] := K30.wr W32 (Or.inl (List.mem_of_getElem? (i := 0) rfl))
  have Fo0_end_32 := Fo0_end_30.same W32
  have q33 : Steps p.tables e below (s₁.setTop (entryFrame m #[(.ref o0), (.ref o1), (.int p2)] 7)) (T32.setTop (mkF m 44 #[.val (.ref o0), .val (.ref o1), .val (.int p2), .val (.int (Own.ln xc)), .unset, .unset, .unset] [])) := q31.trans (st32 _ (Steps.refl _))
  have q34 : Steps p.tables e below (s₁.setTop (entryFrame m #[(.ref o0), (.ref o1), (.int p2)] 7)) (T32.setTop (mkF m 46 #[.val (.ref o0), .val (.ref o1), .val (.int p2), .val (.int (Own.ln xc)), .unset, .unset, .unset] [(.int (Own.ln xc)), (.ref o0)])) := q33.trans (by
      show Steps p.tables e below (T32.setTop (mkF m 44 #[.val (.ref o0), .val (.ref o1), .val (.int p2), .val (.int (Own.ln xc)), .unset, .unset, .unset] [])) _
      refine XS.aloadN X32.here hx rfl (hb hby d2_44) rfl rfl ?_
      show Steps p.tables e below (T32.setTop (mkF m 45 #[.val (.ref o0), .val (.ref o1), .val (.int p2), .val (.int (Own.ln xc)), .unset, .unset, .unset] [(.ref o0)])) _
      refine XS.iloadN X32.here hx rfl (hb hby d2_45) rfl ?_
      show Steps p.tables e below (T32.setTop (mkF m 46 #[.val (.ref o0), .val (.ref o1), .val (.int p2), .val (.int (Own.ln xc)), .unset, .unset, .unset] [(.int (Own.ln xc)), (.ref o0)])) _
      exact Steps.refl _)
  obtain ⟨y35, hy35, hM⟩ := Option.bind_eq_some_iff.mp hM
  obtain ⟨T36, h36, k36, X36, e36, E36, A36, AE36, st36⟩ := newPE X32 hx hZ (hw _ (List.mem_of_getElem? (i := 0) rfl)) e32 (g := (mkF m 46 #[.val (.ref o0), .val (.ref o1), .val (.int p2), .val (.int (Own.ln xc)), .unset, .unset, .unset] [(.int (Own.ln xc)), (.ref o0)])) rfl (hb hby d2_46) rfl (Own.mk_some hy35).1 (cap := 4) (Own.mk_some hy35).2.1 (by decide) (by decide) (by decide) (ad := "[I") (by decide)
  obtain ⟨aF, g36⟩ : ∃ z, z = h32.size := ⟨_, rfl⟩
  rw [← g36] at A36 AE36 st36
  have ge_aF : n0 ≤ aF := Nat.le_trans Z32 (Nat.le_of_eq g36.symm)
  have ne_o1_aF : o1 ≠ aF := Nat.ne_of_lt (Nat.lt_of_lt_of_le Io1_32.lt (Nat.le_of_eq g36.symm))
  have ne_aM_aF : aM ≠ aF := Nat.ne_of_lt (Nat.lt_of_lt_of_le IaM_32.lt (Nat.le_of_eq g36.symm))
  have ne_aI_aF : aI ≠ aF := Nat.ne_of_lt (Nat.lt_of_lt_of_le IaI_32.lt (Nat.le_of_eq g36.symm))
  have ne_aB_aF : aB ≠ aF := Nat.ne_of_lt (Nat.lt_of_lt_of_le IaB_32.lt (Nat.le_of_eq g36.symm))
  have ne_aS_aF : aS ≠ aF := Nat.ne_of_lt (Nat.lt_of_lt_of_le IaS_32.lt (Nat.le_of_eq g36.symm))
  have ne_aE_aF : aE ≠ aF := Nat.ne_of_lt (Nat.lt_of_lt_of_le IaE_32.lt (Nat.le_of_eq g36.symm))
  have ne_o0_aF : o0 ≠ aF := Nat.ne_of_lt (Nat.lt_of_lt_of_le Xo0_32.lt (Nat.le_of_eq g36.symm))
  have old_aF : h0.size ≤ aF := Nat.le_trans K32.1 (Nat.le_of_eq g36.symm)
  have Io1_36 := Io1_32.ext E36
  have IaM_36 := IaM_32.ext E36
  have IaI_36 := IaI_32.ext E36
  have IaB_36 := IaB_32.ext E36
  have IaS_36 := IaS_32.ext E36
  have IaE_36 := IaE_32.ext E36
  have Xo0_36 := Xo0_32.ext E36
  have Fo0_members_36 := Fo0_members_32.ext E36
  have Fo0_memberIndex_36 := Fo0_memberIndex_32.ext E36
  have Fo0_blockOf_36 := Fo0_blockOf_32.ext E36
  have Fo0_start_36 := Fo0_start_32.ext E36
  have Fo0_end_36 := Fo0_end_32.ext E36
  have Fo0_splitFrom_36 := Fo0_splitFrom_32.ext E36
  have Fo0_markedCount_36 := Fo0_markedCount_32.ext E36
  have Fo0_markedBlocks_36 := Fo0_markedBlocks_32.ext E36
  have Fo0_count_36 := Fo0_count_32.ext E36
  have Fo0_markedBlockCount_36 := Fo0_markedBlockCount_32.ext E36
  have Xo1_36 := Xo1_32.ext E36
  have Z36 : n0 ≤ h36.size := Nat.le_trans Z32 E36.1
  have K36 : Keep h0 h36 [o0] := K32.ext E36
  have I_aF : Own.IA Z h36 aF y35 := (Own.mk_some hy35).2.2 ▸ Own.IA.new A36 rfl
  have q37 : Steps p.tables e below (s₁.setTop (entryFrame m #[(.ref o0), (.ref o1), (.int p2)] 7)) (T36.setTop (mkF m 48 #[.val (.ref o0), .val (.ref o1), .val (.int p2), .val (.int (Own.ln xc)), .unset, .unset, .unset] [(.ref aF), (.ref o0)])) := q34.trans (st36 _ (Steps.refl _))
  obtain ⟨T38, h38, X38, e38, W38, st38⟩ := putF X36 hx hZ hown (host := "") (Or.inl (hw _ (List.mem_of_getElem? (i := 37) rfl))) Via.refl e36 Fo0_splitFrom_36 Xo0_36 (Or.inr ⟨(hw _ (List.mem_of_getElem? (i := 38) rfl)), rfl, hnm⟩) (hw _ (List.mem_of_getElem? (i := 6) rfl)) (ty := (.array .int)) (by decide) rfl rfl (g := (mkF m 48 #[.val (.ref o0), .val (.ref o1), .val (.int p2), .val (.int (Own.ln xc)), .unset, .unset, .unset] [(.ref aF), (.ref o0)])) rfl rfl (hb hby d2_48)
  have N38 := Fr.snoc X38 N32 ge_o0
  have Io1_38 := Io1_36.other W38 (Ne.symm ne_o0_o1)
  have IaM_38 := IaM_36.other W38 (Ne.symm ne_o0_aM)
  have IaI_38 := IaI_36.other W38 (Ne.symm ne_o0_aI)
  have IaB_38 := IaB_36.other W38 (Ne.symm ne_o0_aB)
  have IaS_38 := IaS_36.other W38 (Ne.symm ne_o0_aS)
  have IaE_38 := IaE_36.other W38 (Ne.symm ne_o0_aE)
  have IaF_38 := I_aF.other W38 (Ne.symm ne_o0_aF)
  have Xo0_38 := Xo0_36.wr W38
  have Fo0_members_38 := Fo0_members_36.other W38 (Or.inr (slot_ne (Or.inr (hw _ (List.mem_of_getElem? (i := 15) rfl))) (Or.inr (hw _ (List.mem_of_getElem? (i := 38) rfl))) (by decide) (t := (.array .int)) (t' := (.array .int)) (by decide) (by decide)))
  have Fo0_memberIndex_38 := Fo0_memberIndex_36.other W38 (Or.inr (slot_ne (Or.inr (hw _ (List.mem_of_getElem? (i := 17) rfl))) (Or.inr (hw _ (List.mem_of_getElem? (i := 38) rfl))) (by decide) (t := (.array .int)) (t' := (.array .int)) (by decide) (by decide)))
  have Fo0_blockOf_38 := Fo0_blockOf_36.other W38 (Or.inr (slot_ne (Or.inr (hw _ (List.mem_of_getElem? (i := 32) rfl))) (Or.inr (hw _ (List.mem_of_getElem? (i := 38) rfl))) (by decide) (t := (.array .int)) (t' := (.array .int)) (by decide) (by decide)))
  have Fo0_start_38 := Fo0_start_36.other W38 (Or.inr (slot_ne (Or.inr (hw _ (List.mem_of_getElem? (i := 34) rfl))) (Or.inr (hw _ (List.mem_of_getElem? (i := 38) rfl))) (by decide) (t := (.array .int)) (t' := (.array .int)) (by decide) (by decide)))
  have Fo0_end_38 := Fo0_end_36.other W38 (Or.inr (slot_ne (Or.inr (hw _ (List.mem_of_getElem? (i := 36) rfl))) (Or.inr (hw _ (List.mem_of_getElem? (i := 38) rfl))) (by decide) (t := (.array .int)) (t' := (.array .int)) (by decide) (by decide)))
  have Fo0_markedCount_38 := Fo0_markedCount_36.other W38 (Or.inr (slot_ne (Or.inr (hw _ (List.mem_of_getElem? (i := 40) rfl))) (Or.inr (hw _ (List.mem_of_getElem? (i := 38) rfl))) (by decide) (t := (.array .int)) (t' := (.array .int)) (by decide) (by decide)))
  have Fo0_markedBlocks_38 := Fo0_markedBlocks_36.other W38 (Or.inr (slot_ne (Or.inr (hw _ (List.mem_of_getElem? (i := 42) rfl))) (Or.inr (hw _ (List.mem_of_getElem? (i := 38) rfl))) (by decide) (t := (.array .int)) (t' := (.array .int)) (by decide) (by decide)))
  have Fo0_count_38 := Fo0_count_36.other W38 (Or.inr (slot_ne (Or.inl (hw _ (List.mem_of_getElem? (i := 44) rfl))) (Or.inr (hw _ (List.mem_of_getElem? (i := 38) rfl))) (by decide) (t := .int) (t' := (.array .int)) (by decide) (by decide)))
  have Fo0_markedBlockCount_38 := Fo0_markedBlockCount_36.other W38 (Or.inr (slot_ne (Or.inl (hw _ (List.mem_of_getElem? (i := 57) rfl))) (Or.inr (hw _ (List.mem_of_getElem? (i := 38) rfl))) (by decide) (t := .int) (t' := (.array .int)) (by decide) (by decide)))
  have Xo1_38 := Xo1_36.wr W38
  have Z38 : n0 ≤ h38.size := Own.size_wr W38 Z36
  have K38 : Keep h0 h38 [o0] := K36.wr W38 (Or.inl (List.mem_of_getElem? (i := 0) rfl))
  have Fo0_splitFrom_38 := Fo0_splitFrom_36.same W38
  have q39 : Steps p.tables e below (s₁.setTop (entryFrame m #[(.ref o0), (.ref o1), (.int p2)] 7)) (T38.setTop (mkF m 51 #[.val (.ref o0), .val (.ref o1), .val (.int p2), .val (.int (Own.ln xc)), .unset, .unset, .unset] [])) := q37.trans (st38 _ (Steps.refl _))
  have q40 : Steps p.tables e below (s₁.setTop (entryFrame m #[(.ref o0), (.ref o1), (.int p2)] 7)) (T38.setTop (mkF m 53 #[.val (.ref o0), .val (.ref o1), .val (.int p2), .val (.int (Own.ln xc)), .unset, .unset, .unset] [(.int (Own.ln xc)), (.ref o0)])) := q39.trans (by
      show Steps p.tables e below (T38.setTop (mkF m 51 #[.val (.ref o0), .val (.ref o1), .val (.int p2), .val (.int (Own.ln xc)), .unset, .unset, .unset] [])) _
      refine XS.aloadN X38.here hx rfl (hb hby d2_51) rfl rfl ?_
      show Steps p.tables e below (T38.setTop (mkF m 52 #[.val (.ref o0), .val (.ref o1), .val (.int p2), .val (.int (Own.ln xc)), .unset, .unset, .unset] [(.ref o0)])) _
      refine XS.iloadN X38.here hx rfl (hb hby d2_52) rfl ?_
      show Steps p.tables e below (T38.setTop (mkF m 53 #[.val (.ref o0), .val (.ref o1), .val (.int p2), .val (.int (Own.ln xc)), .unset, .unset, .unset] [(.int (Own.ln xc)), (.ref o0)])) _
      exact Steps.refl _)
  obtain ⟨y41, hy41, hM⟩ := Option.bind_eq_some_iff.mp hM
  obtain ⟨T42, h42, k42, X42, e42, E42, A42, AE42, st42⟩ := newPE X38 hx hZ (hw _ (List.mem_of_getElem? (i := 0) rfl)) e38 (g := (mkF m 53 #[.val (.ref o0), .val (.ref o1), .val (.int p2), .val (.int (Own.ln xc)), .unset, .unset, .unset] [(.int (Own.ln xc)), (.ref o0)])) rfl (hb hby d2_53) rfl (Own.mk_some hy41).1 (cap := 4) (Own.mk_some hy41).2.1 (by decide) (by decide) (by decide) (ad := "[I") (by decide)
  obtain ⟨aC, g42⟩ : ∃ z, z = h38.size := ⟨_, rfl⟩
  rw [← g42] at A42 AE42 st42
  have ge_aC : n0 ≤ aC := Nat.le_trans Z38 (Nat.le_of_eq g42.symm)
  have ne_o1_aC : o1 ≠ aC := Nat.ne_of_lt (Nat.lt_of_lt_of_le Io1_38.lt (Nat.le_of_eq g42.symm))
  have ne_aM_aC : aM ≠ aC := Nat.ne_of_lt (Nat.lt_of_lt_of_le IaM_38.lt (Nat.le_of_eq g42.symm))
  have ne_aI_aC : aI ≠ aC := Nat.ne_of_lt (Nat.lt_of_lt_of_le IaI_38.lt (Nat.le_of_eq g42.symm))
  have ne_aB_aC : aB ≠ aC := Nat.ne_of_lt (Nat.lt_of_lt_of_le IaB_38.lt (Nat.le_of_eq g42.symm))
  have ne_aS_aC : aS ≠ aC := Nat.ne_of_lt (Nat.lt_of_lt_of_le IaS_38.lt (Nat.le_of_eq g42.symm))
  have ne_aE_aC : aE ≠ aC := Nat.ne_of_lt (Nat.lt_of_lt_of_le IaE_38.lt (Nat.le_of_eq g42.symm))
  have ne_aF_aC : aF ≠ aC := Nat.ne_of_lt (Nat.lt_of_lt_of_le IaF_38.lt (Nat.le_of_eq g42.symm))
  have ne_o0_aC : o0 ≠ aC := Nat.ne_of_lt (Nat.lt_of_lt_of_le Xo0_38.lt (Nat.le_of_eq g42.symm))
  have old_aC : h0.size ≤ aC := Nat.le_trans K38.1 (Nat.le_of_eq g42.symm)
  have Io1_42 := Io1_38.ext E42
  have IaM_42 := IaM_38.ext E42
  have IaI_42 := IaI_38.ext E42
  have IaB_42 := IaB_38.ext E42
  have IaS_42 := IaS_38.ext E42
  have IaE_42 := IaE_38.ext E42
  have IaF_42 := IaF_38.ext E42
  have Xo0_42 := Xo0_38.ext E42
  have Fo0_members_42 := Fo0_members_38.ext E42
  have Fo0_memberIndex_42 := Fo0_memberIndex_38.ext E42
  have Fo0_blockOf_42 := Fo0_blockOf_38.ext E42
  have Fo0_start_42 := Fo0_start_38.ext E42
  have Fo0_end_42 := Fo0_end_38.ext E42
  have Fo0_splitFrom_42 := Fo0_splitFrom_38.ext E42
  have Fo0_markedCount_42 := Fo0_markedCount_38.ext E42
  have Fo0_markedBlocks_42 := Fo0_markedBlocks_38.ext E42
  have Fo0_count_42 := Fo0_count_38.ext E42
  have Fo0_markedBlockCount_42 := Fo0_markedBlockCount_38.ext E42
  have Xo1_42 := Xo1_38.ext E42
  have Z42 : n0 ≤ h42.size := Nat.le_trans Z38 E42.1
  have K42 : Keep h0 h42 [o0] := K38.ext E42
  have I_aC : Own.IA Z h42 aC y41 := (Own.mk_some hy41).2.2 ▸ Own.IA.new A42 rfl
  have q43 : Steps p.tables e below (s₁.setTop (entryFrame m #[(.ref o0), (.ref o1), (.int p2)] 7)) (T42.setTop (mkF m 55 #[.val (.ref o0), .val (.ref o1), .val (.int p2), .val (.int (Own.ln xc)), .unset, .unset, .unset] [(.ref aC), (.ref o0)])) := q40.trans (st42 _ (Steps.refl _))
  obtain ⟨T44, h44, X44, e44, W44, st44⟩ := putF X42 hx hZ hown (host := "") (Or.inl (hw _ (List.mem_of_getElem? (i := 39) rfl))) Via.refl e42 Fo0_markedCount_42 Xo0_42 (Or.inr ⟨(hw _ (List.mem_of_getElem? (i := 40) rfl)), rfl, hnm⟩) (hw _ (List.mem_of_getElem? (i := 6) rfl)) (ty := (.array .int)) (by decide) rfl rfl (g := (mkF m 55 #[.val (.ref o0), .val (.ref o1), .val (.int p2), .val (.int (Own.ln xc)), .unset, .unset, .unset] [(.ref aC), (.ref o0)])) rfl rfl (hb hby d2_55)
  have N44 := Fr.snoc X44 N38 ge_o0
  have Io1_44 := Io1_42.other W44 (Ne.symm ne_o0_o1)
  have IaM_44 := IaM_42.other W44 (Ne.symm ne_o0_aM)
  have IaI_44 := IaI_42.other W44 (Ne.symm ne_o0_aI)
  have IaB_44 := IaB_42.other W44 (Ne.symm ne_o0_aB)
  have IaS_44 := IaS_42.other W44 (Ne.symm ne_o0_aS)
  have IaE_44 := IaE_42.other W44 (Ne.symm ne_o0_aE)
  have IaF_44 := IaF_42.other W44 (Ne.symm ne_o0_aF)
  have IaC_44 := I_aC.other W44 (Ne.symm ne_o0_aC)
  have Xo0_44 := Xo0_42.wr W44
  have Fo0_members_44 := Fo0_members_42.other W44 (Or.inr (slot_ne (Or.inr (hw _ (List.mem_of_getElem? (i := 15) rfl))) (Or.inr (hw _ (List.mem_of_getElem? (i := 40) rfl))) (by decide) (t := (.array .int)) (t' := (.array .int)) (by decide) (by decide)))
  have Fo0_memberIndex_44 := Fo0_memberIndex_42.other W44 (Or.inr (slot_ne (Or.inr (hw _ (List.mem_of_getElem? (i := 17) rfl))) (Or.inr (hw _ (List.mem_of_getElem? (i := 40) rfl))) (by decide) (t := (.array .int)) (t' := (.array .int)) (by decide) (by decide)))
  have Fo0_blockOf_44 := Fo0_blockOf_42.other W44 (Or.inr (slot_ne (Or.inr (hw _ (List.mem_of_getElem? (i := 32) rfl))) (Or.inr (hw _ (List.mem_of_getElem? (i := 40) rfl))) (by decide) (t := (.array .int)) (t' := (.array .int)) (by decide) (by decide)))
  have Fo0_start_44 := Fo0_start_42.other W44 (Or.inr (slot_ne (Or.inr (hw _ (List.mem_of_getElem? (i := 34) rfl))) (Or.inr (hw _ (List.mem_of_getElem? (i := 40) rfl))) (by decide) (t := (.array .int)) (t' := (.array .int)) (by decide) (by decide)))
  have Fo0_end_44 := Fo0_end_42.other W44 (Or.inr (slot_ne (Or.inr (hw _ (List.mem_of_getElem? (i := 36) rfl))) (Or.inr (hw _ (List.mem_of_getElem? (i := 40) rfl))) (by decide) (t := (.array .int)) (t' := (.array .int)) (by decide) (by decide)))
  have Fo0_splitFrom_44 := Fo0_splitFrom_42.other W44 (Or.inr (slot_ne (Or.inr (hw _ (List.mem_of_getElem? (i := 38) rfl))) (Or.inr (hw _ (List.mem_of_getElem? (i := 40) rfl))) (by decide) (t := (.array .int)) (t' := (.array .int)) (by decide) (by decide)))
  have Fo0_markedBlocks_44 := Fo0_markedBlocks_42.other W44 (Or.inr (slot_ne (Or.inr (hw _ (List.mem_of_getElem? (i := 42) rfl))) (Or.inr (hw _ (List.mem_of_getElem? (i := 40) rfl))) (by decide) (t := (.array .int)) (t' := (.array .int)) (by decide) (by decide)))
  have Fo0_count_44 := Fo0_count_42.other W44 (Or.inr (slot_ne (Or.inl (hw _ (List.mem_of_getElem? (i := 44) rfl))) (Or.inr (hw _ (List.mem_of_getElem? (i := 40) rfl))) (by decide) (t := .int) (t' := (.array .int)) (by decide) (by decide)))
  have Fo0_markedBlockCount_44 := Fo0_markedBlockCount_42.other W44 (Or.inr (slot_ne (Or.inl (hw _ (List.mem_of_getElem? (i := 57) rfl))) (Or.inr (hw _ (List.mem_of_getElem? (i := 40) rfl))) (by decide) (t := .int) (t' := (.array .int)) (by decide) (by decide)))
  have Xo1_44 := Xo1_42.wr W44
  have Z44 : n0 ≤ h44.size := Own.size_wr W44 Z42
  have K44 : Keep h0 h44 [o0] := K42.wr W44 (Or.inl (List.mem_of_getElem? (i := 0) rfl))
  have Fo0_markedCount_44 := Fo0_markedCount_42.same W44
  have q45 : Steps p.tables e below (s₁.setTop (entryFrame m #[(.ref o0), (.ref o1), (.int p2)] 7)) (T44.setTop (mkF m 58 #[.val (.ref o0), .val (.ref o1), .val (.int p2), .val (.int (Own.ln xc)), .unset, .unset, .unset] [])) := q43.trans (st44 _ (Steps.refl _))
  have q46 : Steps p.tables e below (s₁.setTop (entryFrame m #[(.ref o0), (.ref o1), (.int p2)] 7)) (T44.setTop (mkF m 60 #[.val (.ref o0), .val (.ref o1), .val (.int p2), .val (.int (Own.ln xc)), .unset, .unset, .unset] [(.int (Own.ln xc)), (.ref o0)])) := q45.trans (by
      show Steps p.tables e below (T44.setTop (mkF m 58 #[.val (.ref o0), .val (.ref o1), .val (.int p2), .val (.int (Own.ln xc)), .unset, .unset, .unset] [])) _
      refine XS.aloadN X44.here hx rfl (hb hby d2_58) rfl rfl ?_
      show Steps p.tables e below (T44.setTop (mkF m 59 #[.val (.ref o0), .val (.ref o1), .val (.int p2), .val (.int (Own.ln xc)), .unset, .unset, .unset] [(.ref o0)])) _
      refine XS.iloadN X44.here hx rfl (hb hby d2_59) rfl ?_
      show Steps p.tables e below (T44.setTop (mkF m 60 #[.val (.ref o0), .val (.ref o1), .val (.int p2), .val (.int (Own.ln xc)), .unset, .unset, .unset] [(.int (Own.ln xc)), (.ref o0)])) _
      exact Steps.refl _)
  obtain ⟨y47, hy47, hM⟩ := Option.bind_eq_some_iff.mp hM
  obtain ⟨T48, h48, k48, X48, e48, E48, A48, AE48, st48⟩ := newPE X44 hx hZ (hw _ (List.mem_of_getElem? (i := 0) rfl)) e44 (g := (mkF m 60 #[.val (.ref o0), .val (.ref o1), .val (.int p2), .val (.int (Own.ln xc)), .unset, .unset, .unset] [(.int (Own.ln xc)), (.ref o0)])) rfl (hb hby d2_60) rfl (Own.mk_some hy47).1 (cap := 4) (Own.mk_some hy47).2.1 (by decide) (by decide) (by decide) (ad := "[I") (by decide)
  obtain ⟨aK, g48⟩ : ∃ z, z = h44.size := ⟨_, rfl⟩
  rw [← g48] at A48 AE48 st48
  have ge_aK : n0 ≤ aK := Nat.le_trans Z44 (Nat.le_of_eq g48.symm)
  have ne_o1_aK : o1 ≠ aK := Nat.ne_of_lt (Nat.lt_of_lt_of_le Io1_44.lt (Nat.le_of_eq g48.symm))
  have ne_aM_aK : aM ≠ aK := Nat.ne_of_lt (Nat.lt_of_lt_of_le IaM_44.lt (Nat.le_of_eq g48.symm))
  have ne_aI_aK : aI ≠ aK := Nat.ne_of_lt (Nat.lt_of_lt_of_le IaI_44.lt (Nat.le_of_eq g48.symm))
  have ne_aB_aK : aB ≠ aK := Nat.ne_of_lt (Nat.lt_of_lt_of_le IaB_44.lt (Nat.le_of_eq g48.symm))
  have ne_aS_aK : aS ≠ aK := Nat.ne_of_lt (Nat.lt_of_lt_of_le IaS_44.lt (Nat.le_of_eq g48.symm))
  have ne_aE_aK : aE ≠ aK := Nat.ne_of_lt (Nat.lt_of_lt_of_le IaE_44.lt (Nat.le_of_eq g48.symm))
  have ne_aF_aK : aF ≠ aK := Nat.ne_of_lt (Nat.lt_of_lt_of_le IaF_44.lt (Nat.le_of_eq g48.symm))
  have ne_aC_aK : aC ≠ aK := Nat.ne_of_lt (Nat.lt_of_lt_of_le IaC_44.lt (Nat.le_of_eq g48.symm))
  have ne_o0_aK : o0 ≠ aK := Nat.ne_of_lt (Nat.lt_of_lt_of_le Xo0_44.lt (Nat.le_of_eq g48.symm))
  have old_aK : h0.size ≤ aK := Nat.le_trans K44.1 (Nat.le_of_eq g48.symm)
  have Io1_48 := Io1_44.ext E48
  have IaM_48 := IaM_44.ext E48
  have IaI_48 := IaI_44.ext E48
  have IaB_48 := IaB_44.ext E48
  have IaS_48 := IaS_44.ext E48
  have IaE_48 := IaE_44.ext E48
  have IaF_48 := IaF_44.ext E48
  have IaC_48 := IaC_44.ext E48
  have Xo0_48 := Xo0_44.ext E48
  have Fo0_members_48 := Fo0_members_44.ext E48
  have Fo0_memberIndex_48 := Fo0_memberIndex_44.ext E48
  have Fo0_blockOf_48 := Fo0_blockOf_44.ext E48
  have Fo0_start_48 := Fo0_start_44.ext E48
  have Fo0_end_48 := Fo0_end_44.ext E48
  have Fo0_splitFrom_48 := Fo0_splitFrom_44.ext E48
  have Fo0_markedCount_48 := Fo0_markedCount_44.ext E48
  have Fo0_markedBlocks_48 := Fo0_markedBlocks_44.ext E48
  have Fo0_count_48 := Fo0_count_44.ext E48
  have Fo0_markedBlockCount_48 := Fo0_markedBlockCount_44.ext E48
  have Xo1_48 := Xo1_44.ext E48
  have Z48 : n0 ≤ h48.size := Nat.le_trans Z44 E48.1
  have K48 : Keep h0 h48 [o0] := K44.ext E48
  have I_aK : Own.IA Z h48 aK y47 := (Own.mk_some hy47).2.2 ▸ Own.IA.new A48 rfl
  have q49 : Steps p.tables e below (s₁.setTop (entryFrame m #[(.ref o0), (.ref o1), (.int p2)] 7)) (T48.setTop (mkF m 62 #[.val (.ref o0), .val (.ref o1), .val (.int p2), .val (.int (Own.ln xc)), .unset, .unset, .unset] [(.ref aK), (.ref o0)])) := q46.trans (st48 _ (Steps.refl _))
  obtain ⟨T50, h50, X50, e50, W50, st50⟩ := putF X48 hx hZ hown (host := "") (Or.inl (hw _ (List.mem_of_getElem? (i := 41) rfl))) Via.refl e48 Fo0_markedBlocks_48 Xo0_48 (Or.inr ⟨(hw _ (List.mem_of_getElem? (i := 42) rfl)), rfl, hnm⟩) (hw _ (List.mem_of_getElem? (i := 6) rfl)) (ty := (.array .int)) (by decide) rfl rfl (g := (mkF m 62 #[.val (.ref o0), .val (.ref o1), .val (.int p2), .val (.int (Own.ln xc)), .unset, .unset, .unset] [(.ref aK), (.ref o0)])) rfl rfl (hb hby d2_62)
  have N50 := Fr.snoc X50 N44 ge_o0
  have Io1_50 := Io1_48.other W50 (Ne.symm ne_o0_o1)
  have IaM_50 := IaM_48.other W50 (Ne.symm ne_o0_aM)
  have IaI_50 := IaI_48.other W50 (Ne.symm ne_o0_aI)
  have IaB_50 := IaB_48.other W50 (Ne.symm ne_o0_aB)
  have IaS_50 := IaS_48.other W50 (Ne.symm ne_o0_aS)
  have IaE_50 := IaE_48.other W50 (Ne.symm ne_o0_aE)
  have IaF_50 := IaF_48.other W50 (Ne.symm ne_o0_aF)
  have IaC_50 := IaC_48.other W50 (Ne.symm ne_o0_aC)
  have IaK_50 := I_aK.other W50 (Ne.symm ne_o0_aK)
  have Xo0_50 := Xo0_48.wr W50
  have Fo0_members_50 := Fo0_members_48.other W50 (Or.inr (slot_ne (Or.inr (hw _ (List.mem_of_getElem? (i := 15) rfl))) (Or.inr (hw _ (List.mem_of_getElem? (i := 42) rfl))) (by decide) (t := (.array .int)) (t' := (.array .int)) (by decide) (by decide)))
  have Fo0_memberIndex_50 := Fo0_memberIndex_48.other W50 (Or.inr (slot_ne (Or.inr (hw _ (List.mem_of_getElem? (i := 17) rfl))) (Or.inr (hw _ (List.mem_of_getElem? (i := 42) rfl))) (by decide) (t := (.array .int)) (t' := (.array .int)) (by decide) (by decide)))
  have Fo0_blockOf_50 := Fo0_blockOf_48.other W50 (Or.inr (slot_ne (Or.inr (hw _ (List.mem_of_getElem? (i := 32) rfl))) (Or.inr (hw _ (List.mem_of_getElem? (i := 42) rfl))) (by decide) (t := (.array .int)) (t' := (.array .int)) (by decide) (by decide)))
  have Fo0_start_50 := Fo0_start_48.other W50 (Or.inr (slot_ne (Or.inr (hw _ (List.mem_of_getElem? (i := 34) rfl))) (Or.inr (hw _ (List.mem_of_getElem? (i := 42) rfl))) (by decide) (t := (.array .int)) (t' := (.array .int)) (by decide) (by decide)))
  have Fo0_end_50 := Fo0_end_48.other W50 (Or.inr (slot_ne (Or.inr (hw _ (List.mem_of_getElem? (i := 36) rfl))) (Or.inr (hw _ (List.mem_of_getElem? (i := 42) rfl))) (by decide) (t := (.array .int)) (t' := (.array .int)) (by decide) (by decide)))
  have Fo0_splitFrom_50 := Fo0_splitFrom_48.other W50 (Or.inr (slot_ne (Or.inr (hw _ (List.mem_of_getElem? (i := 38) rfl))) (Or.inr (hw _ (List.mem_of_getElem? (i := 42) rfl))) (by decide) (t := (.array .int)) (t' := (.array .int)) (by decide) (by decide)))
  have Fo0_markedCount_50 := Fo0_markedCount_48.other W50 (Or.inr (slot_ne (Or.inr (hw _ (List.mem_of_getElem? (i := 40) rfl))) (Or.inr (hw _ (List.mem_of_getElem? (i := 42) rfl))) (by decide) (t := (.array .int)) (t' := (.array .int)) (by decide) (by decide)))
  have Fo0_count_50 := Fo0_count_48.other W50 (Or.inr (slot_ne (Or.inl (hw _ (List.mem_of_getElem? (i := 44) rfl))) (Or.inr (hw _ (List.mem_of_getElem? (i := 42) rfl))) (by decide) (t := .int) (t' := (.array .int)) (by decide) (by decide)))
  have Fo0_markedBlockCount_50 := Fo0_markedBlockCount_48.other W50 (Or.inr (slot_ne (Or.inl (hw _ (List.mem_of_getElem? (i := 57) rfl))) (Or.inr (hw _ (List.mem_of_getElem? (i := 42) rfl))) (by decide) (t := .int) (t' := (.array .int)) (by decide) (by decide)))
  have Xo1_50 := Xo1_48.wr W50
  have Z50 : n0 ≤ h50.size := Own.size_wr W50 Z48
  have K50 : Keep h0 h50 [o0] := K48.wr W50 (Or.inl (List.mem_of_getElem? (i := 0) rfl))
  have Fo0_markedBlocks_50 := Fo0_markedBlocks_48.same W50
  have q51 : Steps p.tables e below (s₁.setTop (entryFrame m #[(.ref o0), (.ref o1), (.int p2)] 7)) (T50.setTop (mkF m 65 #[.val (.ref o0), .val (.ref o1), .val (.int p2), .val (.int (Own.ln xc)), .unset, .unset, .unset] [])) := q49.trans (st50 _ (Steps.refl _))
  have q52 : Steps p.tables e below (s₁.setTop (entryFrame m #[(.ref o0), (.ref o1), (.int p2)] 7)) (T50.setTop (mkF m 68 #[.val (.ref o0), .val (.ref o1), .val (.int p2), .val (.int (Own.ln xc)), .val (.int (0 : Int32)), .unset, .unset] [])) := q51.trans (by
      show Steps p.tables e below (T50.setTop (mkF m 65 #[.val (.ref o0), .val (.ref o1), .val (.int p2), .val (.int (Own.ln xc)), .unset, .unset, .unset] [])) _
      refine XS.iconst X50.here hx rfl (hb hby d2_65) ?_
      show Steps p.tables e below (T50.setTop (mkF m 66 #[.val (.ref o0), .val (.ref o1), .val (.int p2), .val (.int (Own.ln xc)), .unset, .unset, .unset] [(.int (0 : Int32))])) _
      refine XS.istore X50.here hx rfl (hb hby d2_66) rfl (l' := #[.val (.ref o0), .val (.ref o1), .val (.int p2), .val (.int (Own.ln xc)), .val (.int (0 : Int32)), .unset, .unset]) rfl ?_
      show Steps p.tables e below (T50.setTop (mkF m 68 #[.val (.ref o0), .val (.ref o1), .val (.int p2), .val (.int (Own.ln xc)), .val (.int (0 : Int32)), .unset, .unset] [])) _
      exact Steps.refl _)
  obtain ⟨r53, hr53, hM⟩ := Option.bind_eq_some_iff.mp hM
  obtain ⟨T54, L54, h54, X54, e54, N54, Zq54, K54, J54_0, ql54⟩ := lpC1 hx hZ hw hby hml hown o0 o1 aM aI aB aS aE aF aC aK (0 : Int32) (0 : Int32) y5 y11 y23 y35 y41 y47 p2 (Own.ln xc) r17 ge_aM ge_aI ge_aB ge_aS ge_aE ge_aF ge_aC ge_aK ge_o0 ne_aM_aI ne_aM_aB ne_aM_aS ne_aM_aE ne_aM_aF ne_aM_aC ne_aM_aK ne_aI_aB ne_aI_aS ne_aI_aE ne_aI_aF ne_aI_aC ne_aI_aK ne_aB_aS ne_aB_aE ne_aB_aF ne_aB_aC ne_aB_aK ne_aS_aE ne_aS_aF ne_aS_aC ne_aS_aK ne_aE_aF ne_aE_aC ne_aE_aK ne_aF_aC ne_aF_aK ne_aC_aK ne_o0_aM ne_o0_aI ne_o0_aB ne_o0_aS ne_o0_aE ne_o0_aF ne_o0_aC ne_o0_aK 8 (0 : Int32) y29  _ hr53 X50 e50 N50 Z50  Xo0_50 Fo0_members_50 Fo0_memberIndex_50 Fo0_blockOf_50 Fo0_start_50 Fo0_end_50 Fo0_splitFrom_50 Fo0_markedCount_50 Fo0_markedBlocks_50 Fo0_count_50 Fo0_markedBlockCount_50 IaM_50 IaI_50 IaB_50 IaS_50 IaE_50 IaF_50 IaC_50 IaK_50
  have Io1_54 := Io1_50.keep K54 (ninS ne_o1_aE nin0)
  have IaM_54 := IaM_50.keep K54 (ninS ne_aM_aE nin0)
  have IaI_54 := IaI_50.keep K54 (ninS ne_aI_aE nin0)
  have IaB_54 := IaB_50.keep K54 (ninS ne_aB_aE nin0)
  have IaS_54 := IaS_50.keep K54 (ninS ne_aS_aE nin0)
  have IaF_54 := IaF_50.keep K54 (ninS (Ne.symm ne_aE_aF) nin0)
  have IaC_54 := IaC_50.keep K54 (ninS (Ne.symm ne_aE_aC) nin0)
  have IaK_54 := IaK_50.keep K54 (ninS (Ne.symm ne_aE_aK) nin0)
  have Xo0_54 := Xo0_50.keep K54
  have Fo0_members_54 := Fo0_members_50.keep K54 (ninS ne_o0_aE nin0)
  have Fo0_memberIndex_54 := Fo0_memberIndex_50.keep K54 (ninS ne_o0_aE nin0)
  have Fo0_blockOf_54 := Fo0_blockOf_50.keep K54 (ninS ne_o0_aE nin0)
  have Fo0_start_54 := Fo0_start_50.keep K54 (ninS ne_o0_aE nin0)
  have Fo0_end_54 := Fo0_end_50.keep K54 (ninS ne_o0_aE nin0)
  have Fo0_splitFrom_54 := Fo0_splitFrom_50.keep K54 (ninS ne_o0_aE nin0)
  have Fo0_markedCount_54 := Fo0_markedCount_50.keep K54 (ninS ne_o0_aE nin0)
  have Fo0_markedBlocks_54 := Fo0_markedBlocks_50.keep K54 (ninS ne_o0_aE nin0)
  have Fo0_count_54 := Fo0_count_50.keep K54 (ninS ne_o0_aE nin0)
  have Fo0_markedBlockCount_54 := Fo0_markedBlockCount_50.keep K54 (ninS ne_o0_aE nin0)
  have Xo1_54 := Xo1_50.keep K54
  have Z54 : n0 ≤ h54.size := Nat.le_trans Z50 K54.1
  have KK54 : Keep h0 h54 [o0] := K50.trans K54 (allS (Or.inr old_aE) all0)
  have q55 : Steps p.tables e below (s₁.setTop (entryFrame m #[(.ref o0), (.ref o1), (.int p2)] 7)) (T54.setTop (mkF m 96 #[.val (.ref o0), .val (.ref o1), .val (.int p2), .val (.int (Own.ln xc)), .val (.int r53.1), .unset, .unset] [])) := q52.trans ql54
  have q56 : Steps p.tables e below (s₁.setTop (entryFrame m #[(.ref o0), (.ref o1), (.int p2)] 7)) (T54.setTop (mkF m 102 #[.val (.ref o0), .val (.ref o1), .val (.int p2), .val (.int (Own.ln xc)), .val (.int (0 : Int32)), .val (.int (0 : Int32)), .unset] [])) := q55.trans (by
      show Steps p.tables e below (T54.setTop (mkF m 96 #[.val (.ref o0), .val (.ref o1), .val (.int p2), .val (.int (Own.ln xc)), .val (.int r53.1), .unset, .unset] [])) _
      refine XS.iconst X54.here hx rfl (hb hby d2_96) ?_
      show Steps p.tables e below (T54.setTop (mkF m 97 #[.val (.ref o0), .val (.ref o1), .val (.int p2), .val (.int (Own.ln xc)), .val (.int r53.1), .unset, .unset] [(.int (0 : Int32))])) _
      refine XS.istore X54.here hx rfl (hb hby d2_97) rfl (l' := #[.val (.ref o0), .val (.ref o1), .val (.int p2), .val (.int (Own.ln xc)), .val (.int (0 : Int32)), .unset, .unset]) rfl ?_
      show Steps p.tables e below (T54.setTop (mkF m 99 #[.val (.ref o0), .val (.ref o1), .val (.int p2), .val (.int (Own.ln xc)), .val (.int (0 : Int32)), .unset, .unset] [])) _
      refine XS.iconst X54.here hx rfl (hb hby d2_99) ?_
      show Steps p.tables e below (T54.setTop (mkF m 100 #[.val (.ref o0), .val (.ref o1), .val (.int p2), .val (.int (Own.ln xc)), .val (.int (0 : Int32)), .unset, .unset] [(.int (0 : Int32))])) _
      refine XS.istore X54.here hx rfl (hb hby d2_100) rfl (l' := #[.val (.ref o0), .val (.ref o1), .val (.int p2), .val (.int (Own.ln xc)), .val (.int (0 : Int32)), .val (.int (0 : Int32)), .unset]) rfl ?_
      show Steps p.tables e below (T54.setTop (mkF m 102 #[.val (.ref o0), .val (.ref o1), .val (.int p2), .val (.int (Own.ln xc)), .val (.int (0 : Int32)), .val (.int (0 : Int32)), .unset] [])) _
      exact Steps.refl _)
  obtain ⟨r57, hr57, hM⟩ := Option.bind_eq_some_iff.mp hM
  obtain ⟨T58, L58, h58, X58, e58, N58, Zq58, K58, J58_0, J58_1, ql58⟩ := lpC2 hx hZ hw hby hml hown o0 o1 aM aI aB aS aE aF aC aK (0 : Int32) (0 : Int32) y5 y11 r17 y35 y41 y47 (Own.ln xc) p2 ge_aM ge_aI ge_aB ge_aS ge_aE ge_aF ge_aC ge_aK ge_o0 ne_aM_aI ne_aM_aB ne_aM_aS ne_aM_aE ne_aM_aF ne_aM_aC ne_aM_aK ne_aI_aB ne_aI_aS ne_aI_aE ne_aI_aF ne_aI_aC ne_aI_aK ne_aB_aS ne_aB_aE ne_aB_aF ne_aB_aC ne_aB_aK ne_aS_aE ne_aS_aF ne_aS_aC ne_aS_aK ne_aE_aF ne_aE_aC ne_aE_aK ne_aF_aC ne_aF_aK ne_aC_aK ne_o0_aM ne_o0_aI ne_o0_aB ne_o0_aS ne_o0_aE ne_o0_aF ne_o0_aC ne_o0_aK 8 (0 : Int32) (0 : Int32) y23 r53.2  _ hr57 X54 e54 N54 Z54  Xo0_54 Fo0_members_54 Fo0_memberIndex_54 Fo0_blockOf_54 Fo0_start_54 Fo0_end_54 Fo0_splitFrom_54 Fo0_markedCount_54 Fo0_markedBlocks_54 Fo0_count_54 Fo0_markedBlockCount_54 IaM_54 IaI_54 IaB_54 IaS_54 J54_0 IaF_54 IaC_54 IaK_54
  have Io1_58 := Io1_54.keep K58 (ninS ne_o1_aS (ninS ne_o1_aE nin0))
  have IaM_58 := IaM_54.keep K58 (ninS ne_aM_aS (ninS ne_aM_aE nin0))
  have IaI_58 := IaI_54.keep K58 (ninS ne_aI_aS (ninS ne_aI_aE nin0))
  have IaB_58 := IaB_54.keep K58 (ninS ne_aB_aS (ninS ne_aB_aE nin0))
  have IaF_58 := IaF_54.keep K58 (ninS (Ne.symm ne_aS_aF) (ninS (Ne.symm ne_aE_aF) nin0))
  have IaC_58 := IaC_54.keep K58 (ninS (Ne.symm ne_aS_aC) (ninS (Ne.symm ne_aE_aC) nin0))
  have IaK_58 := IaK_54.keep K58 (ninS (Ne.symm ne_aS_aK) (ninS (Ne.symm ne_aE_aK) nin0))
  have Xo0_58 := Xo0_54.keep K58
  have Fo0_members_58 := Fo0_members_54.keep K58 (ninS ne_o0_aS (ninS ne_o0_aE nin0))
  have Fo0_memberIndex_58 := Fo0_memberIndex_54.keep K58 (ninS ne_o0_aS (ninS ne_o0_aE nin0))
  have Fo0_blockOf_58 := Fo0_blockOf_54.keep K58 (ninS ne_o0_aS (ninS ne_o0_aE nin0))
  have Fo0_start_58 := Fo0_start_54.keep K58 (ninS ne_o0_aS (ninS ne_o0_aE nin0))
  have Fo0_end_58 := Fo0_end_54.keep K58 (ninS ne_o0_aS (ninS ne_o0_aE nin0))
  have Fo0_splitFrom_58 := Fo0_splitFrom_54.keep K58 (ninS ne_o0_aS (ninS ne_o0_aE nin0))
  have Fo0_markedCount_58 := Fo0_markedCount_54.keep K58 (ninS ne_o0_aS (ninS ne_o0_aE nin0))
  have Fo0_markedBlocks_58 := Fo0_markedBlocks_54.keep K58 (ninS ne_o0_aS (ninS ne_o0_aE nin0))
  have Fo0_count_58 := Fo0_count_54.keep K58 (ninS ne_o0_aS (ninS ne_o0_aE nin0))
  have Fo0_markedBlockCount_58 := Fo0_markedBlockCount_54.keep K58 (ninS ne_o0_aS (ninS ne_o0_aE nin0))
  have Xo1_58 := Xo1_54.keep K58
  have Z58 : n0 ≤ h58.size := Nat.le_trans Z54 K58.1
  have KK58 : Keep h0 h58 [o0] := KK54.trans K58 (allS (Or.inr old_aS) (allS (Or.inr old_aE) all0))
  have q59 : Steps p.tables e below (s₁.setTop (entryFrame m #[(.ref o0), (.ref o1), (.int p2)] 7)) (T58.setTop (mkF m 149 #[.val (.ref o0), .val (.ref o1), .val (.int p2), .val (.int (Own.ln xc)), .val (.int r57.1), .val (.int r57.2.1), .unset] [])) := q56.trans ql58
  have q60 : Steps p.tables e below (s₁.setTop (entryFrame m #[(.ref o0), (.ref o1), (.int p2)] 7)) (T58.setTop (mkF m 152 #[.val (.ref o0), .val (.ref o1), .val (.int p2), .val (.int (Own.ln xc)), .val (.int r57.1), .val (.int (0 : Int32)), .unset] [])) := q59.trans (by
      show Steps p.tables e below (T58.setTop (mkF m 149 #[.val (.ref o0), .val (.ref o1), .val (.int p2), .val (.int (Own.ln xc)), .val (.int r57.1), .val (.int r57.2.1), .unset] [])) _
      refine XS.iconst X58.here hx rfl (hb hby d2_149) ?_
      show Steps p.tables e below (T58.setTop (mkF m 150 #[.val (.ref o0), .val (.ref o1), .val (.int p2), .val (.int (Own.ln xc)), .val (.int r57.1), .val (.int r57.2.1), .unset] [(.int (0 : Int32))])) _
      refine XS.istore X58.here hx rfl (hb hby d2_150) rfl (l' := #[.val (.ref o0), .val (.ref o1), .val (.int p2), .val (.int (Own.ln xc)), .val (.int r57.1), .val (.int (0 : Int32)), .unset]) rfl ?_
      show Steps p.tables e below (T58.setTop (mkF m 152 #[.val (.ref o0), .val (.ref o1), .val (.int p2), .val (.int (Own.ln xc)), .val (.int r57.1), .val (.int (0 : Int32)), .unset] [])) _
      exact Steps.refl _)
  obtain ⟨r61, hr61, hM⟩ := Option.bind_eq_some_iff.mp hM
  obtain ⟨T62, L62, h62, u62_0, X62, e62, N62, Zq62, K62, os_u62_0, J62_0, J62_1, J62_2, ql62⟩ := lpC3 hx hZ hw hby hml hown o0 o1 aM aI aB aS aE aF aC aK (0 : Int32) (0 : Int32) r57.2.2.1 y35 y41 y47 p2 r57.1 (Own.ln xc) r17 ge_aM ge_aI ge_aB ge_aS ge_aE ge_aF ge_aC ge_aK ge_o0 ne_aM_aI ne_aM_aB ne_aM_aS ne_aM_aE ne_aM_aF ne_aM_aC ne_aM_aK ne_aI_aB ne_aI_aS ne_aI_aE ne_aI_aF ne_aI_aC ne_aI_aK ne_aB_aS ne_aB_aE ne_aB_aF ne_aB_aC ne_aB_aK ne_aS_aE ne_aS_aF ne_aS_aC ne_aS_aK ne_aE_aF ne_aE_aC ne_aE_aK ne_aF_aC ne_aF_aK ne_aC_aK ne_o0_aM ne_o0_aI ne_o0_aB ne_o0_aS ne_o0_aE ne_o0_aF ne_o0_aC ne_o0_aK 8 (0 : Int32) y11 y5 r57.2.2.2 .unset _ hr61 X58 e58 N58 Z58 One.u Xo0_58 Fo0_members_58 Fo0_memberIndex_58 Fo0_blockOf_58 Fo0_start_58 Fo0_end_58 Fo0_splitFrom_58 Fo0_markedCount_58 Fo0_markedBlocks_58 Fo0_count_58 Fo0_markedBlockCount_58 IaM_58 IaI_58 IaB_58 J58_0 J58_1 IaF_58 IaC_58 IaK_58
  have Io1_62 := Io1_58.keep K62 (ninS ne_o1_aI (ninS ne_o1_aM (ninS ne_o1_aE nin0)))
  have IaB_62 := IaB_58.keep K62 (ninS (Ne.symm ne_aI_aB) (ninS (Ne.symm ne_aM_aB) (ninS ne_aB_aE nin0)))
  have IaS_62 := J58_0.keep K62 (ninS (Ne.symm ne_aI_aS) (ninS (Ne.symm ne_aM_aS) (ninS ne_aS_aE nin0)))
  have IaF_62 := IaF_58.keep K62 (ninS (Ne.symm ne_aI_aF) (ninS (Ne.symm ne_aM_aF) (ninS (Ne.symm ne_aE_aF) nin0)))
  have IaC_62 := IaC_58.keep K62 (ninS (Ne.symm ne_aI_aC) (ninS (Ne.symm ne_aM_aC) (ninS (Ne.symm ne_aE_aC) nin0)))
  have IaK_62 := IaK_58.keep K62 (ninS (Ne.symm ne_aI_aK) (ninS (Ne.symm ne_aM_aK) (ninS (Ne.symm ne_aE_aK) nin0)))
  have Xo0_62 := Xo0_58.keep K62
  have Fo0_members_62 := Fo0_members_58.keep K62 (ninS ne_o0_aI (ninS ne_o0_aM (ninS ne_o0_aE nin0)))
  have Fo0_memberIndex_62 := Fo0_memberIndex_58.keep K62 (ninS ne_o0_aI (ninS ne_o0_aM (ninS ne_o0_aE nin0)))
  have Fo0_blockOf_62 := Fo0_blockOf_58.keep K62 (ninS ne_o0_aI (ninS ne_o0_aM (ninS ne_o0_aE nin0)))
  have Fo0_start_62 := Fo0_start_58.keep K62 (ninS ne_o0_aI (ninS ne_o0_aM (ninS ne_o0_aE nin0)))
  have Fo0_end_62 := Fo0_end_58.keep K62 (ninS ne_o0_aI (ninS ne_o0_aM (ninS ne_o0_aE nin0)))
  have Fo0_splitFrom_62 := Fo0_splitFrom_58.keep K62 (ninS ne_o0_aI (ninS ne_o0_aM (ninS ne_o0_aE nin0)))
  have Fo0_markedCount_62 := Fo0_markedCount_58.keep K62 (ninS ne_o0_aI (ninS ne_o0_aM (ninS ne_o0_aE nin0)))
  have Fo0_markedBlocks_62 := Fo0_markedBlocks_58.keep K62 (ninS ne_o0_aI (ninS ne_o0_aM (ninS ne_o0_aE nin0)))
  have Fo0_count_62 := Fo0_count_58.keep K62 (ninS ne_o0_aI (ninS ne_o0_aM (ninS ne_o0_aE nin0)))
  have Fo0_markedBlockCount_62 := Fo0_markedBlockCount_58.keep K62 (ninS ne_o0_aI (ninS ne_o0_aM (ninS ne_o0_aE nin0)))
  have Xo1_62 := Xo1_58.keep K62
  have Z62 : n0 ≤ h62.size := Nat.le_trans Z58 K62.1
  have KK62 : Keep h0 h62 [o0] := KK58.trans K62 (allS (Or.inr old_aI) (allS (Or.inr old_aM) (allS (Or.inr old_aE) all0)))
  have q63 : Steps p.tables e below (s₁.setTop (entryFrame m #[(.ref o0), (.ref o1), (.int p2)] 7)) (T62.setTop (mkF m 206 #[.val (.ref o0), .val (.ref o1), .val (.int p2), .val (.int (Own.ln xc)), .val (.int r57.1), .val (.int r61.1), u62_0] [])) := q60.trans ql62
  have q64 : Steps p.tables e below (s₁.setTop (entryFrame m #[(.ref o0), (.ref o1), (.int p2)] 7)) (T62.setTop (mkF m 208 #[.val (.ref o0), .val (.ref o1), .val (.int p2), .val (.int (Own.ln xc)), .val (.int r57.1), .val (.int r61.1), u62_0] [(.int p2), (.ref o0)])) := q63.trans (by
      show Steps p.tables e below (T62.setTop (mkF m 206 #[.val (.ref o0), .val (.ref o1), .val (.int p2), .val (.int (Own.ln xc)), .val (.int r57.1), .val (.int r61.1), u62_0] [])) _
      refine XS.aloadN X62.here hx rfl (hb hby d2_206) rfl rfl ?_
      show Steps p.tables e below (T62.setTop (mkF m 207 #[.val (.ref o0), .val (.ref o1), .val (.int p2), .val (.int (Own.ln xc)), .val (.int r57.1), .val (.int r61.1), u62_0] [(.ref o0)])) _
      refine XS.iloadN X62.here hx rfl (hb hby d2_207) rfl ?_
      show Steps p.tables e below (T62.setTop (mkF m 208 #[.val (.ref o0), .val (.ref o1), .val (.int p2), .val (.int (Own.ln xc)), .val (.int r57.1), .val (.int r61.1), u62_0] [(.int p2), (.ref o0)])) _
      exact Steps.refl _)
  obtain ⟨T65, h65, X65, e65, W65, st65⟩ := putF X62 hx hZ hown (host := "") (Or.inl (hw _ (List.mem_of_getElem? (i := 43) rfl))) Via.refl e62 Fo0_count_62 Xo0_62 (Or.inl (hw _ (List.mem_of_getElem? (i := 44) rfl))) (hw _ (List.mem_of_getElem? (i := 6) rfl)) (ty := .int) (by decide) rfl rfl (g := (mkF m 208 #[.val (.ref o0), .val (.ref o1), .val (.int p2), .val (.int (Own.ln xc)), .val (.int r57.1), .val (.int r61.1), u62_0] [(.int p2), (.ref o0)])) rfl rfl (hb hby d2_208)
  have N65 := Fr.snoc X65 N62 ge_o0
  have Io1_65 := Io1_62.other W65 (Ne.symm ne_o0_o1)
  have IaM_65 := J62_1.other W65 (Ne.symm ne_o0_aM)
  have IaI_65 := J62_0.other W65 (Ne.symm ne_o0_aI)
  have IaB_65 := IaB_62.other W65 (Ne.symm ne_o0_aB)
  have IaS_65 := IaS_62.other W65 (Ne.symm ne_o0_aS)
  have IaE_65 := J62_2.other W65 (Ne.symm ne_o0_aE)
  have IaF_65 := IaF_62.other W65 (Ne.symm ne_o0_aF)
  have IaC_65 := IaC_62.other W65 (Ne.symm ne_o0_aC)
  have IaK_65 := IaK_62.other W65 (Ne.symm ne_o0_aK)
  have Xo0_65 := Xo0_62.wr W65
  have Fo0_members_65 := Fo0_members_62.other W65 (Or.inr (slot_ne (Or.inr (hw _ (List.mem_of_getElem? (i := 15) rfl))) (Or.inl (hw _ (List.mem_of_getElem? (i := 44) rfl))) (by decide) (t := (.array .int)) (t' := .int) (by decide) (by decide)))
  have Fo0_memberIndex_65 := Fo0_memberIndex_62.other W65 (Or.inr (slot_ne (Or.inr (hw _ (List.mem_of_getElem? (i := 17) rfl))) (Or.inl (hw _ (List.mem_of_getElem? (i := 44) rfl))) (by decide) (t := (.array .int)) (t' := .int) (by decide) (by decide)))
  have Fo0_blockOf_65 := Fo0_blockOf_62.other W65 (Or.inr (slot_ne (Or.inr (hw _ (List.mem_of_getElem? (i := 32) rfl))) (Or.inl (hw _ (List.mem_of_getElem? (i := 44) rfl))) (by decide) (t := (.array .int)) (t' := .int) (by decide) (by decide)))
  have Fo0_start_65 := Fo0_start_62.other W65 (Or.inr (slot_ne (Or.inr (hw _ (List.mem_of_getElem? (i := 34) rfl))) (Or.inl (hw _ (List.mem_of_getElem? (i := 44) rfl))) (by decide) (t := (.array .int)) (t' := .int) (by decide) (by decide)))
  have Fo0_end_65 := Fo0_end_62.other W65 (Or.inr (slot_ne (Or.inr (hw _ (List.mem_of_getElem? (i := 36) rfl))) (Or.inl (hw _ (List.mem_of_getElem? (i := 44) rfl))) (by decide) (t := (.array .int)) (t' := .int) (by decide) (by decide)))
  have Fo0_splitFrom_65 := Fo0_splitFrom_62.other W65 (Or.inr (slot_ne (Or.inr (hw _ (List.mem_of_getElem? (i := 38) rfl))) (Or.inl (hw _ (List.mem_of_getElem? (i := 44) rfl))) (by decide) (t := (.array .int)) (t' := .int) (by decide) (by decide)))
  have Fo0_markedCount_65 := Fo0_markedCount_62.other W65 (Or.inr (slot_ne (Or.inr (hw _ (List.mem_of_getElem? (i := 40) rfl))) (Or.inl (hw _ (List.mem_of_getElem? (i := 44) rfl))) (by decide) (t := (.array .int)) (t' := .int) (by decide) (by decide)))
  have Fo0_markedBlocks_65 := Fo0_markedBlocks_62.other W65 (Or.inr (slot_ne (Or.inr (hw _ (List.mem_of_getElem? (i := 42) rfl))) (Or.inl (hw _ (List.mem_of_getElem? (i := 44) rfl))) (by decide) (t := (.array .int)) (t' := .int) (by decide) (by decide)))
  have Fo0_markedBlockCount_65 := Fo0_markedBlockCount_62.other W65 (Or.inr (slot_ne (Or.inl (hw _ (List.mem_of_getElem? (i := 57) rfl))) (Or.inl (hw _ (List.mem_of_getElem? (i := 44) rfl))) (by decide) (t := .int) (t' := .int) (by decide) (by decide)))
  have Xo1_65 := Xo1_62.wr W65
  have Z65 : n0 ≤ h65.size := Own.size_wr W65 Z62
  have K65 : Keep h0 h65 [o0] := KK62.wr W65 (Or.inl (List.mem_of_getElem? (i := 0) rfl))
  have Fo0_count_65 := Fo0_count_62.same W65
  have q66 : Steps p.tables e below (s₁.setTop (entryFrame m #[(.ref o0), (.ref o1), (.int p2)] 7)) (T65.setTop (mkF m 211 #[.val (.ref o0), .val (.ref o1), .val (.int p2), .val (.int (Own.ln xc)), .val (.int r57.1), .val (.int r61.1), u62_0] [])) := q64.trans (st65 _ (Steps.refl _))
  obtain rfl := Option.some.inj hM
  obtain ⟨fs, hr, hrun, hended, hW, hsame⟩ := X65.leave (v := none) (fun _ => rfl)
  refine ⟨_, _, q66.trans ?_, hrun, hended, _, _, rfl, ?_, ⟨_, rfl⟩, hW, hsame.mono (by decide) (by decide)⟩
  · exact X65.returnOut hx Bd.returns (hb hby d2_211) hr
  · show Q_rmC Z o0 o1 p2 xc _ h0 n0 _ T65.heap _
    rw [e65]
    exact ⟨aM, aI, aB, aS, aE, aF, aC, aK, rfl, N65, K65, Xo0_65, Fo0_members_65, Fo0_memberIndex_65, Fo0_blockOf_65, Fo0_start_65, Fo0_end_65, Fo0_splitFrom_65, Fo0_markedCount_65, Fo0_markedBlocks_65, Fo0_count_65, Fo0_markedBlockCount_65, IaM_65, IaI_65, IaB_65, IaS_65, IaE_65, IaF_65, IaC_65, IaK_65, old_aM, old_aI, old_aB, old_aS, old_aE, old_aF, old_aC, old_aK, ne_aM_aI, ne_aM_aB, ne_aM_aS, ne_aM_aE, ne_aM_aF, ne_aM_aC, ne_aM_aK, ne_aI_aB, ne_aI_aS, ne_aI_aE, ne_aI_aF, ne_aI_aC, ne_aI_aK, ne_aB_aS, ne_aB_aE, ne_aB_aF, ne_aB_aC, ne_aB_aK, ne_aS_aE, ne_aS_aF, ne_aS_aC, ne_aS_aK, ne_aE_aF, ne_aE_aC, ne_aE_aK, ne_aF_aC, ne_aF_aK, ne_aC_aK⟩

theorem d7_0 : decode prog_1_method_6_code 0 = .ok (.aload_n 0, 1) := by decide +kernel
theorem d7_1 : decode prog_1_method_6_code 1 = .ok (.getfield 22, 3) := by decide +kernel
theorem d7_4 : decode prog_1_method_6_code 4 = .ok (.iload_n 1, 1) := by decide +kernel
theorem d7_5 : decode prog_1_method_6_code 5 = .ok (.iaload, 1) := by decide +kernel
theorem d7_6 : decode prog_1_method_6_code 6 = .ok (.istore_n 2, 1) := by decide +kernel
theorem d7_7 : decode prog_1_method_6_code 7 = .ok (.aload_n 0, 1) := by decide +kernel
theorem d7_8 : decode prog_1_method_6_code 8 = .ok (.getfield 34, 3) := by decide +kernel
theorem d7_11 : decode prog_1_method_6_code 11 = .ok (.iload_n 2, 1) := by decide +kernel
theorem d7_12 : decode prog_1_method_6_code 12 = .ok (.iaload, 1) := by decide +kernel
theorem d7_13 : decode prog_1_method_6_code 13 = .ok (.ifCond .ne 20, 3) := by decide +kernel
theorem d7_16 : decode prog_1_method_6_code 16 = .ok (.aload_n 0, 1) := by decide +kernel
theorem d7_17 : decode prog_1_method_6_code 17 = .ok (.getfield 37, 3) := by decide +kernel
theorem d7_20 : decode prog_1_method_6_code 20 = .ok (.aload_n 0, 1) := by decide +kernel
theorem d7_21 : decode prog_1_method_6_code 21 = .ok (.dup, 1) := by decide +kernel
theorem d7_22 : decode prog_1_method_6_code 22 = .ok (.getfield 54, 3) := by decide +kernel
theorem d7_25 : decode prog_1_method_6_code 25 = .ok (.dup_x1, 1) := by decide +kernel
theorem d7_26 : decode prog_1_method_6_code 26 = .ok (.iconst 1, 1) := by decide +kernel
theorem d7_27 : decode prog_1_method_6_code 27 = .ok (.iadd, 1) := by decide +kernel
theorem d7_28 : decode prog_1_method_6_code 28 = .ok (.putfield 54, 3) := by decide +kernel
theorem d7_31 : decode prog_1_method_6_code 31 = .ok (.iload_n 2, 1) := by decide +kernel
theorem d7_32 : decode prog_1_method_6_code 32 = .ok (.iastore, 1) := by decide +kernel
theorem d7_33 : decode prog_1_method_6_code 33 = .ok (.aload_n 0, 1) := by decide +kernel
theorem d7_34 : decode prog_1_method_6_code 34 = .ok (.getfield 25, 3) := by decide +kernel
theorem d7_37 : decode prog_1_method_6_code 37 = .ok (.iload_n 2, 1) := by decide +kernel
theorem d7_38 : decode prog_1_method_6_code 38 = .ok (.iaload, 1) := by decide +kernel
theorem d7_39 : decode prog_1_method_6_code 39 = .ok (.aload_n 0, 1) := by decide +kernel
theorem d7_40 : decode prog_1_method_6_code 40 = .ok (.getfield 34, 3) := by decide +kernel
theorem d7_43 : decode prog_1_method_6_code 43 = .ok (.iload_n 2, 1) := by decide +kernel
theorem d7_44 : decode prog_1_method_6_code 44 = .ok (.iaload, 1) := by decide +kernel
theorem d7_45 : decode prog_1_method_6_code 45 = .ok (.iadd, 1) := by decide +kernel
theorem d7_46 : decode prog_1_method_6_code 46 = .ok (.istore_n 3, 1) := by decide +kernel
theorem d7_47 : decode prog_1_method_6_code 47 = .ok (.aload_n 0, 1) := by decide +kernel
theorem d7_48 : decode prog_1_method_6_code 48 = .ok (.getfield 7, 3) := by decide +kernel
theorem d7_51 : decode prog_1_method_6_code 51 = .ok (.iload_n 3, 1) := by decide +kernel
theorem d7_52 : decode prog_1_method_6_code 52 = .ok (.iaload, 1) := by decide +kernel
theorem d7_53 : decode prog_1_method_6_code 53 = .ok (.istore 4, 2) := by decide +kernel
theorem d7_55 : decode prog_1_method_6_code 55 = .ok (.aload_n 0, 1) := by decide +kernel
theorem d7_56 : decode prog_1_method_6_code 56 = .ok (.getfield 7, 3) := by decide +kernel
theorem d7_59 : decode prog_1_method_6_code 59 = .ok (.aload_n 0, 1) := by decide +kernel
theorem d7_60 : decode prog_1_method_6_code 60 = .ok (.getfield 13, 3) := by decide +kernel
theorem d7_63 : decode prog_1_method_6_code 63 = .ok (.iload_n 1, 1) := by decide +kernel
theorem d7_64 : decode prog_1_method_6_code 64 = .ok (.iaload, 1) := by decide +kernel
theorem d7_65 : decode prog_1_method_6_code 65 = .ok (.iload 4, 2) := by decide +kernel
theorem d7_67 : decode prog_1_method_6_code 67 = .ok (.iastore, 1) := by decide +kernel
theorem d7_68 : decode prog_1_method_6_code 68 = .ok (.aload_n 0, 1) := by decide +kernel
theorem d7_69 : decode prog_1_method_6_code 69 = .ok (.getfield 13, 3) := by decide +kernel
theorem d7_72 : decode prog_1_method_6_code 72 = .ok (.iload 4, 2) := by decide +kernel
theorem d7_74 : decode prog_1_method_6_code 74 = .ok (.aload_n 0, 1) := by decide +kernel
theorem d7_75 : decode prog_1_method_6_code 75 = .ok (.getfield 13, 3) := by decide +kernel
theorem d7_78 : decode prog_1_method_6_code 78 = .ok (.iload_n 1, 1) := by decide +kernel
theorem d7_79 : decode prog_1_method_6_code 79 = .ok (.iaload, 1) := by decide +kernel
theorem d7_80 : decode prog_1_method_6_code 80 = .ok (.iastore, 1) := by decide +kernel
theorem d7_81 : decode prog_1_method_6_code 81 = .ok (.aload_n 0, 1) := by decide +kernel
theorem d7_82 : decode prog_1_method_6_code 82 = .ok (.getfield 7, 3) := by decide +kernel
theorem d7_85 : decode prog_1_method_6_code 85 = .ok (.iload_n 3, 1) := by decide +kernel
theorem d7_86 : decode prog_1_method_6_code 86 = .ok (.iload_n 1, 1) := by decide +kernel
theorem d7_87 : decode prog_1_method_6_code 87 = .ok (.iastore, 1) := by decide +kernel
theorem d7_88 : decode prog_1_method_6_code 88 = .ok (.aload_n 0, 1) := by decide +kernel
theorem d7_89 : decode prog_1_method_6_code 89 = .ok (.getfield 13, 3) := by decide +kernel
theorem d7_92 : decode prog_1_method_6_code 92 = .ok (.iload_n 1, 1) := by decide +kernel
theorem d7_93 : decode prog_1_method_6_code 93 = .ok (.iload_n 3, 1) := by decide +kernel
theorem d7_94 : decode prog_1_method_6_code 94 = .ok (.iastore, 1) := by decide +kernel
theorem d7_95 : decode prog_1_method_6_code 95 = .ok (.aload_n 0, 1) := by decide +kernel
theorem d7_96 : decode prog_1_method_6_code 96 = .ok (.getfield 34, 3) := by decide +kernel
theorem d7_99 : decode prog_1_method_6_code 99 = .ok (.iload_n 2, 1) := by decide +kernel
theorem d7_100 : decode prog_1_method_6_code 100 = .ok (.dup2, 1) := by decide +kernel
theorem d7_101 : decode prog_1_method_6_code 101 = .ok (.iaload, 1) := by decide +kernel
theorem d7_102 : decode prog_1_method_6_code 102 = .ok (.iconst 1, 1) := by decide +kernel
theorem d7_103 : decode prog_1_method_6_code 103 = .ok (.iadd, 1) := by decide +kernel
theorem d7_104 : decode prog_1_method_6_code 104 = .ok (.iastore, 1) := by decide +kernel
theorem d7_105 : decode prog_1_method_6_code 105 = .ok (.return_, 1) := by decide +kernel
theorem pn_rmM : plainName "com/example/libpathsum/libpathsum/Blocks" = true := by first | (simp [plainName, overriddenIn]; done) | decide +kernel
theorem ef_rmM (m : MethodId) (o0 : Addr) (p1 : Int32) : entryFrame m #[(.ref o0), (.int p1)] 5 = mkF m 0 #[.val (.ref o0), .val (.int p1), .unset, .unset, .unset] [] := by first | (simp [entryFrame, mkF, argsToLocals, Value.category]; done) | rfl
def M_mark (p1 : Int32) (xM : List Int32) (xI : List Int32) (xB : List Int32) (xS : List Int32) (xE : List Int32) (xF : List Int32) (xC : List Int32) (xK : List Int32) (cn : Int32) (mc : Int32) : Option (List Int32 × List Int32 × List Int32 × List Int32 × Int32) := (Own.rd xB p1).bind fun v5 => (Own.rd xC v5).bind fun v11 => (if v11 = (0 : Int32) then (Own.wt xK mc v5).bind fun y26 => (Own.rd xS v5).bind fun v33 => (Own.rd xC v5).bind fun v39 => (Own.rd xM (v33 + v39)).bind fun v45 => (Own.rd xI p1).bind fun v54 => (Own.wt xM v54 v45).bind fun y57 => (Own.rd xI p1).bind fun v67 => (Own.wt xI v45 v67).bind fun y69 => (Own.wt y57 (v33 + v39) p1).bind fun y76 => (Own.wt y69 p1 (v33 + v39)).bind fun y83 => (Own.rd xC v5).bind fun v90 => (Own.wt xC v5 (v90 + (1 : Int32))).bind fun y93 => some (y76, y83, y93, y26, (mc + (1 : Int32))) else (Own.rd xS v5).bind fun v101 => (Own.rd xC v5).bind fun v107 => (Own.rd xM (v101 + v107)).bind fun v113 => (Own.rd xI p1).bind fun v122 => (Own.wt xM v122 v113).bind fun y125 => (Own.rd xI p1).bind fun v135 => (Own.wt xI v113 v135).bind fun y137 => (Own.wt y125 (v101 + v107) p1).bind fun y144 => (Own.wt y137 p1 (v101 + v107)).bind fun y151 => (Own.rd xC v5).bind fun v158 => (Own.wt xC v5 (v158 + (1 : Int32))).bind fun y161 => some (y144, y151, y161, xK, mc))
def Q_rmM (Z : State) (o0 : Addr) (p1 : Int32) (aM : Addr) (aI : Addr) (aB : Addr) (aS : Addr) (aE : Addr) (aF : Addr) (aC : Addr) (aK : Addr) (xM : List Int32) (xI : List Int32) (xB : List Int32) (xS : List Int32) (xE : List Int32) (xF : List Int32) (xC : List Int32) (xK : List Int32) (cn : Int32) (mc : Int32) (out : List Int32 × List Int32 × List Int32 × List Int32 × Int32) (h0 : Heap) (n0 : Nat) (v : Option Value) (h : Heap) (L : List Loc) : Prop := v = none ∧ Fr n0 L ∧ Keep h0 h [aM, aI, aC, aK, o0] ∧ Own.IA Z h aM out.1 ∧ Own.IA Z h aI out.2.1 ∧ Own.IA Z h aC out.2.2.1 ∧ Own.IA Z h aK out.2.2.2.1 ∧ Fld Z h o0 "com/example/libpathsum/libpathsum/Blocks" "members" "[I" (.ref aM) ∧ Fld Z h o0 "com/example/libpathsum/libpathsum/Blocks" "memberIndex" "[I" (.ref aI) ∧ Fld Z h o0 "com/example/libpathsum/libpathsum/Blocks" "blockOf" "[I" (.ref aB) ∧ Fld Z h o0 "com/example/libpathsum/libpathsum/Blocks" "start" "[I" (.ref aS) ∧ Fld Z h o0 "com/example/libpathsum/libpathsum/Blocks" "end" "[I" (.ref aE) ∧ Fld Z h o0 "com/example/libpathsum/libpathsum/Blocks" "splitFrom" "[I" (.ref aF) ∧ Fld Z h o0 "com/example/libpathsum/libpathsum/Blocks" "markedCount" "[I" (.ref aC) ∧ Fld Z h o0 "com/example/libpathsum/libpathsum/Blocks" "markedBlocks" "[I" (.ref aK) ∧ Fld Z h o0 "com/example/libpathsum/libpathsum/Blocks" "count" "I" (.int cn) ∧ Fld Z h o0 "com/example/libpathsum/libpathsum/Blocks" "markedBlockCount" "I" (.int out.2.2.2.2)
set_option maxRecDepth 65536 in
set_option maxHeartbeats 40000000 in
theorem rmM (l : Launch) (Z : State) (a0 : Array Value) (hw : ∀ d ∈ tables_1, d.before a0 Z = true) (ws : List Jvm.Cond) (o0 : Addr) (p1 : Int32) (aM : Addr) (aI : Addr) (aB : Addr) (aS : Addr) (aE : Addr) (aF : Addr) (aC : Addr) (aK : Addr) (xM : List Int32) (xI : List Int32) (xB : List Int32) (xS : List Int32) (xE : List Int32) (xF : List Int32) (xC : List Int32) (xK : List Int32) (cn : Int32) (mc : Int32) (out : List Int32 × List Int32 × List Int32 × List Int32 × Int32) (h0 : Heap) (n0 : Nat) (Z0 : n0 ≤ h0.size) (E_o0 : Exa Z h0 o0 "com/example/libpathsum/libpathsum/Blocks") (F_o0_members : Fld Z h0 o0 "com/example/libpathsum/libpathsum/Blocks" "members" "[I" (.ref aM)) (F_o0_memberIndex : Fld Z h0 o0 "com/example/libpathsum/libpathsum/Blocks" "memberIndex" "[I" (.ref aI)) (F_o0_blockOf : Fld Z h0 o0 "com/example/libpathsum/libpathsum/Blocks" "blockOf" "[I" (.ref aB)) (F_o0_start : Fld Z h0 o0 "com/example/libpathsum/libpathsum/Blocks" "start" "[I" (.ref aS)) (F_o0_end : Fld Z h0 o0 "com/example/libpathsum/libpathsum/Blocks" "end" "[I" (.ref aE)) (F_o0_splitFrom : Fld Z h0 o0 "com/example/libpathsum/libpathsum/Blocks" "splitFrom" "[I" (.ref aF)) (F_o0_markedCount : Fld Z h0 o0 "com/example/libpathsum/libpathsum/Blocks" "markedCount" "[I" (.ref aC)) (F_o0_markedBlocks : Fld Z h0 o0 "com/example/libpathsum/libpathsum/Blocks" "markedBlocks" "[I" (.ref aK)) (F_o0_count : Fld Z h0 o0 "com/example/libpathsum/libpathsum/Blocks" "count" "I" (.int cn)) (F_o0_markedBlockCount : Fld Z h0 o0 "com/example/libpathsum/libpathsum/Blocks" "markedBlockCount" "I" (.int mc)) (I_aM : Own.IA Z h0 aM xM) (I_aI : Own.IA Z h0 aI xI) (I_aB : Own.IA Z h0 aB xB) (I_aS : Own.IA Z h0 aS xS) (I_aE : Own.IA Z h0 aE xE) (I_aF : Own.IA Z h0 aF xF) (I_aC : Own.IA Z h0 aC xC) (I_aK : Own.IA Z h0 aK xK) (ge_aM : n0 ≤ aM) (ge_aI : n0 ≤ aI) (ge_aB : n0 ≤ aB) (ge_aS : n0 ≤ aS) (ge_aE : n0 ≤ aE) (ge_aF : n0 ≤ aF) (ge_aC : n0 ≤ aC) (ge_aK : n0 ≤ aK) (ge_o0 : n0 ≤ o0) (ne_aM_aI : aM ≠ aI) (ne_aM_aB : aM ≠ aB) (ne_aM_aS : aM ≠ aS) (ne_aM_aE : aM ≠ aE) (ne_aM_aF : aM ≠ aF) (ne_aM_aC : aM ≠ aC) (ne_aM_aK : aM ≠ aK) (ne_aI_aB : aI ≠ aB) (ne_aI_aS : aI ≠ aS) (ne_aI_aE : aI ≠ aE) (ne_aI_aF : aI ≠ aF) (ne_aI_aC : aI ≠ aC) (ne_aI_aK : aI ≠ aK) (ne_aB_aS : aB ≠ aS) (ne_aB_aE : aB ≠ aE) (ne_aB_aF : aB ≠ aF) (ne_aB_aC : aB ≠ aC) (ne_aB_aK : aB ≠ aK) (ne_aS_aE : aS ≠ aE) (ne_aS_aF : aS ≠ aF) (ne_aS_aC : aS ≠ aC) (ne_aS_aK : aS ≠ aK) (ne_aE_aF : aE ≠ aF) (ne_aE_aC : aE ≠ aC) (ne_aE_aK : aE ≠ aK) (ne_aF_aC : aF ≠ aC) (ne_aF_aK : aF ≠ aK) (ne_aC_aK : aC ≠ aK) (ne_o0_aM : o0 ≠ aM) (ne_o0_aI : o0 ≠ aI) (ne_o0_aB : o0 ≠ aB) (ne_o0_aS : o0 ≠ aS) (ne_o0_aE : o0 ≠ aE) (ne_o0_aF : o0 ≠ aF) (ne_o0_aC : o0 ≠ aC) (ne_o0_aK : o0 ≠ aK) (hM : M_mark p1 xM xI xB xS xE xF xC xK cn mc = some out) :
    MetFree l (⟨"com/example/libpathsum/libpathsum/Blocks", "mark", "(I)V"⟩ : MethodName) (head1 (Jvm.Cond.code (⟨"com/example/libpathsum/libpathsum/Blocks", "mark", "(I)V"⟩ : MethodName) prog_1_method_6_code 5 none :: ws) ({ frames := 0, cells := 0, slots := 0, locals := 0 } : Room)) (fun a U => a = #[(.ref o0), (.int p1)] ∧ Z.Warmed39 U.vm ∧ U.heap = h0) (fun _ _ _ _ _ => True) (fun _ U o U' => ∃ v L, o = .returned v ∧ Q_rmM Z o0 p1 aM aI aB aS aE aF aC aK xM xI xB xS xE xF xC xK cn mc out h0 n0 v U'.heap L ∧ FrameEnd U o U' L ({ frames := 0, cells := 0, slots := 0, locals := 0 } : Room).cells ({ frames := 0, cells := 0, slots := 0, locals := 0 } : Room).slots) := by
  refine MetFree.of_bodySF (plainFor_of_name pn_rmM) hisR ?_
  intro p e s m args below meth c s₁ Bd hml0 hP hK
  obtain ⟨rfl, hZ, hh⟩ := hP
  have hx := Bd.exec
  have hby := Bd.bytes
  have hml : c.maxLocals = 5 := hml0
  have hown : s.vm.findClass "com/example/libpathsum/libpathsum/Blocks" = some m.cls := findClass_of_methodNamed Bd.named
  have hnm := (name_of_methodNamed Bd.named Bd.method).1
  have X0 : Stand p l e ({ frames := 0, cells := 0, slots := 0, locals := 0 } : Room) s m #[(.ref o0), (.int p1)] below meth c s₁ [] 0 0 := Stand.of_body Bd
  have e0 : s₁.heap = h0 := by rw [← hh, Bd.state]; rfl
  have N0 := Fr.nil n0
  have q0 : Steps p.tables e below (s₁.setTop (entryFrame m #[(.ref o0), (.int p1)] 5)) (s₁.setTop (mkF m 0 #[.val (.ref o0), .val (.int p1), .unset, .unset, .unset] [])) := castTop (ef_rmM m o0 p1) (Steps.refl _)
  unfold M_mark at hM
  have K0 : Keep h0 h0 [aM, aI, aC, aK, o0] := Keep.refl _ _
  have q1 : Steps p.tables e below (s₁.setTop (entryFrame m #[(.ref o0), (.int p1)] 5)) (s₁.setTop (mkF m 1 #[.val (.ref o0), .val (.int p1), .unset, .unset, .unset] [(.ref o0)])) := q0.trans (by
      show Steps p.tables e below (s₁.setTop (mkF m 0 #[.val (.ref o0), .val (.int p1), .unset, .unset, .unset] [])) _
      refine XS.aloadN X0.here hx rfl (hb hby d7_0) rfl rfl ?_
      show Steps p.tables e below (s₁.setTop (mkF m 1 #[.val (.ref o0), .val (.int p1), .unset, .unset, .unset] [(.ref o0)])) _
      exact Steps.refl _)
  obtain ⟨T2, X2, e2, st2⟩ := getF X0 hx hZ hown (host := "") (Or.inl (hw _ (List.mem_of_getElem? (i := 31) rfl))) Via.refl e0 F_o0_blockOf (g := (mkF m 1 #[.val (.ref o0), .val (.int p1), .unset, .unset, .unset] [(.ref o0)])) rfl rfl (hb hby d7_1)
  have q3 : Steps p.tables e below (s₁.setTop (entryFrame m #[(.ref o0), (.int p1)] 5)) (T2.setTop (mkF m 4 #[.val (.ref o0), .val (.int p1), .unset, .unset, .unset] [(.ref aB)])) := q1.trans (st2 _ (Steps.refl _))
  have q4 : Steps p.tables e below (s₁.setTop (entryFrame m #[(.ref o0), (.int p1)] 5)) (T2.setTop (mkF m 5 #[.val (.ref o0), .val (.int p1), .unset, .unset, .unset] [(.int p1), (.ref aB)])) := q3.trans (by
      show Steps p.tables e below (T2.setTop (mkF m 4 #[.val (.ref o0), .val (.int p1), .unset, .unset, .unset] [(.ref aB)])) _
      refine XS.iloadN X2.here hx rfl (hb hby d7_4) rfl ?_
      show Steps p.tables e below (T2.setTop (mkF m 5 #[.val (.ref o0), .val (.int p1), .unset, .unset, .unset] [(.int p1), (.ref aB)])) _
      exact Steps.refl _)
  obtain ⟨v5, hv5, hM⟩ := Option.bind_eq_some_iff.mp hM
  have q6 : Steps p.tables e below (s₁.setTop (entryFrame m #[(.ref o0), (.int p1)] 5)) (T2.setTop (mkF m 6 #[.val (.ref o0), .val (.int p1), .unset, .unset, .unset] [(.int v5)])) := q4.trans (Own.ldO X2 hx hZ e2 I_aB hv5 (g := (mkF m 5 #[.val (.ref o0), .val (.int p1), .unset, .unset, .unset] [(.int p1), (.ref aB)])) rfl rfl (hb hby d7_5) _ (Steps.refl _))
  have q7 : Steps p.tables e below (s₁.setTop (entryFrame m #[(.ref o0), (.int p1)] 5)) (T2.setTop (mkF m 8 #[.val (.ref o0), .val (.int p1), .val (.int v5), .unset, .unset] [(.ref o0)])) := q6.trans (by
      show Steps p.tables e below (T2.setTop (mkF m 6 #[.val (.ref o0), .val (.int p1), .unset, .unset, .unset] [(.int v5)])) _
      refine XS.istoreN X2.here hx rfl (hb hby d7_6) rfl (l' := #[.val (.ref o0), .val (.int p1), .val (.int v5), .unset, .unset]) rfl ?_
      show Steps p.tables e below (T2.setTop (mkF m 7 #[.val (.ref o0), .val (.int p1), .val (.int v5), .unset, .unset] [])) _
      refine XS.aloadN X2.here hx rfl (hb hby d7_7) rfl rfl ?_
      show Steps p.tables e below (T2.setTop (mkF m 8 #[.val (.ref o0), .val (.int p1), .val (.int v5), .unset, .unset] [(.ref o0)])) _
      exact Steps.refl _)
  obtain ⟨T8, X8, e8, st8⟩ := getF X2 hx hZ hown (host := "") (Or.inl (hw _ (List.mem_of_getElem? (i := 39) rfl))) Via.refl e2 F_o0_markedCount (g := (mkF m 8 #[.val (.ref o0), .val (.int p1), .val (.int v5), .unset, .unset] [(.ref o0)])) rfl rfl (hb hby d7_8)
  have q9 : Steps p.tables e below (s₁.setTop (entryFrame m #[(.ref o0), (.int p1)] 5)) (T8.setTop (mkF m 11 #[.val (.ref o0), .val (.int p1), .val (.int v5), .unset, .unset] [(.ref aC)])) := q7.trans (st8 _ (Steps.refl _))
  have q10 : Steps p.tables e below (s₁.setTop (entryFrame m #[(.ref o0), (.int p1)] 5)) (T8.setTop (mkF m 12 #[.val (.ref o0), .val (.int p1), .val (.int v5), .unset, .unset] [(.int v5), (.ref aC)])) := q9.trans (by
      show Steps p.tables e below (T8.setTop (mkF m 11 #[.val (.ref o0), .val (.int p1), .val (.int v5), .unset, .unset] [(.ref aC)])) _
      refine XS.iloadN X8.here hx rfl (hb hby d7_11) rfl ?_
      show Steps p.tables e below (T8.setTop (mkF m 12 #[.val (.ref o0), .val (.int p1), .val (.int v5), .unset, .unset] [(.int v5), (.ref aC)])) _
      exact Steps.refl _)
  obtain ⟨v11, hv11, hM⟩ := Option.bind_eq_some_iff.mp hM
  have q12 : Steps p.tables e below (s₁.setTop (entryFrame m #[(.ref o0), (.int p1)] 5)) (T8.setTop (mkF m 13 #[.val (.ref o0), .val (.int p1), .val (.int v5), .unset, .unset] [(.int v11)])) := q10.trans (Own.ldO X8 hx hZ e8 I_aC hv11 (g := (mkF m 12 #[.val (.ref o0), .val (.int p1), .val (.int v5), .unset, .unset] [(.int v5), (.ref aC)])) rfl rfl (hb hby d7_12) _ (Steps.refl _))
  by_cases hc14 : v11 = (0 : Int32)
  · rw [if_pos hc14] at hM
    have q15 : Steps p.tables e below (s₁.setTop (entryFrame m #[(.ref o0), (.int p1)] 5)) (T8.setTop (mkF m 16 #[.val (.ref o0), .val (.int p1), .val (.int v5), .unset, .unset] [])) := q12.trans (by
        show Steps p.tables e below (T8.setTop (mkF m 13 #[.val (.ref o0), .val (.int p1), .val (.int v5), .unset, .unset] [(.int v11)])) _
        refine XS.ifNo X8.here hx rfl (hb hby d7_13) rfl ((if0 _ _).trans (teq hc14).2) ?_
        show Steps p.tables e below (T8.setTop (mkF m 16 #[.val (.ref o0), .val (.int p1), .val (.int v5), .unset, .unset] [])) _
        exact Steps.refl _)
    have q16 : Steps p.tables e below (s₁.setTop (entryFrame m #[(.ref o0), (.int p1)] 5)) (T8.setTop (mkF m 17 #[.val (.ref o0), .val (.int p1), .val (.int v5), .unset, .unset] [(.ref o0)])) := q15.trans (by
        show Steps p.tables e below (T8.setTop (mkF m 16 #[.val (.ref o0), .val (.int p1), .val (.int v5), .unset, .unset] [])) _
        refine XS.aloadN X8.here hx rfl (hb hby d7_16) rfl rfl ?_
        show Steps p.tables e below (T8.setTop (mkF m 17 #[.val (.ref o0), .val (.int p1), .val (.int v5), .unset, .unset] [(.ref o0)])) _
        exact Steps.refl _)
    obtain ⟨T17, X17, e17, st17⟩ := getF X8 hx hZ hown (host := "") (Or.inl (hw _ (List.mem_of_getElem? (i := 41) rfl))) Via.refl e8 F_o0_markedBlocks (g := (mkF m 17 #[.val (.ref o0), .val (.int p1), .val (.int v5), .unset, .unset] [(.ref o0)])) rfl rfl (hb hby d7_17)
    have q18 : Steps p.tables e below (s₁.setTop (entryFrame m #[(.ref o0), (.int p1)] 5)) (T17.setTop (mkF m 20 #[.val (.ref o0), .val (.int p1), .val (.int v5), .unset, .unset] [(.ref aK)])) := q16.trans (st17 _ (Steps.refl _))
    have q19 : Steps p.tables e below (s₁.setTop (entryFrame m #[(.ref o0), (.int p1)] 5)) (T17.setTop (mkF m 22 #[.val (.ref o0), .val (.int p1), .val (.int v5), .unset, .unset] [(.ref o0), (.ref o0), (.ref aK)])) := q18.trans (by
        show Steps p.tables e below (T17.setTop (mkF m 20 #[.val (.ref o0), .val (.int p1), .val (.int v5), .unset, .unset] [(.ref aK)])) _
        refine XS.aloadN X17.here hx rfl (hb hby d7_20) rfl rfl ?_
        show Steps p.tables e below (T17.setTop (mkF m 21 #[.val (.ref o0), .val (.int p1), .val (.int v5), .unset, .unset] [(.ref o0), (.ref aK)])) _
        refine XS.dup X17.here hx rfl (hb hby d7_21) rfl rfl ?_
        show Steps p.tables e below (T17.setTop (mkF m 22 #[.val (.ref o0), .val (.int p1), .val (.int v5), .unset, .unset] [(.ref o0), (.ref o0), (.ref aK)])) _
        exact Steps.refl _)
    obtain ⟨T20, X20, e20, st20⟩ := getF X17 hx hZ hown (host := "") (Or.inl (hw _ (List.mem_of_getElem? (i := 56) rfl))) Via.refl e17 F_o0_markedBlockCount (g := (mkF m 22 #[.val (.ref o0), .val (.int p1), .val (.int v5), .unset, .unset] [(.ref o0), (.ref o0), (.ref aK)])) rfl rfl (hb hby d7_22)
    have q21 : Steps p.tables e below (s₁.setTop (entryFrame m #[(.ref o0), (.int p1)] 5)) (T20.setTop (mkF m 25 #[.val (.ref o0), .val (.int p1), .val (.int v5), .unset, .unset] [(.int mc), (.ref o0), (.ref aK)])) := q19.trans (st20 _ (Steps.refl _))
    have q22 : Steps p.tables e below (s₁.setTop (entryFrame m #[(.ref o0), (.int p1)] 5)) (T20.setTop (mkF m 28 #[.val (.ref o0), .val (.int p1), .val (.int v5), .unset, .unset] [(.int (mc + (1 : Int32))), (.ref o0), (.int mc), (.ref aK)])) := q21.trans (by
        show Steps p.tables e below (T20.setTop (mkF m 25 #[.val (.ref o0), .val (.int p1), .val (.int v5), .unset, .unset] [(.int mc), (.ref o0), (.ref aK)])) _
        refine XS.dupX1 X20.here hx rfl (hb hby d7_25) rfl rfl rfl ?_
        show Steps p.tables e below (T20.setTop (mkF m 26 #[.val (.ref o0), .val (.int p1), .val (.int v5), .unset, .unset] [(.int mc), (.ref o0), (.int mc), (.ref aK)])) _
        refine XS.iconst X20.here hx rfl (hb hby d7_26) ?_
        show Steps p.tables e below (T20.setTop (mkF m 27 #[.val (.ref o0), .val (.int p1), .val (.int v5), .unset, .unset] [(.int (1 : Int32)), (.int mc), (.ref o0), (.int mc), (.ref aK)])) _
        refine XS.iadd X20.here hx rfl (hb hby d7_27) rfl ?_
        show Steps p.tables e below (T20.setTop (mkF m 28 #[.val (.ref o0), .val (.int p1), .val (.int v5), .unset, .unset] [(.int (mc + (1 : Int32))), (.ref o0), (.int mc), (.ref aK)])) _
        exact Steps.refl _)
    obtain ⟨T23, h23, X23, e23, W23, st23⟩ := putF X20 hx hZ hown (host := "") (Or.inl (hw _ (List.mem_of_getElem? (i := 56) rfl))) Via.refl e20 F_o0_markedBlockCount E_o0 (Or.inl (hw _ (List.mem_of_getElem? (i := 57) rfl))) (hw _ (List.mem_of_getElem? (i := 6) rfl)) (ty := .int) (by decide) rfl rfl (g := (mkF m 28 #[.val (.ref o0), .val (.int p1), .val (.int v5), .unset, .unset] [(.int (mc + (1 : Int32))), (.ref o0), (.int mc), (.ref aK)])) rfl rfl (hb hby d7_28)
    have N23 := Fr.snoc X23 N0 ge_o0
    have IaM_23 := I_aM.other W23 (Ne.symm ne_o0_aM)
    have IaI_23 := I_aI.other W23 (Ne.symm ne_o0_aI)
    have IaB_23 := I_aB.other W23 (Ne.symm ne_o0_aB)
    have IaS_23 := I_aS.other W23 (Ne.symm ne_o0_aS)
    have IaE_23 := I_aE.other W23 (Ne.symm ne_o0_aE)
    have IaF_23 := I_aF.other W23 (Ne.symm ne_o0_aF)
    have IaC_23 := I_aC.other W23 (Ne.symm ne_o0_aC)
    have IaK_23 := I_aK.other W23 (Ne.symm ne_o0_aK)
    have Xo0_23 := E_o0.wr W23
    have Fo0_members_23 := F_o0_members.other W23 (Or.inr (slot_ne (Or.inr (hw _ (List.mem_of_getElem? (i := 15) rfl))) (Or.inl (hw _ (List.mem_of_getElem? (i := 57) rfl))) (by decide) (t := (.array .int)) (t' := .int) (by decide) (by decide)))
    have Fo0_memberIndex_23 := F_o0_memberIndex.other W23 (Or.inr (slot_ne (Or.inr (hw _ (List.mem_of_getElem? (i := 17) rfl))) (Or.inl (hw _ (List.mem_of_getElem? (i := 57) rfl))) (by decide) (t := (.array .int)) (t' := .int) (by decide) (by decide)))
    have Fo0_blockOf_23 := F_o0_blockOf.other W23 (Or.inr (slot_ne (Or.inr (hw _ (List.mem_of_getElem? (i := 32) rfl))) (Or.inl (hw _ (List.mem_of_getElem? (i := 57) rfl))) (by decide) (t := (.array .int)) (t' := .int) (by decide) (by decide)))
    have Fo0_start_23 := F_o0_start.other W23 (Or.inr (slot_ne (Or.inr (hw _ (List.mem_of_getElem? (i := 34) rfl))) (Or.inl (hw _ (List.mem_of_getElem? (i := 57) rfl))) (by decide) (t := (.array .int)) (t' := .int) (by decide) (by decide)))
    have Fo0_end_23 := F_o0_end.other W23 (Or.inr (slot_ne (Or.inr (hw _ (List.mem_of_getElem? (i := 36) rfl))) (Or.inl (hw _ (List.mem_of_getElem? (i := 57) rfl))) (by decide) (t := (.array .int)) (t' := .int) (by decide) (by decide)))
    have Fo0_splitFrom_23 := F_o0_splitFrom.other W23 (Or.inr (slot_ne (Or.inr (hw _ (List.mem_of_getElem? (i := 38) rfl))) (Or.inl (hw _ (List.mem_of_getElem? (i := 57) rfl))) (by decide) (t := (.array .int)) (t' := .int) (by decide) (by decide)))
    have Fo0_markedCount_23 := F_o0_markedCount.other W23 (Or.inr (slot_ne (Or.inr (hw _ (List.mem_of_getElem? (i := 40) rfl))) (Or.inl (hw _ (List.mem_of_getElem? (i := 57) rfl))) (by decide) (t := (.array .int)) (t' := .int) (by decide) (by decide)))
    have Fo0_markedBlocks_23 := F_o0_markedBlocks.other W23 (Or.inr (slot_ne (Or.inr (hw _ (List.mem_of_getElem? (i := 42) rfl))) (Or.inl (hw _ (List.mem_of_getElem? (i := 57) rfl))) (by decide) (t := (.array .int)) (t' := .int) (by decide) (by decide)))
    have Fo0_count_23 := F_o0_count.other W23 (Or.inr (slot_ne (Or.inl (hw _ (List.mem_of_getElem? (i := 44) rfl))) (Or.inl (hw _ (List.mem_of_getElem? (i := 57) rfl))) (by decide) (t := .int) (t' := .int) (by decide) (by decide)))
    have Z23 : n0 ≤ h23.size := Own.size_wr W23 Z0
    have K23 : Keep h0 h23 [aM, aI, aC, aK, o0] := K0.wr W23 (Or.inl (List.mem_of_getElem? (i := 4) rfl))
    have Fo0_markedBlockCount_23 := F_o0_markedBlockCount.same W23
    have q24 : Steps p.tables e below (s₁.setTop (entryFrame m #[(.ref o0), (.int p1)] 5)) (T23.setTop (mkF m 31 #[.val (.ref o0), .val (.int p1), .val (.int v5), .unset, .unset] [(.int mc), (.ref aK)])) := q22.trans (st23 _ (Steps.refl _))
    have q25 : Steps p.tables e below (s₁.setTop (entryFrame m #[(.ref o0), (.int p1)] 5)) (T23.setTop (mkF m 32 #[.val (.ref o0), .val (.int p1), .val (.int v5), .unset, .unset] [(.int v5), (.int mc), (.ref aK)])) := q24.trans (by
        show Steps p.tables e below (T23.setTop (mkF m 31 #[.val (.ref o0), .val (.int p1), .val (.int v5), .unset, .unset] [(.int mc), (.ref aK)])) _
        refine XS.iloadN X23.here hx rfl (hb hby d7_31) rfl ?_
        show Steps p.tables e below (T23.setTop (mkF m 32 #[.val (.ref o0), .val (.int p1), .val (.int v5), .unset, .unset] [(.int v5), (.int mc), (.ref aK)])) _
        exact Steps.refl _)
    obtain ⟨y26, hy26, hM⟩ := Option.bind_eq_some_iff.mp hM
    obtain ⟨T27, h27, X27, e27, W27, J27, st27⟩ := Own.stO X23 hx hZ e23 IaK_23 hy26 (g := (mkF m 32 #[.val (.ref o0), .val (.int p1), .val (.int v5), .unset, .unset] [(.int v5), (.int mc), (.ref aK)])) rfl rfl (hb hby d7_32)
    have N27 := Fr.snoc X27 N23 ge_aK
    have IaM_27 := IaM_23.other W27 ne_aM_aK
    have IaI_27 := IaI_23.other W27 ne_aI_aK
    have IaB_27 := IaB_23.other W27 ne_aB_aK
    have IaS_27 := IaS_23.other W27 ne_aS_aK
    have IaE_27 := IaE_23.other W27 ne_aE_aK
    have IaF_27 := IaF_23.other W27 ne_aF_aK
    have IaC_27 := IaC_23.other W27 ne_aC_aK
    have Xo0_27 := Xo0_23.wr W27
    have Fo0_members_27 := Fo0_members_23.other W27 (Or.inl ne_o0_aK)
    have Fo0_memberIndex_27 := Fo0_memberIndex_23.other W27 (Or.inl ne_o0_aK)
    have Fo0_blockOf_27 := Fo0_blockOf_23.other W27 (Or.inl ne_o0_aK)
    have Fo0_start_27 := Fo0_start_23.other W27 (Or.inl ne_o0_aK)
    have Fo0_end_27 := Fo0_end_23.other W27 (Or.inl ne_o0_aK)
    have Fo0_splitFrom_27 := Fo0_splitFrom_23.other W27 (Or.inl ne_o0_aK)
    have Fo0_markedCount_27 := Fo0_markedCount_23.other W27 (Or.inl ne_o0_aK)
    have Fo0_markedBlocks_27 := Fo0_markedBlocks_23.other W27 (Or.inl ne_o0_aK)
    have Fo0_count_27 := Fo0_count_23.other W27 (Or.inl ne_o0_aK)
    have Fo0_markedBlockCount_27 := Fo0_markedBlockCount_23.other W27 (Or.inl ne_o0_aK)
    have Z27 : n0 ≤ h27.size := Own.size_wr W27 Z23
    have K27 : Keep h0 h27 [aM, aI, aC, aK, o0] := K23.wr W27 (Or.inl (List.mem_of_getElem? (i := 3) rfl))
    have q28 : Steps p.tables e below (s₁.setTop (entryFrame m #[(.ref o0), (.int p1)] 5)) (T27.setTop (mkF m 33 #[.val (.ref o0), .val (.int p1), .val (.int v5), .unset, .unset] [])) := q25.trans (st27 _ (Steps.refl _))
    have q29 : Steps p.tables e below (s₁.setTop (entryFrame m #[(.ref o0), (.int p1)] 5)) (T27.setTop (mkF m 34 #[.val (.ref o0), .val (.int p1), .val (.int v5), .unset, .unset] [(.ref o0)])) := q28.trans (by
        show Steps p.tables e below (T27.setTop (mkF m 33 #[.val (.ref o0), .val (.int p1), .val (.int v5), .unset, .unset] [])) _
        refine XS.aloadN X27.here hx rfl (hb hby d7_33) rfl rfl ?_
        show Steps p.tables e below (T27.setTop (mkF m 34 #[.val (.ref o0), .val (.int p1), .val (.int v5), .unset, .unset] [(.ref o0)])) _
        exact Steps.refl _)
    obtain ⟨T30, X30, e30, st30⟩ := getF X27 hx hZ hown (host := "") (Or.inl (hw _ (List.mem_of_getElem? (i := 33) rfl))) Via.refl e27 Fo0_start_27 (g := (mkF m 34 #[.val (.ref o0), .val (.int p1), .val (.int v5), .unset, .unset] [(.ref o0)])) rfl rfl (hb hby d7_34)
    have q31 : Steps p.tables e below (s₁.setTop (entryFrame m #[(.ref o0), (.int p1)] 5)) (T30.setTop (mkF m 37 #[.val (.ref o0), .val (.int p1), .val (.int v5), .unset, .unset] [(.ref aS)])) := q29.trans (st30 _ (Steps.refl _))
    have q32 : Steps p.tables e below (s₁.setTop (entryFrame m #[(.ref o0), (.int p1)] 5)) (T30.setTop (mkF m 38 #[.val (.ref o0), .val (.int p1), .val (.int v5), .unset, .unset] [(.int v5), (.ref aS)])) := q31.trans (by
        show Steps p.tables e below (T30.setTop (mkF m 37 #[.val (.ref o0), .val (.int p1), .val (.int v5), .unset, .unset] [(.ref aS)])) _
        refine XS.iloadN X30.here hx rfl (hb hby d7_37) rfl ?_
        show Steps p.tables e below (T30.setTop (mkF m 38 #[.val (.ref o0), .val (.int p1), .val (.int v5), .unset, .unset] [(.int v5), (.ref aS)])) _
        exact Steps.refl _)
    obtain ⟨v33, hv33, hM⟩ := Option.bind_eq_some_iff.mp hM
    have q34 : Steps p.tables e below (s₁.setTop (entryFrame m #[(.ref o0), (.int p1)] 5)) (T30.setTop (mkF m 39 #[.val (.ref o0), .val (.int p1), .val (.int v5), .unset, .unset] [(.int v33)])) := q32.trans (Own.ldO X30 hx hZ e30 IaS_27 hv33 (g := (mkF m 38 #[.val (.ref o0), .val (.int p1), .val (.int v5), .unset, .unset] [(.int v5), (.ref aS)])) rfl rfl (hb hby d7_38) _ (Steps.refl _))
    have q35 : Steps p.tables e below (s₁.setTop (entryFrame m #[(.ref o0), (.int p1)] 5)) (T30.setTop (mkF m 40 #[.val (.ref o0), .val (.int p1), .val (.int v5), .unset, .unset] [(.ref o0), (.int v33)])) := q34.trans (by
        show Steps p.tables e below (T30.setTop (mkF m 39 #[.val (.ref o0), .val (.int p1), .val (.int v5), .unset, .unset] [(.int v33)])) _
        refine XS.aloadN X30.here hx rfl (hb hby d7_39) rfl rfl ?_
        show Steps p.tables e below (T30.setTop (mkF m 40 #[.val (.ref o0), .val (.int p1), .val (.int v5), .unset, .unset] [(.ref o0), (.int v33)])) _
        exact Steps.refl _)
    obtain ⟨T36, X36, e36, st36⟩ := getF X30 hx hZ hown (host := "") (Or.inl (hw _ (List.mem_of_getElem? (i := 39) rfl))) Via.refl e30 Fo0_markedCount_27 (g := (mkF m 40 #[.val (.ref o0), .val (.int p1), .val (.int v5), .unset, .unset] [(.ref o0), (.int v33)])) rfl rfl (hb hby d7_40)
    have q37 : Steps p.tables e below (s₁.setTop (entryFrame m #[(.ref o0), (.int p1)] 5)) (T36.setTop (mkF m 43 #[.val (.ref o0), .val (.int p1), .val (.int v5), .unset, .unset] [(.ref aC), (.int v33)])) := q35.trans (st36 _ (Steps.refl _))
    have q38 : Steps p.tables e below (s₁.setTop (entryFrame m #[(.ref o0), (.int p1)] 5)) (T36.setTop (mkF m 44 #[.val (.ref o0), .val (.int p1), .val (.int v5), .unset, .unset] [(.int v5), (.ref aC), (.int v33)])) := q37.trans (by
        show Steps p.tables e below (T36.setTop (mkF m 43 #[.val (.ref o0), .val (.int p1), .val (.int v5), .unset, .unset] [(.ref aC), (.int v33)])) _
        refine XS.iloadN X36.here hx rfl (hb hby d7_43) rfl ?_
        show Steps p.tables e below (T36.setTop (mkF m 44 #[.val (.ref o0), .val (.int p1), .val (.int v5), .unset, .unset] [(.int v5), (.ref aC), (.int v33)])) _
        exact Steps.refl _)
    obtain ⟨v39, hv39, hM⟩ := Option.bind_eq_some_iff.mp hM
    have q40 : Steps p.tables e below (s₁.setTop (entryFrame m #[(.ref o0), (.int p1)] 5)) (T36.setTop (mkF m 45 #[.val (.ref o0), .val (.int p1), .val (.int v5), .unset, .unset] [(.int v39), (.int v33)])) := q38.trans (Own.ldO X36 hx hZ e36 IaC_27 hv39 (g := (mkF m 44 #[.val (.ref o0), .val (.int p1), .val (.int v5), .unset, .unset] [(.int v5), (.ref aC), (.int v33)])) rfl rfl (hb hby d7_44) _ (Steps.refl _))
    have q41 : Steps p.tables e below (s₁.setTop (entryFrame m #[(.ref o0), (.int p1)] 5)) (T36.setTop (mkF m 48 #[.val (.ref o0), .val (.int p1), .val (.int v5), .val (.int (v33 + v39)), .unset] [(.ref o0)])) := q40.trans (by
        show Steps p.tables e below (T36.setTop (mkF m 45 #[.val (.ref o0), .val (.int p1), .val (.int v5), .unset, .unset] [(.int v39), (.int v33)])) _
        refine XS.iadd X36.here hx rfl (hb hby d7_45) rfl ?_
        show Steps p.tables e below (T36.setTop (mkF m 46 #[.val (.ref o0), .val (.int p1), .val (.int v5), .unset, .unset] [(.int (v33 + v39))])) _
        refine XS.istoreN X36.here hx rfl (hb hby d7_46) rfl (l' := #[.val (.ref o0), .val (.int p1), .val (.int v5), .val (.int (v33 + v39)), .unset]) rfl ?_
        show Steps p.tables e below (T36.setTop (mkF m 47 #[.val (.ref o0), .val (.int p1), .val (.int v5), .val (.int (v33 + v39)), .unset] [])) _
        refine XS.aloadN X36.here hx rfl (hb hby d7_47) rfl rfl ?_
        show Steps p.tables e below (T36.setTop (mkF m 48 #[.val (.ref o0), .val (.int p1), .val (.int v5), .val (.int (v33 + v39)), .unset] [(.ref o0)])) _
        exact Steps.refl _)
    obtain ⟨T42, X42, e42, st42⟩ := getF X36 hx hZ hown (host := "") (Or.inl (hw _ (List.mem_of_getElem? (i := 14) rfl))) Via.refl e36 Fo0_members_27 (g := (mkF m 48 #[.val (.ref o0), .val (.int p1), .val (.int v5), .val (.int (v33 + v39)), .unset] [(.ref o0)])) rfl rfl (hb hby d7_48)
    have q43 : Steps p.tables e below (s₁.setTop (entryFrame m #[(.ref o0), (.int p1)] 5)) (T42.setTop (mkF m 51 #[.val (.ref o0), .val (.int p1), .val (.int v5), .val (.int (v33 + v39)), .unset] [(.ref aM)])) := q41.trans (st42 _ (Steps.refl _))
    have q44 : Steps p.tables e below (s₁.setTop (entryFrame m #[(.ref o0), (.int p1)] 5)) (T42.setTop (mkF m 52 #[.val (.ref o0), .val (.int p1), .val (.int v5), .val (.int (v33 + v39)), .unset] [(.int (v33 + v39)), (.ref aM)])) := q43.trans (by
        show Steps p.tables e below (T42.setTop (mkF m 51 #[.val (.ref o0), .val (.int p1), .val (.int v5), .val (.int (v33 + v39)), .unset] [(.ref aM)])) _
        refine XS.iloadN X42.here hx rfl (hb hby d7_51) rfl ?_
        show Steps p.tables e below (T42.setTop (mkF m 52 #[.val (.ref o0), .val (.int p1), .val (.int v5), .val (.int (v33 + v39)), .unset] [(.int (v33 + v39)), (.ref aM)])) _
        exact Steps.refl _)
    obtain ⟨v45, hv45, hM⟩ := Option.bind_eq_some_iff.mp hM
    have q46 : Steps p.tables e below (s₁.setTop (entryFrame m #[(.ref o0), (.int p1)] 5)) (T42.setTop (mkF m 53 #[.val (.ref o0), .val (.int p1), .val (.int v5), .val (.int (v33 + v39)), .unset] [(.int v45)])) := q44.trans (Own.ldO X42 hx hZ e42 IaM_27 hv45 (g := (mkF m 52 #[.val (.ref o0), .val (.int p1), .val (.int v5), .val (.int (v33 + v39)), .unset] [(.int (v33 + v39)), (.ref aM)])) rfl rfl (hb hby d7_52) _ (Steps.refl _))
    have q47 : Steps p.tables e below (s₁.setTop (entryFrame m #[(.ref o0), (.int p1)] 5)) (T42.setTop (mkF m 56 #[.val (.ref o0), .val (.int p1), .val (.int v5), .val (.int (v33 + v39)), .val (.int v45)] [(.ref o0)])) := q46.trans (by
        show Steps p.tables e below (T42.setTop (mkF m 53 #[.val (.ref o0), .val (.int p1), .val (.int v5), .val (.int (v33 + v39)), .unset] [(.int v45)])) _
        refine XS.istore X42.here hx rfl (hb hby d7_53) rfl (l' := #[.val (.ref o0), .val (.int p1), .val (.int v5), .val (.int (v33 + v39)), .val (.int v45)]) rfl ?_
        show Steps p.tables e below (T42.setTop (mkF m 55 #[.val (.ref o0), .val (.int p1), .val (.int v5), .val (.int (v33 + v39)), .val (.int v45)] [])) _
        refine XS.aloadN X42.here hx rfl (hb hby d7_55) rfl rfl ?_
        show Steps p.tables e below (T42.setTop (mkF m 56 #[.val (.ref o0), .val (.int p1), .val (.int v5), .val (.int (v33 + v39)), .val (.int v45)] [(.ref o0)])) _
        exact Steps.refl _)
    obtain ⟨T48, X48, e48, st48⟩ := getF X42 hx hZ hown (host := "") (Or.inl (hw _ (List.mem_of_getElem? (i := 14) rfl))) Via.refl e42 Fo0_members_27 (g := (mkF m 56 #[.val (.ref o0), .val (.int p1), .val (.int v5), .val (.int (v33 + v39)), .val (.int v45)] [(.ref o0)])) rfl rfl (hb hby d7_56)
    have q49 : Steps p.tables e below (s₁.setTop (entryFrame m #[(.ref o0), (.int p1)] 5)) (T48.setTop (mkF m 59 #[.val (.ref o0), .val (.int p1), .val (.int v5), .val (.int (v33 + v39)), .val (.int v45)] [(.ref aM)])) := q47.trans (st48 _ (Steps.refl _))
    have q50 : Steps p.tables e below (s₁.setTop (entryFrame m #[(.ref o0), (.int p1)] 5)) (T48.setTop (mkF m 60 #[.val (.ref o0), .val (.int p1), .val (.int v5), .val (.int (v33 + v39)), .val (.int v45)] [(.ref o0), (.ref aM)])) := q49.trans (by
        show Steps p.tables e below (T48.setTop (mkF m 59 #[.val (.ref o0), .val (.int p1), .val (.int v5), .val (.int (v33 + v39)), .val (.int v45)] [(.ref aM)])) _
        refine XS.aloadN X48.here hx rfl (hb hby d7_59) rfl rfl ?_
        show Steps p.tables e below (T48.setTop (mkF m 60 #[.val (.ref o0), .val (.int p1), .val (.int v5), .val (.int (v33 + v39)), .val (.int v45)] [(.ref o0), (.ref aM)])) _
        exact Steps.refl _)
    obtain ⟨T51, X51, e51, st51⟩ := getF X48 hx hZ hown (host := "") (Or.inl (hw _ (List.mem_of_getElem? (i := 16) rfl))) Via.refl e48 Fo0_memberIndex_27 (g := (mkF m 60 #[.val (.ref o0), .val (.int p1), .val (.int v5), .val (.int (v33 + v39)), .val (.int v45)] [(.ref o0), (.ref aM)])) rfl rfl (hb hby d7_60)
    have q52 : Steps p.tables e below (s₁.setTop (entryFrame m #[(.ref o0), (.int p1)] 5)) (T51.setTop (mkF m 63 #[.val (.ref o0), .val (.int p1), .val (.int v5), .val (.int (v33 + v39)), .val (.int v45)] [(.ref aI), (.ref aM)])) := q50.trans (st51 _ (Steps.refl _))
    have q53 : Steps p.tables e below (s₁.setTop (entryFrame m #[(.ref o0), (.int p1)] 5)) (T51.setTop (mkF m 64 #[.val (.ref o0), .val (.int p1), .val (.int v5), .val (.int (v33 + v39)), .val (.int v45)] [(.int p1), (.ref aI), (.ref aM)])) := q52.trans (by
        show Steps p.tables e below (T51.setTop (mkF m 63 #[.val (.ref o0), .val (.int p1), .val (.int v5), .val (.int (v33 + v39)), .val (.int v45)] [(.ref aI), (.ref aM)])) _
        refine XS.iloadN X51.here hx rfl (hb hby d7_63) rfl ?_
        show Steps p.tables e below (T51.setTop (mkF m 64 #[.val (.ref o0), .val (.int p1), .val (.int v5), .val (.int (v33 + v39)), .val (.int v45)] [(.int p1), (.ref aI), (.ref aM)])) _
        exact Steps.refl _)
    obtain ⟨v54, hv54, hM⟩ := Option.bind_eq_some_iff.mp hM
    have q55 : Steps p.tables e below (s₁.setTop (entryFrame m #[(.ref o0), (.int p1)] 5)) (T51.setTop (mkF m 65 #[.val (.ref o0), .val (.int p1), .val (.int v5), .val (.int (v33 + v39)), .val (.int v45)] [(.int v54), (.ref aM)])) := q53.trans (Own.ldO X51 hx hZ e51 IaI_27 hv54 (g := (mkF m 64 #[.val (.ref o0), .val (.int p1), .val (.int v5), .val (.int (v33 + v39)), .val (.int v45)] [(.int p1), (.ref aI), (.ref aM)])) rfl rfl (hb hby d7_64) _ (Steps.refl _))
    have q56 : Steps p.tables e below (s₁.setTop (entryFrame m #[(.ref o0), (.int p1)] 5)) (T51.setTop (mkF m 67 #[.val (.ref o0), .val (.int p1), .val (.int v5), .val (.int (v33 + v39)), .val (.int v45)] [(.int v45), (.int v54), (.ref aM)])) := q55.trans (by
        show Steps p.tables e below (T51.setTop (mkF m 65 #[.val (.ref o0), .val (.int p1), .val (.int v5), .val (.int (v33 + v39)), .val (.int v45)] [(.int v54), (.ref aM)])) _
        refine XS.iload X51.here hx rfl (hb hby d7_65) rfl ?_
        show Steps p.tables e below (T51.setTop (mkF m 67 #[.val (.ref o0), .val (.int p1), .val (.int v5), .val (.int (v33 + v39)), .val (.int v45)] [(.int v45), (.int v54), (.ref aM)])) _
        exact Steps.refl _)
    obtain ⟨y57, hy57, hM⟩ := Option.bind_eq_some_iff.mp hM
    obtain ⟨T58, h58, X58, e58, W58, J58, st58⟩ := Own.stO X51 hx hZ e51 IaM_27 hy57 (g := (mkF m 67 #[.val (.ref o0), .val (.int p1), .val (.int v5), .val (.int (v33 + v39)), .val (.int v45)] [(.int v45), (.int v54), (.ref aM)])) rfl rfl (hb hby d7_67)
    have N58 := Fr.snoc X58 N27 ge_aM
    have IaI_58 := IaI_27.other W58 (Ne.symm ne_aM_aI)
    have IaB_58 := IaB_27.other W58 (Ne.symm ne_aM_aB)
    have IaS_58 := IaS_27.other W58 (Ne.symm ne_aM_aS)
    have IaE_58 := IaE_27.other W58 (Ne.symm ne_aM_aE)
    have IaF_58 := IaF_27.other W58 (Ne.symm ne_aM_aF)
    have IaC_58 := IaC_27.other W58 (Ne.symm ne_aM_aC)
    have IaK_58 := J27.other W58 (Ne.symm ne_aM_aK)
    have Xo0_58 := Xo0_27.wr W58
    have Fo0_members_58 := Fo0_members_27.other W58 (Or.inl ne_o0_aM)
    have Fo0_memberIndex_58 := Fo0_memberIndex_27.other W58 (Or.inl ne_o0_aM)
    have Fo0_blockOf_58 := Fo0_blockOf_27.other W58 (Or.inl ne_o0_aM)
    have Fo0_start_58 := Fo0_start_27.other W58 (Or.inl ne_o0_aM)
    have Fo0_end_58 := Fo0_end_27.other W58 (Or.inl ne_o0_aM)
    have Fo0_splitFrom_58 := Fo0_splitFrom_27.other W58 (Or.inl ne_o0_aM)
    have Fo0_markedCount_58 := Fo0_markedCount_27.other W58 (Or.inl ne_o0_aM)
    have Fo0_markedBlocks_58 := Fo0_markedBlocks_27.other W58 (Or.inl ne_o0_aM)
    have Fo0_count_58 := Fo0_count_27.other W58 (Or.inl ne_o0_aM)
    have Fo0_markedBlockCount_58 := Fo0_markedBlockCount_27.other W58 (Or.inl ne_o0_aM)
    have Z58 : n0 ≤ h58.size := Own.size_wr W58 Z27
    have K58 : Keep h0 h58 [aM, aI, aC, aK, o0] := K27.wr W58 (Or.inl (List.mem_of_getElem? (i := 0) rfl))
    have q59 : Steps p.tables e below (s₁.setTop (entryFrame m #[(.ref o0), (.int p1)] 5)) (T58.setTop (mkF m 68 #[.val (.ref o0), .val (.int p1), .val (.int v5), .val (.int (v33 + v39)), .val (.int v45)] [])) := q56.trans (st58 _ (Steps.refl _))
    have q60 : Steps p.tables e below (s₁.setTop (entryFrame m #[(.ref o0), (.int p1)] 5)) (T58.setTop (mkF m 69 #[.val (.ref o0), .val (.int p1), .val (.int v5), .val (.int (v33 + v39)), .val (.int v45)] [(.ref o0)])) := q59.trans (by
        show Steps p.tables e below (T58.setTop (mkF m 68 #[.val (.ref o0), .val (.int p1), .val (.int v5), .val (.int (v33 + v39)), .val (.int v45)] [])) _
        refine XS.aloadN X58.here hx rfl (hb hby d7_68) rfl rfl ?_
        show Steps p.tables e below (T58.setTop (mkF m 69 #[.val (.ref o0), .val (.int p1), .val (.int v5), .val (.int (v33 + v39)), .val (.int v45)] [(.ref o0)])) _
        exact Steps.refl _)
    obtain ⟨T61, X61, e61, st61⟩ := getF X58 hx hZ hown (host := "") (Or.inl (hw _ (List.mem_of_getElem? (i := 16) rfl))) Via.refl e58 Fo0_memberIndex_58 (g := (mkF m 69 #[.val (.ref o0), .val (.int p1), .val (.int v5), .val (.int (v33 + v39)), .val (.int v45)] [(.ref o0)])) rfl rfl (hb hby d7_69)
    have q62 : Steps p.tables e below (s₁.setTop (entryFrame m #[(.ref o0), (.int p1)] 5)) (T61.setTop (mkF m 72 #[.val (.ref o0), .val (.int p1), .val (.int v5), .val (.int (v33 + v39)), .val (.int v45)] [(.ref aI)])) := q60.trans (st61 _ (Steps.refl _))
    have q63 : Steps p.tables e below (s₁.setTop (entryFrame m #[(.ref o0), (.int p1)] 5)) (T61.setTop (mkF m 75 #[.val (.ref o0), .val (.int p1), .val (.int v5), .val (.int (v33 + v39)), .val (.int v45)] [(.ref o0), (.int v45), (.ref aI)])) := q62.trans (by
        show Steps p.tables e below (T61.setTop (mkF m 72 #[.val (.ref o0), .val (.int p1), .val (.int v5), .val (.int (v33 + v39)), .val (.int v45)] [(.ref aI)])) _
        refine XS.iload X61.here hx rfl (hb hby d7_72) rfl ?_
        show Steps p.tables e below (T61.setTop (mkF m 74 #[.val (.ref o0), .val (.int p1), .val (.int v5), .val (.int (v33 + v39)), .val (.int v45)] [(.int v45), (.ref aI)])) _
        refine XS.aloadN X61.here hx rfl (hb hby d7_74) rfl rfl ?_
        show Steps p.tables e below (T61.setTop (mkF m 75 #[.val (.ref o0), .val (.int p1), .val (.int v5), .val (.int (v33 + v39)), .val (.int v45)] [(.ref o0), (.int v45), (.ref aI)])) _
        exact Steps.refl _)
    obtain ⟨T64, X64, e64, st64⟩ := getF X61 hx hZ hown (host := "") (Or.inl (hw _ (List.mem_of_getElem? (i := 16) rfl))) Via.refl e61 Fo0_memberIndex_58 (g := (mkF m 75 #[.val (.ref o0), .val (.int p1), .val (.int v5), .val (.int (v33 + v39)), .val (.int v45)] [(.ref o0), (.int v45), (.ref aI)])) rfl rfl (hb hby d7_75)
    have q65 : Steps p.tables e below (s₁.setTop (entryFrame m #[(.ref o0), (.int p1)] 5)) (T64.setTop (mkF m 78 #[.val (.ref o0), .val (.int p1), .val (.int v5), .val (.int (v33 + v39)), .val (.int v45)] [(.ref aI), (.int v45), (.ref aI)])) := q63.trans (st64 _ (Steps.refl _))
    have q66 : Steps p.tables e below (s₁.setTop (entryFrame m #[(.ref o0), (.int p1)] 5)) (T64.setTop (mkF m 79 #[.val (.ref o0), .val (.int p1), .val (.int v5), .val (.int (v33 + v39)), .val (.int v45)] [(.int p1), (.ref aI), (.int v45), (.ref aI)])) := q65.trans (by
        show Steps p.tables e below (T64.setTop (mkF m 78 #[.val (.ref o0), .val (.int p1), .val (.int v5), .val (.int (v33 + v39)), .val (.int v45)] [(.ref aI), (.int v45), (.ref aI)])) _
        refine XS.iloadN X64.here hx rfl (hb hby d7_78) rfl ?_
        show Steps p.tables e below (T64.setTop (mkF m 79 #[.val (.ref o0), .val (.int p1), .val (.int v5), .val (.int (v33 + v39)), .val (.int v45)] [(.int p1), (.ref aI), (.int v45), (.ref aI)])) _
        exact Steps.refl _)
    obtain ⟨v67, hv67, hM⟩ := Option.bind_eq_some_iff.mp hM
    have q68 : Steps p.tables e below (s₁.setTop (entryFrame m #[(.ref o0), (.int p1)] 5)) (T64.setTop (mkF m 80 #[.val (.ref o0), .val (.int p1), .val (.int v5), .val (.int (v33 + v39)), .val (.int v45)] [(.int v67), (.int v45), (.ref aI)])) := q66.trans (Own.ldO X64 hx hZ e64 IaI_58 hv67 (g := (mkF m 79 #[.val (.ref o0), .val (.int p1), .val (.int v5), .val (.int (v33 + v39)), .val (.int v45)] [(.int p1), (.ref aI), (.int v45), (.ref aI)])) rfl rfl (hb hby d7_79) _ (Steps.refl _))
    obtain ⟨y69, hy69, hM⟩ := Option.bind_eq_some_iff.mp hM
    obtain ⟨T70, h70, X70, e70, W70, J70, st70⟩ := Own.stO X64 hx hZ e64 IaI_58 hy69 (g := (mkF m 80 #[.val (.ref o0), .val (.int p1), .val (.int v5), .val (.int (v33 + v39)), .val (.int v45)] [(.int v67), (.int v45), (.ref aI)])) rfl rfl (hb hby d7_80)
    have N70 := Fr.snoc X70 N58 ge_aI
    have IaM_70 := J58.other W70 ne_aM_aI
    have IaB_70 := IaB_58.other W70 (Ne.symm ne_aI_aB)
    have IaS_70 := IaS_58.other W70 (Ne.symm ne_aI_aS)
    have IaE_70 := IaE_58.other W70 (Ne.symm ne_aI_aE)
    have IaF_70 := IaF_58.other W70 (Ne.symm ne_aI_aF)
    have IaC_70 := IaC_58.other W70 (Ne.symm ne_aI_aC)
    have IaK_70 := IaK_58.other W70 (Ne.symm ne_aI_aK)
    have Xo0_70 := Xo0_58.wr W70
    have Fo0_members_70 := Fo0_members_58.other W70 (Or.inl ne_o0_aI)
    have Fo0_memberIndex_70 := Fo0_memberIndex_58.other W70 (Or.inl ne_o0_aI)
    have Fo0_blockOf_70 := Fo0_blockOf_58.other W70 (Or.inl ne_o0_aI)
    have Fo0_start_70 := Fo0_start_58.other W70 (Or.inl ne_o0_aI)
    have Fo0_end_70 := Fo0_end_58.other W70 (Or.inl ne_o0_aI)
    have Fo0_splitFrom_70 := Fo0_splitFrom_58.other W70 (Or.inl ne_o0_aI)
    have Fo0_markedCount_70 := Fo0_markedCount_58.other W70 (Or.inl ne_o0_aI)
    have Fo0_markedBlocks_70 := Fo0_markedBlocks_58.other W70 (Or.inl ne_o0_aI)
    have Fo0_count_70 := Fo0_count_58.other W70 (Or.inl ne_o0_aI)
    have Fo0_markedBlockCount_70 := Fo0_markedBlockCount_58.other W70 (Or.inl ne_o0_aI)
    have Z70 : n0 ≤ h70.size := Own.size_wr W70 Z58
    have K70 : Keep h0 h70 [aM, aI, aC, aK, o0] := K58.wr W70 (Or.inl (List.mem_of_getElem? (i := 1) rfl))
    have q71 : Steps p.tables e below (s₁.setTop (entryFrame m #[(.ref o0), (.int p1)] 5)) (T70.setTop (mkF m 81 #[.val (.ref o0), .val (.int p1), .val (.int v5), .val (.int (v33 + v39)), .val (.int v45)] [])) := q68.trans (st70 _ (Steps.refl _))
    have q72 : Steps p.tables e below (s₁.setTop (entryFrame m #[(.ref o0), (.int p1)] 5)) (T70.setTop (mkF m 82 #[.val (.ref o0), .val (.int p1), .val (.int v5), .val (.int (v33 + v39)), .val (.int v45)] [(.ref o0)])) := q71.trans (by
        show Steps p.tables e below (T70.setTop (mkF m 81 #[.val (.ref o0), .val (.int p1), .val (.int v5), .val (.int (v33 + v39)), .val (.int v45)] [])) _
        refine XS.aloadN X70.here hx rfl (hb hby d7_81) rfl rfl ?_
        show Steps p.tables e below (T70.setTop (mkF m 82 #[.val (.ref o0), .val (.int p1), .val (.int v5), .val (.int (v33 + v39)), .val (.int v45)] [(.ref o0)])) _
        exact Steps.refl _)
    obtain ⟨T73, X73, e73, st73⟩ := getF X70 hx hZ hown (host := "") (Or.inl (hw _ (List.mem_of_getElem? (i := 14) rfl))) Via.refl e70 Fo0_members_70 (g := (mkF m 82 #[.val (.ref o0), .val (.int p1), .val (.int v5), .val (.int (v33 + v39)), .val (.int v45)] [(.ref o0)])) rfl rfl (hb hby d7_82)
    have q74 : Steps p.tables e below (s₁.setTop (entryFrame m #[(.ref o0), (.int p1)] 5)) (T73.setTop (mkF m 85 #[.val (.ref o0), .val (.int p1), .val (.int v5), .val (.int (v33 + v39)), .val (.int v45)] [(.ref aM)])) := q72.trans (st73 _ (Steps.refl _))
    have q75 : Steps p.tables e below (s₁.setTop (entryFrame m #[(.ref o0), (.int p1)] 5)) (T73.setTop (mkF m 87 #[.val (.ref o0), .val (.int p1), .val (.int v5), .val (.int (v33 + v39)), .val (.int v45)] [(.int p1), (.int (v33 + v39)), (.ref aM)])) := q74.trans (by
        show Steps p.tables e below (T73.setTop (mkF m 85 #[.val (.ref o0), .val (.int p1), .val (.int v5), .val (.int (v33 + v39)), .val (.int v45)] [(.ref aM)])) _
        refine XS.iloadN X73.here hx rfl (hb hby d7_85) rfl ?_
        show Steps p.tables e below (T73.setTop (mkF m 86 #[.val (.ref o0), .val (.int p1), .val (.int v5), .val (.int (v33 + v39)), .val (.int v45)] [(.int (v33 + v39)), (.ref aM)])) _
        refine XS.iloadN X73.here hx rfl (hb hby d7_86) rfl ?_
        show Steps p.tables e below (T73.setTop (mkF m 87 #[.val (.ref o0), .val (.int p1), .val (.int v5), .val (.int (v33 + v39)), .val (.int v45)] [(.int p1), (.int (v33 + v39)), (.ref aM)])) _
        exact Steps.refl _)
    obtain ⟨y76, hy76, hM⟩ := Option.bind_eq_some_iff.mp hM
    obtain ⟨T77, h77, X77, e77, W77, J77, st77⟩ := Own.stO X73 hx hZ e73 IaM_70 hy76 (g := (mkF m 87 #[.val (.ref o0), .val (.int p1), .val (.int v5), .val (.int (v33 + v39)), .val (.int v45)] [(.int p1), (.int (v33 + v39)), (.ref aM)])) rfl rfl (hb hby d7_87)
    have N77 := Fr.snoc X77 N70 ge_aM
    have IaI_77 := J70.other W77 (Ne.symm ne_aM_aI)
    have IaB_77 := IaB_70.other W77 (Ne.symm ne_aM_aB)
    have IaS_77 := IaS_70.other W77 (Ne.symm ne_aM_aS)
    have IaE_77 := IaE_70.other W77 (Ne.symm ne_aM_aE)
    have IaF_77 := IaF_70.other W77 (Ne.symm ne_aM_aF)
    have IaC_77 := IaC_70.other W77 (Ne.symm ne_aM_aC)
    have IaK_77 := IaK_70.other W77 (Ne.symm ne_aM_aK)
    have Xo0_77 := Xo0_70.wr W77
    have Fo0_members_77 := Fo0_members_70.other W77 (Or.inl ne_o0_aM)
    have Fo0_memberIndex_77 := Fo0_memberIndex_70.other W77 (Or.inl ne_o0_aM)
    have Fo0_blockOf_77 := Fo0_blockOf_70.other W77 (Or.inl ne_o0_aM)
    have Fo0_start_77 := Fo0_start_70.other W77 (Or.inl ne_o0_aM)
    have Fo0_end_77 := Fo0_end_70.other W77 (Or.inl ne_o0_aM)
    have Fo0_splitFrom_77 := Fo0_splitFrom_70.other W77 (Or.inl ne_o0_aM)
    have Fo0_markedCount_77 := Fo0_markedCount_70.other W77 (Or.inl ne_o0_aM)
    have Fo0_markedBlocks_77 := Fo0_markedBlocks_70.other W77 (Or.inl ne_o0_aM)
    have Fo0_count_77 := Fo0_count_70.other W77 (Or.inl ne_o0_aM)
    have Fo0_markedBlockCount_77 := Fo0_markedBlockCount_70.other W77 (Or.inl ne_o0_aM)
    have Z77 : n0 ≤ h77.size := Own.size_wr W77 Z70
    have K77 : Keep h0 h77 [aM, aI, aC, aK, o0] := K70.wr W77 (Or.inl (List.mem_of_getElem? (i := 0) rfl))
    have q78 : Steps p.tables e below (s₁.setTop (entryFrame m #[(.ref o0), (.int p1)] 5)) (T77.setTop (mkF m 88 #[.val (.ref o0), .val (.int p1), .val (.int v5), .val (.int (v33 + v39)), .val (.int v45)] [])) := q75.trans (st77 _ (Steps.refl _))
    have q79 : Steps p.tables e below (s₁.setTop (entryFrame m #[(.ref o0), (.int p1)] 5)) (T77.setTop (mkF m 89 #[.val (.ref o0), .val (.int p1), .val (.int v5), .val (.int (v33 + v39)), .val (.int v45)] [(.ref o0)])) := q78.trans (by
        show Steps p.tables e below (T77.setTop (mkF m 88 #[.val (.ref o0), .val (.int p1), .val (.int v5), .val (.int (v33 + v39)), .val (.int v45)] [])) _
        refine XS.aloadN X77.here hx rfl (hb hby d7_88) rfl rfl ?_
        show Steps p.tables e below (T77.setTop (mkF m 89 #[.val (.ref o0), .val (.int p1), .val (.int v5), .val (.int (v33 + v39)), .val (.int v45)] [(.ref o0)])) _
        exact Steps.refl _)
    obtain ⟨T80, X80, e80, st80⟩ := getF X77 hx hZ hown (host := "") (Or.inl (hw _ (List.mem_of_getElem? (i := 16) rfl))) Via.refl e77 Fo0_memberIndex_77 (g := (mkF m 89 #[.val (.ref o0), .val (.int p1), .val (.int v5), .val (.int (v33 + v39)), .val (.int v45)] [(.ref o0)])) rfl rfl (hb hby d7_89)
    have q81 : Steps p.tables e below (s₁.setTop (entryFrame m #[(.ref o0), (.int p1)] 5)) (T80.setTop (mkF m 92 #[.val (.ref o0), .val (.int p1), .val (.int v5), .val (.int (v33 + v39)), .val (.int v45)] [(.ref aI)])) := q79.trans (st80 _ (Steps.refl _))
    have q82 : Steps p.tables e below (s₁.setTop (entryFrame m #[(.ref o0), (.int p1)] 5)) (T80.setTop (mkF m 94 #[.val (.ref o0), .val (.int p1), .val (.int v5), .val (.int (v33 + v39)), .val (.int v45)] [(.int (v33 + v39)), (.int p1), (.ref aI)])) := q81.trans (by
        show Steps p.tables e below (T80.setTop (mkF m 92 #[.val (.ref o0), .val (.int p1), .val (.int v5), .val (.int (v33 + v39)), .val (.int v45)] [(.ref aI)])) _
        refine XS.iloadN X80.here hx rfl (hb hby d7_92) rfl ?_
        show Steps p.tables e below (T80.setTop (mkF m 93 #[.val (.ref o0), .val (.int p1), .val (.int v5), .val (.int (v33 + v39)), .val (.int v45)] [(.int p1), (.ref aI)])) _
        refine XS.iloadN X80.here hx rfl (hb hby d7_93) rfl ?_
        show Steps p.tables e below (T80.setTop (mkF m 94 #[.val (.ref o0), .val (.int p1), .val (.int v5), .val (.int (v33 + v39)), .val (.int v45)] [(.int (v33 + v39)), (.int p1), (.ref aI)])) _
        exact Steps.refl _)
    obtain ⟨y83, hy83, hM⟩ := Option.bind_eq_some_iff.mp hM
    obtain ⟨T84, h84, X84, e84, W84, J84, st84⟩ := Own.stO X80 hx hZ e80 IaI_77 hy83 (g := (mkF m 94 #[.val (.ref o0), .val (.int p1), .val (.int v5), .val (.int (v33 + v39)), .val (.int v45)] [(.int (v33 + v39)), (.int p1), (.ref aI)])) rfl rfl (hb hby d7_94)
    have N84 := Fr.snoc X84 N77 ge_aI
    have IaM_84 := J77.other W84 ne_aM_aI
    have IaB_84 := IaB_77.other W84 (Ne.symm ne_aI_aB)
    have IaS_84 := IaS_77.other W84 (Ne.symm ne_aI_aS)
    have IaE_84 := IaE_77.other W84 (Ne.symm ne_aI_aE)
    have IaF_84 := IaF_77.other W84 (Ne.symm ne_aI_aF)
    have IaC_84 := IaC_77.other W84 (Ne.symm ne_aI_aC)
    have IaK_84 := IaK_77.other W84 (Ne.symm ne_aI_aK)
    have Xo0_84 := Xo0_77.wr W84
    have Fo0_members_84 := Fo0_members_77.other W84 (Or.inl ne_o0_aI)
    have Fo0_memberIndex_84 := Fo0_memberIndex_77.other W84 (Or.inl ne_o0_aI)
    have Fo0_blockOf_84 := Fo0_blockOf_77.other W84 (Or.inl ne_o0_aI)
    have Fo0_start_84 := Fo0_start_77.other W84 (Or.inl ne_o0_aI)
    have Fo0_end_84 := Fo0_end_77.other W84 (Or.inl ne_o0_aI)
    have Fo0_splitFrom_84 := Fo0_splitFrom_77.other W84 (Or.inl ne_o0_aI)
    have Fo0_markedCount_84 := Fo0_markedCount_77.other W84 (Or.inl ne_o0_aI)
    have Fo0_markedBlocks_84 := Fo0_markedBlocks_77.other W84 (Or.inl ne_o0_aI)
    have Fo0_count_84 := Fo0_count_77.other W84 (Or.inl ne_o0_aI)
    have Fo0_markedBlockCount_84 := Fo0_markedBlockCount_77.other W84 (Or.inl ne_o0_aI)
    have Z84 : n0 ≤ h84.size := Own.size_wr W84 Z77
    have K84 : Keep h0 h84 [aM, aI, aC, aK, o0] := K77.wr W84 (Or.inl (List.mem_of_getElem? (i := 1) rfl))
    have q85 : Steps p.tables e below (s₁.setTop (entryFrame m #[(.ref o0), (.int p1)] 5)) (T84.setTop (mkF m 95 #[.val (.ref o0), .val (.int p1), .val (.int v5), .val (.int (v33 + v39)), .val (.int v45)] [])) := q82.trans (st84 _ (Steps.refl _))
    have q86 : Steps p.tables e below (s₁.setTop (entryFrame m #[(.ref o0), (.int p1)] 5)) (T84.setTop (mkF m 96 #[.val (.ref o0), .val (.int p1), .val (.int v5), .val (.int (v33 + v39)), .val (.int v45)] [(.ref o0)])) := q85.trans (by
        show Steps p.tables e below (T84.setTop (mkF m 95 #[.val (.ref o0), .val (.int p1), .val (.int v5), .val (.int (v33 + v39)), .val (.int v45)] [])) _
        refine XS.aloadN X84.here hx rfl (hb hby d7_95) rfl rfl ?_
        show Steps p.tables e below (T84.setTop (mkF m 96 #[.val (.ref o0), .val (.int p1), .val (.int v5), .val (.int (v33 + v39)), .val (.int v45)] [(.ref o0)])) _
        exact Steps.refl _)
    obtain ⟨T87, X87, e87, st87⟩ := getF X84 hx hZ hown (host := "") (Or.inl (hw _ (List.mem_of_getElem? (i := 39) rfl))) Via.refl e84 Fo0_markedCount_84 (g := (mkF m 96 #[.val (.ref o0), .val (.int p1), .val (.int v5), .val (.int (v33 + v39)), .val (.int v45)] [(.ref o0)])) rfl rfl (hb hby d7_96)
    have q88 : Steps p.tables e below (s₁.setTop (entryFrame m #[(.ref o0), (.int p1)] 5)) (T87.setTop (mkF m 99 #[.val (.ref o0), .val (.int p1), .val (.int v5), .val (.int (v33 + v39)), .val (.int v45)] [(.ref aC)])) := q86.trans (st87 _ (Steps.refl _))
    have q89 : Steps p.tables e below (s₁.setTop (entryFrame m #[(.ref o0), (.int p1)] 5)) (T87.setTop (mkF m 101 #[.val (.ref o0), .val (.int p1), .val (.int v5), .val (.int (v33 + v39)), .val (.int v45)] [(.int v5), (.ref aC), (.int v5), (.ref aC)])) := q88.trans (by
        show Steps p.tables e below (T87.setTop (mkF m 99 #[.val (.ref o0), .val (.int p1), .val (.int v5), .val (.int (v33 + v39)), .val (.int v45)] [(.ref aC)])) _
        refine XS.iloadN X87.here hx rfl (hb hby d7_99) rfl ?_
        show Steps p.tables e below (T87.setTop (mkF m 100 #[.val (.ref o0), .val (.int p1), .val (.int v5), .val (.int (v33 + v39)), .val (.int v45)] [(.int v5), (.ref aC)])) _
        refine XT.dup2 X87.here hx rfl (hb hby d7_100) rfl rfl rfl ?_
        show Steps p.tables e below (T87.setTop (mkF m 101 #[.val (.ref o0), .val (.int p1), .val (.int v5), .val (.int (v33 + v39)), .val (.int v45)] [(.int v5), (.ref aC), (.int v5), (.ref aC)])) _
        exact Steps.refl _)
    obtain ⟨v90, hv90, hM⟩ := Option.bind_eq_some_iff.mp hM
    have q91 : Steps p.tables e below (s₁.setTop (entryFrame m #[(.ref o0), (.int p1)] 5)) (T87.setTop (mkF m 102 #[.val (.ref o0), .val (.int p1), .val (.int v5), .val (.int (v33 + v39)), .val (.int v45)] [(.int v90), (.int v5), (.ref aC)])) := q89.trans (Own.ldO X87 hx hZ e87 IaC_84 hv90 (g := (mkF m 101 #[.val (.ref o0), .val (.int p1), .val (.int v5), .val (.int (v33 + v39)), .val (.int v45)] [(.int v5), (.ref aC), (.int v5), (.ref aC)])) rfl rfl (hb hby d7_101) _ (Steps.refl _))
    have q92 : Steps p.tables e below (s₁.setTop (entryFrame m #[(.ref o0), (.int p1)] 5)) (T87.setTop (mkF m 104 #[.val (.ref o0), .val (.int p1), .val (.int v5), .val (.int (v33 + v39)), .val (.int v45)] [(.int (v90 + (1 : Int32))), (.int v5), (.ref aC)])) := q91.trans (by
        show Steps p.tables e below (T87.setTop (mkF m 102 #[.val (.ref o0), .val (.int p1), .val (.int v5), .val (.int (v33 + v39)), .val (.int v45)] [(.int v90), (.int v5), (.ref aC)])) _
        refine XS.iconst X87.here hx rfl (hb hby d7_102) ?_
        show Steps p.tables e below (T87.setTop (mkF m 103 #[.val (.ref o0), .val (.int p1), .val (.int v5), .val (.int (v33 + v39)), .val (.int v45)] [(.int (1 : Int32)), (.int v90), (.int v5), (.ref aC)])) _
        refine XS.iadd X87.here hx rfl (hb hby d7_103) rfl ?_
        show Steps p.tables e below (T87.setTop (mkF m 104 #[.val (.ref o0), .val (.int p1), .val (.int v5), .val (.int (v33 + v39)), .val (.int v45)] [(.int (v90 + (1 : Int32))), (.int v5), (.ref aC)])) _
        exact Steps.refl _)
    obtain ⟨y93, hy93, hM⟩ := Option.bind_eq_some_iff.mp hM
    obtain ⟨T94, h94, X94, e94, W94, J94, st94⟩ := Own.stO X87 hx hZ e87 IaC_84 hy93 (g := (mkF m 104 #[.val (.ref o0), .val (.int p1), .val (.int v5), .val (.int (v33 + v39)), .val (.int v45)] [(.int (v90 + (1 : Int32))), (.int v5), (.ref aC)])) rfl rfl (hb hby d7_104)
    have N94 := Fr.snoc X94 N84 ge_aC
    have IaM_94 := IaM_84.other W94 ne_aM_aC
    have IaI_94 := J84.other W94 ne_aI_aC
    have IaB_94 := IaB_84.other W94 ne_aB_aC
    have IaS_94 := IaS_84.other W94 ne_aS_aC
    have IaE_94 := IaE_84.other W94 ne_aE_aC
    have IaF_94 := IaF_84.other W94 ne_aF_aC
    have IaK_94 := IaK_84.other W94 (Ne.symm ne_aC_aK)
    have Xo0_94 := Xo0_84.wr W94
    have Fo0_members_94 := Fo0_members_84.other W94 (Or.inl ne_o0_aC)
    have Fo0_memberIndex_94 := Fo0_memberIndex_84.other W94 (Or.inl ne_o0_aC)
    have Fo0_blockOf_94 := Fo0_blockOf_84.other W94 (Or.inl ne_o0_aC)
    have Fo0_start_94 := Fo0_start_84.other W94 (Or.inl ne_o0_aC)
    have Fo0_end_94 := Fo0_end_84.other W94 (Or.inl ne_o0_aC)
    have Fo0_splitFrom_94 := Fo0_splitFrom_84.other W94 (Or.inl ne_o0_aC)
    have Fo0_markedCount_94 := Fo0_markedCount_84.other W94 (Or.inl ne_o0_aC)
    have Fo0_markedBlocks_94 := Fo0_markedBlocks_84.other W94 (Or.inl ne_o0_aC)
    have Fo0_count_94 := Fo0_count_84.other W94 (Or.inl ne_o0_aC)
    have Fo0_markedBlockCount_94 := Fo0_markedBlockCount_84.other W94 (Or.inl ne_o0_aC)
    have Z94 : n0 ≤ h94.size := Own.size_wr W94 Z84
    have K94 : Keep h0 h94 [aM, aI, aC, aK, o0] := K84.wr W94 (Or.inl (List.mem_of_getElem? (i := 2) rfl))
    have q95 : Steps p.tables e below (s₁.setTop (entryFrame m #[(.ref o0), (.int p1)] 5)) (T94.setTop (mkF m 105 #[.val (.ref o0), .val (.int p1), .val (.int v5), .val (.int (v33 + v39)), .val (.int v45)] [])) := q92.trans (st94 _ (Steps.refl _))
    obtain rfl := Option.some.inj hM
    obtain ⟨fs, hr, hrun, hended, hW, hsame⟩ := X94.leave (v := none) (fun _ => rfl)
    refine ⟨_, _, q95.trans ?_, hrun, hended, _, _, rfl, ?_, ⟨_, rfl⟩, hW, hsame.mono (by decide) (by decide)⟩
    · exact X94.returnOut hx Bd.returns (hb hby d7_105) hr
    · show Q_rmM Z o0 p1 aM aI aB aS aE aF aC aK xM xI xB xS xE xF xC xK cn mc _ h0 n0 _ T94.heap _
      rw [e94]
      exact ⟨rfl, N94, K94, IaM_94, IaI_94, J94, IaK_94, Fo0_members_94, Fo0_memberIndex_94, Fo0_blockOf_94, Fo0_start_94, Fo0_end_94, Fo0_splitFrom_94, Fo0_markedCount_94, Fo0_markedBlocks_94, Fo0_count_94, Fo0_markedBlockCount_94⟩
  · rw [if_neg hc14] at hM
    have q96 : Steps p.tables e below (s₁.setTop (entryFrame m #[(.ref o0), (.int p1)] 5)) (T8.setTop (mkF m 33 #[.val (.ref o0), .val (.int p1), .val (.int v5), .unset, .unset] [])) := q12.trans (by
        show Steps p.tables e below (T8.setTop (mkF m 13 #[.val (.ref o0), .val (.int p1), .val (.int v5), .unset, .unset] [(.int v11)])) _
        refine XS.ifYes X8.here hx rfl (pc0 := 13) (pc' := 33) rfl (hb hby d7_13) rfl ((if0 _ _).trans (feq hc14).2) (by decide) (by decide) ?_
        show Steps p.tables e below (T8.setTop (mkF m 33 #[.val (.ref o0), .val (.int p1), .val (.int v5), .unset, .unset] [])) _
        exact Steps.refl _)
    have q97 : Steps p.tables e below (s₁.setTop (entryFrame m #[(.ref o0), (.int p1)] 5)) (T8.setTop (mkF m 34 #[.val (.ref o0), .val (.int p1), .val (.int v5), .unset, .unset] [(.ref o0)])) := q96.trans (by
        show Steps p.tables e below (T8.setTop (mkF m 33 #[.val (.ref o0), .val (.int p1), .val (.int v5), .unset, .unset] [])) _
        refine XS.aloadN X8.here hx rfl (hb hby d7_33) rfl rfl ?_
        show Steps p.tables e below (T8.setTop (mkF m 34 #[.val (.ref o0), .val (.int p1), .val (.int v5), .unset, .unset] [(.ref o0)])) _
        exact Steps.refl _)
    obtain ⟨T98, X98, e98, st98⟩ := getF X8 hx hZ hown (host := "") (Or.inl (hw _ (List.mem_of_getElem? (i := 33) rfl))) Via.refl e8 F_o0_start (g := (mkF m 34 #[.val (.ref o0), .val (.int p1), .val (.int v5), .unset, .unset] [(.ref o0)])) rfl rfl (hb hby d7_34)
    have q99 : Steps p.tables e below (s₁.setTop (entryFrame m #[(.ref o0), (.int p1)] 5)) (T98.setTop (mkF m 37 #[.val (.ref o0), .val (.int p1), .val (.int v5), .unset, .unset] [(.ref aS)])) := q97.trans (st98 _ (Steps.refl _))
    have q100 : Steps p.tables e below (s₁.setTop (entryFrame m #[(.ref o0), (.int p1)] 5)) (T98.setTop (mkF m 38 #[.val (.ref o0), .val (.int p1), .val (.int v5), .unset, .unset] [(.int v5), (.ref aS)])) := q99.trans (by
        show Steps p.tables e below (T98.setTop (mkF m 37 #[.val (.ref o0), .val (.int p1), .val (.int v5), .unset, .unset] [(.ref aS)])) _
        refine XS.iloadN X98.here hx rfl (hb hby d7_37) rfl ?_
        show Steps p.tables e below (T98.setTop (mkF m 38 #[.val (.ref o0), .val (.int p1), .val (.int v5), .unset, .unset] [(.int v5), (.ref aS)])) _
        exact Steps.refl _)
    obtain ⟨v101, hv101, hM⟩ := Option.bind_eq_some_iff.mp hM
    have q102 : Steps p.tables e below (s₁.setTop (entryFrame m #[(.ref o0), (.int p1)] 5)) (T98.setTop (mkF m 39 #[.val (.ref o0), .val (.int p1), .val (.int v5), .unset, .unset] [(.int v101)])) := q100.trans (Own.ldO X98 hx hZ e98 I_aS hv101 (g := (mkF m 38 #[.val (.ref o0), .val (.int p1), .val (.int v5), .unset, .unset] [(.int v5), (.ref aS)])) rfl rfl (hb hby d7_38) _ (Steps.refl _))
    have q103 : Steps p.tables e below (s₁.setTop (entryFrame m #[(.ref o0), (.int p1)] 5)) (T98.setTop (mkF m 40 #[.val (.ref o0), .val (.int p1), .val (.int v5), .unset, .unset] [(.ref o0), (.int v101)])) := q102.trans (by
        show Steps p.tables e below (T98.setTop (mkF m 39 #[.val (.ref o0), .val (.int p1), .val (.int v5), .unset, .unset] [(.int v101)])) _
        refine XS.aloadN X98.here hx rfl (hb hby d7_39) rfl rfl ?_
        show Steps p.tables e below (T98.setTop (mkF m 40 #[.val (.ref o0), .val (.int p1), .val (.int v5), .unset, .unset] [(.ref o0), (.int v101)])) _
        exact Steps.refl _)
    obtain ⟨T104, X104, e104, st104⟩ := getF X98 hx hZ hown (host := "") (Or.inl (hw _ (List.mem_of_getElem? (i := 39) rfl))) Via.refl e98 F_o0_markedCount (g := (mkF m 40 #[.val (.ref o0), .val (.int p1), .val (.int v5), .unset, .unset] [(.ref o0), (.int v101)])) rfl rfl (hb hby d7_40)
    have q105 : Steps p.tables e below (s₁.setTop (entryFrame m #[(.ref o0), (.int p1)] 5)) (T104.setTop (mkF m 43 #[.val (.ref o0), .val (.int p1), .val (.int v5), .unset, .unset] [(.ref aC), (.int v101)])) := q103.trans (st104 _ (Steps.refl _))
    have q106 : Steps p.tables e below (s₁.setTop (entryFrame m #[(.ref o0), (.int p1)] 5)) (T104.setTop (mkF m 44 #[.val (.ref o0), .val (.int p1), .val (.int v5), .unset, .unset] [(.int v5), (.ref aC), (.int v101)])) := q105.trans (by
        show Steps p.tables e below (T104.setTop (mkF m 43 #[.val (.ref o0), .val (.int p1), .val (.int v5), .unset, .unset] [(.ref aC), (.int v101)])) _
        refine XS.iloadN X104.here hx rfl (hb hby d7_43) rfl ?_
        show Steps p.tables e below (T104.setTop (mkF m 44 #[.val (.ref o0), .val (.int p1), .val (.int v5), .unset, .unset] [(.int v5), (.ref aC), (.int v101)])) _
        exact Steps.refl _)
    obtain ⟨v107, hv107, hM⟩ := Option.bind_eq_some_iff.mp hM
    have q108 : Steps p.tables e below (s₁.setTop (entryFrame m #[(.ref o0), (.int p1)] 5)) (T104.setTop (mkF m 45 #[.val (.ref o0), .val (.int p1), .val (.int v5), .unset, .unset] [(.int v107), (.int v101)])) := q106.trans (Own.ldO X104 hx hZ e104 I_aC hv107 (g := (mkF m 44 #[.val (.ref o0), .val (.int p1), .val (.int v5), .unset, .unset] [(.int v5), (.ref aC), (.int v101)])) rfl rfl (hb hby d7_44) _ (Steps.refl _))
    have q109 : Steps p.tables e below (s₁.setTop (entryFrame m #[(.ref o0), (.int p1)] 5)) (T104.setTop (mkF m 48 #[.val (.ref o0), .val (.int p1), .val (.int v5), .val (.int (v101 + v107)), .unset] [(.ref o0)])) := q108.trans (by
        show Steps p.tables e below (T104.setTop (mkF m 45 #[.val (.ref o0), .val (.int p1), .val (.int v5), .unset, .unset] [(.int v107), (.int v101)])) _
        refine XS.iadd X104.here hx rfl (hb hby d7_45) rfl ?_
        show Steps p.tables e below (T104.setTop (mkF m 46 #[.val (.ref o0), .val (.int p1), .val (.int v5), .unset, .unset] [(.int (v101 + v107))])) _
        refine XS.istoreN X104.here hx rfl (hb hby d7_46) rfl (l' := #[.val (.ref o0), .val (.int p1), .val (.int v5), .val (.int (v101 + v107)), .unset]) rfl ?_
        show Steps p.tables e below (T104.setTop (mkF m 47 #[.val (.ref o0), .val (.int p1), .val (.int v5), .val (.int (v101 + v107)), .unset] [])) _
        refine XS.aloadN X104.here hx rfl (hb hby d7_47) rfl rfl ?_
        show Steps p.tables e below (T104.setTop (mkF m 48 #[.val (.ref o0), .val (.int p1), .val (.int v5), .val (.int (v101 + v107)), .unset] [(.ref o0)])) _
        exact Steps.refl _)
    obtain ⟨T110, X110, e110, st110⟩ := getF X104 hx hZ hown (host := "") (Or.inl (hw _ (List.mem_of_getElem? (i := 14) rfl))) Via.refl e104 F_o0_members (g := (mkF m 48 #[.val (.ref o0), .val (.int p1), .val (.int v5), .val (.int (v101 + v107)), .unset] [(.ref o0)])) rfl rfl (hb hby d7_48)
    have q111 : Steps p.tables e below (s₁.setTop (entryFrame m #[(.ref o0), (.int p1)] 5)) (T110.setTop (mkF m 51 #[.val (.ref o0), .val (.int p1), .val (.int v5), .val (.int (v101 + v107)), .unset] [(.ref aM)])) := q109.trans (st110 _ (Steps.refl _))
    have q112 : Steps p.tables e below (s₁.setTop (entryFrame m #[(.ref o0), (.int p1)] 5)) (T110.setTop (mkF m 52 #[.val (.ref o0), .val (.int p1), .val (.int v5), .val (.int (v101 + v107)), .unset] [(.int (v101 + v107)), (.ref aM)])) := q111.trans (by
        show Steps p.tables e below (T110.setTop (mkF m 51 #[.val (.ref o0), .val (.int p1), .val (.int v5), .val (.int (v101 + v107)), .unset] [(.ref aM)])) _
        refine XS.iloadN X110.here hx rfl (hb hby d7_51) rfl ?_
        show Steps p.tables e below (T110.setTop (mkF m 52 #[.val (.ref o0), .val (.int p1), .val (.int v5), .val (.int (v101 + v107)), .unset] [(.int (v101 + v107)), (.ref aM)])) _
        exact Steps.refl _)
    obtain ⟨v113, hv113, hM⟩ := Option.bind_eq_some_iff.mp hM
    have q114 : Steps p.tables e below (s₁.setTop (entryFrame m #[(.ref o0), (.int p1)] 5)) (T110.setTop (mkF m 53 #[.val (.ref o0), .val (.int p1), .val (.int v5), .val (.int (v101 + v107)), .unset] [(.int v113)])) := q112.trans (Own.ldO X110 hx hZ e110 I_aM hv113 (g := (mkF m 52 #[.val (.ref o0), .val (.int p1), .val (.int v5), .val (.int (v101 + v107)), .unset] [(.int (v101 + v107)), (.ref aM)])) rfl rfl (hb hby d7_52) _ (Steps.refl _))
    have q115 : Steps p.tables e below (s₁.setTop (entryFrame m #[(.ref o0), (.int p1)] 5)) (T110.setTop (mkF m 56 #[.val (.ref o0), .val (.int p1), .val (.int v5), .val (.int (v101 + v107)), .val (.int v113)] [(.ref o0)])) := q114.trans (by
        show Steps p.tables e below (T110.setTop (mkF m 53 #[.val (.ref o0), .val (.int p1), .val (.int v5), .val (.int (v101 + v107)), .unset] [(.int v113)])) _
        refine XS.istore X110.here hx rfl (hb hby d7_53) rfl (l' := #[.val (.ref o0), .val (.int p1), .val (.int v5), .val (.int (v101 + v107)), .val (.int v113)]) rfl ?_
        show Steps p.tables e below (T110.setTop (mkF m 55 #[.val (.ref o0), .val (.int p1), .val (.int v5), .val (.int (v101 + v107)), .val (.int v113)] [])) _
        refine XS.aloadN X110.here hx rfl (hb hby d7_55) rfl rfl ?_
        show Steps p.tables e below (T110.setTop (mkF m 56 #[.val (.ref o0), .val (.int p1), .val (.int v5), .val (.int (v101 + v107)), .val (.int v113)] [(.ref o0)])) _
        exact Steps.refl _)
    obtain ⟨T116, X116, e116, st116⟩ := getF X110 hx hZ hown (host := "") (Or.inl (hw _ (List.mem_of_getElem? (i := 14) rfl))) Via.refl e110 F_o0_members (g := (mkF m 56 #[.val (.ref o0), .val (.int p1), .val (.int v5), .val (.int (v101 + v107)), .val (.int v113)] [(.ref o0)])) rfl rfl (hb hby d7_56)
    have q117 : Steps p.tables e below (s₁.setTop (entryFrame m #[(.ref o0), (.int p1)] 5)) (T116.setTop (mkF m 59 #[.val (.ref o0), .val (.int p1), .val (.int v5), .val (.int (v101 + v107)), .val (.int v113)] [(.ref aM)])) := q115.trans (st116 _ (Steps.refl _))
    have q118 : Steps p.tables e below (s₁.setTop (entryFrame m #[(.ref o0), (.int p1)] 5)) (T116.setTop (mkF m 60 #[.val (.ref o0), .val (.int p1), .val (.int v5), .val (.int (v101 + v107)), .val (.int v113)] [(.ref o0), (.ref aM)])) := q117.trans (by
        show Steps p.tables e below (T116.setTop (mkF m 59 #[.val (.ref o0), .val (.int p1), .val (.int v5), .val (.int (v101 + v107)), .val (.int v113)] [(.ref aM)])) _
        refine XS.aloadN X116.here hx rfl (hb hby d7_59) rfl rfl ?_
        show Steps p.tables e below (T116.setTop (mkF m 60 #[.val (.ref o0), .val (.int p1), .val (.int v5), .val (.int (v101 + v107)), .val (.int v113)] [(.ref o0), (.ref aM)])) _
        exact Steps.refl _)
    obtain ⟨T119, X119, e119, st119⟩ := getF X116 hx hZ hown (host := "") (Or.inl (hw _ (List.mem_of_getElem? (i := 16) rfl))) Via.refl e116 F_o0_memberIndex (g := (mkF m 60 #[.val (.ref o0), .val (.int p1), .val (.int v5), .val (.int (v101 + v107)), .val (.int v113)] [(.ref o0), (.ref aM)])) rfl rfl (hb hby d7_60)
    have q120 : Steps p.tables e below (s₁.setTop (entryFrame m #[(.ref o0), (.int p1)] 5)) (T119.setTop (mkF m 63 #[.val (.ref o0), .val (.int p1), .val (.int v5), .val (.int (v101 + v107)), .val (.int v113)] [(.ref aI), (.ref aM)])) := q118.trans (st119 _ (Steps.refl _))
    have q121 : Steps p.tables e below (s₁.setTop (entryFrame m #[(.ref o0), (.int p1)] 5)) (T119.setTop (mkF m 64 #[.val (.ref o0), .val (.int p1), .val (.int v5), .val (.int (v101 + v107)), .val (.int v113)] [(.int p1), (.ref aI), (.ref aM)])) := q120.trans (by
        show Steps p.tables e below (T119.setTop (mkF m 63 #[.val (.ref o0), .val (.int p1), .val (.int v5), .val (.int (v101 + v107)), .val (.int v113)] [(.ref aI), (.ref aM)])) _
        refine XS.iloadN X119.here hx rfl (hb hby d7_63) rfl ?_
        show Steps p.tables e below (T119.setTop (mkF m 64 #[.val (.ref o0), .val (.int p1), .val (.int v5), .val (.int (v101 + v107)), .val (.int v113)] [(.int p1), (.ref aI), (.ref aM)])) _
        exact Steps.refl _)
    obtain ⟨v122, hv122, hM⟩ := Option.bind_eq_some_iff.mp hM
    have q123 : Steps p.tables e below (s₁.setTop (entryFrame m #[(.ref o0), (.int p1)] 5)) (T119.setTop (mkF m 65 #[.val (.ref o0), .val (.int p1), .val (.int v5), .val (.int (v101 + v107)), .val (.int v113)] [(.int v122), (.ref aM)])) := q121.trans (Own.ldO X119 hx hZ e119 I_aI hv122 (g := (mkF m 64 #[.val (.ref o0), .val (.int p1), .val (.int v5), .val (.int (v101 + v107)), .val (.int v113)] [(.int p1), (.ref aI), (.ref aM)])) rfl rfl (hb hby d7_64) _ (Steps.refl _))
    have q124 : Steps p.tables e below (s₁.setTop (entryFrame m #[(.ref o0), (.int p1)] 5)) (T119.setTop (mkF m 67 #[.val (.ref o0), .val (.int p1), .val (.int v5), .val (.int (v101 + v107)), .val (.int v113)] [(.int v113), (.int v122), (.ref aM)])) := q123.trans (by
        show Steps p.tables e below (T119.setTop (mkF m 65 #[.val (.ref o0), .val (.int p1), .val (.int v5), .val (.int (v101 + v107)), .val (.int v113)] [(.int v122), (.ref aM)])) _
        refine XS.iload X119.here hx rfl (hb hby d7_65) rfl ?_
        show Steps p.tables e below (T119.setTop (mkF m 67 #[.val (.ref o0), .val (.int p1), .val (.int v5), .val (.int (v101 + v107)), .val (.int v113)] [(.int v113), (.int v122), (.ref aM)])) _
        exact Steps.refl _)
    obtain ⟨y125, hy125, hM⟩ := Option.bind_eq_some_iff.mp hM
    obtain ⟨T126, h126, X126, e126, W126, J126, st126⟩ := Own.stO X119 hx hZ e119 I_aM hy125 (g := (mkF m 67 #[.val (.ref o0), .val (.int p1), .val (.int v5), .val (.int (v101 + v107)), .val (.int v113)] [(.int v113), (.int v122), (.ref aM)])) rfl rfl (hb hby d7_67)
    have N126 := Fr.snoc X126 N0 ge_aM
    have IaI_126 := I_aI.other W126 (Ne.symm ne_aM_aI)
    have IaB_126 := I_aB.other W126 (Ne.symm ne_aM_aB)
    have IaS_126 := I_aS.other W126 (Ne.symm ne_aM_aS)
    have IaE_126 := I_aE.other W126 (Ne.symm ne_aM_aE)
    have IaF_126 := I_aF.other W126 (Ne.symm ne_aM_aF)
    have IaC_126 := I_aC.other W126 (Ne.symm ne_aM_aC)
    have IaK_126 := I_aK.other W126 (Ne.symm ne_aM_aK)
    have Xo0_126 := E_o0.wr W126
    have Fo0_members_126 := F_o0_members.other W126 (Or.inl ne_o0_aM)
    have Fo0_memberIndex_126 := F_o0_memberIndex.other W126 (Or.inl ne_o0_aM)
    have Fo0_blockOf_126 := F_o0_blockOf.other W126 (Or.inl ne_o0_aM)
    have Fo0_start_126 := F_o0_start.other W126 (Or.inl ne_o0_aM)
    have Fo0_end_126 := F_o0_end.other W126 (Or.inl ne_o0_aM)
    have Fo0_splitFrom_126 := F_o0_splitFrom.other W126 (Or.inl ne_o0_aM)
    have Fo0_markedCount_126 := F_o0_markedCount.other W126 (Or.inl ne_o0_aM)
    have Fo0_markedBlocks_126 := F_o0_markedBlocks.other W126 (Or.inl ne_o0_aM)
    have Fo0_count_126 := F_o0_count.other W126 (Or.inl ne_o0_aM)
    have Fo0_markedBlockCount_126 := F_o0_markedBlockCount.other W126 (Or.inl ne_o0_aM)
    have Z126 : n0 ≤ h126.size := Own.size_wr W126 Z0
    have K126 : Keep h0 h126 [aM, aI, aC, aK, o0] := K0.wr W126 (Or.inl (List.mem_of_getElem? (i := 0) rfl))
    have q127 : Steps p.tables e below (s₁.setTop (entryFrame m #[(.ref o0), (.int p1)] 5)) (T126.setTop (mkF m 68 #[.val (.ref o0), .val (.int p1), .val (.int v5), .val (.int (v101 + v107)), .val (.int v113)] [])) := q124.trans (st126 _ (Steps.refl _))
    have q128 : Steps p.tables e below (s₁.setTop (entryFrame m #[(.ref o0), (.int p1)] 5)) (T126.setTop (mkF m 69 #[.val (.ref o0), .val (.int p1), .val (.int v5), .val (.int (v101 + v107)), .val (.int v113)] [(.ref o0)])) := q127.trans (by
        show Steps p.tables e below (T126.setTop (mkF m 68 #[.val (.ref o0), .val (.int p1), .val (.int v5), .val (.int (v101 + v107)), .val (.int v113)] [])) _
        refine XS.aloadN X126.here hx rfl (hb hby d7_68) rfl rfl ?_
        show Steps p.tables e below (T126.setTop (mkF m 69 #[.val (.ref o0), .val (.int p1), .val (.int v5), .val (.int (v101 + v107)), .val (.int v113)] [(.ref o0)])) _
        exact Steps.refl _)
    obtain ⟨T129, X129, e129, st129⟩ := getF X126 hx hZ hown (host := "") (Or.inl (hw _ (List.mem_of_getElem? (i := 16) rfl))) Via.refl e126 Fo0_memberIndex_126 (g := (mkF m 69 #[.val (.ref o0), .val (.int p1), .val (.int v5), .val (.int (v101 + v107)), .val (.int v113)] [(.ref o0)])) rfl rfl (hb hby d7_69)
    have q130 : Steps p.tables e below (s₁.setTop (entryFrame m #[(.ref o0), (.int p1)] 5)) (T129.setTop (mkF m 72 #[.val (.ref o0), .val (.int p1), .val (.int v5), .val (.int (v101 + v107)), .val (.int v113)] [(.ref aI)])) := q128.trans (st129 _ (Steps.refl _))
    have q131 : Steps p.tables e below (s₁.setTop (entryFrame m #[(.ref o0), (.int p1)] 5)) (T129.setTop (mkF m 75 #[.val (.ref o0), .val (.int p1), .val (.int v5), .val (.int (v101 + v107)), .val (.int v113)] [(.ref o0), (.int v113), (.ref aI)])) := q130.trans (by
        show Steps p.tables e below (T129.setTop (mkF m 72 #[.val (.ref o0), .val (.int p1), .val (.int v5), .val (.int (v101 + v107)), .val (.int v113)] [(.ref aI)])) _
        refine XS.iload X129.here hx rfl (hb hby d7_72) rfl ?_
        show Steps p.tables e below (T129.setTop (mkF m 74 #[.val (.ref o0), .val (.int p1), .val (.int v5), .val (.int (v101 + v107)), .val (.int v113)] [(.int v113), (.ref aI)])) _
        refine XS.aloadN X129.here hx rfl (hb hby d7_74) rfl rfl ?_
        show Steps p.tables e below (T129.setTop (mkF m 75 #[.val (.ref o0), .val (.int p1), .val (.int v5), .val (.int (v101 + v107)), .val (.int v113)] [(.ref o0), (.int v113), (.ref aI)])) _
        exact Steps.refl _)
    obtain ⟨T132, X132, e132, st132⟩ := getF X129 hx hZ hown (host := "") (Or.inl (hw _ (List.mem_of_getElem? (i := 16) rfl))) Via.refl e129 Fo0_memberIndex_126 (g := (mkF m 75 #[.val (.ref o0), .val (.int p1), .val (.int v5), .val (.int (v101 + v107)), .val (.int v113)] [(.ref o0), (.int v113), (.ref aI)])) rfl rfl (hb hby d7_75)
    have q133 : Steps p.tables e below (s₁.setTop (entryFrame m #[(.ref o0), (.int p1)] 5)) (T132.setTop (mkF m 78 #[.val (.ref o0), .val (.int p1), .val (.int v5), .val (.int (v101 + v107)), .val (.int v113)] [(.ref aI), (.int v113), (.ref aI)])) := q131.trans (st132 _ (Steps.refl _))
    have q134 : Steps p.tables e below (s₁.setTop (entryFrame m #[(.ref o0), (.int p1)] 5)) (T132.setTop (mkF m 79 #[.val (.ref o0), .val (.int p1), .val (.int v5), .val (.int (v101 + v107)), .val (.int v113)] [(.int p1), (.ref aI), (.int v113), (.ref aI)])) := q133.trans (by
        show Steps p.tables e below (T132.setTop (mkF m 78 #[.val (.ref o0), .val (.int p1), .val (.int v5), .val (.int (v101 + v107)), .val (.int v113)] [(.ref aI), (.int v113), (.ref aI)])) _
        refine XS.iloadN X132.here hx rfl (hb hby d7_78) rfl ?_
        show Steps p.tables e below (T132.setTop (mkF m 79 #[.val (.ref o0), .val (.int p1), .val (.int v5), .val (.int (v101 + v107)), .val (.int v113)] [(.int p1), (.ref aI), (.int v113), (.ref aI)])) _
        exact Steps.refl _)
    obtain ⟨v135, hv135, hM⟩ := Option.bind_eq_some_iff.mp hM
    have q136 : Steps p.tables e below (s₁.setTop (entryFrame m #[(.ref o0), (.int p1)] 5)) (T132.setTop (mkF m 80 #[.val (.ref o0), .val (.int p1), .val (.int v5), .val (.int (v101 + v107)), .val (.int v113)] [(.int v135), (.int v113), (.ref aI)])) := q134.trans (Own.ldO X132 hx hZ e132 IaI_126 hv135 (g := (mkF m 79 #[.val (.ref o0), .val (.int p1), .val (.int v5), .val (.int (v101 + v107)), .val (.int v113)] [(.int p1), (.ref aI), (.int v113), (.ref aI)])) rfl rfl (hb hby d7_79) _ (Steps.refl _))
    obtain ⟨y137, hy137, hM⟩ := Option.bind_eq_some_iff.mp hM
    obtain ⟨T138, h138, X138, e138, W138, J138, st138⟩ := Own.stO X132 hx hZ e132 IaI_126 hy137 (g := (mkF m 80 #[.val (.ref o0), .val (.int p1), .val (.int v5), .val (.int (v101 + v107)), .val (.int v113)] [(.int v135), (.int v113), (.ref aI)])) rfl rfl (hb hby d7_80)
    have N138 := Fr.snoc X138 N126 ge_aI
    have IaM_138 := J126.other W138 ne_aM_aI
    have IaB_138 := IaB_126.other W138 (Ne.symm ne_aI_aB)
    have IaS_138 := IaS_126.other W138 (Ne.symm ne_aI_aS)
    have IaE_138 := IaE_126.other W138 (Ne.symm ne_aI_aE)
    have IaF_138 := IaF_126.other W138 (Ne.symm ne_aI_aF)
    have IaC_138 := IaC_126.other W138 (Ne.symm ne_aI_aC)
    have IaK_138 := IaK_126.other W138 (Ne.symm ne_aI_aK)
    have Xo0_138 := Xo0_126.wr W138
    have Fo0_members_138 := Fo0_members_126.other W138 (Or.inl ne_o0_aI)
    have Fo0_memberIndex_138 := Fo0_memberIndex_126.other W138 (Or.inl ne_o0_aI)
    have Fo0_blockOf_138 := Fo0_blockOf_126.other W138 (Or.inl ne_o0_aI)
    have Fo0_start_138 := Fo0_start_126.other W138 (Or.inl ne_o0_aI)
    have Fo0_end_138 := Fo0_end_126.other W138 (Or.inl ne_o0_aI)
    have Fo0_splitFrom_138 := Fo0_splitFrom_126.other W138 (Or.inl ne_o0_aI)
    have Fo0_markedCount_138 := Fo0_markedCount_126.other W138 (Or.inl ne_o0_aI)
    have Fo0_markedBlocks_138 := Fo0_markedBlocks_126.other W138 (Or.inl ne_o0_aI)
    have Fo0_count_138 := Fo0_count_126.other W138 (Or.inl ne_o0_aI)
    have Fo0_markedBlockCount_138 := Fo0_markedBlockCount_126.other W138 (Or.inl ne_o0_aI)
    have Z138 : n0 ≤ h138.size := Own.size_wr W138 Z126
    have K138 : Keep h0 h138 [aM, aI, aC, aK, o0] := K126.wr W138 (Or.inl (List.mem_of_getElem? (i := 1) rfl))
    have q139 : Steps p.tables e below (s₁.setTop (entryFrame m #[(.ref o0), (.int p1)] 5)) (T138.setTop (mkF m 81 #[.val (.ref o0), .val (.int p1), .val (.int v5), .val (.int (v101 + v107)), .val (.int v113)] [])) := q136.trans (st138 _ (Steps.refl _))
    have q140 : Steps p.tables e below (s₁.setTop (entryFrame m #[(.ref o0), (.int p1)] 5)) (T138.setTop (mkF m 82 #[.val (.ref o0), .val (.int p1), .val (.int v5), .val (.int (v101 + v107)), .val (.int v113)] [(.ref o0)])) := q139.trans (by
        show Steps p.tables e below (T138.setTop (mkF m 81 #[.val (.ref o0), .val (.int p1), .val (.int v5), .val (.int (v101 + v107)), .val (.int v113)] [])) _
        refine XS.aloadN X138.here hx rfl (hb hby d7_81) rfl rfl ?_
        show Steps p.tables e below (T138.setTop (mkF m 82 #[.val (.ref o0), .val (.int p1), .val (.int v5), .val (.int (v101 + v107)), .val (.int v113)] [(.ref o0)])) _
        exact Steps.refl _)
    obtain ⟨T141, X141, e141, st141⟩ := getF X138 hx hZ hown (host := "") (Or.inl (hw _ (List.mem_of_getElem? (i := 14) rfl))) Via.refl e138 Fo0_members_138 (g := (mkF m 82 #[.val (.ref o0), .val (.int p1), .val (.int v5), .val (.int (v101 + v107)), .val (.int v113)] [(.ref o0)])) rfl rfl (hb hby d7_82)
    have q142 : Steps p.tables e below (s₁.setTop (entryFrame m #[(.ref o0), (.int p1)] 5)) (T141.setTop (mkF m 85 #[.val (.ref o0), .val (.int p1), .val (.int v5), .val (.int (v101 + v107)), .val (.int v113)] [(.ref aM)])) := q140.trans (st141 _ (Steps.refl _))
    have q143 : Steps p.tables e below (s₁.setTop (entryFrame m #[(.ref o0), (.int p1)] 5)) (T141.setTop (mkF m 87 #[.val (.ref o0), .val (.int p1), .val (.int v5), .val (.int (v101 + v107)), .val (.int v113)] [(.int p1), (.int (v101 + v107)), (.ref aM)])) := q142.trans (by
        show Steps p.tables e below (T141.setTop (mkF m 85 #[.val (.ref o0), .val (.int p1), .val (.int v5), .val (.int (v101 + v107)), .val (.int v113)] [(.ref aM)])) _
        refine XS.iloadN X141.here hx rfl (hb hby d7_85) rfl ?_
        show Steps p.tables e below (T141.setTop (mkF m 86 #[.val (.ref o0), .val (.int p1), .val (.int v5), .val (.int (v101 + v107)), .val (.int v113)] [(.int (v101 + v107)), (.ref aM)])) _
        refine XS.iloadN X141.here hx rfl (hb hby d7_86) rfl ?_
        show Steps p.tables e below (T141.setTop (mkF m 87 #[.val (.ref o0), .val (.int p1), .val (.int v5), .val (.int (v101 + v107)), .val (.int v113)] [(.int p1), (.int (v101 + v107)), (.ref aM)])) _
        exact Steps.refl _)
    obtain ⟨y144, hy144, hM⟩ := Option.bind_eq_some_iff.mp hM
    obtain ⟨T145, h145, X145, e145, W145, J145, st145⟩ := Own.stO X141 hx hZ e141 IaM_138 hy144 (g := (mkF m 87 #[.val (.ref o0), .val (.int p1), .val (.int v5), .val (.int (v101 + v107)), .val (.int v113)] [(.int p1), (.int (v101 + v107)), (.ref aM)])) rfl rfl (hb hby d7_87)
    have N145 := Fr.snoc X145 N138 ge_aM
    have IaI_145 := J138.other W145 (Ne.symm ne_aM_aI)
    have IaB_145 := IaB_138.other W145 (Ne.symm ne_aM_aB)
    have IaS_145 := IaS_138.other W145 (Ne.symm ne_aM_aS)
    have IaE_145 := IaE_138.other W145 (Ne.symm ne_aM_aE)
    have IaF_145 := IaF_138.other W145 (Ne.symm ne_aM_aF)
    have IaC_145 := IaC_138.other W145 (Ne.symm ne_aM_aC)
    have IaK_145 := IaK_138.other W145 (Ne.symm ne_aM_aK)
    have Xo0_145 := Xo0_138.wr W145
    have Fo0_members_145 := Fo0_members_138.other W145 (Or.inl ne_o0_aM)
    have Fo0_memberIndex_145 := Fo0_memberIndex_138.other W145 (Or.inl ne_o0_aM)
    have Fo0_blockOf_145 := Fo0_blockOf_138.other W145 (Or.inl ne_o0_aM)
    have Fo0_start_145 := Fo0_start_138.other W145 (Or.inl ne_o0_aM)
    have Fo0_end_145 := Fo0_end_138.other W145 (Or.inl ne_o0_aM)
    have Fo0_splitFrom_145 := Fo0_splitFrom_138.other W145 (Or.inl ne_o0_aM)
    have Fo0_markedCount_145 := Fo0_markedCount_138.other W145 (Or.inl ne_o0_aM)
    have Fo0_markedBlocks_145 := Fo0_markedBlocks_138.other W145 (Or.inl ne_o0_aM)
    have Fo0_count_145 := Fo0_count_138.other W145 (Or.inl ne_o0_aM)
    have Fo0_markedBlockCount_145 := Fo0_markedBlockCount_138.other W145 (Or.inl ne_o0_aM)
    have Z145 : n0 ≤ h145.size := Own.size_wr W145 Z138
    have K145 : Keep h0 h145 [aM, aI, aC, aK, o0] := K138.wr W145 (Or.inl (List.mem_of_getElem? (i := 0) rfl))
    have q146 : Steps p.tables e below (s₁.setTop (entryFrame m #[(.ref o0), (.int p1)] 5)) (T145.setTop (mkF m 88 #[.val (.ref o0), .val (.int p1), .val (.int v5), .val (.int (v101 + v107)), .val (.int v113)] [])) := q143.trans (st145 _ (Steps.refl _))
    have q147 : Steps p.tables e below (s₁.setTop (entryFrame m #[(.ref o0), (.int p1)] 5)) (T145.setTop (mkF m 89 #[.val (.ref o0), .val (.int p1), .val (.int v5), .val (.int (v101 + v107)), .val (.int v113)] [(.ref o0)])) := q146.trans (by
        show Steps p.tables e below (T145.setTop (mkF m 88 #[.val (.ref o0), .val (.int p1), .val (.int v5), .val (.int (v101 + v107)), .val (.int v113)] [])) _
        refine XS.aloadN X145.here hx rfl (hb hby d7_88) rfl rfl ?_
        show Steps p.tables e below (T145.setTop (mkF m 89 #[.val (.ref o0), .val (.int p1), .val (.int v5), .val (.int (v101 + v107)), .val (.int v113)] [(.ref o0)])) _
        exact Steps.refl _)
    obtain ⟨T148, X148, e148, st148⟩ := getF X145 hx hZ hown (host := "") (Or.inl (hw _ (List.mem_of_getElem? (i := 16) rfl))) Via.refl e145 Fo0_memberIndex_145 (g := (mkF m 89 #[.val (.ref o0), .val (.int p1), .val (.int v5), .val (.int (v101 + v107)), .val (.int v113)] [(.ref o0)])) rfl rfl (hb hby d7_89)
    have q149 : Steps p.tables e below (s₁.setTop (entryFrame m #[(.ref o0), (.int p1)] 5)) (T148.setTop (mkF m 92 #[.val (.ref o0), .val (.int p1), .val (.int v5), .val (.int (v101 + v107)), .val (.int v113)] [(.ref aI)])) := q147.trans (st148 _ (Steps.refl _))
    have q150 : Steps p.tables e below (s₁.setTop (entryFrame m #[(.ref o0), (.int p1)] 5)) (T148.setTop (mkF m 94 #[.val (.ref o0), .val (.int p1), .val (.int v5), .val (.int (v101 + v107)), .val (.int v113)] [(.int (v101 + v107)), (.int p1), (.ref aI)])) := q149.trans (by
        show Steps p.tables e below (T148.setTop (mkF m 92 #[.val (.ref o0), .val (.int p1), .val (.int v5), .val (.int (v101 + v107)), .val (.int v113)] [(.ref aI)])) _
        refine XS.iloadN X148.here hx rfl (hb hby d7_92) rfl ?_
        show Steps p.tables e below (T148.setTop (mkF m 93 #[.val (.ref o0), .val (.int p1), .val (.int v5), .val (.int (v101 + v107)), .val (.int v113)] [(.int p1), (.ref aI)])) _
        refine XS.iloadN X148.here hx rfl (hb hby d7_93) rfl ?_
        show Steps p.tables e below (T148.setTop (mkF m 94 #[.val (.ref o0), .val (.int p1), .val (.int v5), .val (.int (v101 + v107)), .val (.int v113)] [(.int (v101 + v107)), (.int p1), (.ref aI)])) _
        exact Steps.refl _)
    obtain ⟨y151, hy151, hM⟩ := Option.bind_eq_some_iff.mp hM
    obtain ⟨T152, h152, X152, e152, W152, J152, st152⟩ := Own.stO X148 hx hZ e148 IaI_145 hy151 (g := (mkF m 94 #[.val (.ref o0), .val (.int p1), .val (.int v5), .val (.int (v101 + v107)), .val (.int v113)] [(.int (v101 + v107)), (.int p1), (.ref aI)])) rfl rfl (hb hby d7_94)
    have N152 := Fr.snoc X152 N145 ge_aI
    have IaM_152 := J145.other W152 ne_aM_aI
    have IaB_152 := IaB_145.other W152 (Ne.symm ne_aI_aB)
    have IaS_152 := IaS_145.other W152 (Ne.symm ne_aI_aS)
    have IaE_152 := IaE_145.other W152 (Ne.symm ne_aI_aE)
    have IaF_152 := IaF_145.other W152 (Ne.symm ne_aI_aF)
    have IaC_152 := IaC_145.other W152 (Ne.symm ne_aI_aC)
    have IaK_152 := IaK_145.other W152 (Ne.symm ne_aI_aK)
    have Xo0_152 := Xo0_145.wr W152
    have Fo0_members_152 := Fo0_members_145.other W152 (Or.inl ne_o0_aI)
    have Fo0_memberIndex_152 := Fo0_memberIndex_145.other W152 (Or.inl ne_o0_aI)
    have Fo0_blockOf_152 := Fo0_blockOf_145.other W152 (Or.inl ne_o0_aI)
    have Fo0_start_152 := Fo0_start_145.other W152 (Or.inl ne_o0_aI)
    have Fo0_end_152 := Fo0_end_145.other W152 (Or.inl ne_o0_aI)
    have Fo0_splitFrom_152 := Fo0_splitFrom_145.other W152 (Or.inl ne_o0_aI)
    have Fo0_markedCount_152 := Fo0_markedCount_145.other W152 (Or.inl ne_o0_aI)
    have Fo0_markedBlocks_152 := Fo0_markedBlocks_145.other W152 (Or.inl ne_o0_aI)
    have Fo0_count_152 := Fo0_count_145.other W152 (Or.inl ne_o0_aI)
    have Fo0_markedBlockCount_152 := Fo0_markedBlockCount_145.other W152 (Or.inl ne_o0_aI)
    have Z152 : n0 ≤ h152.size := Own.size_wr W152 Z145
    have K152 : Keep h0 h152 [aM, aI, aC, aK, o0] := K145.wr W152 (Or.inl (List.mem_of_getElem? (i := 1) rfl))
    have q153 : Steps p.tables e below (s₁.setTop (entryFrame m #[(.ref o0), (.int p1)] 5)) (T152.setTop (mkF m 95 #[.val (.ref o0), .val (.int p1), .val (.int v5), .val (.int (v101 + v107)), .val (.int v113)] [])) := q150.trans (st152 _ (Steps.refl _))
    have q154 : Steps p.tables e below (s₁.setTop (entryFrame m #[(.ref o0), (.int p1)] 5)) (T152.setTop (mkF m 96 #[.val (.ref o0), .val (.int p1), .val (.int v5), .val (.int (v101 + v107)), .val (.int v113)] [(.ref o0)])) := q153.trans (by
        show Steps p.tables e below (T152.setTop (mkF m 95 #[.val (.ref o0), .val (.int p1), .val (.int v5), .val (.int (v101 + v107)), .val (.int v113)] [])) _
        refine XS.aloadN X152.here hx rfl (hb hby d7_95) rfl rfl ?_
        show Steps p.tables e below (T152.setTop (mkF m 96 #[.val (.ref o0), .val (.int p1), .val (.int v5), .val (.int (v101 + v107)), .val (.int v113)] [(.ref o0)])) _
        exact Steps.refl _)
    obtain ⟨T155, X155, e155, st155⟩ := getF X152 hx hZ hown (host := "") (Or.inl (hw _ (List.mem_of_getElem? (i := 39) rfl))) Via.refl e152 Fo0_markedCount_152 (g := (mkF m 96 #[.val (.ref o0), .val (.int p1), .val (.int v5), .val (.int (v101 + v107)), .val (.int v113)] [(.ref o0)])) rfl rfl (hb hby d7_96)
    have q156 : Steps p.tables e below (s₁.setTop (entryFrame m #[(.ref o0), (.int p1)] 5)) (T155.setTop (mkF m 99 #[.val (.ref o0), .val (.int p1), .val (.int v5), .val (.int (v101 + v107)), .val (.int v113)] [(.ref aC)])) := q154.trans (st155 _ (Steps.refl _))
    have q157 : Steps p.tables e below (s₁.setTop (entryFrame m #[(.ref o0), (.int p1)] 5)) (T155.setTop (mkF m 101 #[.val (.ref o0), .val (.int p1), .val (.int v5), .val (.int (v101 + v107)), .val (.int v113)] [(.int v5), (.ref aC), (.int v5), (.ref aC)])) := q156.trans (by
        show Steps p.tables e below (T155.setTop (mkF m 99 #[.val (.ref o0), .val (.int p1), .val (.int v5), .val (.int (v101 + v107)), .val (.int v113)] [(.ref aC)])) _
        refine XS.iloadN X155.here hx rfl (hb hby d7_99) rfl ?_
        show Steps p.tables e below (T155.setTop (mkF m 100 #[.val (.ref o0), .val (.int p1), .val (.int v5), .val (.int (v101 + v107)), .val (.int v113)] [(.int v5), (.ref aC)])) _
        refine XT.dup2 X155.here hx rfl (hb hby d7_100) rfl rfl rfl ?_
        show Steps p.tables e below (T155.setTop (mkF m 101 #[.val (.ref o0), .val (.int p1), .val (.int v5), .val (.int (v101 + v107)), .val (.int v113)] [(.int v5), (.ref aC), (.int v5), (.ref aC)])) _
        exact Steps.refl _)
    obtain ⟨v158, hv158, hM⟩ := Option.bind_eq_some_iff.mp hM
    have q159 : Steps p.tables e below (s₁.setTop (entryFrame m #[(.ref o0), (.int p1)] 5)) (T155.setTop (mkF m 102 #[.val (.ref o0), .val (.int p1), .val (.int v5), .val (.int (v101 + v107)), .val (.int v113)] [(.int v158), (.int v5), (.ref aC)])) := q157.trans (Own.ldO X155 hx hZ e155 IaC_152 hv158 (g := (mkF m 101 #[.val (.ref o0), .val (.int p1), .val (.int v5), .val (.int (v101 + v107)), .val (.int v113)] [(.int v5), (.ref aC), (.int v5), (.ref aC)])) rfl rfl (hb hby d7_101) _ (Steps.refl _))
    have q160 : Steps p.tables e below (s₁.setTop (entryFrame m #[(.ref o0), (.int p1)] 5)) (T155.setTop (mkF m 104 #[.val (.ref o0), .val (.int p1), .val (.int v5), .val (.int (v101 + v107)), .val (.int v113)] [(.int (v158 + (1 : Int32))), (.int v5), (.ref aC)])) := q159.trans (by
        show Steps p.tables e below (T155.setTop (mkF m 102 #[.val (.ref o0), .val (.int p1), .val (.int v5), .val (.int (v101 + v107)), .val (.int v113)] [(.int v158), (.int v5), (.ref aC)])) _
        refine XS.iconst X155.here hx rfl (hb hby d7_102) ?_
        show Steps p.tables e below (T155.setTop (mkF m 103 #[.val (.ref o0), .val (.int p1), .val (.int v5), .val (.int (v101 + v107)), .val (.int v113)] [(.int (1 : Int32)), (.int v158), (.int v5), (.ref aC)])) _
        refine XS.iadd X155.here hx rfl (hb hby d7_103) rfl ?_
        show Steps p.tables e below (T155.setTop (mkF m 104 #[.val (.ref o0), .val (.int p1), .val (.int v5), .val (.int (v101 + v107)), .val (.int v113)] [(.int (v158 + (1 : Int32))), (.int v5), (.ref aC)])) _
        exact Steps.refl _)
    obtain ⟨y161, hy161, hM⟩ := Option.bind_eq_some_iff.mp hM
    obtain ⟨T162, h162, X162, e162, W162, J162, st162⟩ := Own.stO X155 hx hZ e155 IaC_152 hy161 (g := (mkF m 104 #[.val (.ref o0), .val (.int p1), .val (.int v5), .val (.int (v101 + v107)), .val (.int v113)] [(.int (v158 + (1 : Int32))), (.int v5), (.ref aC)])) rfl rfl (hb hby d7_104)
    have N162 := Fr.snoc X162 N152 ge_aC
    have IaM_162 := IaM_152.other W162 ne_aM_aC
    have IaI_162 := J152.other W162 ne_aI_aC
    have IaB_162 := IaB_152.other W162 ne_aB_aC
    have IaS_162 := IaS_152.other W162 ne_aS_aC
    have IaE_162 := IaE_152.other W162 ne_aE_aC
    have IaF_162 := IaF_152.other W162 ne_aF_aC
    have IaK_162 := IaK_152.other W162 (Ne.symm ne_aC_aK)
    have Xo0_162 := Xo0_152.wr W162
    have Fo0_members_162 := Fo0_members_152.other W162 (Or.inl ne_o0_aC)
    have Fo0_memberIndex_162 := Fo0_memberIndex_152.other W162 (Or.inl ne_o0_aC)
    have Fo0_blockOf_162 := Fo0_blockOf_152.other W162 (Or.inl ne_o0_aC)
    have Fo0_start_162 := Fo0_start_152.other W162 (Or.inl ne_o0_aC)
    have Fo0_end_162 := Fo0_end_152.other W162 (Or.inl ne_o0_aC)
    have Fo0_splitFrom_162 := Fo0_splitFrom_152.other W162 (Or.inl ne_o0_aC)
    have Fo0_markedCount_162 := Fo0_markedCount_152.other W162 (Or.inl ne_o0_aC)
    have Fo0_markedBlocks_162 := Fo0_markedBlocks_152.other W162 (Or.inl ne_o0_aC)
    have Fo0_count_162 := Fo0_count_152.other W162 (Or.inl ne_o0_aC)
    have Fo0_markedBlockCount_162 := Fo0_markedBlockCount_152.other W162 (Or.inl ne_o0_aC)
    have Z162 : n0 ≤ h162.size := Own.size_wr W162 Z152
    have K162 : Keep h0 h162 [aM, aI, aC, aK, o0] := K152.wr W162 (Or.inl (List.mem_of_getElem? (i := 2) rfl))
    have q163 : Steps p.tables e below (s₁.setTop (entryFrame m #[(.ref o0), (.int p1)] 5)) (T162.setTop (mkF m 105 #[.val (.ref o0), .val (.int p1), .val (.int v5), .val (.int (v101 + v107)), .val (.int v113)] [])) := q160.trans (st162 _ (Steps.refl _))
    obtain rfl := Option.some.inj hM
    obtain ⟨fs, hr, hrun, hended, hW, hsame⟩ := X162.leave (v := none) (fun _ => rfl)
    refine ⟨_, _, q163.trans ?_, hrun, hended, _, _, rfl, ?_, ⟨_, rfl⟩, hW, hsame.mono (by decide) (by decide)⟩
    · exact X162.returnOut hx Bd.returns (hb hby d7_105) hr
    · show Q_rmM Z o0 p1 aM aI aB aS aE aF aC aK xM xI xB xS xE xF xC xK cn mc _ h0 n0 _ T162.heap _
      rw [e162]
      exact ⟨rfl, N162, K162, IaM_162, IaI_162, J162, IaK_162, Fo0_members_162, Fo0_memberIndex_162, Fo0_blockOf_162, Fo0_start_162, Fo0_end_162, Fo0_splitFrom_162, Fo0_markedCount_162, Fo0_markedBlocks_162, Fo0_count_162, Fo0_markedBlockCount_162⟩

theorem d6_0 : decode method_5_code 0 = .ok (.iload_n 1, 1) := by decide +kernel
theorem d6_1 : decode method_5_code 1 = .ok (.iload_n 2, 1) := by decide +kernel
theorem d6_2 : decode method_5_code 2 = .ok (.iushr, 1) := by decide +kernel
theorem d6_3 : decode method_5_code 3 = .ok (.iconst 1, 1) := by decide +kernel
theorem d6_4 : decode method_5_code 4 = .ok (.iand, 1) := by decide +kernel
theorem d6_5 : decode method_5_code 5 = .ok (.ifCond .eq 8, 3) := by decide +kernel
theorem d6_8 : decode method_5_code 8 = .ok (.aload_n 0, 1) := by decide +kernel
theorem d6_9 : decode method_5_code 9 = .ok (.iload_n 2, 1) := by decide +kernel
theorem d6_10 : decode method_5_code 10 = .ok (.invokevirtual 37, 3) := by decide +kernel
theorem d6_13 : decode method_5_code 13 = .ok (.return_, 1) := by decide +kernel
theorem pd_1 : parseMethodDescriptor "(I)V" = some ⟨[.int], none⟩ := by decide +kernel
theorem pn_rmI : plainName "com/example/libpathsum/libpathsum/BlocksMarkPinLaw" = true := by first | (simp [plainName, overriddenIn]; done) | decide +kernel
theorem ef_rmI (m : MethodId) (o0 : Addr) (p1 : Int32) (p2 : Int32) : entryFrame m #[(.ref o0), (.int p1), (.int p2)] 3 = mkF m 0 #[.val (.ref o0), .val (.int p1), .val (.int p2)] [] := by first | (simp [entryFrame, mkF, argsToLocals, Value.category]; done) | rfl
def M_markIf (p1 : Int32) (p2 : Int32) (xM : List Int32) (xI : List Int32) (xB : List Int32) (xS : List Int32) (xE : List Int32) (xF : List Int32) (xC : List Int32) (xK : List Int32) (cn : Int32) (mc : Int32) : Option (List Int32 × List Int32 × List Int32 × List Int32 × Int32) := (if (((p1.toUInt32 >>> (p2 &&& 31).toUInt32).toInt32) &&& (1 : Int32)) = (0 : Int32) then some (xM, xI, xC, xK, mc) else (M_mark p2 xM xI xB xS xE xF xC xK cn mc).bind fun r6 => some (r6.1, r6.2.1, r6.2.2.1, r6.2.2.2.1, r6.2.2.2.2))
def Q_rmI (Z : State) (o0 : Addr) (p1 : Int32) (p2 : Int32) (aM : Addr) (aI : Addr) (aB : Addr) (aS : Addr) (aE : Addr) (aF : Addr) (aC : Addr) (aK : Addr) (xM : List Int32) (xI : List Int32) (xB : List Int32) (xS : List Int32) (xE : List Int32) (xF : List Int32) (xC : List Int32) (xK : List Int32) (cn : Int32) (mc : Int32) (out : List Int32 × List Int32 × List Int32 × List Int32 × Int32) (h0 : Heap) (n0 : Nat) (v : Option Value) (h : Heap) (L : List Loc) : Prop := v = none ∧ Fr n0 L ∧ Keep h0 h [aM, aI, aC, aK, o0] ∧ Own.IA Z h aM out.1 ∧ Own.IA Z h aI out.2.1 ∧ Own.IA Z h aC out.2.2.1 ∧ Own.IA Z h aK out.2.2.2.1 ∧ Fld Z h o0 "com/example/libpathsum/libpathsum/Blocks" "members" "[I" (.ref aM) ∧ Fld Z h o0 "com/example/libpathsum/libpathsum/Blocks" "memberIndex" "[I" (.ref aI) ∧ Fld Z h o0 "com/example/libpathsum/libpathsum/Blocks" "blockOf" "[I" (.ref aB) ∧ Fld Z h o0 "com/example/libpathsum/libpathsum/Blocks" "start" "[I" (.ref aS) ∧ Fld Z h o0 "com/example/libpathsum/libpathsum/Blocks" "end" "[I" (.ref aE) ∧ Fld Z h o0 "com/example/libpathsum/libpathsum/Blocks" "splitFrom" "[I" (.ref aF) ∧ Fld Z h o0 "com/example/libpathsum/libpathsum/Blocks" "markedCount" "[I" (.ref aC) ∧ Fld Z h o0 "com/example/libpathsum/libpathsum/Blocks" "markedBlocks" "[I" (.ref aK) ∧ Fld Z h o0 "com/example/libpathsum/libpathsum/Blocks" "count" "I" (.int cn) ∧ Fld Z h o0 "com/example/libpathsum/libpathsum/Blocks" "markedBlockCount" "I" (.int out.2.2.2.2)
set_option maxRecDepth 65536 in
set_option maxHeartbeats 40000000 in
theorem rmI (l : Launch) (Z : State) (a0 : Array Value) (hw : ∀ d ∈ tables_1, d.before a0 Z = true) (ws : List Jvm.Cond) (o0 : Addr) (p1 : Int32) (p2 : Int32) (aM : Addr) (aI : Addr) (aB : Addr) (aS : Addr) (aE : Addr) (aF : Addr) (aC : Addr) (aK : Addr) (xM : List Int32) (xI : List Int32) (xB : List Int32) (xS : List Int32) (xE : List Int32) (xF : List Int32) (xC : List Int32) (xK : List Int32) (cn : Int32) (mc : Int32) (out : List Int32 × List Int32 × List Int32 × List Int32 × Int32) (h0 : Heap) (n0 : Nat) (Z0 : n0 ≤ h0.size) (E_o0 : Exa Z h0 o0 "com/example/libpathsum/libpathsum/Blocks") (F_o0_members : Fld Z h0 o0 "com/example/libpathsum/libpathsum/Blocks" "members" "[I" (.ref aM)) (F_o0_memberIndex : Fld Z h0 o0 "com/example/libpathsum/libpathsum/Blocks" "memberIndex" "[I" (.ref aI)) (F_o0_blockOf : Fld Z h0 o0 "com/example/libpathsum/libpathsum/Blocks" "blockOf" "[I" (.ref aB)) (F_o0_start : Fld Z h0 o0 "com/example/libpathsum/libpathsum/Blocks" "start" "[I" (.ref aS)) (F_o0_end : Fld Z h0 o0 "com/example/libpathsum/libpathsum/Blocks" "end" "[I" (.ref aE)) (F_o0_splitFrom : Fld Z h0 o0 "com/example/libpathsum/libpathsum/Blocks" "splitFrom" "[I" (.ref aF)) (F_o0_markedCount : Fld Z h0 o0 "com/example/libpathsum/libpathsum/Blocks" "markedCount" "[I" (.ref aC)) (F_o0_markedBlocks : Fld Z h0 o0 "com/example/libpathsum/libpathsum/Blocks" "markedBlocks" "[I" (.ref aK)) (F_o0_count : Fld Z h0 o0 "com/example/libpathsum/libpathsum/Blocks" "count" "I" (.int cn)) (F_o0_markedBlockCount : Fld Z h0 o0 "com/example/libpathsum/libpathsum/Blocks" "markedBlockCount" "I" (.int mc)) (I_aM : Own.IA Z h0 aM xM) (I_aI : Own.IA Z h0 aI xI) (I_aB : Own.IA Z h0 aB xB) (I_aS : Own.IA Z h0 aS xS) (I_aE : Own.IA Z h0 aE xE) (I_aF : Own.IA Z h0 aF xF) (I_aC : Own.IA Z h0 aC xC) (I_aK : Own.IA Z h0 aK xK) (ge_aM : n0 ≤ aM) (ge_aI : n0 ≤ aI) (ge_aB : n0 ≤ aB) (ge_aS : n0 ≤ aS) (ge_aE : n0 ≤ aE) (ge_aF : n0 ≤ aF) (ge_aC : n0 ≤ aC) (ge_aK : n0 ≤ aK) (ge_o0 : n0 ≤ o0) (ne_aM_aI : aM ≠ aI) (ne_aM_aB : aM ≠ aB) (ne_aM_aS : aM ≠ aS) (ne_aM_aE : aM ≠ aE) (ne_aM_aF : aM ≠ aF) (ne_aM_aC : aM ≠ aC) (ne_aM_aK : aM ≠ aK) (ne_aI_aB : aI ≠ aB) (ne_aI_aS : aI ≠ aS) (ne_aI_aE : aI ≠ aE) (ne_aI_aF : aI ≠ aF) (ne_aI_aC : aI ≠ aC) (ne_aI_aK : aI ≠ aK) (ne_aB_aS : aB ≠ aS) (ne_aB_aE : aB ≠ aE) (ne_aB_aF : aB ≠ aF) (ne_aB_aC : aB ≠ aC) (ne_aB_aK : aB ≠ aK) (ne_aS_aE : aS ≠ aE) (ne_aS_aF : aS ≠ aF) (ne_aS_aC : aS ≠ aC) (ne_aS_aK : aS ≠ aK) (ne_aE_aF : aE ≠ aF) (ne_aE_aC : aE ≠ aC) (ne_aE_aK : aE ≠ aK) (ne_aF_aC : aF ≠ aC) (ne_aF_aK : aF ≠ aK) (ne_aC_aK : aC ≠ aK) (ne_o0_aM : o0 ≠ aM) (ne_o0_aI : o0 ≠ aI) (ne_o0_aB : o0 ≠ aB) (ne_o0_aS : o0 ≠ aS) (ne_o0_aE : o0 ≠ aE) (ne_o0_aF : o0 ≠ aF) (ne_o0_aC : o0 ≠ aC) (ne_o0_aK : o0 ≠ aK) (hM : M_markIf p1 p2 xM xI xB xS xE xF xC xK cn mc = some out) :
    MetFree l (⟨"com/example/libpathsum/libpathsum/BlocksMarkPinLaw", "markIf", "(Lcom/example/libpathsum/libpathsum/Blocks;II)V"⟩ : MethodName) (head1 (Jvm.Cond.code (⟨"com/example/libpathsum/libpathsum/BlocksMarkPinLaw", "markIf", "(Lcom/example/libpathsum/libpathsum/Blocks;II)V"⟩ : MethodName) method_5_code 3 none :: ws) ({ frames := 1, cells := 0, slots := 0, locals := 16 } : Room)) (fun a U => a = #[(.ref o0), (.int p1), (.int p2)] ∧ Z.Warmed39 U.vm ∧ U.heap = h0) (fun _ _ _ _ _ => True) (fun _ U o U' => ∃ v L, o = .returned v ∧ Q_rmI Z o0 p1 p2 aM aI aB aS aE aF aC aK xM xI xB xS xE xF xC xK cn mc out h0 n0 v U'.heap L ∧ FrameEnd U o U' L ({ frames := 1, cells := 0, slots := 0, locals := 16 } : Room).cells ({ frames := 1, cells := 0, slots := 0, locals := 16 } : Room).slots) := by
  refine MetFree.of_bodySF (plainFor_of_name pn_rmI) hisR ?_
  intro p e s m args below meth c s₁ Bd hml0 hP hK
  obtain ⟨rfl, hZ, hh⟩ := hP
  have hx := Bd.exec
  have hby := Bd.bytes
  have hml : c.maxLocals = 3 := hml0
  have hown : s.vm.findClass "com/example/libpathsum/libpathsum/BlocksMarkPinLaw" = some m.cls := findClass_of_methodNamed Bd.named
  have hnm := (name_of_methodNamed Bd.named Bd.method).1
  have X0 : Stand p l e ({ frames := 1, cells := 0, slots := 0, locals := 16 } : Room) s m #[(.ref o0), (.int p1), (.int p2)] below meth c s₁ [] 0 0 := Stand.of_body Bd
  have e0 : s₁.heap = h0 := by rw [← hh, Bd.state]; rfl
  have N0 := Fr.nil n0
  have q0 : Steps p.tables e below (s₁.setTop (entryFrame m #[(.ref o0), (.int p1), (.int p2)] 3)) (s₁.setTop (mkF m 0 #[.val (.ref o0), .val (.int p1), .val (.int p2)] [])) := castTop (ef_rmI m o0 p1 p2) (Steps.refl _)
  unfold M_markIf at hM
  have K0 : Keep h0 h0 [aM, aI, aC, aK, o0] := Keep.refl _ _
  have q1 : Steps p.tables e below (s₁.setTop (entryFrame m #[(.ref o0), (.int p1), (.int p2)] 3)) (s₁.setTop (mkF m 5 #[.val (.ref o0), .val (.int p1), .val (.int p2)] [(.int (((p1.toUInt32 >>> (p2 &&& 31).toUInt32).toInt32) &&& (1 : Int32)))])) := q0.trans (by
      show Steps p.tables e below (s₁.setTop (mkF m 0 #[.val (.ref o0), .val (.int p1), .val (.int p2)] [])) _
      refine XS.iloadN X0.here hx rfl (hb hby d6_0) rfl ?_
      show Steps p.tables e below (s₁.setTop (mkF m 1 #[.val (.ref o0), .val (.int p1), .val (.int p2)] [(.int p1)])) _
      refine XS.iloadN X0.here hx rfl (hb hby d6_1) rfl ?_
      show Steps p.tables e below (s₁.setTop (mkF m 2 #[.val (.ref o0), .val (.int p1), .val (.int p2)] [(.int p2), (.int p1)])) _
      refine XS.iushr X0.here hx rfl (hb hby d6_2) rfl ?_
      show Steps p.tables e below (s₁.setTop (mkF m 3 #[.val (.ref o0), .val (.int p1), .val (.int p2)] [(.int ((p1.toUInt32 >>> (p2 &&& 31).toUInt32).toInt32))])) _
      refine XS.iconst X0.here hx rfl (hb hby d6_3) ?_
      show Steps p.tables e below (s₁.setTop (mkF m 4 #[.val (.ref o0), .val (.int p1), .val (.int p2)] [(.int (1 : Int32)), (.int ((p1.toUInt32 >>> (p2 &&& 31).toUInt32).toInt32))])) _
      refine XS.iand X0.here hx rfl (hb hby d6_4) rfl ?_
      show Steps p.tables e below (s₁.setTop (mkF m 5 #[.val (.ref o0), .val (.int p1), .val (.int p2)] [(.int (((p1.toUInt32 >>> (p2 &&& 31).toUInt32).toInt32) &&& (1 : Int32)))])) _
      exact Steps.refl _)
  by_cases hc2 : (((p1.toUInt32 >>> (p2 &&& 31).toUInt32).toInt32) &&& (1 : Int32)) = (0 : Int32)
  · rw [if_pos hc2] at hM
    have q3 : Steps p.tables e below (s₁.setTop (entryFrame m #[(.ref o0), (.int p1), (.int p2)] 3)) (s₁.setTop (mkF m 13 #[.val (.ref o0), .val (.int p1), .val (.int p2)] [])) := q1.trans (by
        show Steps p.tables e below (s₁.setTop (mkF m 5 #[.val (.ref o0), .val (.int p1), .val (.int p2)] [(.int (((p1.toUInt32 >>> (p2 &&& 31).toUInt32).toInt32) &&& (1 : Int32)))])) _
        refine XS.ifYes X0.here hx rfl (pc0 := 5) (pc' := 13) rfl (hb hby d6_5) rfl ((if0 _ _).trans (teq hc2).1) (by decide) (by decide) ?_
        show Steps p.tables e below (s₁.setTop (mkF m 13 #[.val (.ref o0), .val (.int p1), .val (.int p2)] [])) _
        exact Steps.refl _)
    obtain rfl := Option.some.inj hM
    obtain ⟨fs, hr, hrun, hended, hW, hsame⟩ := X0.leave (v := none) (fun _ => rfl)
    refine ⟨_, _, q3.trans ?_, hrun, hended, _, _, rfl, ?_, ⟨_, rfl⟩, hW, hsame.mono (by decide) (by decide)⟩
    · exact X0.returnOut hx Bd.returns (hb hby d6_13) hr
    · show Q_rmI Z o0 p1 p2 aM aI aB aS aE aF aC aK xM xI xB xS xE xF xC xK cn mc _ h0 n0 _ s₁.heap _
      rw [e0]
      exact ⟨rfl, N0, K0, I_aM, I_aI, I_aC, I_aK, F_o0_members, F_o0_memberIndex, F_o0_blockOf, F_o0_start, F_o0_end, F_o0_splitFrom, F_o0_markedCount, F_o0_markedBlocks, F_o0_count, F_o0_markedBlockCount⟩
  · rw [if_neg hc2] at hM
    have q4 : Steps p.tables e below (s₁.setTop (entryFrame m #[(.ref o0), (.int p1), (.int p2)] 3)) (s₁.setTop (mkF m 8 #[.val (.ref o0), .val (.int p1), .val (.int p2)] [])) := q1.trans (by
        show Steps p.tables e below (s₁.setTop (mkF m 5 #[.val (.ref o0), .val (.int p1), .val (.int p2)] [(.int (((p1.toUInt32 >>> (p2 &&& 31).toUInt32).toInt32) &&& (1 : Int32)))])) _
        refine XS.ifNo X0.here hx rfl (hb hby d6_5) rfl ((if0 _ _).trans (feq hc2).1) ?_
        show Steps p.tables e below (s₁.setTop (mkF m 8 #[.val (.ref o0), .val (.int p1), .val (.int p2)] [])) _
        exact Steps.refl _)
    have q5 : Steps p.tables e below (s₁.setTop (entryFrame m #[(.ref o0), (.int p1), (.int p2)] 3)) (s₁.setTop (mkF m 10 #[.val (.ref o0), .val (.int p1), .val (.int p2)] [(.int p2), (.ref o0)])) := q4.trans (by
        show Steps p.tables e below (s₁.setTop (mkF m 8 #[.val (.ref o0), .val (.int p1), .val (.int p2)] [])) _
        refine XS.aloadN X0.here hx rfl (hb hby d6_8) rfl rfl ?_
        show Steps p.tables e below (s₁.setTop (mkF m 9 #[.val (.ref o0), .val (.int p1), .val (.int p2)] [(.ref o0)])) _
        refine XS.iloadN X0.here hx rfl (hb hby d6_9) rfl ?_
        show Steps p.tables e below (s₁.setTop (mkF m 10 #[.val (.ref o0), .val (.int p1), .val (.int p2)] [(.int p2), (.ref o0)])) _
        exact Steps.refl _)
    obtain ⟨r6, hr6, hM⟩ := Option.bind_eq_some_iff.mp hM
    obtain ⟨cq7, kq7, q7a, q7b, q7c⟩ := isOf hZ e0 E_o0
    obtain ⟨_, _, ⟨T7, L7, k7, n7⟩, -, X7, ⟨Lc7, hQ7, l7, y7, z7⟩, st7⟩ := X0.virtualBack hx (y := (⟨"com/example/libpathsum/libpathsum/Blocks", "mark", "(I)V"⟩ : MethodName)) (z := (⟨"com/example/libpathsum/libpathsum/Blocks", "mark", "(I)V"⟩ : MethodName)) hown (mvT hZ (hw _ (List.mem_of_getElem? (i := 51) rfl))) (mvT hZ (hw _ (List.mem_of_getElem? (i := 52) rfl))) (notFace_of_selects (args := #[]) (mvT hZ (hw _ (List.mem_of_getElem? (i := 54) rfl)))) (mvT hZ (hw _ (List.mem_of_getElem? (i := 54) rfl))) (mvT hZ (hw _ (List.mem_of_getElem? (i := 53) rfl))) (by decide) (backOf (W := 0) (rmM l Z a0 hw [] o0 p2 aM aI aB aS aE aF aC aK xM xI xB xS xE xF xC xK cn mc r6 h0 n0 Z0 E_o0 F_o0_members F_o0_memberIndex F_o0_blockOf F_o0_start F_o0_end F_o0_splitFrom F_o0_markedCount F_o0_markedBlocks F_o0_count F_o0_markedBlockCount I_aM I_aI I_aB I_aS I_aE I_aF I_aC I_aK ge_aM ge_aI ge_aB ge_aS ge_aE ge_aF ge_aC ge_aK ge_o0 ne_aM_aI ne_aM_aB ne_aM_aS ne_aM_aE ne_aM_aF ne_aM_aC ne_aM_aK ne_aI_aB ne_aI_aS ne_aI_aE ne_aI_aF ne_aI_aC ne_aI_aK ne_aB_aS ne_aB_aE ne_aB_aF ne_aB_aC ne_aB_aK ne_aS_aE ne_aS_aF ne_aS_aC ne_aS_aK ne_aE_aF ne_aE_aC ne_aE_aK ne_aF_aC ne_aF_aK ne_aC_aK ne_o0_aM ne_o0_aI ne_o0_aB ne_o0_aS ne_o0_aE ne_o0_aF ne_o0_aC ne_o0_aK hr6) hZ (hw _ (List.mem_of_getElem? (i := 55) rfl)) (hw _ (List.mem_of_getElem? (i := 7) rfl)) (by decide) (by decide)) q7a q7c (g := (mkF m 10 #[.val (.ref o0), .val (.int p1), .val (.int p2)] [(.int p2), (.ref o0)])) rfl (by rw [hml]; rfl) (Steps.refl _) (argsL := [(.int p2)]) (rest := []) (lenOf pd_1 rfl) rfl (by show 2 * 0 + _ ≤ _; exact Nat.le_of_eq rfl) (hb hby d6_10) (fun _ _ => ⟨rfl, e0, (by decide : 0 + 0 ≤ _), (by decide : 0 + 0 ≤ _)⟩)
    dsimp only [Pt.U, Pt.locs, Pt.cells, Pt.slots] at X7 l7 y7 z7 st7 hQ7
    subst l7 y7 z7
    obtain ⟨rfl, N7q, K7, J7_0, J7_1, J7_2, J7_3, G7_0, G7_1, G7_2, G7_3, G7_4, G7_5, G7_6, G7_7, G7_8, G7_9⟩ := hQ7
    have N7 := Fr.app N0 N7q
    have IaB_7 := I_aB.keep K7 (ninS (Ne.symm ne_aM_aB) (ninS (Ne.symm ne_aI_aB) (ninS ne_aB_aC (ninS ne_aB_aK (ninS (Ne.symm ne_o0_aB) nin0)))))
    have IaS_7 := I_aS.keep K7 (ninS (Ne.symm ne_aM_aS) (ninS (Ne.symm ne_aI_aS) (ninS ne_aS_aC (ninS ne_aS_aK (ninS (Ne.symm ne_o0_aS) nin0)))))
    have IaE_7 := I_aE.keep K7 (ninS (Ne.symm ne_aM_aE) (ninS (Ne.symm ne_aI_aE) (ninS ne_aE_aC (ninS ne_aE_aK (ninS (Ne.symm ne_o0_aE) nin0)))))
    have IaF_7 := I_aF.keep K7 (ninS (Ne.symm ne_aM_aF) (ninS (Ne.symm ne_aI_aF) (ninS ne_aF_aC (ninS ne_aF_aK (ninS (Ne.symm ne_o0_aF) nin0)))))
    have Xo0_7 := E_o0.keep K7
    have Z7 : n0 ≤ T7.heap.size := Nat.le_trans Z0 K7.1
    have KK7 : Keep h0 T7.heap [aM, aI, aC, aK, o0] := K0.trans K7 (allS (Or.inl (List.mem_of_getElem? (i := 0) rfl)) (allS (Or.inl (List.mem_of_getElem? (i := 1) rfl)) (allS (Or.inl (List.mem_of_getElem? (i := 2) rfl)) (allS (Or.inl (List.mem_of_getElem? (i := 3) rfl)) (allS (Or.inl (List.mem_of_getElem? (i := 4) rfl)) all0)))))
    have q8 : Steps p.tables e below (s₁.setTop (entryFrame m #[(.ref o0), (.int p1), (.int p2)] 3)) (T7.setTop (mkF m 13 #[.val (.ref o0), .val (.int p1), .val (.int p2)] [])) := q5.trans (st7)
    obtain rfl := Option.some.inj hM
    obtain ⟨fs, hr, hrun, hended, hW, hsame⟩ := X7.leave (v := none) (fun _ => rfl)
    refine ⟨_, _, q8.trans ?_, hrun, hended, _, _, rfl, ?_, ⟨_, rfl⟩, hW, hsame.mono (by decide) (by decide)⟩
    · exact X7.returnOut hx Bd.returns (hb hby d6_13) hr
    · show Q_rmI Z o0 p1 p2 aM aI aB aS aE aF aC aK xM xI xB xS xE xF xC xK cn mc _ h0 n0 _ T7.heap _
      exact ⟨rfl, N7, KK7, J7_0, J7_1, J7_2, J7_3, G7_0, G7_1, G7_2, G7_3, G7_4, G7_5, G7_6, G7_7, G7_8, G7_9⟩

theorem d9_0 : decode prog_1_method_3_code 0 = .ok (.aload_n 0, 1) := by decide +kernel
theorem d9_1 : decode prog_1_method_3_code 1 = .ok (.getfield 28, 3) := by decide +kernel
theorem d9_4 : decode prog_1_method_3_code 4 = .ok (.iload_n 1, 1) := by decide +kernel
theorem d9_5 : decode prog_1_method_3_code 5 = .ok (.iaload, 1) := by decide +kernel
theorem d9_6 : decode prog_1_method_3_code 6 = .ok (.aload_n 0, 1) := by decide +kernel
theorem d9_7 : decode prog_1_method_3_code 7 = .ok (.getfield 25, 3) := by decide +kernel
theorem d9_10 : decode prog_1_method_3_code 10 = .ok (.iload_n 1, 1) := by decide +kernel
theorem d9_11 : decode prog_1_method_3_code 11 = .ok (.iaload, 1) := by decide +kernel
theorem d9_12 : decode prog_1_method_3_code 12 = .ok (.isub, 1) := by decide +kernel
theorem d9_13 : decode prog_1_method_3_code 13 = .ok (.ireturn, 1) := by decide +kernel
theorem pn_rmZ : plainName "com/example/libpathsum/libpathsum/Blocks" = true := by first | (simp [plainName, overriddenIn]; done) | decide +kernel
theorem ef_rmZ (m : MethodId) (o0 : Addr) (p1 : Int32) : entryFrame m #[(.ref o0), (.int p1)] 2 = mkF m 0 #[.val (.ref o0), .val (.int p1)] [] := by first | (simp [entryFrame, mkF, argsToLocals, Value.category]; done) | rfl
def M_size (p1 : Int32) (xM : List Int32) (xI : List Int32) (xB : List Int32) (xS : List Int32) (xE : List Int32) (xF : List Int32) (xC : List Int32) (xK : List Int32) (cn : Int32) (mc : Int32) : Option (Int32) := (Own.rd xE p1).bind fun v5 => (Own.rd xS p1).bind fun v11 => some (v5 - v11)
def Q_rmZ (Z : State) (o0 : Addr) (p1 : Int32) (aM : Addr) (aI : Addr) (aB : Addr) (aS : Addr) (aE : Addr) (aF : Addr) (aC : Addr) (aK : Addr) (xM : List Int32) (xI : List Int32) (xB : List Int32) (xS : List Int32) (xE : List Int32) (xF : List Int32) (xC : List Int32) (xK : List Int32) (cn : Int32) (mc : Int32) (out : Int32) (h0 : Heap) (n0 : Nat) (v : Option Value) (h : Heap) (L : List Loc) : Prop := v = some (.int out) ∧ Fr n0 L ∧ h = h0
set_option maxRecDepth 65536 in
set_option maxHeartbeats 40000000 in
theorem rmZ (l : Launch) (Z : State) (a0 : Array Value) (hw : ∀ d ∈ tables_1, d.before a0 Z = true) (ws : List Jvm.Cond) (o0 : Addr) (p1 : Int32) (aM : Addr) (aI : Addr) (aB : Addr) (aS : Addr) (aE : Addr) (aF : Addr) (aC : Addr) (aK : Addr) (xM : List Int32) (xI : List Int32) (xB : List Int32) (xS : List Int32) (xE : List Int32) (xF : List Int32) (xC : List Int32) (xK : List Int32) (cn : Int32) (mc : Int32) (out : Int32) (h0 : Heap) (n0 : Nat) (Z0 : n0 ≤ h0.size) (E_o0 : Exa Z h0 o0 "com/example/libpathsum/libpathsum/Blocks") (F_o0_members : Fld Z h0 o0 "com/example/libpathsum/libpathsum/Blocks" "members" "[I" (.ref aM)) (F_o0_memberIndex : Fld Z h0 o0 "com/example/libpathsum/libpathsum/Blocks" "memberIndex" "[I" (.ref aI)) (F_o0_blockOf : Fld Z h0 o0 "com/example/libpathsum/libpathsum/Blocks" "blockOf" "[I" (.ref aB)) (F_o0_start : Fld Z h0 o0 "com/example/libpathsum/libpathsum/Blocks" "start" "[I" (.ref aS)) (F_o0_end : Fld Z h0 o0 "com/example/libpathsum/libpathsum/Blocks" "end" "[I" (.ref aE)) (F_o0_splitFrom : Fld Z h0 o0 "com/example/libpathsum/libpathsum/Blocks" "splitFrom" "[I" (.ref aF)) (F_o0_markedCount : Fld Z h0 o0 "com/example/libpathsum/libpathsum/Blocks" "markedCount" "[I" (.ref aC)) (F_o0_markedBlocks : Fld Z h0 o0 "com/example/libpathsum/libpathsum/Blocks" "markedBlocks" "[I" (.ref aK)) (F_o0_count : Fld Z h0 o0 "com/example/libpathsum/libpathsum/Blocks" "count" "I" (.int cn)) (F_o0_markedBlockCount : Fld Z h0 o0 "com/example/libpathsum/libpathsum/Blocks" "markedBlockCount" "I" (.int mc)) (I_aM : Own.IA Z h0 aM xM) (I_aI : Own.IA Z h0 aI xI) (I_aB : Own.IA Z h0 aB xB) (I_aS : Own.IA Z h0 aS xS) (I_aE : Own.IA Z h0 aE xE) (I_aF : Own.IA Z h0 aF xF) (I_aC : Own.IA Z h0 aC xC) (I_aK : Own.IA Z h0 aK xK) (ge_aM : n0 ≤ aM) (ge_aI : n0 ≤ aI) (ge_aB : n0 ≤ aB) (ge_aS : n0 ≤ aS) (ge_aE : n0 ≤ aE) (ge_aF : n0 ≤ aF) (ge_aC : n0 ≤ aC) (ge_aK : n0 ≤ aK) (ge_o0 : n0 ≤ o0) (ne_aM_aI : aM ≠ aI) (ne_aM_aB : aM ≠ aB) (ne_aM_aS : aM ≠ aS) (ne_aM_aE : aM ≠ aE) (ne_aM_aF : aM ≠ aF) (ne_aM_aC : aM ≠ aC) (ne_aM_aK : aM ≠ aK) (ne_aI_aB : aI ≠ aB) (ne_aI_aS : aI ≠ aS) (ne_aI_aE : aI ≠ aE) (ne_aI_aF : aI ≠ aF) (ne_aI_aC : aI ≠ aC) (ne_aI_aK : aI ≠ aK) (ne_aB_aS : aB ≠ aS) (ne_aB_aE : aB ≠ aE) (ne_aB_aF : aB ≠ aF) (ne_aB_aC : aB ≠ aC) (ne_aB_aK : aB ≠ aK) (ne_aS_aE : aS ≠ aE) (ne_aS_aF : aS ≠ aF) (ne_aS_aC : aS ≠ aC) (ne_aS_aK : aS ≠ aK) (ne_aE_aF : aE ≠ aF) (ne_aE_aC : aE ≠ aC) (ne_aE_aK : aE ≠ aK) (ne_aF_aC : aF ≠ aC) (ne_aF_aK : aF ≠ aK) (ne_aC_aK : aC ≠ aK) (ne_o0_aM : o0 ≠ aM) (ne_o0_aI : o0 ≠ aI) (ne_o0_aB : o0 ≠ aB) (ne_o0_aS : o0 ≠ aS) (ne_o0_aE : o0 ≠ aE) (ne_o0_aF : o0 ≠ aF) (ne_o0_aC : o0 ≠ aC) (ne_o0_aK : o0 ≠ aK) (hM : M_size p1 xM xI xB xS xE xF xC xK cn mc = some out) :
    MetFree l (⟨"com/example/libpathsum/libpathsum/Blocks", "size", "(I)I"⟩ : MethodName) (head1 (Jvm.Cond.code (⟨"com/example/libpathsum/libpathsum/Blocks", "size", "(I)I"⟩ : MethodName) prog_1_method_3_code 2 (some .int) :: ws) ({ frames := 0, cells := 0, slots := 0, locals := 0 } : Room)) (fun a U => a = #[(.ref o0), (.int p1)] ∧ Z.Warmed39 U.vm ∧ U.heap = h0) (fun _ _ _ _ _ => True) (fun _ U o U' => ∃ v L, o = .returned v ∧ Q_rmZ Z o0 p1 aM aI aB aS aE aF aC aK xM xI xB xS xE xF xC xK cn mc out h0 n0 v U'.heap L ∧ FrameEnd U o U' L ({ frames := 0, cells := 0, slots := 0, locals := 0 } : Room).cells ({ frames := 0, cells := 0, slots := 0, locals := 0 } : Room).slots) := by
  refine MetFree.of_bodySF (plainFor_of_name pn_rmZ) hisR ?_
  intro p e s m args below meth c s₁ Bd hml0 hP hK
  obtain ⟨rfl, hZ, hh⟩ := hP
  have hx := Bd.exec
  have hby := Bd.bytes
  have hml : c.maxLocals = 2 := hml0
  have hown : s.vm.findClass "com/example/libpathsum/libpathsum/Blocks" = some m.cls := findClass_of_methodNamed Bd.named
  have hnm := (name_of_methodNamed Bd.named Bd.method).1
  have X0 : Stand p l e ({ frames := 0, cells := 0, slots := 0, locals := 0 } : Room) s m #[(.ref o0), (.int p1)] below meth c s₁ [] 0 0 := Stand.of_body Bd
  have e0 : s₁.heap = h0 := by rw [← hh, Bd.state]; rfl
  have N0 := Fr.nil n0
  have q0 : Steps p.tables e below (s₁.setTop (entryFrame m #[(.ref o0), (.int p1)] 2)) (s₁.setTop (mkF m 0 #[.val (.ref o0), .val (.int p1)] [])) := castTop (ef_rmZ m o0 p1) (Steps.refl _)
  unfold M_size at hM
  have K0 : Keep h0 h0 [] := Keep.refl _ _
  have q1 : Steps p.tables e below (s₁.setTop (entryFrame m #[(.ref o0), (.int p1)] 2)) (s₁.setTop (mkF m 1 #[.val (.ref o0), .val (.int p1)] [(.ref o0)])) := q0.trans (by
      show Steps p.tables e below (s₁.setTop (mkF m 0 #[.val (.ref o0), .val (.int p1)] [])) _
      refine XS.aloadN X0.here hx rfl (hb hby d9_0) rfl rfl ?_
      show Steps p.tables e below (s₁.setTop (mkF m 1 #[.val (.ref o0), .val (.int p1)] [(.ref o0)])) _
      exact Steps.refl _)
  obtain ⟨T2, X2, e2, st2⟩ := getF X0 hx hZ hown (host := "") (Or.inl (hw _ (List.mem_of_getElem? (i := 35) rfl))) Via.refl e0 F_o0_end (g := (mkF m 1 #[.val (.ref o0), .val (.int p1)] [(.ref o0)])) rfl rfl (hb hby d9_1)
  have q3 : Steps p.tables e below (s₁.setTop (entryFrame m #[(.ref o0), (.int p1)] 2)) (T2.setTop (mkF m 4 #[.val (.ref o0), .val (.int p1)] [(.ref aE)])) := q1.trans (st2 _ (Steps.refl _))
  have q4 : Steps p.tables e below (s₁.setTop (entryFrame m #[(.ref o0), (.int p1)] 2)) (T2.setTop (mkF m 5 #[.val (.ref o0), .val (.int p1)] [(.int p1), (.ref aE)])) := q3.trans (by
      show Steps p.tables e below (T2.setTop (mkF m 4 #[.val (.ref o0), .val (.int p1)] [(.ref aE)])) _
      refine XS.iloadN X2.here hx rfl (hb hby d9_4) rfl ?_
      show Steps p.tables e below (T2.setTop (mkF m 5 #[.val (.ref o0), .val (.int p1)] [(.int p1), (.ref aE)])) _
      exact Steps.refl _)
  obtain ⟨v5, hv5, hM⟩ := Option.bind_eq_some_iff.mp hM
  have q6 : Steps p.tables e below (s₁.setTop (entryFrame m #[(.ref o0), (.int p1)] 2)) (T2.setTop (mkF m 6 #[.val (.ref o0), .val (.int p1)] [(.int v5)])) := q4.trans (Own.ldO X2 hx hZ e2 I_aE hv5 (g := (mkF m 5 #[.val (.ref o0), .val (.int p1)] [(.int p1), (.ref aE)])) rfl rfl (hb hby d9_5) _ (Steps.refl _))
  have q7 : Steps p.tables e below (s₁.setTop (entryFrame m #[(.ref o0), (.int p1)] 2)) (T2.setTop (mkF m 7 #[.val (.ref o0), .val (.int p1)] [(.ref o0), (.int v5)])) := q6.trans (by
      show Steps p.tables e below (T2.setTop (mkF m 6 #[.val (.ref o0), .val (.int p1)] [(.int v5)])) _
      refine XS.aloadN X2.here hx rfl (hb hby d9_6) rfl rfl ?_
      show Steps p.tables e below (T2.setTop (mkF m 7 #[.val (.ref o0), .val (.int p1)] [(.ref o0), (.int v5)])) _
      exact Steps.refl _)
  obtain ⟨T8, X8, e8, st8⟩ := getF X2 hx hZ hown (host := "") (Or.inl (hw _ (List.mem_of_getElem? (i := 33) rfl))) Via.refl e2 F_o0_start (g := (mkF m 7 #[.val (.ref o0), .val (.int p1)] [(.ref o0), (.int v5)])) rfl rfl (hb hby d9_7)
  have q9 : Steps p.tables e below (s₁.setTop (entryFrame m #[(.ref o0), (.int p1)] 2)) (T8.setTop (mkF m 10 #[.val (.ref o0), .val (.int p1)] [(.ref aS), (.int v5)])) := q7.trans (st8 _ (Steps.refl _))
  have q10 : Steps p.tables e below (s₁.setTop (entryFrame m #[(.ref o0), (.int p1)] 2)) (T8.setTop (mkF m 11 #[.val (.ref o0), .val (.int p1)] [(.int p1), (.ref aS), (.int v5)])) := q9.trans (by
      show Steps p.tables e below (T8.setTop (mkF m 10 #[.val (.ref o0), .val (.int p1)] [(.ref aS), (.int v5)])) _
      refine XS.iloadN X8.here hx rfl (hb hby d9_10) rfl ?_
      show Steps p.tables e below (T8.setTop (mkF m 11 #[.val (.ref o0), .val (.int p1)] [(.int p1), (.ref aS), (.int v5)])) _
      exact Steps.refl _)
  obtain ⟨v11, hv11, hM⟩ := Option.bind_eq_some_iff.mp hM
  have q12 : Steps p.tables e below (s₁.setTop (entryFrame m #[(.ref o0), (.int p1)] 2)) (T8.setTop (mkF m 12 #[.val (.ref o0), .val (.int p1)] [(.int v11), (.int v5)])) := q10.trans (Own.ldO X8 hx hZ e8 I_aS hv11 (g := (mkF m 11 #[.val (.ref o0), .val (.int p1)] [(.int p1), (.ref aS), (.int v5)])) rfl rfl (hb hby d9_11) _ (Steps.refl _))
  have q13 : Steps p.tables e below (s₁.setTop (entryFrame m #[(.ref o0), (.int p1)] 2)) (T8.setTop (mkF m 13 #[.val (.ref o0), .val (.int p1)] [(.int (v5 - v11))])) := q12.trans (by
      show Steps p.tables e below (T8.setTop (mkF m 12 #[.val (.ref o0), .val (.int p1)] [(.int v11), (.int v5)])) _
      refine XS.isub X8.here hx rfl (hb hby d9_12) rfl ?_
      show Steps p.tables e below (T8.setTop (mkF m 13 #[.val (.ref o0), .val (.int p1)] [(.int (v5 - v11))])) _
      exact Steps.refl _)
  obtain rfl := Option.some.inj hM
  obtain ⟨fs, hr, hrun, hended, hW, hsame⟩ := X8.leave (v := some (.int (v5 - v11))) (fun h => by rw [Bd.returns] at h; cases h)
  refine ⟨_, _, q13.trans ?_, hrun, hended, _, _, rfl, ?_, ⟨_, rfl⟩, hW, hsame.mono (by decide) (by decide)⟩
  · exact retI X8 hx Bd.returns (hb hby d9_13) hr
  · show Q_rmZ Z o0 p1 aM aI aB aS aE aF aC aK xM xI xB xS xE xF xC xK cn mc _ h0 n0 _ T8.heap _
    rw [e8]
    exact ⟨rfl, N0, rfl⟩

theorem d8_111 : decode prog_1_method_7_code 111 = .ok (.iload 5, 2) := by decide +kernel
theorem d8_113 : decode prog_1_method_7_code 113 = .ok (.aload_n 0, 1) := by decide +kernel
theorem d8_114 : decode prog_1_method_7_code 114 = .ok (.getfield 28, 3) := by decide +kernel
theorem d8_117 : decode prog_1_method_7_code 117 = .ok (.iload 4, 2) := by decide +kernel
theorem d8_119 : decode prog_1_method_7_code 119 = .ok (.iaload, 1) := by decide +kernel
theorem d8_120 : decode prog_1_method_7_code 120 = .ok (.if_icmp .ge 23, 3) := by decide +kernel
theorem d8_123 : decode prog_1_method_7_code 123 = .ok (.aload_n 0, 1) := by decide +kernel
theorem d8_124 : decode prog_1_method_7_code 124 = .ok (.getfield 22, 3) := by decide +kernel
theorem d8_127 : decode prog_1_method_7_code 127 = .ok (.aload_n 0, 1) := by decide +kernel
theorem d8_128 : decode prog_1_method_7_code 128 = .ok (.getfield 7, 3) := by decide +kernel
theorem d8_131 : decode prog_1_method_7_code 131 = .ok (.iload 5, 2) := by decide +kernel
theorem d8_133 : decode prog_1_method_7_code 133 = .ok (.iaload, 1) := by decide +kernel
theorem d8_134 : decode prog_1_method_7_code 134 = .ok (.iload 4, 2) := by decide +kernel
theorem d8_136 : decode prog_1_method_7_code 136 = .ok (.iastore, 1) := by decide +kernel
theorem d8_137 : decode prog_1_method_7_code 137 = .ok (.iinc 5 1, 3) := by decide +kernel
theorem d8_140 : decode prog_1_method_7_code 140 = .ok (.goto (-29), 3) := by decide +kernel
def M_lpIn : Nat → Int32 → List Int32 → List Int32 → Int32 → List Int32 → Option (Int32 × List Int32)
  | 0, _, _, _, _, _ => none
  | k + 1, l4, xM, xE, ix, xB => (Own.rd xE l4).bind fun v5 => (if ix < v5 then (Own.rd xM ix).bind fun v17 => (Own.wt xB v17 l4).bind fun y20 => M_lpIn k l4 xM xE (ix + (1 : Int32)) y20 else some (ix, xB))
theorem M_lpIn_s (k : Nat) (l4 : Int32) (xM : List Int32) (xE : List Int32) (ix : Int32) (xB : List Int32) : M_lpIn (k + 1) l4 xM xE ix xB = (Own.rd xE l4).bind fun v5 => (if ix < v5 then (Own.rd xM ix).bind fun v17 => (Own.wt xB v17 l4).bind fun y20 => M_lpIn k l4 xM xE (ix + (1 : Int32)) y20 else some (ix, xB)) := rfl
set_option maxRecDepth 65536 in
set_option maxHeartbeats 40000000 in
theorem lpIn {p : Program} {l : Launch} {e : Env} {R : Room} {s : State} {m : MethodId} {args : Array Value} {below : List Frame} {meth : Method} {c : Code} {Z : State} {a0 : Array Value} {n0 cells slots : Nat} (hx : p.tables.exec = Jvm.exec) (hZ : Z.Warmed39 s.vm) (hw : ∀ d ∈ tables_1, d.before a0 Z = true) (hby : c.code = prog_1_method_7_code) (hml : c.maxLocals = 6) (hown : s.vm.findClass "com/example/libpathsum/libpathsum/Blocks" = some m.cls) (o0 aM aI aB aS aE aF aC aK : Addr) (l1 l2 l3 cn mc : Int32) (xI xS xF xC xK : List Int32) (l4 : Int32) (xM : List Int32) (xE : List Int32) (ge_aM : n0 ≤ aM) (ge_aI : n0 ≤ aI) (ge_aB : n0 ≤ aB) (ge_aS : n0 ≤ aS) (ge_aE : n0 ≤ aE) (ge_aF : n0 ≤ aF) (ge_aC : n0 ≤ aC) (ge_aK : n0 ≤ aK) (ge_o0 : n0 ≤ o0) (ne_aM_aI : aM ≠ aI) (ne_aM_aB : aM ≠ aB) (ne_aM_aS : aM ≠ aS) (ne_aM_aE : aM ≠ aE) (ne_aM_aF : aM ≠ aF) (ne_aM_aC : aM ≠ aC) (ne_aM_aK : aM ≠ aK) (ne_aI_aB : aI ≠ aB) (ne_aI_aS : aI ≠ aS) (ne_aI_aE : aI ≠ aE) (ne_aI_aF : aI ≠ aF) (ne_aI_aC : aI ≠ aC) (ne_aI_aK : aI ≠ aK) (ne_aB_aS : aB ≠ aS) (ne_aB_aE : aB ≠ aE) (ne_aB_aF : aB ≠ aF) (ne_aB_aC : aB ≠ aC) (ne_aB_aK : aB ≠ aK) (ne_aS_aE : aS ≠ aE) (ne_aS_aF : aS ≠ aF) (ne_aS_aC : aS ≠ aC) (ne_aS_aK : aS ≠ aK) (ne_aE_aF : aE ≠ aF) (ne_aE_aC : aE ≠ aC) (ne_aE_aK : aE ≠ aK) (ne_aF_aC : aF ≠ aC) (ne_aF_aK : aF ≠ aK) (ne_aC_aK : aC ≠ aK) (ne_o0_aM : o0 ≠ aM) (ne_o0_aI : o0 ≠ aI) (ne_o0_aB : o0 ≠ aB) (ne_o0_aS : o0 ≠ aS) (ne_o0_aE : o0 ≠ aE) (ne_o0_aF : o0 ≠ aF) (ne_o0_aC : o0 ≠ aC) (ne_o0_aK : o0 ≠ aK) (k : Nat) : ∀ {T0 : State} {locs : List Loc} {h0 : Heap} (ix : Int32) (xB : List Int32)  (out : Int32 × List Int32) (hM : M_lpIn k l4 xM xE ix xB = some out) (X0 : Stand p l e R s m args below meth c T0 locs cells slots) (e0 : T0.heap = h0) (N0 : Fr n0 locs) (Z0 : n0 ≤ h0.size)  (E_o0 : Exa Z h0 o0 "com/example/libpathsum/libpathsum/Blocks") (F_o0_members : Fld Z h0 o0 "com/example/libpathsum/libpathsum/Blocks" "members" "[I" (.ref aM)) (F_o0_memberIndex : Fld Z h0 o0 "com/example/libpathsum/libpathsum/Blocks" "memberIndex" "[I" (.ref aI)) (F_o0_blockOf : Fld Z h0 o0 "com/example/libpathsum/libpathsum/Blocks" "blockOf" "[I" (.ref aB)) (F_o0_start : Fld Z h0 o0 "com/example/libpathsum/libpathsum/Blocks" "start" "[I" (.ref aS)) (F_o0_end : Fld Z h0 o0 "com/example/libpathsum/libpathsum/Blocks" "end" "[I" (.ref aE)) (F_o0_splitFrom : Fld Z h0 o0 "com/example/libpathsum/libpathsum/Blocks" "splitFrom" "[I" (.ref aF)) (F_o0_markedCount : Fld Z h0 o0 "com/example/libpathsum/libpathsum/Blocks" "markedCount" "[I" (.ref aC)) (F_o0_markedBlocks : Fld Z h0 o0 "com/example/libpathsum/libpathsum/Blocks" "markedBlocks" "[I" (.ref aK)) (F_o0_count : Fld Z h0 o0 "com/example/libpathsum/libpathsum/Blocks" "count" "I" (.int cn)) (F_o0_markedBlockCount : Fld Z h0 o0 "com/example/libpathsum/libpathsum/Blocks" "markedBlockCount" "I" (.int mc)) (I_aM : Own.IA Z h0 aM xM) (I_aI : Own.IA Z h0 aI xI) (I_aB : Own.IA Z h0 aB xB) (I_aS : Own.IA Z h0 aS xS) (I_aE : Own.IA Z h0 aE xE) (I_aF : Own.IA Z h0 aF xF) (I_aC : Own.IA Z h0 aC xC) (I_aK : Own.IA Z h0 aK xK),
    ∃ (T' : State) (locs' : List Loc) (h' : Heap) , Stand p l e R s m args below meth c T' locs' cells slots ∧ T'.heap = h' ∧ Fr n0 locs' ∧ n0 ≤ h'.size ∧ Keep h0 h' [aB] ∧ Own.IA Z h' aB out.2 ∧ Steps p.tables e below (T0.setTop (mkF m 111 #[.val (.ref o0), .val (.int l1), .val (.int l2), .val (.int l3), .val (.int l4), .val (.int ix)] [])) (T'.setTop (mkF m 143 #[.val (.ref o0), .val (.int l1), .val (.int l2), .val (.int l3), .val (.int l4), .val (.int out.1)] [])) := by
  induction k with
  | zero => intro T0 locs h0 ix xB out hM X0 e0 N0 Z0 E_o0 F_o0_members F_o0_memberIndex F_o0_blockOf F_o0_start F_o0_end F_o0_splitFrom F_o0_markedCount F_o0_markedBlocks F_o0_count F_o0_markedBlockCount I_aM I_aI I_aB I_aS I_aE I_aF I_aC I_aK; cases hM
  | succ k ih =>
    intro T0 locs h0 ix xB out hM X0 e0 N0 Z0 E_o0 F_o0_members F_o0_memberIndex F_o0_blockOf F_o0_start F_o0_end F_o0_splitFrom F_o0_markedCount F_o0_markedBlocks F_o0_count F_o0_markedBlockCount I_aM I_aI I_aB I_aS I_aE I_aF I_aC I_aK
    rw [M_lpIn_s] at hM
    have q0 : Steps p.tables e below (T0.setTop (mkF m 111 #[.val (.ref o0), .val (.int l1), .val (.int l2), .val (.int l3), .val (.int l4), .val (.int ix)] [])) (T0.setTop (mkF m 111 #[.val (.ref o0), .val (.int l1), .val (.int l2), .val (.int l3), .val (.int l4), .val (.int ix)] [])) := Steps.refl _
    have K0 : Keep h0 h0 [aB] := Keep.refl _ _
    have q1 : Steps p.tables e below (T0.setTop (mkF m 111 #[.val (.ref o0), .val (.int l1), .val (.int l2), .val (.int l3), .val (.int l4), .val (.int ix)] [])) (T0.setTop (mkF m 114 #[.val (.ref o0), .val (.int l1), .val (.int l2), .val (.int l3), .val (.int l4), .val (.int ix)] [(.ref o0), (.int ix)])) := q0.trans (by
        show Steps p.tables e below (T0.setTop (mkF m 111 #[.val (.ref o0), .val (.int l1), .val (.int l2), .val (.int l3), .val (.int l4), .val (.int ix)] [])) _
        refine XS.iload X0.here hx rfl (hb hby d8_111) rfl ?_
        show Steps p.tables e below (T0.setTop (mkF m 113 #[.val (.ref o0), .val (.int l1), .val (.int l2), .val (.int l3), .val (.int l4), .val (.int ix)] [(.int ix)])) _
        refine XS.aloadN X0.here hx rfl (hb hby d8_113) rfl rfl ?_
        show Steps p.tables e below (T0.setTop (mkF m 114 #[.val (.ref o0), .val (.int l1), .val (.int l2), .val (.int l3), .val (.int l4), .val (.int ix)] [(.ref o0), (.int ix)])) _
        exact Steps.refl _)
    obtain ⟨T2, X2, e2, st2⟩ := getF X0 hx hZ hown (host := "") (Or.inl (hw _ (List.mem_of_getElem? (i := 35) rfl))) Via.refl e0 F_o0_end (g := (mkF m 114 #[.val (.ref o0), .val (.int l1), .val (.int l2), .val (.int l3), .val (.int l4), .val (.int ix)] [(.ref o0), (.int ix)])) rfl rfl (hb hby d8_114)
    have q3 : Steps p.tables e below (T0.setTop (mkF m 111 #[.val (.ref o0), .val (.int l1), .val (.int l2), .val (.int l3), .val (.int l4), .val (.int ix)] [])) (T2.setTop (mkF m 117 #[.val (.ref o0), .val (.int l1), .val (.int l2), .val (.int l3), .val (.int l4), .val (.int ix)] [(.ref aE), (.int ix)])) := q1.trans (st2 _ (Steps.refl _))
    have q4 : Steps p.tables e below (T0.setTop (mkF m 111 #[.val (.ref o0), .val (.int l1), .val (.int l2), .val (.int l3), .val (.int l4), .val (.int ix)] [])) (T2.setTop (mkF m 119 #[.val (.ref o0), .val (.int l1), .val (.int l2), .val (.int l3), .val (.int l4), .val (.int ix)] [(.int l4), (.ref aE), (.int ix)])) := q3.trans (by
        show Steps p.tables e below (T2.setTop (mkF m 117 #[.val (.ref o0), .val (.int l1), .val (.int l2), .val (.int l3), .val (.int l4), .val (.int ix)] [(.ref aE), (.int ix)])) _
        refine XS.iload X2.here hx rfl (hb hby d8_117) rfl ?_
        show Steps p.tables e below (T2.setTop (mkF m 119 #[.val (.ref o0), .val (.int l1), .val (.int l2), .val (.int l3), .val (.int l4), .val (.int ix)] [(.int l4), (.ref aE), (.int ix)])) _
        exact Steps.refl _)
    obtain ⟨v5, hv5, hM⟩ := Option.bind_eq_some_iff.mp hM
    have q6 : Steps p.tables e below (T0.setTop (mkF m 111 #[.val (.ref o0), .val (.int l1), .val (.int l2), .val (.int l3), .val (.int l4), .val (.int ix)] [])) (T2.setTop (mkF m 120 #[.val (.ref o0), .val (.int l1), .val (.int l2), .val (.int l3), .val (.int l4), .val (.int ix)] [(.int v5), (.int ix)])) := q4.trans (Own.ldO X2 hx hZ e2 I_aE hv5 (g := (mkF m 119 #[.val (.ref o0), .val (.int l1), .val (.int l2), .val (.int l3), .val (.int l4), .val (.int ix)] [(.int l4), (.ref aE), (.int ix)])) rfl rfl (hb hby d8_119) _ (Steps.refl _))
    by_cases hc8 : ix < v5
    · rw [if_pos hc8] at hM
      have q9 : Steps p.tables e below (T0.setTop (mkF m 111 #[.val (.ref o0), .val (.int l1), .val (.int l2), .val (.int l3), .val (.int l4), .val (.int ix)] [])) (T2.setTop (mkF m 123 #[.val (.ref o0), .val (.int l1), .val (.int l2), .val (.int l3), .val (.int l4), .val (.int ix)] [])) := q6.trans (by
          show Steps p.tables e below (T2.setTop (mkF m 120 #[.val (.ref o0), .val (.int l1), .val (.int l2), .val (.int l3), .val (.int l4), .val (.int ix)] [(.int v5), (.int ix)])) _
          refine XS.icmpNo X2.here hx rfl (hb hby d8_120) rfl (tlt hc8).2.1 ?_
          show Steps p.tables e below (T2.setTop (mkF m 123 #[.val (.ref o0), .val (.int l1), .val (.int l2), .val (.int l3), .val (.int l4), .val (.int ix)] [])) _
          exact Steps.refl _)
      have q10 : Steps p.tables e below (T0.setTop (mkF m 111 #[.val (.ref o0), .val (.int l1), .val (.int l2), .val (.int l3), .val (.int l4), .val (.int ix)] [])) (T2.setTop (mkF m 124 #[.val (.ref o0), .val (.int l1), .val (.int l2), .val (.int l3), .val (.int l4), .val (.int ix)] [(.ref o0)])) := q9.trans (by
          show Steps p.tables e below (T2.setTop (mkF m 123 #[.val (.ref o0), .val (.int l1), .val (.int l2), .val (.int l3), .val (.int l4), .val (.int ix)] [])) _
          refine XS.aloadN X2.here hx rfl (hb hby d8_123) rfl rfl ?_
          show Steps p.tables e below (T2.setTop (mkF m 124 #[.val (.ref o0), .val (.int l1), .val (.int l2), .val (.int l3), .val (.int l4), .val (.int ix)] [(.ref o0)])) _
          exact Steps.refl _)
      obtain ⟨T11, X11, e11, st11⟩ := getF X2 hx hZ hown (host := "") (Or.inl (hw _ (List.mem_of_getElem? (i := 31) rfl))) Via.refl e2 F_o0_blockOf (g := (mkF m 124 #[.val (.ref o0), .val (.int l1), .val (.int l2), .val (.int l3), .val (.int l4), .val (.int ix)] [(.ref o0)])) rfl rfl (hb hby d8_124)
      have q12 : Steps p.tables e below (T0.setTop (mkF m 111 #[.val (.ref o0), .val (.int l1), .val (.int l2), .val (.int l3), .val (.int l4), .val (.int ix)] [])) (T11.setTop (mkF m 127 #[.val (.ref o0), .val (.int l1), .val (.int l2), .val (.int l3), .val (.int l4), .val (.int ix)] [(.ref aB)])) := q10.trans (st11 _ (Steps.refl _))
      have q13 : Steps p.tables e below (T0.setTop (mkF m 111 #[.val (.ref o0), .val (.int l1), .val (.int l2), .val (.int l3), .val (.int l4), .val (.int ix)] [])) (T11.setTop (mkF m 128 #[.val (.ref o0), .val (.int l1), .val (.int l2), .val (.int l3), .val (.int l4), .val (.int ix)] [(.ref o0), (.ref aB)])) := q12.trans (by
          show Steps p.tables e below (T11.setTop (mkF m 127 #[.val (.ref o0), .val (.int l1), .val (.int l2), .val (.int l3), .val (.int l4), .val (.int ix)] [(.ref aB)])) _
          refine XS.aloadN X11.here hx rfl (hb hby d8_127) rfl rfl ?_
          show Steps p.tables e below (T11.setTop (mkF m 128 #[.val (.ref o0), .val (.int l1), .val (.int l2), .val (.int l3), .val (.int l4), .val (.int ix)] [(.ref o0), (.ref aB)])) _
          exact Steps.refl _)
      obtain ⟨T14, X14, e14, st14⟩ := getF X11 hx hZ hown (host := "") (Or.inl (hw _ (List.mem_of_getElem? (i := 14) rfl))) Via.refl e11 F_o0_members (g := (mkF m 128 #[.val (.ref o0), .val (.int l1), .val (.int l2), .val (.int l3), .val (.int l4), .val (.int ix)] [(.ref o0), (.ref aB)])) rfl rfl (hb hby d8_128)
      have q15 : Steps p.tables e below (T0.setTop (mkF m 111 #[.val (.ref o0), .val (.int l1), .val (.int l2), .val (.int l3), .val (.int l4), .val (.int ix)] [])) (T14.setTop (mkF m 131 #[.val (.ref o0), .val (.int l1), .val (.int l2), .val (.int l3), .val (.int l4), .val (.int ix)] [(.ref aM), (.ref aB)])) := q13.trans (st14 _ (Steps.refl _))
      have q16 : Steps p.tables e below (T0.setTop (mkF m 111 #[.val (.ref o0), .val (.int l1), .val (.int l2), .val (.int l3), .val (.int l4), .val (.int ix)] [])) (T14.setTop (mkF m 133 #[.val (.ref o0), .val (.int l1), .val (.int l2), .val (.int l3), .val (.int l4), .val (.int ix)] [(.int ix), (.ref aM), (.ref aB)])) := q15.trans (by
          show Steps p.tables e below (T14.setTop (mkF m 131 #[.val (.ref o0), .val (.int l1), .val (.int l2), .val (.int l3), .val (.int l4), .val (.int ix)] [(.ref aM), (.ref aB)])) _
          refine XS.iload X14.here hx rfl (hb hby d8_131) rfl ?_
          show Steps p.tables e below (T14.setTop (mkF m 133 #[.val (.ref o0), .val (.int l1), .val (.int l2), .val (.int l3), .val (.int l4), .val (.int ix)] [(.int ix), (.ref aM), (.ref aB)])) _
          exact Steps.refl _)
      obtain ⟨v17, hv17, hM⟩ := Option.bind_eq_some_iff.mp hM
      have q18 : Steps p.tables e below (T0.setTop (mkF m 111 #[.val (.ref o0), .val (.int l1), .val (.int l2), .val (.int l3), .val (.int l4), .val (.int ix)] [])) (T14.setTop (mkF m 134 #[.val (.ref o0), .val (.int l1), .val (.int l2), .val (.int l3), .val (.int l4), .val (.int ix)] [(.int v17), (.ref aB)])) := q16.trans (Own.ldO X14 hx hZ e14 I_aM hv17 (g := (mkF m 133 #[.val (.ref o0), .val (.int l1), .val (.int l2), .val (.int l3), .val (.int l4), .val (.int ix)] [(.int ix), (.ref aM), (.ref aB)])) rfl rfl (hb hby d8_133) _ (Steps.refl _))
      have q19 : Steps p.tables e below (T0.setTop (mkF m 111 #[.val (.ref o0), .val (.int l1), .val (.int l2), .val (.int l3), .val (.int l4), .val (.int ix)] [])) (T14.setTop (mkF m 136 #[.val (.ref o0), .val (.int l1), .val (.int l2), .val (.int l3), .val (.int l4), .val (.int ix)] [(.int l4), (.int v17), (.ref aB)])) := q18.trans (by
          show Steps p.tables e below (T14.setTop (mkF m 134 #[.val (.ref o0), .val (.int l1), .val (.int l2), .val (.int l3), .val (.int l4), .val (.int ix)] [(.int v17), (.ref aB)])) _
          refine XS.iload X14.here hx rfl (hb hby d8_134) rfl ?_
          show Steps p.tables e below (T14.setTop (mkF m 136 #[.val (.ref o0), .val (.int l1), .val (.int l2), .val (.int l3), .val (.int l4), .val (.int ix)] [(.int l4), (.int v17), (.ref aB)])) _
          exact Steps.refl _)
      obtain ⟨y20, hy20, hM⟩ := Option.bind_eq_some_iff.mp hM
      obtain ⟨T21, h21, X21, e21, W21, J21, st21⟩ := Own.stO X14 hx hZ e14 I_aB hy20 (g := (mkF m 136 #[.val (.ref o0), .val (.int l1), .val (.int l2), .val (.int l3), .val (.int l4), .val (.int ix)] [(.int l4), (.int v17), (.ref aB)])) rfl rfl (hb hby d8_136)
      have N21 := Fr.snoc X21 N0 ge_aB
      have IaM_21 := I_aM.other W21 ne_aM_aB
      have IaI_21 := I_aI.other W21 ne_aI_aB
      have IaS_21 := I_aS.other W21 (Ne.symm ne_aB_aS)
      have IaE_21 := I_aE.other W21 (Ne.symm ne_aB_aE)
      have IaF_21 := I_aF.other W21 (Ne.symm ne_aB_aF)
      have IaC_21 := I_aC.other W21 (Ne.symm ne_aB_aC)
      have IaK_21 := I_aK.other W21 (Ne.symm ne_aB_aK)
      have Xo0_21 := E_o0.wr W21
      have Fo0_members_21 := F_o0_members.other W21 (Or.inl ne_o0_aB)
      have Fo0_memberIndex_21 := F_o0_memberIndex.other W21 (Or.inl ne_o0_aB)
      have Fo0_blockOf_21 := F_o0_blockOf.other W21 (Or.inl ne_o0_aB)
      have Fo0_start_21 := F_o0_start.other W21 (Or.inl ne_o0_aB)
      have Fo0_end_21 := F_o0_end.other W21 (Or.inl ne_o0_aB)
      have Fo0_splitFrom_21 := F_o0_splitFrom.other W21 (Or.inl ne_o0_aB)
      have Fo0_markedCount_21 := F_o0_markedCount.other W21 (Or.inl ne_o0_aB)
      have Fo0_markedBlocks_21 := F_o0_markedBlocks.other W21 (Or.inl ne_o0_aB)
      have Fo0_count_21 := F_o0_count.other W21 (Or.inl ne_o0_aB)
      have Fo0_markedBlockCount_21 := F_o0_markedBlockCount.other W21 (Or.inl ne_o0_aB)
      have Z21 : n0 ≤ h21.size := Own.size_wr W21 Z0
      have K21 : Keep h0 h21 [aB] := K0.wr W21 (Or.inl (List.mem_of_getElem? (i := 0) rfl))
      have q22 : Steps p.tables e below (T0.setTop (mkF m 111 #[.val (.ref o0), .val (.int l1), .val (.int l2), .val (.int l3), .val (.int l4), .val (.int ix)] [])) (T21.setTop (mkF m 137 #[.val (.ref o0), .val (.int l1), .val (.int l2), .val (.int l3), .val (.int l4), .val (.int ix)] [])) := q19.trans (st21 _ (Steps.refl _))
      have q23 : Steps p.tables e below (T0.setTop (mkF m 111 #[.val (.ref o0), .val (.int l1), .val (.int l2), .val (.int l3), .val (.int l4), .val (.int ix)] [])) (T21.setTop (mkF m 111 #[.val (.ref o0), .val (.int l1), .val (.int l2), .val (.int l3), .val (.int l4), .val (.int (ix + (1 : Int32)))] [])) := q22.trans (by
          show Steps p.tables e below (T21.setTop (mkF m 137 #[.val (.ref o0), .val (.int l1), .val (.int l2), .val (.int l3), .val (.int l4), .val (.int ix)] [])) _
          refine XS.iinc X21.here hx rfl (hb hby d8_137) rfl (l' := #[.val (.ref o0), .val (.int l1), .val (.int l2), .val (.int l3), .val (.int l4), .val (.int (ix + (1 : Int32)))]) rfl ?_
          show Steps p.tables e below (T21.setTop (mkF m 140 #[.val (.ref o0), .val (.int l1), .val (.int l2), .val (.int l3), .val (.int l4), .val (.int (ix + (1 : Int32)))] [])) _
          refine XS.goto X21.here hx rfl (pc0 := 140) (pc' := 111) rfl (hb hby d8_140) (by decide) (by decide) ?_
          show Steps p.tables e below (T21.setTop (mkF m 111 #[.val (.ref o0), .val (.int l1), .val (.int l2), .val (.int l3), .val (.int l4), .val (.int (ix + (1 : Int32)))] [])) _
          exact Steps.refl _)
      obtain ⟨T', locs', h', X', e', N', Z', K', J0', q'⟩ := ih (ix + (1 : Int32)) y20  _ hM X21 e21 N21 Z21  Xo0_21 Fo0_members_21 Fo0_memberIndex_21 Fo0_blockOf_21 Fo0_start_21 Fo0_end_21 Fo0_splitFrom_21 Fo0_markedCount_21 Fo0_markedBlocks_21 Fo0_count_21 Fo0_markedBlockCount_21 IaM_21 IaI_21 J21 IaS_21 IaE_21 IaF_21 IaC_21 IaK_21
      exact ⟨T', locs', h', X', e', N', Z', K21.trans K' (fun _ hx' => Or.inl hx'), J0', q23.trans q'⟩
    · rw [if_neg hc8] at hM
      have q24 : Steps p.tables e below (T0.setTop (mkF m 111 #[.val (.ref o0), .val (.int l1), .val (.int l2), .val (.int l3), .val (.int l4), .val (.int ix)] [])) (T2.setTop (mkF m 143 #[.val (.ref o0), .val (.int l1), .val (.int l2), .val (.int l3), .val (.int l4), .val (.int ix)] [])) := q6.trans (by
          show Steps p.tables e below (T2.setTop (mkF m 120 #[.val (.ref o0), .val (.int l1), .val (.int l2), .val (.int l3), .val (.int l4), .val (.int ix)] [(.int v5), (.int ix)])) _
          refine XS.icmpYes X2.here hx rfl (pc0 := 120) (pc' := 143) rfl (hb hby d8_120) rfl (flt hc8).2.1 (by decide) (by decide) ?_
          show Steps p.tables e below (T2.setTop (mkF m 143 #[.val (.ref o0), .val (.int l1), .val (.int l2), .val (.int l3), .val (.int l4), .val (.int ix)] [])) _
          exact Steps.refl _)
      obtain rfl := Option.some.inj hM
      exact ⟨_, _, _, X2, e2, N0, Z0, K0, I_aB, q24⟩

theorem d8_2 : decode prog_1_method_7_code 2 = .ok (.iload_n 1, 1) := by decide +kernel
theorem d8_3 : decode prog_1_method_7_code 3 = .ok (.aload_n 0, 1) := by decide +kernel
theorem d8_4 : decode prog_1_method_7_code 4 = .ok (.getfield 54, 3) := by decide +kernel
theorem d8_7 : decode prog_1_method_7_code 7 = .ok (.if_icmp .ge 142, 3) := by decide +kernel
theorem d8_10 : decode prog_1_method_7_code 10 = .ok (.aload_n 0, 1) := by decide +kernel
theorem d8_11 : decode prog_1_method_7_code 11 = .ok (.getfield 37, 3) := by decide +kernel
theorem d8_14 : decode prog_1_method_7_code 14 = .ok (.iload_n 1, 1) := by decide +kernel
theorem d8_15 : decode prog_1_method_7_code 15 = .ok (.iaload, 1) := by decide +kernel
theorem d8_16 : decode prog_1_method_7_code 16 = .ok (.istore_n 2, 1) := by decide +kernel
theorem d8_17 : decode prog_1_method_7_code 17 = .ok (.aload_n 0, 1) := by decide +kernel
theorem d8_18 : decode prog_1_method_7_code 18 = .ok (.getfield 34, 3) := by decide +kernel
theorem d8_21 : decode prog_1_method_7_code 21 = .ok (.iload_n 2, 1) := by decide +kernel
theorem d8_22 : decode prog_1_method_7_code 22 = .ok (.iaload, 1) := by decide +kernel
theorem d8_23 : decode prog_1_method_7_code 23 = .ok (.istore_n 3, 1) := by decide +kernel
theorem d8_24 : decode prog_1_method_7_code 24 = .ok (.aload_n 0, 1) := by decide +kernel
theorem d8_25 : decode prog_1_method_7_code 25 = .ok (.getfield 34, 3) := by decide +kernel
theorem d8_28 : decode prog_1_method_7_code 28 = .ok (.iload_n 2, 1) := by decide +kernel
theorem d8_29 : decode prog_1_method_7_code 29 = .ok (.iconst 0, 1) := by decide +kernel
theorem d8_30 : decode prog_1_method_7_code 30 = .ok (.iastore, 1) := by decide +kernel
theorem d8_31 : decode prog_1_method_7_code 31 = .ok (.iload_n 3, 1) := by decide +kernel
theorem d8_32 : decode prog_1_method_7_code 32 = .ok (.aload_n 0, 1) := by decide +kernel
theorem d8_33 : decode prog_1_method_7_code 33 = .ok (.iload_n 2, 1) := by decide +kernel
theorem d8_34 : decode prog_1_method_7_code 34 = .ok (.invokevirtual 44, 3) := by decide +kernel
theorem d8_37 : decode prog_1_method_7_code 37 = .ok (.if_icmp .ge 106, 3) := by decide +kernel
theorem d8_40 : decode prog_1_method_7_code 40 = .ok (.aload_n 0, 1) := by decide +kernel
theorem d8_41 : decode prog_1_method_7_code 41 = .ok (.dup, 1) := by decide +kernel
theorem d8_42 : decode prog_1_method_7_code 42 = .ok (.getfield 40, 3) := by decide +kernel
theorem d8_45 : decode prog_1_method_7_code 45 = .ok (.dup_x1, 1) := by decide +kernel
theorem d8_46 : decode prog_1_method_7_code 46 = .ok (.iconst 1, 1) := by decide +kernel
theorem d8_47 : decode prog_1_method_7_code 47 = .ok (.iadd, 1) := by decide +kernel
theorem d8_48 : decode prog_1_method_7_code 48 = .ok (.putfield 40, 3) := by decide +kernel
theorem d8_51 : decode prog_1_method_7_code 51 = .ok (.istore 4, 2) := by decide +kernel
theorem d8_53 : decode prog_1_method_7_code 53 = .ok (.aload_n 0, 1) := by decide +kernel
theorem d8_54 : decode prog_1_method_7_code 54 = .ok (.getfield 25, 3) := by decide +kernel
theorem d8_57 : decode prog_1_method_7_code 57 = .ok (.iload 4, 2) := by decide +kernel
theorem d8_59 : decode prog_1_method_7_code 59 = .ok (.aload_n 0, 1) := by decide +kernel
theorem d8_60 : decode prog_1_method_7_code 60 = .ok (.getfield 25, 3) := by decide +kernel
theorem d8_63 : decode prog_1_method_7_code 63 = .ok (.iload_n 2, 1) := by decide +kernel
theorem d8_64 : decode prog_1_method_7_code 64 = .ok (.iaload, 1) := by decide +kernel
theorem d8_65 : decode prog_1_method_7_code 65 = .ok (.iastore, 1) := by decide +kernel
theorem d8_66 : decode prog_1_method_7_code 66 = .ok (.aload_n 0, 1) := by decide +kernel
theorem d8_67 : decode prog_1_method_7_code 67 = .ok (.getfield 28, 3) := by decide +kernel
theorem d8_70 : decode prog_1_method_7_code 70 = .ok (.iload 4, 2) := by decide +kernel
theorem d8_72 : decode prog_1_method_7_code 72 = .ok (.aload_n 0, 1) := by decide +kernel
theorem d8_73 : decode prog_1_method_7_code 73 = .ok (.getfield 25, 3) := by decide +kernel
theorem d8_76 : decode prog_1_method_7_code 76 = .ok (.iload_n 2, 1) := by decide +kernel
theorem d8_77 : decode prog_1_method_7_code 77 = .ok (.iaload, 1) := by decide +kernel
theorem d8_78 : decode prog_1_method_7_code 78 = .ok (.iload_n 3, 1) := by decide +kernel
theorem d8_79 : decode prog_1_method_7_code 79 = .ok (.iadd, 1) := by decide +kernel
theorem d8_80 : decode prog_1_method_7_code 80 = .ok (.iastore, 1) := by decide +kernel
theorem d8_81 : decode prog_1_method_7_code 81 = .ok (.aload_n 0, 1) := by decide +kernel
theorem d8_82 : decode prog_1_method_7_code 82 = .ok (.getfield 25, 3) := by decide +kernel
theorem d8_85 : decode prog_1_method_7_code 85 = .ok (.iload_n 2, 1) := by decide +kernel
theorem d8_86 : decode prog_1_method_7_code 86 = .ok (.aload_n 0, 1) := by decide +kernel
theorem d8_87 : decode prog_1_method_7_code 87 = .ok (.getfield 28, 3) := by decide +kernel
theorem d8_90 : decode prog_1_method_7_code 90 = .ok (.iload 4, 2) := by decide +kernel
theorem d8_92 : decode prog_1_method_7_code 92 = .ok (.iaload, 1) := by decide +kernel
theorem d8_93 : decode prog_1_method_7_code 93 = .ok (.iastore, 1) := by decide +kernel
theorem d8_94 : decode prog_1_method_7_code 94 = .ok (.aload_n 0, 1) := by decide +kernel
theorem d8_95 : decode prog_1_method_7_code 95 = .ok (.getfield 31, 3) := by decide +kernel
theorem d8_98 : decode prog_1_method_7_code 98 = .ok (.iload 4, 2) := by decide +kernel
theorem d8_100 : decode prog_1_method_7_code 100 = .ok (.iload_n 2, 1) := by decide +kernel
theorem d8_101 : decode prog_1_method_7_code 101 = .ok (.iastore, 1) := by decide +kernel
theorem d8_102 : decode prog_1_method_7_code 102 = .ok (.aload_n 0, 1) := by decide +kernel
theorem d8_103 : decode prog_1_method_7_code 103 = .ok (.getfield 25, 3) := by decide +kernel
theorem d8_106 : decode prog_1_method_7_code 106 = .ok (.iload 4, 2) := by decide +kernel
theorem d8_108 : decode prog_1_method_7_code 108 = .ok (.iaload, 1) := by decide +kernel
theorem d8_109 : decode prog_1_method_7_code 109 = .ok (.istore 5, 2) := by decide +kernel
theorem d8_143 : decode prog_1_method_7_code 143 = .ok (.iinc 1 1, 3) := by decide +kernel
theorem d8_146 : decode prog_1_method_7_code 146 = .ok (.goto (-144), 3) := by decide +kernel
theorem pd_2 : parseMethodDescriptor "(I)I" = some ⟨[.int], some .int⟩ := by decide +kernel
def M_lpOut : Nat → List Int32 → List Int32 → List Int32 → Int32 → Int32 → List Int32 → List Int32 → List Int32 → List Int32 → List Int32 → Int32 → Option (Int32 × List Int32 × List Int32 × List Int32 × List Int32 × List Int32 × Int32)
  | 0, _, _, _, _, _, _, _, _, _, _, _ => none
  | k + 1, xM, xI, xK, mc, i, xB, xS, xE, xF, xC, cn => (if i < mc then (Own.rd xK i).bind fun v11 => (Own.rd xC v11).bind fun v17 => (Own.wt xC v11 (0 : Int32)).bind fun y23 => (M_size v11 xM xI xB xS xE xF y23 xK cn mc).bind fun r27 => (if v17 < r27 then (Own.rd xS v11).bind fun v46 => (Own.wt xS cn v46).bind fun y48 => (Own.rd y48 v11).bind fun v58 => (Own.wt xE cn (v58 + v17)).bind fun y61 => (Own.rd y61 cn).bind fun v71 => (Own.wt y48 v11 v71).bind fun y73 => (Own.wt xF cn v11).bind fun y80 => (Own.rd y73 cn).bind fun v87 => (M_lpIn 8 cn xM y61 v87 xB).bind fun r90 => M_lpOut k xM xI xK mc (i + (1 : Int32)) r90.2 y73 y61 y80 y23 (cn + (1 : Int32)) else M_lpOut k xM xI xK mc (i + (1 : Int32)) xB xS xE xF y23 cn) else some (i, xB, xS, xE, xF, xC, cn))
theorem M_lpOut_s (k : Nat) (xM : List Int32) (xI : List Int32) (xK : List Int32) (mc : Int32) (i : Int32) (xB : List Int32) (xS : List Int32) (xE : List Int32) (xF : List Int32) (xC : List Int32) (cn : Int32) : M_lpOut (k + 1) xM xI xK mc i xB xS xE xF xC cn = (if i < mc then (Own.rd xK i).bind fun v11 => (Own.rd xC v11).bind fun v17 => (Own.wt xC v11 (0 : Int32)).bind fun y23 => (M_size v11 xM xI xB xS xE xF y23 xK cn mc).bind fun r27 => (if v17 < r27 then (Own.rd xS v11).bind fun v46 => (Own.wt xS cn v46).bind fun y48 => (Own.rd y48 v11).bind fun v58 => (Own.wt xE cn (v58 + v17)).bind fun y61 => (Own.rd y61 cn).bind fun v71 => (Own.wt y48 v11 v71).bind fun y73 => (Own.wt xF cn v11).bind fun y80 => (Own.rd y73 cn).bind fun v87 => (M_lpIn 8 cn xM y61 v87 xB).bind fun r90 => M_lpOut k xM xI xK mc (i + (1 : Int32)) r90.2 y73 y61 y80 y23 (cn + (1 : Int32)) else M_lpOut k xM xI xK mc (i + (1 : Int32)) xB xS xE xF y23 cn) else some (i, xB, xS, xE, xF, xC, cn)) := rfl
set_option maxRecDepth 65536 in
set_option maxHeartbeats 40000000 in
theorem lpOut {p : Program} {l : Launch} {e : Env} {s : State} {m : MethodId} {args : Array Value} {below : List Frame} {meth : Method} {c : Code} {Z : State} {a0 : Array Value} {n0 : Nat} (hx : p.tables.exec = Jvm.exec) (hZ : Z.Warmed39 s.vm) (hw : ∀ d ∈ tables_1, d.before a0 Z = true) (hby : c.code = prog_1_method_7_code) (hml : c.maxLocals = 6) (hown : s.vm.findClass "com/example/libpathsum/libpathsum/Blocks" = some m.cls) (o0 aM aI aB aS aE aF aC aK : Addr) (xM : List Int32) (xI : List Int32) (xK : List Int32) (mc : Int32) (ge_aM : n0 ≤ aM) (ge_aI : n0 ≤ aI) (ge_aB : n0 ≤ aB) (ge_aS : n0 ≤ aS) (ge_aE : n0 ≤ aE) (ge_aF : n0 ≤ aF) (ge_aC : n0 ≤ aC) (ge_aK : n0 ≤ aK) (ge_o0 : n0 ≤ o0) (ne_aM_aI : aM ≠ aI) (ne_aM_aB : aM ≠ aB) (ne_aM_aS : aM ≠ aS) (ne_aM_aE : aM ≠ aE) (ne_aM_aF : aM ≠ aF) (ne_aM_aC : aM ≠ aC) (ne_aM_aK : aM ≠ aK) (ne_aI_aB : aI ≠ aB) (ne_aI_aS : aI ≠ aS) (ne_aI_aE : aI ≠ aE) (ne_aI_aF : aI ≠ aF) (ne_aI_aC : aI ≠ aC) (ne_aI_aK : aI ≠ aK) (ne_aB_aS : aB ≠ aS) (ne_aB_aE : aB ≠ aE) (ne_aB_aF : aB ≠ aF) (ne_aB_aC : aB ≠ aC) (ne_aB_aK : aB ≠ aK) (ne_aS_aE : aS ≠ aE) (ne_aS_aF : aS ≠ aF) (ne_aS_aC : aS ≠ aC) (ne_aS_aK : aS ≠ aK) (ne_aE_aF : aE ≠ aF) (ne_aE_aC : aE ≠ aC) (ne_aE_aK : aE ≠ aK) (ne_aF_aC : aF ≠ aC) (ne_aF_aK : aF ≠ aK) (ne_aC_aK : aC ≠ aK) (ne_o0_aM : o0 ≠ aM) (ne_o0_aI : o0 ≠ aI) (ne_o0_aB : o0 ≠ aB) (ne_o0_aS : o0 ≠ aS) (ne_o0_aE : o0 ≠ aE) (ne_o0_aF : o0 ≠ aF) (ne_o0_aC : o0 ≠ aC) (ne_o0_aK : o0 ≠ aK) (k : Nat) : ∀ {T0 : State} {locs : List Loc} {h0 : Heap} (i : Int32) (xB : List Int32) (xS : List Int32) (xE : List Int32) (xF : List Int32) (xC : List Int32) (cn : Int32) (s2 : Slot) (s3 : Slot) (s4 : Slot) (s5 : Slot) (out : Int32 × List Int32 × List Int32 × List Int32 × List Int32 × List Int32 × Int32) (hM : M_lpOut k xM xI xK mc i xB xS xE xF xC cn = some out) (X0 : Stand p l e ({ frames := 1, cells := 0, slots := 0, locals := 14 } : Room) s m args below meth c T0 locs 0 0) (e0 : T0.heap = h0) (N0 : Fr n0 locs) (Z0 : n0 ≤ h0.size) (os_s2 : One s2) (os_s3 : One s3) (os_s4 : One s4) (os_s5 : One s5) (E_o0 : Exa Z h0 o0 "com/example/libpathsum/libpathsum/Blocks") (F_o0_members : Fld Z h0 o0 "com/example/libpathsum/libpathsum/Blocks" "members" "[I" (.ref aM)) (F_o0_memberIndex : Fld Z h0 o0 "com/example/libpathsum/libpathsum/Blocks" "memberIndex" "[I" (.ref aI)) (F_o0_blockOf : Fld Z h0 o0 "com/example/libpathsum/libpathsum/Blocks" "blockOf" "[I" (.ref aB)) (F_o0_start : Fld Z h0 o0 "com/example/libpathsum/libpathsum/Blocks" "start" "[I" (.ref aS)) (F_o0_end : Fld Z h0 o0 "com/example/libpathsum/libpathsum/Blocks" "end" "[I" (.ref aE)) (F_o0_splitFrom : Fld Z h0 o0 "com/example/libpathsum/libpathsum/Blocks" "splitFrom" "[I" (.ref aF)) (F_o0_markedCount : Fld Z h0 o0 "com/example/libpathsum/libpathsum/Blocks" "markedCount" "[I" (.ref aC)) (F_o0_markedBlocks : Fld Z h0 o0 "com/example/libpathsum/libpathsum/Blocks" "markedBlocks" "[I" (.ref aK)) (F_o0_count : Fld Z h0 o0 "com/example/libpathsum/libpathsum/Blocks" "count" "I" (.int cn)) (F_o0_markedBlockCount : Fld Z h0 o0 "com/example/libpathsum/libpathsum/Blocks" "markedBlockCount" "I" (.int mc)) (I_aM : Own.IA Z h0 aM xM) (I_aI : Own.IA Z h0 aI xI) (I_aB : Own.IA Z h0 aB xB) (I_aS : Own.IA Z h0 aS xS) (I_aE : Own.IA Z h0 aE xE) (I_aF : Own.IA Z h0 aF xF) (I_aC : Own.IA Z h0 aC xC) (I_aK : Own.IA Z h0 aK xK),
    ∃ (T' : State) (locs' : List Loc) (h' : Heap) (s2' : Slot) (s3' : Slot) (s4' : Slot) (s5' : Slot), Stand p l e ({ frames := 1, cells := 0, slots := 0, locals := 14 } : Room) s m args below meth c T' locs' 0 0 ∧ T'.heap = h' ∧ Fr n0 locs' ∧ n0 ≤ h'.size ∧ Keep h0 h' [aB, aS, aE, aF, aC, o0] ∧ One s2' ∧ One s3' ∧ One s4' ∧ One s5' ∧ Own.IA Z h' aB out.2.1 ∧ Own.IA Z h' aS out.2.2.1 ∧ Own.IA Z h' aE out.2.2.2.1 ∧ Own.IA Z h' aF out.2.2.2.2.1 ∧ Own.IA Z h' aC out.2.2.2.2.2.1 ∧ Fld Z h' o0 "com/example/libpathsum/libpathsum/Blocks" "members" "[I" (.ref aM) ∧ Fld Z h' o0 "com/example/libpathsum/libpathsum/Blocks" "memberIndex" "[I" (.ref aI) ∧ Fld Z h' o0 "com/example/libpathsum/libpathsum/Blocks" "blockOf" "[I" (.ref aB) ∧ Fld Z h' o0 "com/example/libpathsum/libpathsum/Blocks" "start" "[I" (.ref aS) ∧ Fld Z h' o0 "com/example/libpathsum/libpathsum/Blocks" "end" "[I" (.ref aE) ∧ Fld Z h' o0 "com/example/libpathsum/libpathsum/Blocks" "splitFrom" "[I" (.ref aF) ∧ Fld Z h' o0 "com/example/libpathsum/libpathsum/Blocks" "markedCount" "[I" (.ref aC) ∧ Fld Z h' o0 "com/example/libpathsum/libpathsum/Blocks" "markedBlocks" "[I" (.ref aK) ∧ Fld Z h' o0 "com/example/libpathsum/libpathsum/Blocks" "count" "I" (.int out.2.2.2.2.2.2) ∧ Fld Z h' o0 "com/example/libpathsum/libpathsum/Blocks" "markedBlockCount" "I" (.int mc) ∧ Steps p.tables e below (T0.setTop (mkF m 2 #[.val (.ref o0), .val (.int i), s2, s3, s4, s5] [])) (T'.setTop (mkF m 149 #[.val (.ref o0), .val (.int out.1), s2', s3', s4', s5'] [])) := by
  induction k with
  | zero => intro T0 locs h0 i xB xS xE xF xC cn s2 s3 s4 s5 out hM X0 e0 N0 Z0 os_s2 os_s3 os_s4 os_s5 E_o0 F_o0_members F_o0_memberIndex F_o0_blockOf F_o0_start F_o0_end F_o0_splitFrom F_o0_markedCount F_o0_markedBlocks F_o0_count F_o0_markedBlockCount I_aM I_aI I_aB I_aS I_aE I_aF I_aC I_aK; cases hM
  | succ k ih =>
    intro T0 locs h0 i xB xS xE xF xC cn s2 s3 s4 s5 out hM X0 e0 N0 Z0 os_s2 os_s3 os_s4 os_s5 E_o0 F_o0_members F_o0_memberIndex F_o0_blockOf F_o0_start F_o0_end F_o0_splitFrom F_o0_markedCount F_o0_markedBlocks F_o0_count F_o0_markedBlockCount I_aM I_aI I_aB I_aS I_aE I_aF I_aC I_aK
    rw [M_lpOut_s] at hM
    have q0 : Steps p.tables e below (T0.setTop (mkF m 2 #[.val (.ref o0), .val (.int i), s2, s3, s4, s5] [])) (T0.setTop (mkF m 2 #[.val (.ref o0), .val (.int i), s2, s3, s4, s5] [])) := Steps.refl _
    have K0 : Keep h0 h0 [aB, aS, aE, aF, aC, o0] := Keep.refl _ _
    have q1 : Steps p.tables e below (T0.setTop (mkF m 2 #[.val (.ref o0), .val (.int i), s2, s3, s4, s5] [])) (T0.setTop (mkF m 4 #[.val (.ref o0), .val (.int i), s2, s3, s4, s5] [(.ref o0), (.int i)])) := q0.trans (by
        show Steps p.tables e below (T0.setTop (mkF m 2 #[.val (.ref o0), .val (.int i), s2, s3, s4, s5] [])) _
        refine XS.iloadN X0.here hx rfl (hb hby d8_2) rfl ?_
        show Steps p.tables e below (T0.setTop (mkF m 3 #[.val (.ref o0), .val (.int i), s2, s3, s4, s5] [(.int i)])) _
        refine XS.aloadN X0.here hx rfl (hb hby d8_3) rfl rfl ?_
        show Steps p.tables e below (T0.setTop (mkF m 4 #[.val (.ref o0), .val (.int i), s2, s3, s4, s5] [(.ref o0), (.int i)])) _
        exact Steps.refl _)
    obtain ⟨T2, X2, e2, st2⟩ := getF X0 hx hZ hown (host := "") (Or.inl (hw _ (List.mem_of_getElem? (i := 56) rfl))) Via.refl e0 F_o0_markedBlockCount (g := (mkF m 4 #[.val (.ref o0), .val (.int i), s2, s3, s4, s5] [(.ref o0), (.int i)])) rfl rfl (hb hby d8_4)
    have q3 : Steps p.tables e below (T0.setTop (mkF m 2 #[.val (.ref o0), .val (.int i), s2, s3, s4, s5] [])) (T2.setTop (mkF m 7 #[.val (.ref o0), .val (.int i), s2, s3, s4, s5] [(.int mc), (.int i)])) := q1.trans (st2 _ (Steps.refl _))
    by_cases hc5 : i < mc
    · rw [if_pos hc5] at hM
      have q6 : Steps p.tables e below (T0.setTop (mkF m 2 #[.val (.ref o0), .val (.int i), s2, s3, s4, s5] [])) (T2.setTop (mkF m 10 #[.val (.ref o0), .val (.int i), s2, s3, s4, s5] [])) := q3.trans (by
          show Steps p.tables e below (T2.setTop (mkF m 7 #[.val (.ref o0), .val (.int i), s2, s3, s4, s5] [(.int mc), (.int i)])) _
          refine XS.icmpNo X2.here hx rfl (hb hby d8_7) rfl (tlt hc5).2.1 ?_
          show Steps p.tables e below (T2.setTop (mkF m 10 #[.val (.ref o0), .val (.int i), s2, s3, s4, s5] [])) _
          exact Steps.refl _)
      have q7 : Steps p.tables e below (T0.setTop (mkF m 2 #[.val (.ref o0), .val (.int i), s2, s3, s4, s5] [])) (T2.setTop (mkF m 11 #[.val (.ref o0), .val (.int i), s2, s3, s4, s5] [(.ref o0)])) := q6.trans (by
          show Steps p.tables e below (T2.setTop (mkF m 10 #[.val (.ref o0), .val (.int i), s2, s3, s4, s5] [])) _
          refine XS.aloadN X2.here hx rfl (hb hby d8_10) rfl rfl ?_
          show Steps p.tables e below (T2.setTop (mkF m 11 #[.val (.ref o0), .val (.int i), s2, s3, s4, s5] [(.ref o0)])) _
          exact Steps.refl _)
      obtain ⟨T8, X8, e8, st8⟩ := getF X2 hx hZ hown (host := "") (Or.inl (hw _ (List.mem_of_getElem? (i := 41) rfl))) Via.refl e2 F_o0_markedBlocks (g := (mkF m 11 #[.val (.ref o0), .val (.int i), s2, s3, s4, s5] [(.ref o0)])) rfl rfl (hb hby d8_11)
      have q9 : Steps p.tables e below (T0.setTop (mkF m 2 #[.val (.ref o0), .val (.int i), s2, s3, s4, s5] [])) (T8.setTop (mkF m 14 #[.val (.ref o0), .val (.int i), s2, s3, s4, s5] [(.ref aK)])) := q7.trans (st8 _ (Steps.refl _))
      have q10 : Steps p.tables e below (T0.setTop (mkF m 2 #[.val (.ref o0), .val (.int i), s2, s3, s4, s5] [])) (T8.setTop (mkF m 15 #[.val (.ref o0), .val (.int i), s2, s3, s4, s5] [(.int i), (.ref aK)])) := q9.trans (by
          show Steps p.tables e below (T8.setTop (mkF m 14 #[.val (.ref o0), .val (.int i), s2, s3, s4, s5] [(.ref aK)])) _
          refine XS.iloadN X8.here hx rfl (hb hby d8_14) rfl ?_
          show Steps p.tables e below (T8.setTop (mkF m 15 #[.val (.ref o0), .val (.int i), s2, s3, s4, s5] [(.int i), (.ref aK)])) _
          exact Steps.refl _)
      obtain ⟨v11, hv11, hM⟩ := Option.bind_eq_some_iff.mp hM
      have q12 : Steps p.tables e below (T0.setTop (mkF m 2 #[.val (.ref o0), .val (.int i), s2, s3, s4, s5] [])) (T8.setTop (mkF m 16 #[.val (.ref o0), .val (.int i), s2, s3, s4, s5] [(.int v11)])) := q10.trans (Own.ldO X8 hx hZ e8 I_aK hv11 (g := (mkF m 15 #[.val (.ref o0), .val (.int i), s2, s3, s4, s5] [(.int i), (.ref aK)])) rfl rfl (hb hby d8_15) _ (Steps.refl _))
      have q13 : Steps p.tables e below (T0.setTop (mkF m 2 #[.val (.ref o0), .val (.int i), s2, s3, s4, s5] [])) (T8.setTop (mkF m 18 #[.val (.ref o0), .val (.int i), .val (.int v11), s3, s4, s5] [(.ref o0)])) := q12.trans (by
          show Steps p.tables e below (T8.setTop (mkF m 16 #[.val (.ref o0), .val (.int i), s2, s3, s4, s5] [(.int v11)])) _
          refine XS.istoreNS X8.here hx rfl (hb hby d8_16) rfl rfl os_s2 ?_
          show Steps p.tables e below (T8.setTop (mkF m 17 #[.val (.ref o0), .val (.int i), .val (.int v11), s3, s4, s5] [])) _
          refine XS.aloadN X8.here hx rfl (hb hby d8_17) rfl rfl ?_
          show Steps p.tables e below (T8.setTop (mkF m 18 #[.val (.ref o0), .val (.int i), .val (.int v11), s3, s4, s5] [(.ref o0)])) _
          exact Steps.refl _)
      obtain ⟨T14, X14, e14, st14⟩ := getF X8 hx hZ hown (host := "") (Or.inl (hw _ (List.mem_of_getElem? (i := 39) rfl))) Via.refl e8 F_o0_markedCount (g := (mkF m 18 #[.val (.ref o0), .val (.int i), .val (.int v11), s3, s4, s5] [(.ref o0)])) rfl rfl (hb hby d8_18)
      have q15 : Steps p.tables e below (T0.setTop (mkF m 2 #[.val (.ref o0), .val (.int i), s2, s3, s4, s5] [])) (T14.setTop (mkF m 21 #[.val (.ref o0), .val (.int i), .val (.int v11), s3, s4, s5] [(.ref aC)])) := q13.trans (st14 _ (Steps.refl _))
      have q16 : Steps p.tables e below (T0.setTop (mkF m 2 #[.val (.ref o0), .val (.int i), s2, s3, s4, s5] [])) (T14.setTop (mkF m 22 #[.val (.ref o0), .val (.int i), .val (.int v11), s3, s4, s5] [(.int v11), (.ref aC)])) := q15.trans (by
          show Steps p.tables e below (T14.setTop (mkF m 21 #[.val (.ref o0), .val (.int i), .val (.int v11), s3, s4, s5] [(.ref aC)])) _
          refine XS.iloadN X14.here hx rfl (hb hby d8_21) rfl ?_
          show Steps p.tables e below (T14.setTop (mkF m 22 #[.val (.ref o0), .val (.int i), .val (.int v11), s3, s4, s5] [(.int v11), (.ref aC)])) _
          exact Steps.refl _)
      obtain ⟨v17, hv17, hM⟩ := Option.bind_eq_some_iff.mp hM
      have q18 : Steps p.tables e below (T0.setTop (mkF m 2 #[.val (.ref o0), .val (.int i), s2, s3, s4, s5] [])) (T14.setTop (mkF m 23 #[.val (.ref o0), .val (.int i), .val (.int v11), s3, s4, s5] [(.int v17)])) := q16.trans (Own.ldO X14 hx hZ e14 I_aC hv17 (g := (mkF m 22 #[.val (.ref o0), .val (.int i), .val (.int v11), s3, s4, s5] [(.int v11), (.ref aC)])) rfl rfl (hb hby d8_22) _ (Steps.refl _))
      have q19 : Steps p.tables e below (T0.setTop (mkF m 2 #[.val (.ref o0), .val (.int i), s2, s3, s4, s5] [])) (T14.setTop (mkF m 25 #[.val (.ref o0), .val (.int i), .val (.int v11), .val (.int v17), s4, s5] [(.ref o0)])) := q18.trans (by
          show Steps p.tables e below (T14.setTop (mkF m 23 #[.val (.ref o0), .val (.int i), .val (.int v11), s3, s4, s5] [(.int v17)])) _
          refine XS.istoreNS X14.here hx rfl (hb hby d8_23) rfl rfl os_s3 ?_
          show Steps p.tables e below (T14.setTop (mkF m 24 #[.val (.ref o0), .val (.int i), .val (.int v11), .val (.int v17), s4, s5] [])) _
          refine XS.aloadN X14.here hx rfl (hb hby d8_24) rfl rfl ?_
          show Steps p.tables e below (T14.setTop (mkF m 25 #[.val (.ref o0), .val (.int i), .val (.int v11), .val (.int v17), s4, s5] [(.ref o0)])) _
          exact Steps.refl _)
      obtain ⟨T20, X20, e20, st20⟩ := getF X14 hx hZ hown (host := "") (Or.inl (hw _ (List.mem_of_getElem? (i := 39) rfl))) Via.refl e14 F_o0_markedCount (g := (mkF m 25 #[.val (.ref o0), .val (.int i), .val (.int v11), .val (.int v17), s4, s5] [(.ref o0)])) rfl rfl (hb hby d8_25)
      have q21 : Steps p.tables e below (T0.setTop (mkF m 2 #[.val (.ref o0), .val (.int i), s2, s3, s4, s5] [])) (T20.setTop (mkF m 28 #[.val (.ref o0), .val (.int i), .val (.int v11), .val (.int v17), s4, s5] [(.ref aC)])) := q19.trans (st20 _ (Steps.refl _))
      have q22 : Steps p.tables e below (T0.setTop (mkF m 2 #[.val (.ref o0), .val (.int i), s2, s3, s4, s5] [])) (T20.setTop (mkF m 30 #[.val (.ref o0), .val (.int i), .val (.int v11), .val (.int v17), s4, s5] [(.int (0 : Int32)), (.int v11), (.ref aC)])) := q21.trans (by
          show Steps p.tables e below (T20.setTop (mkF m 28 #[.val (.ref o0), .val (.int i), .val (.int v11), .val (.int v17), s4, s5] [(.ref aC)])) _
          refine XS.iloadN X20.here hx rfl (hb hby d8_28) rfl ?_
          show Steps p.tables e below (T20.setTop (mkF m 29 #[.val (.ref o0), .val (.int i), .val (.int v11), .val (.int v17), s4, s5] [(.int v11), (.ref aC)])) _
          refine XS.iconst X20.here hx rfl (hb hby d8_29) ?_
          show Steps p.tables e below (T20.setTop (mkF m 30 #[.val (.ref o0), .val (.int i), .val (.int v11), .val (.int v17), s4, s5] [(.int (0 : Int32)), (.int v11), (.ref aC)])) _
          exact Steps.refl _)
      obtain ⟨y23, hy23, hM⟩ := Option.bind_eq_some_iff.mp hM
      obtain ⟨T24, h24, X24, e24, W24, J24, st24⟩ := Own.stO X20 hx hZ e20 I_aC hy23 (g := (mkF m 30 #[.val (.ref o0), .val (.int i), .val (.int v11), .val (.int v17), s4, s5] [(.int (0 : Int32)), (.int v11), (.ref aC)])) rfl rfl (hb hby d8_30)
      have N24 := Fr.snoc X24 N0 ge_aC
      have IaM_24 := I_aM.other W24 ne_aM_aC
      have IaI_24 := I_aI.other W24 ne_aI_aC
      have IaB_24 := I_aB.other W24 ne_aB_aC
      have IaS_24 := I_aS.other W24 ne_aS_aC
      have IaE_24 := I_aE.other W24 ne_aE_aC
      have IaF_24 := I_aF.other W24 ne_aF_aC
      have IaK_24 := I_aK.other W24 (Ne.symm ne_aC_aK)
      have Xo0_24 := E_o0.wr W24
      have Fo0_members_24 := F_o0_members.other W24 (Or.inl ne_o0_aC)
      have Fo0_memberIndex_24 := F_o0_memberIndex.other W24 (Or.inl ne_o0_aC)
      have Fo0_blockOf_24 := F_o0_blockOf.other W24 (Or.inl ne_o0_aC)
      have Fo0_start_24 := F_o0_start.other W24 (Or.inl ne_o0_aC)
      have Fo0_end_24 := F_o0_end.other W24 (Or.inl ne_o0_aC)
      have Fo0_splitFrom_24 := F_o0_splitFrom.other W24 (Or.inl ne_o0_aC)
      have Fo0_markedCount_24 := F_o0_markedCount.other W24 (Or.inl ne_o0_aC)
      have Fo0_markedBlocks_24 := F_o0_markedBlocks.other W24 (Or.inl ne_o0_aC)
      have Fo0_count_24 := F_o0_count.other W24 (Or.inl ne_o0_aC)
      have Fo0_markedBlockCount_24 := F_o0_markedBlockCount.other W24 (Or.inl ne_o0_aC)
      have Z24 : n0 ≤ h24.size := Own.size_wr W24 Z0
      have K24 : Keep h0 h24 [aB, aS, aE, aF, aC, o0] := K0.wr W24 (Or.inl (List.mem_of_getElem? (i := 4) rfl))
      have q25 : Steps p.tables e below (T0.setTop (mkF m 2 #[.val (.ref o0), .val (.int i), s2, s3, s4, s5] [])) (T24.setTop (mkF m 31 #[.val (.ref o0), .val (.int i), .val (.int v11), .val (.int v17), s4, s5] [])) := q22.trans (st24 _ (Steps.refl _))
      have q26 : Steps p.tables e below (T0.setTop (mkF m 2 #[.val (.ref o0), .val (.int i), s2, s3, s4, s5] [])) (T24.setTop (mkF m 34 #[.val (.ref o0), .val (.int i), .val (.int v11), .val (.int v17), s4, s5] [(.int v11), (.ref o0), (.int v17)])) := q25.trans (by
          show Steps p.tables e below (T24.setTop (mkF m 31 #[.val (.ref o0), .val (.int i), .val (.int v11), .val (.int v17), s4, s5] [])) _
          refine XS.iloadN X24.here hx rfl (hb hby d8_31) rfl ?_
          show Steps p.tables e below (T24.setTop (mkF m 32 #[.val (.ref o0), .val (.int i), .val (.int v11), .val (.int v17), s4, s5] [(.int v17)])) _
          refine XS.aloadN X24.here hx rfl (hb hby d8_32) rfl rfl ?_
          show Steps p.tables e below (T24.setTop (mkF m 33 #[.val (.ref o0), .val (.int i), .val (.int v11), .val (.int v17), s4, s5] [(.ref o0), (.int v17)])) _
          refine XS.iloadN X24.here hx rfl (hb hby d8_33) rfl ?_
          show Steps p.tables e below (T24.setTop (mkF m 34 #[.val (.ref o0), .val (.int i), .val (.int v11), .val (.int v17), s4, s5] [(.int v11), (.ref o0), (.int v17)])) _
          exact Steps.refl _)
      obtain ⟨r27, hr27, hM⟩ := Option.bind_eq_some_iff.mp hM
      obtain ⟨cq28, kq28, q28a, q28b, q28c⟩ := isOf hZ e24 Xo0_24
      obtain ⟨_, _, ⟨T28, L28, k28, n28⟩, -, X28, ⟨Lc28, hQ28, l28, y28, z28⟩, st28⟩ := X24.virtualBack hx (y := (⟨"com/example/libpathsum/libpathsum/Blocks", "size", "(I)I"⟩ : MethodName)) (z := (⟨"com/example/libpathsum/libpathsum/Blocks", "size", "(I)I"⟩ : MethodName)) hown (mvT hZ (hw _ (List.mem_of_getElem? (i := 63) rfl))) (mvT hZ (hw _ (List.mem_of_getElem? (i := 64) rfl))) (notFace_of_selects (args := #[]) (mvT hZ (hw _ (List.mem_of_getElem? (i := 66) rfl)))) (mvT hZ (hw _ (List.mem_of_getElem? (i := 66) rfl))) (mvT hZ (hw _ (List.mem_of_getElem? (i := 65) rfl))) (by decide) (backOf (W := 1) (rmZ l Z a0 hw [] o0 v11 aM aI aB aS aE aF aC aK xM xI xB xS xE xF y23 xK cn mc r27 h24 n0 Z24 Xo0_24 Fo0_members_24 Fo0_memberIndex_24 Fo0_blockOf_24 Fo0_start_24 Fo0_end_24 Fo0_splitFrom_24 Fo0_markedCount_24 Fo0_markedBlocks_24 Fo0_count_24 Fo0_markedBlockCount_24 IaM_24 IaI_24 IaB_24 IaS_24 IaE_24 IaF_24 J24 IaK_24 ge_aM ge_aI ge_aB ge_aS ge_aE ge_aF ge_aC ge_aK ge_o0 ne_aM_aI ne_aM_aB ne_aM_aS ne_aM_aE ne_aM_aF ne_aM_aC ne_aM_aK ne_aI_aB ne_aI_aS ne_aI_aE ne_aI_aF ne_aI_aC ne_aI_aK ne_aB_aS ne_aB_aE ne_aB_aF ne_aB_aC ne_aB_aK ne_aS_aE ne_aS_aF ne_aS_aC ne_aS_aK ne_aE_aF ne_aE_aC ne_aE_aK ne_aF_aC ne_aF_aK ne_aC_aK ne_o0_aM ne_o0_aI ne_o0_aB ne_o0_aS ne_o0_aE ne_o0_aF ne_o0_aC ne_o0_aK hr27) hZ (hw _ (List.mem_of_getElem? (i := 67) rfl)) (hw _ (List.mem_of_getElem? (i := 7) rfl)) (by decide) (by decide)) q28a q28c (g := (mkF m 34 #[.val (.ref o0), .val (.int i), .val (.int v11), .val (.int v17), s4, s5] [(.int v11), (.ref o0), (.int v17)])) rfl (by rw [hml]; rfl) (Steps.refl _) (argsL := [(.int v11)]) (rest := [(.int v17)]) (lenOf pd_2 rfl) rfl (by show 2 * 0 + _ ≤ _; exact Nat.le_of_eq rfl) (hb hby d8_34) (fun _ _ => ⟨rfl, e24, (by decide : 0 + 0 ≤ _), (by decide : 0 + 0 ≤ _)⟩)
      dsimp only [Pt.U, Pt.locs, Pt.cells, Pt.slots] at X28 l28 y28 z28 st28 hQ28
      subst l28 y28 z28
      obtain ⟨rfl, N28q, e28⟩ := hQ28
      have N28 := Fr.app N24 N28q
      have q29 : Steps p.tables e below (T0.setTop (mkF m 2 #[.val (.ref o0), .val (.int i), s2, s3, s4, s5] [])) (T28.setTop (mkF m 37 #[.val (.ref o0), .val (.int i), .val (.int v11), .val (.int v17), s4, s5] [(.int r27), (.int v17)])) := q26.trans (st28)
      by_cases hc31 : v17 < r27
      · rw [if_pos hc31] at hM
        have q32 : Steps p.tables e below (T0.setTop (mkF m 2 #[.val (.ref o0), .val (.int i), s2, s3, s4, s5] [])) (T28.setTop (mkF m 40 #[.val (.ref o0), .val (.int i), .val (.int v11), .val (.int v17), s4, s5] [])) := q29.trans (by
            show Steps p.tables e below (T28.setTop (mkF m 37 #[.val (.ref o0), .val (.int i), .val (.int v11), .val (.int v17), s4, s5] [(.int r27), (.int v17)])) _
            refine XS.icmpNo X28.here hx rfl (hb hby d8_37) rfl (tlt hc31).2.1 ?_
            show Steps p.tables e below (T28.setTop (mkF m 40 #[.val (.ref o0), .val (.int i), .val (.int v11), .val (.int v17), s4, s5] [])) _
            exact Steps.refl _)
        have q33 : Steps p.tables e below (T0.setTop (mkF m 2 #[.val (.ref o0), .val (.int i), s2, s3, s4, s5] [])) (T28.setTop (mkF m 42 #[.val (.ref o0), .val (.int i), .val (.int v11), .val (.int v17), s4, s5] [(.ref o0), (.ref o0)])) := q32.trans (by
            show Steps p.tables e below (T28.setTop (mkF m 40 #[.val (.ref o0), .val (.int i), .val (.int v11), .val (.int v17), s4, s5] [])) _
            refine XS.aloadN X28.here hx rfl (hb hby d8_40) rfl rfl ?_
            show Steps p.tables e below (T28.setTop (mkF m 41 #[.val (.ref o0), .val (.int i), .val (.int v11), .val (.int v17), s4, s5] [(.ref o0)])) _
            refine XS.dup X28.here hx rfl (hb hby d8_41) rfl rfl ?_
            show Steps p.tables e below (T28.setTop (mkF m 42 #[.val (.ref o0), .val (.int i), .val (.int v11), .val (.int v17), s4, s5] [(.ref o0), (.ref o0)])) _
            exact Steps.refl _)
        obtain ⟨T34, X34, e34, st34⟩ := getF X28 hx hZ hown (host := "") (Or.inl (hw _ (List.mem_of_getElem? (i := 43) rfl))) Via.refl e28 Fo0_count_24 (g := (mkF m 42 #[.val (.ref o0), .val (.int i), .val (.int v11), .val (.int v17), s4, s5] [(.ref o0), (.ref o0)])) rfl rfl (hb hby d8_42)
        have q35 : Steps p.tables e below (T0.setTop (mkF m 2 #[.val (.ref o0), .val (.int i), s2, s3, s4, s5] [])) (T34.setTop (mkF m 45 #[.val (.ref o0), .val (.int i), .val (.int v11), .val (.int v17), s4, s5] [(.int cn), (.ref o0)])) := q33.trans (st34 _ (Steps.refl _))
        have q36 : Steps p.tables e below (T0.setTop (mkF m 2 #[.val (.ref o0), .val (.int i), s2, s3, s4, s5] [])) (T34.setTop (mkF m 48 #[.val (.ref o0), .val (.int i), .val (.int v11), .val (.int v17), s4, s5] [(.int (cn + (1 : Int32))), (.ref o0), (.int cn)])) := q35.trans (by
            show Steps p.tables e below (T34.setTop (mkF m 45 #[.val (.ref o0), .val (.int i), .val (.int v11), .val (.int v17), s4, s5] [(.int cn), (.ref o0)])) _
            refine XS.dupX1 X34.here hx rfl (hb hby d8_45) rfl rfl rfl ?_
            show Steps p.tables e below (T34.setTop (mkF m 46 #[.val (.ref o0), .val (.int i), .val (.int v11), .val (.int v17), s4, s5] [(.int cn), (.ref o0), (.int cn)])) _
            refine XS.iconst X34.here hx rfl (hb hby d8_46) ?_
            show Steps p.tables e below (T34.setTop (mkF m 47 #[.val (.ref o0), .val (.int i), .val (.int v11), .val (.int v17), s4, s5] [(.int (1 : Int32)), (.int cn), (.ref o0), (.int cn)])) _
            refine XS.iadd X34.here hx rfl (hb hby d8_47) rfl ?_
            show Steps p.tables e below (T34.setTop (mkF m 48 #[.val (.ref o0), .val (.int i), .val (.int v11), .val (.int v17), s4, s5] [(.int (cn + (1 : Int32))), (.ref o0), (.int cn)])) _
            exact Steps.refl _)
        obtain ⟨T37, h37, X37, e37, W37, st37⟩ := putF X34 hx hZ hown (host := "") (Or.inl (hw _ (List.mem_of_getElem? (i := 43) rfl))) Via.refl e34 Fo0_count_24 Xo0_24 (Or.inl (hw _ (List.mem_of_getElem? (i := 44) rfl))) (hw _ (List.mem_of_getElem? (i := 6) rfl)) (ty := .int) (by decide) rfl rfl (g := (mkF m 48 #[.val (.ref o0), .val (.int i), .val (.int v11), .val (.int v17), s4, s5] [(.int (cn + (1 : Int32))), (.ref o0), (.int cn)])) rfl rfl (hb hby d8_48)
        have N37 := Fr.snoc X37 N28 ge_o0
        have IaM_37 := IaM_24.other W37 (Ne.symm ne_o0_aM)
        have IaI_37 := IaI_24.other W37 (Ne.symm ne_o0_aI)
        have IaB_37 := IaB_24.other W37 (Ne.symm ne_o0_aB)
        have IaS_37 := IaS_24.other W37 (Ne.symm ne_o0_aS)
        have IaE_37 := IaE_24.other W37 (Ne.symm ne_o0_aE)
        have IaF_37 := IaF_24.other W37 (Ne.symm ne_o0_aF)
        have IaC_37 := J24.other W37 (Ne.symm ne_o0_aC)
        have IaK_37 := IaK_24.other W37 (Ne.symm ne_o0_aK)
        have Xo0_37 := Xo0_24.wr W37
        have Fo0_members_37 := Fo0_members_24.other W37 (Or.inr (slot_ne (Or.inr (hw _ (List.mem_of_getElem? (i := 15) rfl))) (Or.inl (hw _ (List.mem_of_getElem? (i := 44) rfl))) (by decide) (t := (.array .int)) (t' := .int) (by decide) (by decide)))
        have Fo0_memberIndex_37 := Fo0_memberIndex_24.other W37 (Or.inr (slot_ne (Or.inr (hw _ (List.mem_of_getElem? (i := 17) rfl))) (Or.inl (hw _ (List.mem_of_getElem? (i := 44) rfl))) (by decide) (t := (.array .int)) (t' := .int) (by decide) (by decide)))
        have Fo0_blockOf_37 := Fo0_blockOf_24.other W37 (Or.inr (slot_ne (Or.inr (hw _ (List.mem_of_getElem? (i := 32) rfl))) (Or.inl (hw _ (List.mem_of_getElem? (i := 44) rfl))) (by decide) (t := (.array .int)) (t' := .int) (by decide) (by decide)))
        have Fo0_start_37 := Fo0_start_24.other W37 (Or.inr (slot_ne (Or.inr (hw _ (List.mem_of_getElem? (i := 34) rfl))) (Or.inl (hw _ (List.mem_of_getElem? (i := 44) rfl))) (by decide) (t := (.array .int)) (t' := .int) (by decide) (by decide)))
        have Fo0_end_37 := Fo0_end_24.other W37 (Or.inr (slot_ne (Or.inr (hw _ (List.mem_of_getElem? (i := 36) rfl))) (Or.inl (hw _ (List.mem_of_getElem? (i := 44) rfl))) (by decide) (t := (.array .int)) (t' := .int) (by decide) (by decide)))
        have Fo0_splitFrom_37 := Fo0_splitFrom_24.other W37 (Or.inr (slot_ne (Or.inr (hw _ (List.mem_of_getElem? (i := 38) rfl))) (Or.inl (hw _ (List.mem_of_getElem? (i := 44) rfl))) (by decide) (t := (.array .int)) (t' := .int) (by decide) (by decide)))
        have Fo0_markedCount_37 := Fo0_markedCount_24.other W37 (Or.inr (slot_ne (Or.inr (hw _ (List.mem_of_getElem? (i := 40) rfl))) (Or.inl (hw _ (List.mem_of_getElem? (i := 44) rfl))) (by decide) (t := (.array .int)) (t' := .int) (by decide) (by decide)))
        have Fo0_markedBlocks_37 := Fo0_markedBlocks_24.other W37 (Or.inr (slot_ne (Or.inr (hw _ (List.mem_of_getElem? (i := 42) rfl))) (Or.inl (hw _ (List.mem_of_getElem? (i := 44) rfl))) (by decide) (t := (.array .int)) (t' := .int) (by decide) (by decide)))
        have Fo0_markedBlockCount_37 := Fo0_markedBlockCount_24.other W37 (Or.inr (slot_ne (Or.inl (hw _ (List.mem_of_getElem? (i := 57) rfl))) (Or.inl (hw _ (List.mem_of_getElem? (i := 44) rfl))) (by decide) (t := .int) (t' := .int) (by decide) (by decide)))
        have Z37 : n0 ≤ h37.size := Own.size_wr W37 Z24
        have K37 : Keep h0 h37 [aB, aS, aE, aF, aC, o0] := K24.wr W37 (Or.inl (List.mem_of_getElem? (i := 5) rfl))
        have Fo0_count_37 := Fo0_count_24.same W37
        have q38 : Steps p.tables e below (T0.setTop (mkF m 2 #[.val (.ref o0), .val (.int i), s2, s3, s4, s5] [])) (T37.setTop (mkF m 51 #[.val (.ref o0), .val (.int i), .val (.int v11), .val (.int v17), s4, s5] [(.int cn)])) := q36.trans (st37 _ (Steps.refl _))
        have q39 : Steps p.tables e below (T0.setTop (mkF m 2 #[.val (.ref o0), .val (.int i), s2, s3, s4, s5] [])) (T37.setTop (mkF m 54 #[.val (.ref o0), .val (.int i), .val (.int v11), .val (.int v17), .val (.int cn), s5] [(.ref o0)])) := q38.trans (by
            show Steps p.tables e below (T37.setTop (mkF m 51 #[.val (.ref o0), .val (.int i), .val (.int v11), .val (.int v17), s4, s5] [(.int cn)])) _
            refine XS.istoreS X37.here hx rfl (hb hby d8_51) rfl rfl os_s4 ?_
            show Steps p.tables e below (T37.setTop (mkF m 53 #[.val (.ref o0), .val (.int i), .val (.int v11), .val (.int v17), .val (.int cn), s5] [])) _
            refine XS.aloadN X37.here hx rfl (hb hby d8_53) rfl rfl ?_
            show Steps p.tables e below (T37.setTop (mkF m 54 #[.val (.ref o0), .val (.int i), .val (.int v11), .val (.int v17), .val (.int cn), s5] [(.ref o0)])) _
            exact Steps.refl _)
        obtain ⟨T40, X40, e40, st40⟩ := getF X37 hx hZ hown (host := "") (Or.inl (hw _ (List.mem_of_getElem? (i := 33) rfl))) Via.refl e37 Fo0_start_37 (g := (mkF m 54 #[.val (.ref o0), .val (.int i), .val (.int v11), .val (.int v17), .val (.int cn), s5] [(.ref o0)])) rfl rfl (hb hby d8_54)
        have q41 : Steps p.tables e below (T0.setTop (mkF m 2 #[.val (.ref o0), .val (.int i), s2, s3, s4, s5] [])) (T40.setTop (mkF m 57 #[.val (.ref o0), .val (.int i), .val (.int v11), .val (.int v17), .val (.int cn), s5] [(.ref aS)])) := q39.trans (st40 _ (Steps.refl _))
        have q42 : Steps p.tables e below (T0.setTop (mkF m 2 #[.val (.ref o0), .val (.int i), s2, s3, s4, s5] [])) (T40.setTop (mkF m 60 #[.val (.ref o0), .val (.int i), .val (.int v11), .val (.int v17), .val (.int cn), s5] [(.ref o0), (.int cn), (.ref aS)])) := q41.trans (by
            show Steps p.tables e below (T40.setTop (mkF m 57 #[.val (.ref o0), .val (.int i), .val (.int v11), .val (.int v17), .val (.int cn), s5] [(.ref aS)])) _
            refine XS.iload X40.here hx rfl (hb hby d8_57) rfl ?_
            show Steps p.tables e below (T40.setTop (mkF m 59 #[.val (.ref o0), .val (.int i), .val (.int v11), .val (.int v17), .val (.int cn), s5] [(.int cn), (.ref aS)])) _
            refine XS.aloadN X40.here hx rfl (hb hby d8_59) rfl rfl ?_
            show Steps p.tables e below (T40.setTop (mkF m 60 #[.val (.ref o0), .val (.int i), .val (.int v11), .val (.int v17), .val (.int cn), s5] [(.ref o0), (.int cn), (.ref aS)])) _
            exact Steps.refl _)
        obtain ⟨T43, X43, e43, st43⟩ := getF X40 hx hZ hown (host := "") (Or.inl (hw _ (List.mem_of_getElem? (i := 33) rfl))) Via.refl e40 Fo0_start_37 (g := (mkF m 60 #[.val (.ref o0), .val (.int i), .val (.int v11), .val (.int v17), .val (.int cn), s5] [(.ref o0), (.int cn), (.ref aS)])) rfl rfl (hb hby d8_60)
        have q44 : Steps p.tables e below (T0.setTop (mkF m 2 #[.val (.ref o0), .val (.int i), s2, s3, s4, s5] [])) (T43.setTop (mkF m 63 #[.val (.ref o0), .val (.int i), .val (.int v11), .val (.int v17), .val (.int cn), s5] [(.ref aS), (.int cn), (.ref aS)])) := q42.trans (st43 _ (Steps.refl _))
        have q45 : Steps p.tables e below (T0.setTop (mkF m 2 #[.val (.ref o0), .val (.int i), s2, s3, s4, s5] [])) (T43.setTop (mkF m 64 #[.val (.ref o0), .val (.int i), .val (.int v11), .val (.int v17), .val (.int cn), s5] [(.int v11), (.ref aS), (.int cn), (.ref aS)])) := q44.trans (by
            show Steps p.tables e below (T43.setTop (mkF m 63 #[.val (.ref o0), .val (.int i), .val (.int v11), .val (.int v17), .val (.int cn), s5] [(.ref aS), (.int cn), (.ref aS)])) _
            refine XS.iloadN X43.here hx rfl (hb hby d8_63) rfl ?_
            show Steps p.tables e below (T43.setTop (mkF m 64 #[.val (.ref o0), .val (.int i), .val (.int v11), .val (.int v17), .val (.int cn), s5] [(.int v11), (.ref aS), (.int cn), (.ref aS)])) _
            exact Steps.refl _)
        obtain ⟨v46, hv46, hM⟩ := Option.bind_eq_some_iff.mp hM
        have q47 : Steps p.tables e below (T0.setTop (mkF m 2 #[.val (.ref o0), .val (.int i), s2, s3, s4, s5] [])) (T43.setTop (mkF m 65 #[.val (.ref o0), .val (.int i), .val (.int v11), .val (.int v17), .val (.int cn), s5] [(.int v46), (.int cn), (.ref aS)])) := q45.trans (Own.ldO X43 hx hZ e43 IaS_37 hv46 (g := (mkF m 64 #[.val (.ref o0), .val (.int i), .val (.int v11), .val (.int v17), .val (.int cn), s5] [(.int v11), (.ref aS), (.int cn), (.ref aS)])) rfl rfl (hb hby d8_64) _ (Steps.refl _))
        obtain ⟨y48, hy48, hM⟩ := Option.bind_eq_some_iff.mp hM
        obtain ⟨T49, h49, X49, e49, W49, J49, st49⟩ := Own.stO X43 hx hZ e43 IaS_37 hy48 (g := (mkF m 65 #[.val (.ref o0), .val (.int i), .val (.int v11), .val (.int v17), .val (.int cn), s5] [(.int v46), (.int cn), (.ref aS)])) rfl rfl (hb hby d8_65)
        have N49 := Fr.snoc X49 N37 ge_aS
        have IaM_49 := IaM_37.other W49 ne_aM_aS
        have IaI_49 := IaI_37.other W49 ne_aI_aS
        have IaB_49 := IaB_37.other W49 ne_aB_aS
        have IaE_49 := IaE_37.other W49 (Ne.symm ne_aS_aE)
        have IaF_49 := IaF_37.other W49 (Ne.symm ne_aS_aF)
        have IaC_49 := IaC_37.other W49 (Ne.symm ne_aS_aC)
        have IaK_49 := IaK_37.other W49 (Ne.symm ne_aS_aK)
        have Xo0_49 := Xo0_37.wr W49
        have Fo0_members_49 := Fo0_members_37.other W49 (Or.inl ne_o0_aS)
        have Fo0_memberIndex_49 := Fo0_memberIndex_37.other W49 (Or.inl ne_o0_aS)
        have Fo0_blockOf_49 := Fo0_blockOf_37.other W49 (Or.inl ne_o0_aS)
        have Fo0_start_49 := Fo0_start_37.other W49 (Or.inl ne_o0_aS)
        have Fo0_end_49 := Fo0_end_37.other W49 (Or.inl ne_o0_aS)
        have Fo0_splitFrom_49 := Fo0_splitFrom_37.other W49 (Or.inl ne_o0_aS)
        have Fo0_markedCount_49 := Fo0_markedCount_37.other W49 (Or.inl ne_o0_aS)
        have Fo0_markedBlocks_49 := Fo0_markedBlocks_37.other W49 (Or.inl ne_o0_aS)
        have Fo0_count_49 := Fo0_count_37.other W49 (Or.inl ne_o0_aS)
        have Fo0_markedBlockCount_49 := Fo0_markedBlockCount_37.other W49 (Or.inl ne_o0_aS)
        have Z49 : n0 ≤ h49.size := Own.size_wr W49 Z37
        have K49 : Keep h0 h49 [aB, aS, aE, aF, aC, o0] := K37.wr W49 (Or.inl (List.mem_of_getElem? (i := 1) rfl))
        have q50 : Steps p.tables e below (T0.setTop (mkF m 2 #[.val (.ref o0), .val (.int i), s2, s3, s4, s5] [])) (T49.setTop (mkF m 66 #[.val (.ref o0), .val (.int i), .val (.int v11), .val (.int v17), .val (.int cn), s5] [])) := q47.trans (st49 _ (Steps.refl _))
        have q51 : Steps p.tables e below (T0.setTop (mkF m 2 #[.val (.ref o0), .val (.int i), s2, s3, s4, s5] [])) (T49.setTop (mkF m 67 #[.val (.ref o0), .val (.int i), .val (.int v11), .val (.int v17), .val (.int cn), s5] [(.ref o0)])) := q50.trans (by
            show Steps p.tables e below (T49.setTop (mkF m 66 #[.val (.ref o0), .val (.int i), .val (.int v11), .val (.int v17), .val (.int cn), s5] [])) _
            refine XS.aloadN X49.here hx rfl (hb hby d8_66) rfl rfl ?_
            show Steps p.tables e below (T49.setTop (mkF m 67 #[.val (.ref o0), .val (.int i), .val (.int v11), .val (.int v17), .val (.int cn), s5] [(.ref o0)])) _
            exact Steps.refl _)
        obtain ⟨T52, X52, e52, st52⟩ := getF X49 hx hZ hown (host := "") (Or.inl (hw _ (List.mem_of_getElem? (i := 35) rfl))) Via.refl e49 Fo0_end_49 (g := (mkF m 67 #[.val (.ref o0), .val (.int i), .val (.int v11), .val (.int v17), .val (.int cn), s5] [(.ref o0)])) rfl rfl (hb hby d8_67)
        have q53 : Steps p.tables e below (T0.setTop (mkF m 2 #[.val (.ref o0), .val (.int i), s2, s3, s4, s5] [])) (T52.setTop (mkF m 70 #[.val (.ref o0), .val (.int i), .val (.int v11), .val (.int v17), .val (.int cn), s5] [(.ref aE)])) := q51.trans (st52 _ (Steps.refl _))
        have q54 : Steps p.tables e below (T0.setTop (mkF m 2 #[.val (.ref o0), .val (.int i), s2, s3, s4, s5] [])) (T52.setTop (mkF m 73 #[.val (.ref o0), .val (.int i), .val (.int v11), .val (.int v17), .val (.int cn), s5] [(.ref o0), (.int cn), (.ref aE)])) := q53.trans (by
            show Steps p.tables e below (T52.setTop (mkF m 70 #[.val (.ref o0), .val (.int i), .val (.int v11), .val (.int v17), .val (.int cn), s5] [(.ref aE)])) _
            refine XS.iload X52.here hx rfl (hb hby d8_70) rfl ?_
            show Steps p.tables e below (T52.setTop (mkF m 72 #[.val (.ref o0), .val (.int i), .val (.int v11), .val (.int v17), .val (.int cn), s5] [(.int cn), (.ref aE)])) _
            refine XS.aloadN X52.here hx rfl (hb hby d8_72) rfl rfl ?_
            show Steps p.tables e below (T52.setTop (mkF m 73 #[.val (.ref o0), .val (.int i), .val (.int v11), .val (.int v17), .val (.int cn), s5] [(.ref o0), (.int cn), (.ref aE)])) _
            exact Steps.refl _)
        obtain ⟨T55, X55, e55, st55⟩ := getF X52 hx hZ hown (host := "") (Or.inl (hw _ (List.mem_of_getElem? (i := 33) rfl))) Via.refl e52 Fo0_start_49 (g := (mkF m 73 #[.val (.ref o0), .val (.int i), .val (.int v11), .val (.int v17), .val (.int cn), s5] [(.ref o0), (.int cn), (.ref aE)])) rfl rfl (hb hby d8_73)
        have q56 : Steps p.tables e below (T0.setTop (mkF m 2 #[.val (.ref o0), .val (.int i), s2, s3, s4, s5] [])) (T55.setTop (mkF m 76 #[.val (.ref o0), .val (.int i), .val (.int v11), .val (.int v17), .val (.int cn), s5] [(.ref aS), (.int cn), (.ref aE)])) := q54.trans (st55 _ (Steps.refl _))
        have q57 : Steps p.tables e below (T0.setTop (mkF m 2 #[.val (.ref o0), .val (.int i), s2, s3, s4, s5] [])) (T55.setTop (mkF m 77 #[.val (.ref o0), .val (.int i), .val (.int v11), .val (.int v17), .val (.int cn), s5] [(.int v11), (.ref aS), (.int cn), (.ref aE)])) := q56.trans (by
            show Steps p.tables e below (T55.setTop (mkF m 76 #[.val (.ref o0), .val (.int i), .val (.int v11), .val (.int v17), .val (.int cn), s5] [(.ref aS), (.int cn), (.ref aE)])) _
            refine XS.iloadN X55.here hx rfl (hb hby d8_76) rfl ?_
            show Steps p.tables e below (T55.setTop (mkF m 77 #[.val (.ref o0), .val (.int i), .val (.int v11), .val (.int v17), .val (.int cn), s5] [(.int v11), (.ref aS), (.int cn), (.ref aE)])) _
            exact Steps.refl _)
        obtain ⟨v58, hv58, hM⟩ := Option.bind_eq_some_iff.mp hM
        have q59 : Steps p.tables e below (T0.setTop (mkF m 2 #[.val (.ref o0), .val (.int i), s2, s3, s4, s5] [])) (T55.setTop (mkF m 78 #[.val (.ref o0), .val (.int i), .val (.int v11), .val (.int v17), .val (.int cn), s5] [(.int v58), (.int cn), (.ref aE)])) := q57.trans (Own.ldO X55 hx hZ e55 J49 hv58 (g := (mkF m 77 #[.val (.ref o0), .val (.int i), .val (.int v11), .val (.int v17), .val (.int cn), s5] [(.int v11), (.ref aS), (.int cn), (.ref aE)])) rfl rfl (hb hby d8_77) _ (Steps.refl _))
        have q60 : Steps p.tables e below (T0.setTop (mkF m 2 #[.val (.ref o0), .val (.int i), s2, s3, s4, s5] [])) (T55.setTop (mkF m 80 #[.val (.ref o0), .val (.int i), .val (.int v11), .val (.int v17), .val (.int cn), s5] [(.int (v58 + v17)), (.int cn), (.ref aE)])) := q59.trans (by
            show Steps p.tables e below (T55.setTop (mkF m 78 #[.val (.ref o0), .val (.int i), .val (.int v11), .val (.int v17), .val (.int cn), s5] [(.int v58), (.int cn), (.ref aE)])) _
            refine XS.iloadN X55.here hx rfl (hb hby d8_78) rfl ?_
            show Steps p.tables e below (T55.setTop (mkF m 79 #[.val (.ref o0), .val (.int i), .val (.int v11), .val (.int v17), .val (.int cn), s5] [(.int v17), (.int v58), (.int cn), (.ref aE)])) _
            refine XS.iadd X55.here hx rfl (hb hby d8_79) rfl ?_
            show Steps p.tables e below (T55.setTop (mkF m 80 #[.val (.ref o0), .val (.int i), .val (.int v11), .val (.int v17), .val (.int cn), s5] [(.int (v58 + v17)), (.int cn), (.ref aE)])) _
            exact Steps.refl _)
        obtain ⟨y61, hy61, hM⟩ := Option.bind_eq_some_iff.mp hM
        obtain ⟨T62, h62, X62, e62, W62, J62, st62⟩ := Own.stO X55 hx hZ e55 IaE_49 hy61 (g := (mkF m 80 #[.val (.ref o0), .val (.int i), .val (.int v11), .val (.int v17), .val (.int cn), s5] [(.int (v58 + v17)), (.int cn), (.ref aE)])) rfl rfl (hb hby d8_80)
        have N62 := Fr.snoc X62 N49 ge_aE
        have IaM_62 := IaM_49.other W62 ne_aM_aE
        have IaI_62 := IaI_49.other W62 ne_aI_aE
        have IaB_62 := IaB_49.other W62 ne_aB_aE
        have IaS_62 := J49.other W62 ne_aS_aE
        have IaF_62 := IaF_49.other W62 (Ne.symm ne_aE_aF)
        have IaC_62 := IaC_49.other W62 (Ne.symm ne_aE_aC)
        have IaK_62 := IaK_49.other W62 (Ne.symm ne_aE_aK)
        have Xo0_62 := Xo0_49.wr W62
        have Fo0_members_62 := Fo0_members_49.other W62 (Or.inl ne_o0_aE)
        have Fo0_memberIndex_62 := Fo0_memberIndex_49.other W62 (Or.inl ne_o0_aE)
        have Fo0_blockOf_62 := Fo0_blockOf_49.other W62 (Or.inl ne_o0_aE)
        have Fo0_start_62 := Fo0_start_49.other W62 (Or.inl ne_o0_aE)
        have Fo0_end_62 := Fo0_end_49.other W62 (Or.inl ne_o0_aE)
        have Fo0_splitFrom_62 := Fo0_splitFrom_49.other W62 (Or.inl ne_o0_aE)
        have Fo0_markedCount_62 := Fo0_markedCount_49.other W62 (Or.inl ne_o0_aE)
        have Fo0_markedBlocks_62 := Fo0_markedBlocks_49.other W62 (Or.inl ne_o0_aE)
        have Fo0_count_62 := Fo0_count_49.other W62 (Or.inl ne_o0_aE)
        have Fo0_markedBlockCount_62 := Fo0_markedBlockCount_49.other W62 (Or.inl ne_o0_aE)
        have Z62 : n0 ≤ h62.size := Own.size_wr W62 Z49
        have K62 : Keep h0 h62 [aB, aS, aE, aF, aC, o0] := K49.wr W62 (Or.inl (List.mem_of_getElem? (i := 2) rfl))
        have q63 : Steps p.tables e below (T0.setTop (mkF m 2 #[.val (.ref o0), .val (.int i), s2, s3, s4, s5] [])) (T62.setTop (mkF m 81 #[.val (.ref o0), .val (.int i), .val (.int v11), .val (.int v17), .val (.int cn), s5] [])) := q60.trans (st62 _ (Steps.refl _))
        have q64 : Steps p.tables e below (T0.setTop (mkF m 2 #[.val (.ref o0), .val (.int i), s2, s3, s4, s5] [])) (T62.setTop (mkF m 82 #[.val (.ref o0), .val (.int i), .val (.int v11), .val (.int v17), .val (.int cn), s5] [(.ref o0)])) := q63.trans (by
            show Steps p.tables e below (T62.setTop (mkF m 81 #[.val (.ref o0), .val (.int i), .val (.int v11), .val (.int v17), .val (.int cn), s5] [])) _
            refine XS.aloadN X62.here hx rfl (hb hby d8_81) rfl rfl ?_
            show Steps p.tables e below (T62.setTop (mkF m 82 #[.val (.ref o0), .val (.int i), .val (.int v11), .val (.int v17), .val (.int cn), s5] [(.ref o0)])) _
            exact Steps.refl _)
        obtain ⟨T65, X65, e65, st65⟩ := getF X62 hx hZ hown (host := "") (Or.inl (hw _ (List.mem_of_getElem? (i := 33) rfl))) Via.refl e62 Fo0_start_62 (g := (mkF m 82 #[.val (.ref o0), .val (.int i), .val (.int v11), .val (.int v17), .val (.int cn), s5] [(.ref o0)])) rfl rfl (hb hby d8_82)
        have q66 : Steps p.tables e below (T0.setTop (mkF m 2 #[.val (.ref o0), .val (.int i), s2, s3, s4, s5] [])) (T65.setTop (mkF m 85 #[.val (.ref o0), .val (.int i), .val (.int v11), .val (.int v17), .val (.int cn), s5] [(.ref aS)])) := q64.trans (st65 _ (Steps.refl _))
        have q67 : Steps p.tables e below (T0.setTop (mkF m 2 #[.val (.ref o0), .val (.int i), s2, s3, s4, s5] [])) (T65.setTop (mkF m 87 #[.val (.ref o0), .val (.int i), .val (.int v11), .val (.int v17), .val (.int cn), s5] [(.ref o0), (.int v11), (.ref aS)])) := q66.trans (by
            show Steps p.tables e below (T65.setTop (mkF m 85 #[.val (.ref o0), .val (.int i), .val (.int v11), .val (.int v17), .val (.int cn), s5] [(.ref aS)])) _
            refine XS.iloadN X65.here hx rfl (hb hby d8_85) rfl ?_
            show Steps p.tables e below (T65.setTop (mkF m 86 #[.val (.ref o0), .val (.int i), .val (.int v11), .val (.int v17), .val (.int cn), s5] [(.int v11), (.ref aS)])) _
            refine XS.aloadN X65.here hx rfl (hb hby d8_86) rfl rfl ?_
            show Steps p.tables e below (T65.setTop (mkF m 87 #[.val (.ref o0), .val (.int i), .val (.int v11), .val (.int v17), .val (.int cn), s5] [(.ref o0), (.int v11), (.ref aS)])) _
            exact Steps.refl _)
        obtain ⟨T68, X68, e68, st68⟩ := getF X65 hx hZ hown (host := "") (Or.inl (hw _ (List.mem_of_getElem? (i := 35) rfl))) Via.refl e65 Fo0_end_62 (g := (mkF m 87 #[.val (.ref o0), .val (.int i), .val (.int v11), .val (.int v17), .val (.int cn), s5] [(.ref o0), (.int v11), (.ref aS)])) rfl rfl (hb hby d8_87)
        have q69 : Steps p.tables e below (T0.setTop (mkF m 2 #[.val (.ref o0), .val (.int i), s2, s3, s4, s5] [])) (T68.setTop (mkF m 90 #[.val (.ref o0), .val (.int i), .val (.int v11), .val (.int v17), .val (.int cn), s5] [(.ref aE), (.int v11), (.ref aS)])) := q67.trans (st68 _ (Steps.refl _))
        have q70 : Steps p.tables e below (T0.setTop (mkF m 2 #[.val (.ref o0), .val (.int i), s2, s3, s4, s5] [])) (T68.setTop (mkF m 92 #[.val (.ref o0), .val (.int i), .val (.int v11), .val (.int v17), .val (.int cn), s5] [(.int cn), (.ref aE), (.int v11), (.ref aS)])) := q69.trans (by
            show Steps p.tables e below (T68.setTop (mkF m 90 #[.val (.ref o0), .val (.int i), .val (.int v11), .val (.int v17), .val (.int cn), s5] [(.ref aE), (.int v11), (.ref aS)])) _
            refine XS.iload X68.here hx rfl (hb hby d8_90) rfl ?_
            show Steps p.tables e below (T68.setTop (mkF m 92 #[.val (.ref o0), .val (.int i), .val (.int v11), .val (.int v17), .val (.int cn), s5] [(.int cn), (.ref aE), (.int v11), (.ref aS)])) _
            exact Steps.refl _)
        obtain ⟨v71, hv71, hM⟩ := Option.bind_eq_some_iff.mp hM
        have q72 : Steps p.tables e below (T0.setTop (mkF m 2 #[.val (.ref o0), .val (.int i), s2, s3, s4, s5] [])) (T68.setTop (mkF m 93 #[.val (.ref o0), .val (.int i), .val (.int v11), .val (.int v17), .val (.int cn), s5] [(.int v71), (.int v11), (.ref aS)])) := q70.trans (Own.ldO X68 hx hZ e68 J62 hv71 (g := (mkF m 92 #[.val (.ref o0), .val (.int i), .val (.int v11), .val (.int v17), .val (.int cn), s5] [(.int cn), (.ref aE), (.int v11), (.ref aS)])) rfl rfl (hb hby d8_92) _ (Steps.refl _))
        obtain ⟨y73, hy73, hM⟩ := Option.bind_eq_some_iff.mp hM
        obtain ⟨T74, h74, X74, e74, W74, J74, st74⟩ := Own.stO X68 hx hZ e68 IaS_62 hy73 (g := (mkF m 93 #[.val (.ref o0), .val (.int i), .val (.int v11), .val (.int v17), .val (.int cn), s5] [(.int v71), (.int v11), (.ref aS)])) rfl rfl (hb hby d8_93)
        have N74 := Fr.snoc X74 N62 ge_aS
        have IaM_74 := IaM_62.other W74 ne_aM_aS
        have IaI_74 := IaI_62.other W74 ne_aI_aS
        have IaB_74 := IaB_62.other W74 ne_aB_aS
        have IaE_74 := J62.other W74 (Ne.symm ne_aS_aE)
        have IaF_74 := IaF_62.other W74 (Ne.symm ne_aS_aF)
        have IaC_74 := IaC_62.other W74 (Ne.symm ne_aS_aC)
        have IaK_74 := IaK_62.other W74 (Ne.symm ne_aS_aK)
        have Xo0_74 := Xo0_62.wr W74
        have Fo0_members_74 := Fo0_members_62.other W74 (Or.inl ne_o0_aS)
        have Fo0_memberIndex_74 := Fo0_memberIndex_62.other W74 (Or.inl ne_o0_aS)
        have Fo0_blockOf_74 := Fo0_blockOf_62.other W74 (Or.inl ne_o0_aS)
        have Fo0_start_74 := Fo0_start_62.other W74 (Or.inl ne_o0_aS)
        have Fo0_end_74 := Fo0_end_62.other W74 (Or.inl ne_o0_aS)
        have Fo0_splitFrom_74 := Fo0_splitFrom_62.other W74 (Or.inl ne_o0_aS)
        have Fo0_markedCount_74 := Fo0_markedCount_62.other W74 (Or.inl ne_o0_aS)
        have Fo0_markedBlocks_74 := Fo0_markedBlocks_62.other W74 (Or.inl ne_o0_aS)
        have Fo0_count_74 := Fo0_count_62.other W74 (Or.inl ne_o0_aS)
        have Fo0_markedBlockCount_74 := Fo0_markedBlockCount_62.other W74 (Or.inl ne_o0_aS)
        have Z74 : n0 ≤ h74.size := Own.size_wr W74 Z62
        have K74 : Keep h0 h74 [aB, aS, aE, aF, aC, o0] := K62.wr W74 (Or.inl (List.mem_of_getElem? (i := 1) rfl))
        have q75 : Steps p.tables e below (T0.setTop (mkF m 2 #[.val (.ref o0), .val (.int i), s2, s3, s4, s5] [])) (T74.setTop (mkF m 94 #[.val (.ref o0), .val (.int i), .val (.int v11), .val (.int v17), .val (.int cn), s5] [])) := q72.trans (st74 _ (Steps.refl _))
        have q76 : Steps p.tables e below (T0.setTop (mkF m 2 #[.val (.ref o0), .val (.int i), s2, s3, s4, s5] [])) (T74.setTop (mkF m 95 #[.val (.ref o0), .val (.int i), .val (.int v11), .val (.int v17), .val (.int cn), s5] [(.ref o0)])) := q75.trans (by
            show Steps p.tables e below (T74.setTop (mkF m 94 #[.val (.ref o0), .val (.int i), .val (.int v11), .val (.int v17), .val (.int cn), s5] [])) _
            refine XS.aloadN X74.here hx rfl (hb hby d8_94) rfl rfl ?_
            show Steps p.tables e below (T74.setTop (mkF m 95 #[.val (.ref o0), .val (.int i), .val (.int v11), .val (.int v17), .val (.int cn), s5] [(.ref o0)])) _
            exact Steps.refl _)
        obtain ⟨T77, X77, e77, st77⟩ := getF X74 hx hZ hown (host := "") (Or.inl (hw _ (List.mem_of_getElem? (i := 37) rfl))) Via.refl e74 Fo0_splitFrom_74 (g := (mkF m 95 #[.val (.ref o0), .val (.int i), .val (.int v11), .val (.int v17), .val (.int cn), s5] [(.ref o0)])) rfl rfl (hb hby d8_95)
        have q78 : Steps p.tables e below (T0.setTop (mkF m 2 #[.val (.ref o0), .val (.int i), s2, s3, s4, s5] [])) (T77.setTop (mkF m 98 #[.val (.ref o0), .val (.int i), .val (.int v11), .val (.int v17), .val (.int cn), s5] [(.ref aF)])) := q76.trans (st77 _ (Steps.refl _))
        have q79 : Steps p.tables e below (T0.setTop (mkF m 2 #[.val (.ref o0), .val (.int i), s2, s3, s4, s5] [])) (T77.setTop (mkF m 101 #[.val (.ref o0), .val (.int i), .val (.int v11), .val (.int v17), .val (.int cn), s5] [(.int v11), (.int cn), (.ref aF)])) := q78.trans (by
            show Steps p.tables e below (T77.setTop (mkF m 98 #[.val (.ref o0), .val (.int i), .val (.int v11), .val (.int v17), .val (.int cn), s5] [(.ref aF)])) _
            refine XS.iload X77.here hx rfl (hb hby d8_98) rfl ?_
            show Steps p.tables e below (T77.setTop (mkF m 100 #[.val (.ref o0), .val (.int i), .val (.int v11), .val (.int v17), .val (.int cn), s5] [(.int cn), (.ref aF)])) _
            refine XS.iloadN X77.here hx rfl (hb hby d8_100) rfl ?_
            show Steps p.tables e below (T77.setTop (mkF m 101 #[.val (.ref o0), .val (.int i), .val (.int v11), .val (.int v17), .val (.int cn), s5] [(.int v11), (.int cn), (.ref aF)])) _
            exact Steps.refl _)
        obtain ⟨y80, hy80, hM⟩ := Option.bind_eq_some_iff.mp hM
        obtain ⟨T81, h81, X81, e81, W81, J81, st81⟩ := Own.stO X77 hx hZ e77 IaF_74 hy80 (g := (mkF m 101 #[.val (.ref o0), .val (.int i), .val (.int v11), .val (.int v17), .val (.int cn), s5] [(.int v11), (.int cn), (.ref aF)])) rfl rfl (hb hby d8_101)
        have N81 := Fr.snoc X81 N74 ge_aF
        have IaM_81 := IaM_74.other W81 ne_aM_aF
        have IaI_81 := IaI_74.other W81 ne_aI_aF
        have IaB_81 := IaB_74.other W81 ne_aB_aF
        have IaS_81 := J74.other W81 ne_aS_aF
        have IaE_81 := IaE_74.other W81 ne_aE_aF
        have IaC_81 := IaC_74.other W81 (Ne.symm ne_aF_aC)
        have IaK_81 := IaK_74.other W81 (Ne.symm ne_aF_aK)
        have Xo0_81 := Xo0_74.wr W81
        have Fo0_members_81 := Fo0_members_74.other W81 (Or.inl ne_o0_aF)
        have Fo0_memberIndex_81 := Fo0_memberIndex_74.other W81 (Or.inl ne_o0_aF)
        have Fo0_blockOf_81 := Fo0_blockOf_74.other W81 (Or.inl ne_o0_aF)
        have Fo0_start_81 := Fo0_start_74.other W81 (Or.inl ne_o0_aF)
        have Fo0_end_81 := Fo0_end_74.other W81 (Or.inl ne_o0_aF)
        have Fo0_splitFrom_81 := Fo0_splitFrom_74.other W81 (Or.inl ne_o0_aF)
        have Fo0_markedCount_81 := Fo0_markedCount_74.other W81 (Or.inl ne_o0_aF)
        have Fo0_markedBlocks_81 := Fo0_markedBlocks_74.other W81 (Or.inl ne_o0_aF)
        have Fo0_count_81 := Fo0_count_74.other W81 (Or.inl ne_o0_aF)
        have Fo0_markedBlockCount_81 := Fo0_markedBlockCount_74.other W81 (Or.inl ne_o0_aF)
        have Z81 : n0 ≤ h81.size := Own.size_wr W81 Z74
        have K81 : Keep h0 h81 [aB, aS, aE, aF, aC, o0] := K74.wr W81 (Or.inl (List.mem_of_getElem? (i := 3) rfl))
        have q82 : Steps p.tables e below (T0.setTop (mkF m 2 #[.val (.ref o0), .val (.int i), s2, s3, s4, s5] [])) (T81.setTop (mkF m 102 #[.val (.ref o0), .val (.int i), .val (.int v11), .val (.int v17), .val (.int cn), s5] [])) := q79.trans (st81 _ (Steps.refl _))
        have q83 : Steps p.tables e below (T0.setTop (mkF m 2 #[.val (.ref o0), .val (.int i), s2, s3, s4, s5] [])) (T81.setTop (mkF m 103 #[.val (.ref o0), .val (.int i), .val (.int v11), .val (.int v17), .val (.int cn), s5] [(.ref o0)])) := q82.trans (by
            show Steps p.tables e below (T81.setTop (mkF m 102 #[.val (.ref o0), .val (.int i), .val (.int v11), .val (.int v17), .val (.int cn), s5] [])) _
            refine XS.aloadN X81.here hx rfl (hb hby d8_102) rfl rfl ?_
            show Steps p.tables e below (T81.setTop (mkF m 103 #[.val (.ref o0), .val (.int i), .val (.int v11), .val (.int v17), .val (.int cn), s5] [(.ref o0)])) _
            exact Steps.refl _)
        obtain ⟨T84, X84, e84, st84⟩ := getF X81 hx hZ hown (host := "") (Or.inl (hw _ (List.mem_of_getElem? (i := 33) rfl))) Via.refl e81 Fo0_start_81 (g := (mkF m 103 #[.val (.ref o0), .val (.int i), .val (.int v11), .val (.int v17), .val (.int cn), s5] [(.ref o0)])) rfl rfl (hb hby d8_103)
        have q85 : Steps p.tables e below (T0.setTop (mkF m 2 #[.val (.ref o0), .val (.int i), s2, s3, s4, s5] [])) (T84.setTop (mkF m 106 #[.val (.ref o0), .val (.int i), .val (.int v11), .val (.int v17), .val (.int cn), s5] [(.ref aS)])) := q83.trans (st84 _ (Steps.refl _))
        have q86 : Steps p.tables e below (T0.setTop (mkF m 2 #[.val (.ref o0), .val (.int i), s2, s3, s4, s5] [])) (T84.setTop (mkF m 108 #[.val (.ref o0), .val (.int i), .val (.int v11), .val (.int v17), .val (.int cn), s5] [(.int cn), (.ref aS)])) := q85.trans (by
            show Steps p.tables e below (T84.setTop (mkF m 106 #[.val (.ref o0), .val (.int i), .val (.int v11), .val (.int v17), .val (.int cn), s5] [(.ref aS)])) _
            refine XS.iload X84.here hx rfl (hb hby d8_106) rfl ?_
            show Steps p.tables e below (T84.setTop (mkF m 108 #[.val (.ref o0), .val (.int i), .val (.int v11), .val (.int v17), .val (.int cn), s5] [(.int cn), (.ref aS)])) _
            exact Steps.refl _)
        obtain ⟨v87, hv87, hM⟩ := Option.bind_eq_some_iff.mp hM
        have q88 : Steps p.tables e below (T0.setTop (mkF m 2 #[.val (.ref o0), .val (.int i), s2, s3, s4, s5] [])) (T84.setTop (mkF m 109 #[.val (.ref o0), .val (.int i), .val (.int v11), .val (.int v17), .val (.int cn), s5] [(.int v87)])) := q86.trans (Own.ldO X84 hx hZ e84 IaS_81 hv87 (g := (mkF m 108 #[.val (.ref o0), .val (.int i), .val (.int v11), .val (.int v17), .val (.int cn), s5] [(.int cn), (.ref aS)])) rfl rfl (hb hby d8_108) _ (Steps.refl _))
        have q89 : Steps p.tables e below (T0.setTop (mkF m 2 #[.val (.ref o0), .val (.int i), s2, s3, s4, s5] [])) (T84.setTop (mkF m 111 #[.val (.ref o0), .val (.int i), .val (.int v11), .val (.int v17), .val (.int cn), .val (.int v87)] [])) := q88.trans (by
            show Steps p.tables e below (T84.setTop (mkF m 109 #[.val (.ref o0), .val (.int i), .val (.int v11), .val (.int v17), .val (.int cn), s5] [(.int v87)])) _
            refine XS.istoreS X84.here hx rfl (hb hby d8_109) rfl rfl os_s5 ?_
            show Steps p.tables e below (T84.setTop (mkF m 111 #[.val (.ref o0), .val (.int i), .val (.int v11), .val (.int v17), .val (.int cn), .val (.int v87)] [])) _
            exact Steps.refl _)
        obtain ⟨r90, hr90, hM⟩ := Option.bind_eq_some_iff.mp hM
        obtain ⟨T91, L91, h91, X91, e91, N91, Zq91, K91, J91_0, ql91⟩ := lpIn hx hZ hw hby hml hown o0 aM aI aB aS aE aF aC aK i v11 v17 (cn + (1 : Int32)) mc xI y73 y80 y23 xK cn xM y61 ge_aM ge_aI ge_aB ge_aS ge_aE ge_aF ge_aC ge_aK ge_o0 ne_aM_aI ne_aM_aB ne_aM_aS ne_aM_aE ne_aM_aF ne_aM_aC ne_aM_aK ne_aI_aB ne_aI_aS ne_aI_aE ne_aI_aF ne_aI_aC ne_aI_aK ne_aB_aS ne_aB_aE ne_aB_aF ne_aB_aC ne_aB_aK ne_aS_aE ne_aS_aF ne_aS_aC ne_aS_aK ne_aE_aF ne_aE_aC ne_aE_aK ne_aF_aC ne_aF_aK ne_aC_aK ne_o0_aM ne_o0_aI ne_o0_aB ne_o0_aS ne_o0_aE ne_o0_aF ne_o0_aC ne_o0_aK 8 v87 xB  _ hr90 X84 e84 N81 Z81  Xo0_81 Fo0_members_81 Fo0_memberIndex_81 Fo0_blockOf_81 Fo0_start_81 Fo0_end_81 Fo0_splitFrom_81 Fo0_markedCount_81 Fo0_markedBlocks_81 Fo0_count_81 Fo0_markedBlockCount_81 IaM_81 IaI_81 IaB_81 IaS_81 IaE_81 J81 IaC_81 IaK_81
        have IaM_91 := IaM_81.keep K91 (ninS ne_aM_aB nin0)
        have IaI_91 := IaI_81.keep K91 (ninS ne_aI_aB nin0)
        have IaS_91 := IaS_81.keep K91 (ninS (Ne.symm ne_aB_aS) nin0)
        have IaE_91 := IaE_81.keep K91 (ninS (Ne.symm ne_aB_aE) nin0)
        have IaF_91 := J81.keep K91 (ninS (Ne.symm ne_aB_aF) nin0)
        have IaC_91 := IaC_81.keep K91 (ninS (Ne.symm ne_aB_aC) nin0)
        have IaK_91 := IaK_81.keep K91 (ninS (Ne.symm ne_aB_aK) nin0)
        have Xo0_91 := Xo0_81.keep K91
        have Fo0_members_91 := Fo0_members_81.keep K91 (ninS ne_o0_aB nin0)
        have Fo0_memberIndex_91 := Fo0_memberIndex_81.keep K91 (ninS ne_o0_aB nin0)
        have Fo0_blockOf_91 := Fo0_blockOf_81.keep K91 (ninS ne_o0_aB nin0)
        have Fo0_start_91 := Fo0_start_81.keep K91 (ninS ne_o0_aB nin0)
        have Fo0_end_91 := Fo0_end_81.keep K91 (ninS ne_o0_aB nin0)
        have Fo0_splitFrom_91 := Fo0_splitFrom_81.keep K91 (ninS ne_o0_aB nin0)
        have Fo0_markedCount_91 := Fo0_markedCount_81.keep K91 (ninS ne_o0_aB nin0)
        have Fo0_markedBlocks_91 := Fo0_markedBlocks_81.keep K91 (ninS ne_o0_aB nin0)
        have Fo0_count_91 := Fo0_count_81.keep K91 (ninS ne_o0_aB nin0)
        have Fo0_markedBlockCount_91 := Fo0_markedBlockCount_81.keep K91 (ninS ne_o0_aB nin0)
        have Z91 : n0 ≤ h91.size := Nat.le_trans Z81 K91.1
        have KK91 : Keep h0 h91 [aB, aS, aE, aF, aC, o0] := K81.trans K91 (allS (Or.inl (List.mem_of_getElem? (i := 0) rfl)) all0)
        have q92 : Steps p.tables e below (T0.setTop (mkF m 2 #[.val (.ref o0), .val (.int i), s2, s3, s4, s5] [])) (T91.setTop (mkF m 143 #[.val (.ref o0), .val (.int i), .val (.int v11), .val (.int v17), .val (.int cn), .val (.int r90.1)] [])) := q89.trans ql91
        have q93 : Steps p.tables e below (T0.setTop (mkF m 2 #[.val (.ref o0), .val (.int i), s2, s3, s4, s5] [])) (T91.setTop (mkF m 2 #[.val (.ref o0), .val (.int (i + (1 : Int32))), .val (.int v11), .val (.int v17), .val (.int cn), .val (.int r90.1)] [])) := q92.trans (by
            show Steps p.tables e below (T91.setTop (mkF m 143 #[.val (.ref o0), .val (.int i), .val (.int v11), .val (.int v17), .val (.int cn), .val (.int r90.1)] [])) _
            refine XS.iinc X91.here hx rfl (hb hby d8_143) rfl (l' := #[.val (.ref o0), .val (.int (i + (1 : Int32))), .val (.int v11), .val (.int v17), .val (.int cn), .val (.int r90.1)]) rfl ?_
            show Steps p.tables e below (T91.setTop (mkF m 146 #[.val (.ref o0), .val (.int (i + (1 : Int32))), .val (.int v11), .val (.int v17), .val (.int cn), .val (.int r90.1)] [])) _
            refine XS.goto X91.here hx rfl (pc0 := 146) (pc' := 2) rfl (hb hby d8_146) (by decide) (by decide) ?_
            show Steps p.tables e below (T91.setTop (mkF m 2 #[.val (.ref o0), .val (.int (i + (1 : Int32))), .val (.int v11), .val (.int v17), .val (.int cn), .val (.int r90.1)] [])) _
            exact Steps.refl _)
        obtain ⟨T', locs', h', u0, u1, u2, u3, X', e', N', Z', K', o0_, o1_, o2_, o3_, J0', J1', J2', J3', J4', G0', G1', G2', G3', G4', G5', G6', G7', G8', G9', q'⟩ := ih (i + (1 : Int32)) r90.2 y73 y61 y80 y23 (cn + (1 : Int32)) (.val (.int v11)) (.val (.int v17)) (.val (.int cn)) (.val (.int r90.1)) _ hM X91 e91 N91 Z91 (One.val rfl) (One.val rfl) (One.val rfl) (One.val rfl) Xo0_91 Fo0_members_91 Fo0_memberIndex_91 Fo0_blockOf_91 Fo0_start_91 Fo0_end_91 Fo0_splitFrom_91 Fo0_markedCount_91 Fo0_markedBlocks_91 Fo0_count_91 Fo0_markedBlockCount_91 IaM_91 IaI_91 J91_0 IaS_91 IaE_91 IaF_91 IaC_91 IaK_91
        exact ⟨T', locs', h', u0, u1, u2, u3, X', e', N', Z', KK91.trans K' (fun _ hx' => Or.inl hx'), o0_, o1_, o2_, o3_, J0', J1', J2', J3', J4', G0', G1', G2', G3', G4', G5', G6', G7', G8', G9', q93.trans q'⟩
      · rw [if_neg hc31] at hM
        have q94 : Steps p.tables e below (T0.setTop (mkF m 2 #[.val (.ref o0), .val (.int i), s2, s3, s4, s5] [])) (T28.setTop (mkF m 143 #[.val (.ref o0), .val (.int i), .val (.int v11), .val (.int v17), s4, s5] [])) := q29.trans (by
            show Steps p.tables e below (T28.setTop (mkF m 37 #[.val (.ref o0), .val (.int i), .val (.int v11), .val (.int v17), s4, s5] [(.int r27), (.int v17)])) _
            refine XS.icmpYes X28.here hx rfl (pc0 := 37) (pc' := 143) rfl (hb hby d8_37) rfl (flt hc31).2.1 (by decide) (by decide) ?_
            show Steps p.tables e below (T28.setTop (mkF m 143 #[.val (.ref o0), .val (.int i), .val (.int v11), .val (.int v17), s4, s5] [])) _
            exact Steps.refl _)
        have q95 : Steps p.tables e below (T0.setTop (mkF m 2 #[.val (.ref o0), .val (.int i), s2, s3, s4, s5] [])) (T28.setTop (mkF m 2 #[.val (.ref o0), .val (.int (i + (1 : Int32))), .val (.int v11), .val (.int v17), s4, s5] [])) := q94.trans (by
            show Steps p.tables e below (T28.setTop (mkF m 143 #[.val (.ref o0), .val (.int i), .val (.int v11), .val (.int v17), s4, s5] [])) _
            refine XS.iinc X28.here hx rfl (hb hby d8_143) rfl (l' := #[.val (.ref o0), .val (.int (i + (1 : Int32))), .val (.int v11), .val (.int v17), s4, s5]) rfl ?_
            show Steps p.tables e below (T28.setTop (mkF m 146 #[.val (.ref o0), .val (.int (i + (1 : Int32))), .val (.int v11), .val (.int v17), s4, s5] [])) _
            refine XS.goto X28.here hx rfl (pc0 := 146) (pc' := 2) rfl (hb hby d8_146) (by decide) (by decide) ?_
            show Steps p.tables e below (T28.setTop (mkF m 2 #[.val (.ref o0), .val (.int (i + (1 : Int32))), .val (.int v11), .val (.int v17), s4, s5] [])) _
            exact Steps.refl _)
        obtain ⟨T', locs', h', u0, u1, u2, u3, X', e', N', Z', K', o0_, o1_, o2_, o3_, J0', J1', J2', J3', J4', G0', G1', G2', G3', G4', G5', G6', G7', G8', G9', q'⟩ := ih (i + (1 : Int32)) xB xS xE xF y23 cn (.val (.int v11)) (.val (.int v17)) s4 s5 _ hM X28 e28 N28 Z24 (One.val rfl) (One.val rfl) os_s4 os_s5 Xo0_24 Fo0_members_24 Fo0_memberIndex_24 Fo0_blockOf_24 Fo0_start_24 Fo0_end_24 Fo0_splitFrom_24 Fo0_markedCount_24 Fo0_markedBlocks_24 Fo0_count_24 Fo0_markedBlockCount_24 IaM_24 IaI_24 IaB_24 IaS_24 IaE_24 IaF_24 J24 IaK_24
        exact ⟨T', locs', h', u0, u1, u2, u3, X', e', N', Z', K24.trans K' (fun _ hx' => Or.inl hx'), o0_, o1_, o2_, o3_, J0', J1', J2', J3', J4', G0', G1', G2', G3', G4', G5', G6', G7', G8', G9', q95.trans q'⟩
    · rw [if_neg hc5] at hM
      have q96 : Steps p.tables e below (T0.setTop (mkF m 2 #[.val (.ref o0), .val (.int i), s2, s3, s4, s5] [])) (T2.setTop (mkF m 149 #[.val (.ref o0), .val (.int i), s2, s3, s4, s5] [])) := q3.trans (by
          show Steps p.tables e below (T2.setTop (mkF m 7 #[.val (.ref o0), .val (.int i), s2, s3, s4, s5] [(.int mc), (.int i)])) _
          refine XS.icmpYes X2.here hx rfl (pc0 := 7) (pc' := 149) rfl (hb hby d8_7) rfl (flt hc5).2.1 (by decide) (by decide) ?_
          show Steps p.tables e below (T2.setTop (mkF m 149 #[.val (.ref o0), .val (.int i), s2, s3, s4, s5] [])) _
          exact Steps.refl _)
      obtain rfl := Option.some.inj hM
      exact ⟨_, _, _, s2, s3, s4, s5, X2, e2, N0, Z0, K0, os_s2, os_s3, os_s4, os_s5, I_aB, I_aS, I_aE, I_aF, I_aC, F_o0_members, F_o0_memberIndex, F_o0_blockOf, F_o0_start, F_o0_end, F_o0_splitFrom, F_o0_markedCount, F_o0_markedBlocks, F_o0_count, F_o0_markedBlockCount, q96⟩

theorem d8_0 : decode prog_1_method_7_code 0 = .ok (.iconst 0, 1) := by decide +kernel
theorem d8_1 : decode prog_1_method_7_code 1 = .ok (.istore_n 1, 1) := by decide +kernel
theorem d8_149 : decode prog_1_method_7_code 149 = .ok (.aload_n 0, 1) := by decide +kernel
theorem d8_150 : decode prog_1_method_7_code 150 = .ok (.iconst 0, 1) := by decide +kernel
theorem d8_151 : decode prog_1_method_7_code 151 = .ok (.putfield 54, 3) := by decide +kernel
theorem d8_154 : decode prog_1_method_7_code 154 = .ok (.return_, 1) := by decide +kernel
theorem pn_rmS : plainName "com/example/libpathsum/libpathsum/Blocks" = true := by first | (simp [plainName, overriddenIn]; done) | decide +kernel
theorem ef_rmS (m : MethodId) (o0 : Addr) : entryFrame m #[(.ref o0)] 6 = mkF m 0 #[.val (.ref o0), .unset, .unset, .unset, .unset, .unset] [] := by first | (simp [entryFrame, mkF, argsToLocals, Value.category]; done) | rfl
def M_split (xM : List Int32) (xI : List Int32) (xB : List Int32) (xS : List Int32) (xE : List Int32) (xF : List Int32) (xC : List Int32) (xK : List Int32) (cn : Int32) (mc : Int32) : Option (List Int32 × List Int32 × List Int32 × List Int32 × List Int32 × Int32) := (M_lpOut 8 xM xI xK mc (0 : Int32) xB xS xE xF xC cn).bind fun r2 => some (r2.2.1, r2.2.2.1, r2.2.2.2.1, r2.2.2.2.2.1, r2.2.2.2.2.2.1, r2.2.2.2.2.2.2)
def Q_rmS (Z : State) (o0 : Addr) (aM : Addr) (aI : Addr) (aB : Addr) (aS : Addr) (aE : Addr) (aF : Addr) (aC : Addr) (aK : Addr) (xM : List Int32) (xI : List Int32) (xB : List Int32) (xS : List Int32) (xE : List Int32) (xF : List Int32) (xC : List Int32) (xK : List Int32) (cn : Int32) (mc : Int32) (out : List Int32 × List Int32 × List Int32 × List Int32 × List Int32 × Int32) (h0 : Heap) (n0 : Nat) (v : Option Value) (h : Heap) (L : List Loc) : Prop := v = none ∧ Fr n0 L ∧ Keep h0 h [aB, aS, aE, aF, aC, o0] ∧ Own.IA Z h aB out.1 ∧ Own.IA Z h aS out.2.1 ∧ Own.IA Z h aE out.2.2.1 ∧ Own.IA Z h aF out.2.2.2.1 ∧ Own.IA Z h aC out.2.2.2.2.1 ∧ Fld Z h o0 "com/example/libpathsum/libpathsum/Blocks" "members" "[I" (.ref aM) ∧ Fld Z h o0 "com/example/libpathsum/libpathsum/Blocks" "memberIndex" "[I" (.ref aI) ∧ Fld Z h o0 "com/example/libpathsum/libpathsum/Blocks" "blockOf" "[I" (.ref aB) ∧ Fld Z h o0 "com/example/libpathsum/libpathsum/Blocks" "start" "[I" (.ref aS) ∧ Fld Z h o0 "com/example/libpathsum/libpathsum/Blocks" "end" "[I" (.ref aE) ∧ Fld Z h o0 "com/example/libpathsum/libpathsum/Blocks" "splitFrom" "[I" (.ref aF) ∧ Fld Z h o0 "com/example/libpathsum/libpathsum/Blocks" "markedCount" "[I" (.ref aC) ∧ Fld Z h o0 "com/example/libpathsum/libpathsum/Blocks" "markedBlocks" "[I" (.ref aK) ∧ Fld Z h o0 "com/example/libpathsum/libpathsum/Blocks" "count" "I" (.int out.2.2.2.2.2) ∧ Fld Z h o0 "com/example/libpathsum/libpathsum/Blocks" "markedBlockCount" "I" (.int (0 : Int32))
set_option maxRecDepth 65536 in
set_option maxHeartbeats 40000000 in
theorem rmS (l : Launch) (Z : State) (a0 : Array Value) (hw : ∀ d ∈ tables_1, d.before a0 Z = true) (ws : List Jvm.Cond) (o0 : Addr) (aM : Addr) (aI : Addr) (aB : Addr) (aS : Addr) (aE : Addr) (aF : Addr) (aC : Addr) (aK : Addr) (xM : List Int32) (xI : List Int32) (xB : List Int32) (xS : List Int32) (xE : List Int32) (xF : List Int32) (xC : List Int32) (xK : List Int32) (cn : Int32) (mc : Int32) (out : List Int32 × List Int32 × List Int32 × List Int32 × List Int32 × Int32) (h0 : Heap) (n0 : Nat) (Z0 : n0 ≤ h0.size) (E_o0 : Exa Z h0 o0 "com/example/libpathsum/libpathsum/Blocks") (F_o0_members : Fld Z h0 o0 "com/example/libpathsum/libpathsum/Blocks" "members" "[I" (.ref aM)) (F_o0_memberIndex : Fld Z h0 o0 "com/example/libpathsum/libpathsum/Blocks" "memberIndex" "[I" (.ref aI)) (F_o0_blockOf : Fld Z h0 o0 "com/example/libpathsum/libpathsum/Blocks" "blockOf" "[I" (.ref aB)) (F_o0_start : Fld Z h0 o0 "com/example/libpathsum/libpathsum/Blocks" "start" "[I" (.ref aS)) (F_o0_end : Fld Z h0 o0 "com/example/libpathsum/libpathsum/Blocks" "end" "[I" (.ref aE)) (F_o0_splitFrom : Fld Z h0 o0 "com/example/libpathsum/libpathsum/Blocks" "splitFrom" "[I" (.ref aF)) (F_o0_markedCount : Fld Z h0 o0 "com/example/libpathsum/libpathsum/Blocks" "markedCount" "[I" (.ref aC)) (F_o0_markedBlocks : Fld Z h0 o0 "com/example/libpathsum/libpathsum/Blocks" "markedBlocks" "[I" (.ref aK)) (F_o0_count : Fld Z h0 o0 "com/example/libpathsum/libpathsum/Blocks" "count" "I" (.int cn)) (F_o0_markedBlockCount : Fld Z h0 o0 "com/example/libpathsum/libpathsum/Blocks" "markedBlockCount" "I" (.int mc)) (I_aM : Own.IA Z h0 aM xM) (I_aI : Own.IA Z h0 aI xI) (I_aB : Own.IA Z h0 aB xB) (I_aS : Own.IA Z h0 aS xS) (I_aE : Own.IA Z h0 aE xE) (I_aF : Own.IA Z h0 aF xF) (I_aC : Own.IA Z h0 aC xC) (I_aK : Own.IA Z h0 aK xK) (ge_aM : n0 ≤ aM) (ge_aI : n0 ≤ aI) (ge_aB : n0 ≤ aB) (ge_aS : n0 ≤ aS) (ge_aE : n0 ≤ aE) (ge_aF : n0 ≤ aF) (ge_aC : n0 ≤ aC) (ge_aK : n0 ≤ aK) (ge_o0 : n0 ≤ o0) (ne_aM_aI : aM ≠ aI) (ne_aM_aB : aM ≠ aB) (ne_aM_aS : aM ≠ aS) (ne_aM_aE : aM ≠ aE) (ne_aM_aF : aM ≠ aF) (ne_aM_aC : aM ≠ aC) (ne_aM_aK : aM ≠ aK) (ne_aI_aB : aI ≠ aB) (ne_aI_aS : aI ≠ aS) (ne_aI_aE : aI ≠ aE) (ne_aI_aF : aI ≠ aF) (ne_aI_aC : aI ≠ aC) (ne_aI_aK : aI ≠ aK) (ne_aB_aS : aB ≠ aS) (ne_aB_aE : aB ≠ aE) (ne_aB_aF : aB ≠ aF) (ne_aB_aC : aB ≠ aC) (ne_aB_aK : aB ≠ aK) (ne_aS_aE : aS ≠ aE) (ne_aS_aF : aS ≠ aF) (ne_aS_aC : aS ≠ aC) (ne_aS_aK : aS ≠ aK) (ne_aE_aF : aE ≠ aF) (ne_aE_aC : aE ≠ aC) (ne_aE_aK : aE ≠ aK) (ne_aF_aC : aF ≠ aC) (ne_aF_aK : aF ≠ aK) (ne_aC_aK : aC ≠ aK) (ne_o0_aM : o0 ≠ aM) (ne_o0_aI : o0 ≠ aI) (ne_o0_aB : o0 ≠ aB) (ne_o0_aS : o0 ≠ aS) (ne_o0_aE : o0 ≠ aE) (ne_o0_aF : o0 ≠ aF) (ne_o0_aC : o0 ≠ aC) (ne_o0_aK : o0 ≠ aK) (hM : M_split xM xI xB xS xE xF xC xK cn mc = some out) :
    MetFree l (⟨"com/example/libpathsum/libpathsum/Blocks", "splitMarked", "()V"⟩ : MethodName) (head1 (Jvm.Cond.code (⟨"com/example/libpathsum/libpathsum/Blocks", "splitMarked", "()V"⟩ : MethodName) prog_1_method_7_code 6 none :: ws) ({ frames := 1, cells := 0, slots := 0, locals := 14 } : Room)) (fun a U => a = #[(.ref o0)] ∧ Z.Warmed39 U.vm ∧ U.heap = h0) (fun _ _ _ _ _ => True) (fun _ U o U' => ∃ v L, o = .returned v ∧ Q_rmS Z o0 aM aI aB aS aE aF aC aK xM xI xB xS xE xF xC xK cn mc out h0 n0 v U'.heap L ∧ FrameEnd U o U' L ({ frames := 1, cells := 0, slots := 0, locals := 14 } : Room).cells ({ frames := 1, cells := 0, slots := 0, locals := 14 } : Room).slots) := by
  refine MetFree.of_bodySF (plainFor_of_name pn_rmS) hisR ?_
  intro p e s m args below meth c s₁ Bd hml0 hP hK
  obtain ⟨rfl, hZ, hh⟩ := hP
  have hx := Bd.exec
  have hby := Bd.bytes
  have hml : c.maxLocals = 6 := hml0
  have hown : s.vm.findClass "com/example/libpathsum/libpathsum/Blocks" = some m.cls := findClass_of_methodNamed Bd.named
  have hnm := (name_of_methodNamed Bd.named Bd.method).1
  have X0 : Stand p l e ({ frames := 1, cells := 0, slots := 0, locals := 14 } : Room) s m #[(.ref o0)] below meth c s₁ [] 0 0 := Stand.of_body Bd
  have e0 : s₁.heap = h0 := by rw [← hh, Bd.state]; rfl
  have N0 := Fr.nil n0
  have q0 : Steps p.tables e below (s₁.setTop (entryFrame m #[(.ref o0)] 6)) (s₁.setTop (mkF m 0 #[.val (.ref o0), .unset, .unset, .unset, .unset, .unset] [])) := castTop (ef_rmS m o0) (Steps.refl _)
  unfold M_split at hM
  have K0 : Keep h0 h0 [aB, aS, aE, aF, aC, o0] := Keep.refl _ _
  have q1 : Steps p.tables e below (s₁.setTop (entryFrame m #[(.ref o0)] 6)) (s₁.setTop (mkF m 2 #[.val (.ref o0), .val (.int (0 : Int32)), .unset, .unset, .unset, .unset] [])) := q0.trans (by
      show Steps p.tables e below (s₁.setTop (mkF m 0 #[.val (.ref o0), .unset, .unset, .unset, .unset, .unset] [])) _
      refine XS.iconst X0.here hx rfl (hb hby d8_0) ?_
      show Steps p.tables e below (s₁.setTop (mkF m 1 #[.val (.ref o0), .unset, .unset, .unset, .unset, .unset] [(.int (0 : Int32))])) _
      refine XS.istoreN X0.here hx rfl (hb hby d8_1) rfl (l' := #[.val (.ref o0), .val (.int (0 : Int32)), .unset, .unset, .unset, .unset]) rfl ?_
      show Steps p.tables e below (s₁.setTop (mkF m 2 #[.val (.ref o0), .val (.int (0 : Int32)), .unset, .unset, .unset, .unset] [])) _
      exact Steps.refl _)
  obtain ⟨r2, hr2, hM⟩ := Option.bind_eq_some_iff.mp hM
  obtain ⟨T3, L3, h3, u3_0, u3_1, u3_2, u3_3, X3, e3, N3, Zq3, K3, os_u3_0, os_u3_1, os_u3_2, os_u3_3, J3_0, J3_1, J3_2, J3_3, J3_4, G3_0, G3_1, G3_2, G3_3, G3_4, G3_5, G3_6, G3_7, G3_8, G3_9, ql3⟩ := lpOut hx hZ hw hby hml hown o0 aM aI aB aS aE aF aC aK xM xI xK mc ge_aM ge_aI ge_aB ge_aS ge_aE ge_aF ge_aC ge_aK ge_o0 ne_aM_aI ne_aM_aB ne_aM_aS ne_aM_aE ne_aM_aF ne_aM_aC ne_aM_aK ne_aI_aB ne_aI_aS ne_aI_aE ne_aI_aF ne_aI_aC ne_aI_aK ne_aB_aS ne_aB_aE ne_aB_aF ne_aB_aC ne_aB_aK ne_aS_aE ne_aS_aF ne_aS_aC ne_aS_aK ne_aE_aF ne_aE_aC ne_aE_aK ne_aF_aC ne_aF_aK ne_aC_aK ne_o0_aM ne_o0_aI ne_o0_aB ne_o0_aS ne_o0_aE ne_o0_aF ne_o0_aC ne_o0_aK 8 (0 : Int32) xB xS xE xF xC cn .unset .unset .unset .unset _ hr2 X0 e0 N0 Z0 One.u One.u One.u One.u E_o0 F_o0_members F_o0_memberIndex F_o0_blockOf F_o0_start F_o0_end F_o0_splitFrom F_o0_markedCount F_o0_markedBlocks F_o0_count F_o0_markedBlockCount I_aM I_aI I_aB I_aS I_aE I_aF I_aC I_aK
  have IaM_3 := I_aM.keep K3 (ninS ne_aM_aB (ninS ne_aM_aS (ninS ne_aM_aE (ninS ne_aM_aF (ninS ne_aM_aC (ninS (Ne.symm ne_o0_aM) nin0))))))
  have IaI_3 := I_aI.keep K3 (ninS ne_aI_aB (ninS ne_aI_aS (ninS ne_aI_aE (ninS ne_aI_aF (ninS ne_aI_aC (ninS (Ne.symm ne_o0_aI) nin0))))))
  have IaK_3 := I_aK.keep K3 (ninS (Ne.symm ne_aB_aK) (ninS (Ne.symm ne_aS_aK) (ninS (Ne.symm ne_aE_aK) (ninS (Ne.symm ne_aF_aK) (ninS (Ne.symm ne_aC_aK) (ninS (Ne.symm ne_o0_aK) nin0))))))
  have Xo0_3 := E_o0.keep K3
  have Z3 : n0 ≤ h3.size := Nat.le_trans Z0 K3.1
  have KK3 : Keep h0 h3 [aB, aS, aE, aF, aC, o0] := K0.trans K3 (allS (Or.inl (List.mem_of_getElem? (i := 0) rfl)) (allS (Or.inl (List.mem_of_getElem? (i := 1) rfl)) (allS (Or.inl (List.mem_of_getElem? (i := 2) rfl)) (allS (Or.inl (List.mem_of_getElem? (i := 3) rfl)) (allS (Or.inl (List.mem_of_getElem? (i := 4) rfl)) (allS (Or.inl (List.mem_of_getElem? (i := 5) rfl)) all0))))))
  have q4 : Steps p.tables e below (s₁.setTop (entryFrame m #[(.ref o0)] 6)) (T3.setTop (mkF m 149 #[.val (.ref o0), .val (.int r2.1), u3_0, u3_1, u3_2, u3_3] [])) := q1.trans ql3
  have q5 : Steps p.tables e below (s₁.setTop (entryFrame m #[(.ref o0)] 6)) (T3.setTop (mkF m 151 #[.val (.ref o0), .val (.int r2.1), u3_0, u3_1, u3_2, u3_3] [(.int (0 : Int32)), (.ref o0)])) := q4.trans (by
      show Steps p.tables e below (T3.setTop (mkF m 149 #[.val (.ref o0), .val (.int r2.1), u3_0, u3_1, u3_2, u3_3] [])) _
      refine XS.aloadN X3.here hx rfl (hb hby d8_149) rfl rfl ?_
      show Steps p.tables e below (T3.setTop (mkF m 150 #[.val (.ref o0), .val (.int r2.1), u3_0, u3_1, u3_2, u3_3] [(.ref o0)])) _
      refine XS.iconst X3.here hx rfl (hb hby d8_150) ?_
      show Steps p.tables e below (T3.setTop (mkF m 151 #[.val (.ref o0), .val (.int r2.1), u3_0, u3_1, u3_2, u3_3] [(.int (0 : Int32)), (.ref o0)])) _
      exact Steps.refl _)
  obtain ⟨T6, h6, X6, e6, W6, st6⟩ := putF X3 hx hZ hown (host := "") (Or.inl (hw _ (List.mem_of_getElem? (i := 56) rfl))) Via.refl e3 G3_9 Xo0_3 (Or.inl (hw _ (List.mem_of_getElem? (i := 57) rfl))) (hw _ (List.mem_of_getElem? (i := 6) rfl)) (ty := .int) (by decide) rfl rfl (g := (mkF m 151 #[.val (.ref o0), .val (.int r2.1), u3_0, u3_1, u3_2, u3_3] [(.int (0 : Int32)), (.ref o0)])) rfl rfl (hb hby d8_151)
  have N6 := Fr.snoc X6 N3 ge_o0
  have IaM_6 := IaM_3.other W6 (Ne.symm ne_o0_aM)
  have IaI_6 := IaI_3.other W6 (Ne.symm ne_o0_aI)
  have IaB_6 := J3_0.other W6 (Ne.symm ne_o0_aB)
  have IaS_6 := J3_1.other W6 (Ne.symm ne_o0_aS)
  have IaE_6 := J3_2.other W6 (Ne.symm ne_o0_aE)
  have IaF_6 := J3_3.other W6 (Ne.symm ne_o0_aF)
  have IaC_6 := J3_4.other W6 (Ne.symm ne_o0_aC)
  have IaK_6 := IaK_3.other W6 (Ne.symm ne_o0_aK)
  have Xo0_6 := Xo0_3.wr W6
  have Fo0_members_6 := G3_0.other W6 (Or.inr (slot_ne (Or.inr (hw _ (List.mem_of_getElem? (i := 15) rfl))) (Or.inl (hw _ (List.mem_of_getElem? (i := 57) rfl))) (by decide) (t := (.array .int)) (t' := .int) (by decide) (by decide)))
  have Fo0_memberIndex_6 := G3_1.other W6 (Or.inr (slot_ne (Or.inr (hw _ (List.mem_of_getElem? (i := 17) rfl))) (Or.inl (hw _ (List.mem_of_getElem? (i := 57) rfl))) (by decide) (t := (.array .int)) (t' := .int) (by decide) (by decide)))
  have Fo0_blockOf_6 := G3_2.other W6 (Or.inr (slot_ne (Or.inr (hw _ (List.mem_of_getElem? (i := 32) rfl))) (Or.inl (hw _ (List.mem_of_getElem? (i := 57) rfl))) (by decide) (t := (.array .int)) (t' := .int) (by decide) (by decide)))
  have Fo0_start_6 := G3_3.other W6 (Or.inr (slot_ne (Or.inr (hw _ (List.mem_of_getElem? (i := 34) rfl))) (Or.inl (hw _ (List.mem_of_getElem? (i := 57) rfl))) (by decide) (t := (.array .int)) (t' := .int) (by decide) (by decide)))
  have Fo0_end_6 := G3_4.other W6 (Or.inr (slot_ne (Or.inr (hw _ (List.mem_of_getElem? (i := 36) rfl))) (Or.inl (hw _ (List.mem_of_getElem? (i := 57) rfl))) (by decide) (t := (.array .int)) (t' := .int) (by decide) (by decide)))
  have Fo0_splitFrom_6 := G3_5.other W6 (Or.inr (slot_ne (Or.inr (hw _ (List.mem_of_getElem? (i := 38) rfl))) (Or.inl (hw _ (List.mem_of_getElem? (i := 57) rfl))) (by decide) (t := (.array .int)) (t' := .int) (by decide) (by decide)))
  have Fo0_markedCount_6 := G3_6.other W6 (Or.inr (slot_ne (Or.inr (hw _ (List.mem_of_getElem? (i := 40) rfl))) (Or.inl (hw _ (List.mem_of_getElem? (i := 57) rfl))) (by decide) (t := (.array .int)) (t' := .int) (by decide) (by decide)))
  have Fo0_markedBlocks_6 := G3_7.other W6 (Or.inr (slot_ne (Or.inr (hw _ (List.mem_of_getElem? (i := 42) rfl))) (Or.inl (hw _ (List.mem_of_getElem? (i := 57) rfl))) (by decide) (t := (.array .int)) (t' := .int) (by decide) (by decide)))
  have Fo0_count_6 := G3_8.other W6 (Or.inr (slot_ne (Or.inl (hw _ (List.mem_of_getElem? (i := 44) rfl))) (Or.inl (hw _ (List.mem_of_getElem? (i := 57) rfl))) (by decide) (t := .int) (t' := .int) (by decide) (by decide)))
  have Z6 : n0 ≤ h6.size := Own.size_wr W6 Z3
  have K6 : Keep h0 h6 [aB, aS, aE, aF, aC, o0] := KK3.wr W6 (Or.inl (List.mem_of_getElem? (i := 5) rfl))
  have Fo0_markedBlockCount_6 := G3_9.same W6
  have q7 : Steps p.tables e below (s₁.setTop (entryFrame m #[(.ref o0)] 6)) (T6.setTop (mkF m 154 #[.val (.ref o0), .val (.int r2.1), u3_0, u3_1, u3_2, u3_3] [])) := q5.trans (st6 _ (Steps.refl _))
  obtain rfl := Option.some.inj hM
  obtain ⟨fs, hr, hrun, hended, hW, hsame⟩ := X6.leave (v := none) (fun _ => rfl)
  refine ⟨_, _, q7.trans ?_, hrun, hended, _, _, rfl, ?_, ⟨_, rfl⟩, hW, hsame.mono (by decide) (by decide)⟩
  · exact X6.returnOut hx Bd.returns (hb hby d8_154) hr
  · show Q_rmS Z o0 aM aI aB aS aE aF aC aK xM xI xB xS xE xF xC xK cn mc _ h0 n0 _ T6.heap _
    rw [e6]
    exact ⟨rfl, N6, K6, IaB_6, IaS_6, IaE_6, IaF_6, IaC_6, Fo0_members_6, Fo0_memberIndex_6, Fo0_blockOf_6, Fo0_start_6, Fo0_end_6, Fo0_splitFrom_6, Fo0_markedCount_6, Fo0_markedBlocks_6, Fo0_count_6, Fo0_markedBlockCount_6⟩

theorem d11_20 : decode prog_1_method_9_code 20 = .ok (.iload 5, 2) := by decide +kernel
theorem d11_22 : decode prog_1_method_9_code 22 = .ok (.aload_n 3, 1) := by decide +kernel
theorem d11_23 : decode prog_1_method_9_code 23 = .ok (.arraylength, 1) := by decide +kernel
theorem d11_24 : decode prog_1_method_9_code 24 = .ok (.if_icmp .ge 40, 3) := by decide +kernel
theorem d11_27 : decode prog_1_method_9_code 27 = .ok (.aload_n 0, 1) := by decide +kernel
theorem d11_28 : decode prog_1_method_9_code 28 = .ok (.iload 5, 2) := by decide +kernel
theorem d11_30 : decode prog_1_method_9_code 30 = .ok (.iaload, 1) := by decide +kernel
theorem d11_31 : decode prog_1_method_9_code 31 = .ok (.istore 6, 2) := by decide +kernel
theorem d11_33 : decode prog_1_method_9_code 33 = .ok (.aload_n 2, 1) := by decide +kernel
theorem d11_34 : decode prog_1_method_9_code 34 = .ok (.iload 6, 2) := by decide +kernel
theorem d11_36 : decode prog_1_method_9_code 36 = .ok (.iaload, 1) := by decide +kernel
theorem d11_37 : decode prog_1_method_9_code 37 = .ok (.iconst (-1), 1) := by decide +kernel
theorem d11_38 : decode prog_1_method_9_code 38 = .ok (.if_icmp .ne 12, 3) := by decide +kernel
theorem d11_41 : decode prog_1_method_9_code 41 = .ok (.aload_n 2, 1) := by decide +kernel
theorem d11_42 : decode prog_1_method_9_code 42 = .ok (.iload 6, 2) := by decide +kernel
theorem d11_44 : decode prog_1_method_9_code 44 = .ok (.iload 4, 2) := by decide +kernel
theorem d11_46 : decode prog_1_method_9_code 46 = .ok (.iinc 4 1, 3) := by decide +kernel
theorem d11_49 : decode prog_1_method_9_code 49 = .ok (.iastore, 1) := by decide +kernel
theorem d11_50 : decode prog_1_method_9_code 50 = .ok (.aload_n 3, 1) := by decide +kernel
theorem d11_51 : decode prog_1_method_9_code 51 = .ok (.iload 5, 2) := by decide +kernel
theorem d11_53 : decode prog_1_method_9_code 53 = .ok (.aload_n 2, 1) := by decide +kernel
theorem d11_54 : decode prog_1_method_9_code 54 = .ok (.iload 6, 2) := by decide +kernel
theorem d11_56 : decode prog_1_method_9_code 56 = .ok (.iaload, 1) := by decide +kernel
theorem d11_57 : decode prog_1_method_9_code 57 = .ok (.iastore, 1) := by decide +kernel
theorem d11_58 : decode prog_1_method_9_code 58 = .ok (.iinc 5 1, 3) := by decide +kernel
theorem d11_61 : decode prog_1_method_9_code 61 = .ok (.goto (-41), 3) := by decide +kernel
def M_lpK : Nat → List Int32 → Int32 → Int32 → List Int32 → List Int32 → Option (Int32 × Int32 × List Int32 × List Int32)
  | 0, _, _, _, _, _ => none
  | k + 1, xs, c4, i, xc, xd => (if i < (Own.ln xd) then (Own.rd xs i).bind fun v6 => (Own.rd xc v6).bind fun v9 => (if v9 = (-1 : Int32) then (Own.wt xc v6 c4).bind fun y16 => (Own.rd y16 v6).bind fun v20 => (Own.wt xd i v20).bind fun y22 => M_lpK k xs (c4 + (1 : Int32)) (i + (1 : Int32)) y16 y22 else (Own.rd xc v6).bind fun v28 => (Own.wt xd i v28).bind fun y30 => M_lpK k xs c4 (i + (1 : Int32)) xc y30) else some (c4, i, xc, xd))
theorem M_lpK_s (k : Nat) (xs : List Int32) (c4 : Int32) (i : Int32) (xc : List Int32) (xd : List Int32) : M_lpK (k + 1) xs c4 i xc xd = (if i < (Own.ln xd) then (Own.rd xs i).bind fun v6 => (Own.rd xc v6).bind fun v9 => (if v9 = (-1 : Int32) then (Own.wt xc v6 c4).bind fun y16 => (Own.rd y16 v6).bind fun v20 => (Own.wt xd i v20).bind fun y22 => M_lpK k xs (c4 + (1 : Int32)) (i + (1 : Int32)) y16 y22 else (Own.rd xc v6).bind fun v28 => (Own.wt xd i v28).bind fun y30 => M_lpK k xs c4 (i + (1 : Int32)) xc y30) else some (c4, i, xc, xd)) := rfl
set_option maxRecDepth 65536 in
set_option maxHeartbeats 40000000 in
theorem lpK {p : Program} {l : Launch} {e : Env} {R : Room} {s : State} {m : MethodId} {args : Array Value} {below : List Frame} {meth : Method} {c : Code} {Z : State} {a0 : Array Value} {n0 cells slots : Nat} (hx : p.tables.exec = Jvm.exec) (hZ : Z.Warmed39 s.vm) (hw : ∀ d ∈ tables_1, d.before a0 Z = true) (hby : c.code = prog_1_method_9_code) (hml : c.maxLocals = 7) (hown : s.vm.findClass "com/example/libpathsum/libpathsum/Blocks" = some m.cls) (o0 cb d : Addr) (p1 : Int32) (xs : List Int32) (ge_cb : n0 ≤ cb) (ge_d : n0 ≤ d) (ne_o0_cb : o0 ≠ cb) (ne_o0_d : o0 ≠ d) (ne_cb_d : cb ≠ d) (k : Nat) : ∀ {T0 : State} {locs : List Loc} {h0 : Heap} (c4 : Int32) (i : Int32) (xc : List Int32) (xd : List Int32) (s6 : Slot) (out : Int32 × Int32 × List Int32 × List Int32) (hM : M_lpK k xs c4 i xc xd = some out) (X0 : Stand p l e R s m args below meth c T0 locs cells slots) (e0 : T0.heap = h0) (N0 : Fr n0 locs) (Z0 : n0 ≤ h0.size) (os_s6 : One s6) (I_o0 : Own.IA Z h0 o0 xs) (I_cb : Own.IA Z h0 cb xc) (I_d : Own.IA Z h0 d xd),
    ∃ (T' : State) (locs' : List Loc) (h' : Heap) (s6' : Slot), Stand p l e R s m args below meth c T' locs' cells slots ∧ T'.heap = h' ∧ Fr n0 locs' ∧ n0 ≤ h'.size ∧ Keep h0 h' [cb, d] ∧ One s6' ∧ Own.IA Z h' cb out.2.2.1 ∧ Own.IA Z h' d out.2.2.2 ∧ Steps p.tables e below (T0.setTop (mkF m 20 #[.val (.ref o0), .val (.int p1), .val (.ref cb), .val (.ref d), .val (.int c4), .val (.int i), s6] [])) (T'.setTop (mkF m 64 #[.val (.ref o0), .val (.int p1), .val (.ref cb), .val (.ref d), .val (.int out.1), .val (.int out.2.1), s6'] [])) := by
  induction k with
  | zero => intro T0 locs h0 c4 i xc xd s6 out hM X0 e0 N0 Z0 os_s6 I_o0 I_cb I_d; cases hM
  | succ k ih =>
    intro T0 locs h0 c4 i xc xd s6 out hM X0 e0 N0 Z0 os_s6 I_o0 I_cb I_d
    rw [M_lpK_s] at hM
    have q0 : Steps p.tables e below (T0.setTop (mkF m 20 #[.val (.ref o0), .val (.int p1), .val (.ref cb), .val (.ref d), .val (.int c4), .val (.int i), s6] [])) (T0.setTop (mkF m 20 #[.val (.ref o0), .val (.int p1), .val (.ref cb), .val (.ref d), .val (.int c4), .val (.int i), s6] [])) := Steps.refl _
    have K0 : Keep h0 h0 [cb, d] := Keep.refl _ _
    have q1 : Steps p.tables e below (T0.setTop (mkF m 20 #[.val (.ref o0), .val (.int p1), .val (.ref cb), .val (.ref d), .val (.int c4), .val (.int i), s6] [])) (T0.setTop (mkF m 24 #[.val (.ref o0), .val (.int p1), .val (.ref cb), .val (.ref d), .val (.int c4), .val (.int i), s6] [(.int (Own.ln xd)), (.int i)])) := q0.trans (by
        show Steps p.tables e below (T0.setTop (mkF m 20 #[.val (.ref o0), .val (.int p1), .val (.ref cb), .val (.ref d), .val (.int c4), .val (.int i), s6] [])) _
        refine XS.iload X0.here hx rfl (hb hby d11_20) rfl ?_
        show Steps p.tables e below (T0.setTop (mkF m 22 #[.val (.ref o0), .val (.int p1), .val (.ref cb), .val (.ref d), .val (.int c4), .val (.int i), s6] [(.int i)])) _
        refine XS.aloadN X0.here hx rfl (hb hby d11_22) rfl rfl ?_
        show Steps p.tables e below (T0.setTop (mkF m 23 #[.val (.ref o0), .val (.int p1), .val (.ref cb), .val (.ref d), .val (.int c4), .val (.int i), s6] [(.ref d), (.int i)])) _
        refine Own.lnV X0 hx hZ e0 I_d (z := Own.ln xd) (by rw [List.length_map]; rfl) (g := (mkF m 23 #[.val (.ref o0), .val (.int p1), .val (.ref cb), .val (.ref d), .val (.int c4), .val (.int i), s6] [(.ref d), (.int i)])) rfl rfl (hb hby d11_23) _ ?_
        show Steps p.tables e below (T0.setTop (mkF m 24 #[.val (.ref o0), .val (.int p1), .val (.ref cb), .val (.ref d), .val (.int c4), .val (.int i), s6] [(.int (Own.ln xd)), (.int i)])) _
        exact Steps.refl _)
    by_cases hc3 : i < (Own.ln xd)
    · rw [if_pos hc3] at hM
      have q4 : Steps p.tables e below (T0.setTop (mkF m 20 #[.val (.ref o0), .val (.int p1), .val (.ref cb), .val (.ref d), .val (.int c4), .val (.int i), s6] [])) (T0.setTop (mkF m 27 #[.val (.ref o0), .val (.int p1), .val (.ref cb), .val (.ref d), .val (.int c4), .val (.int i), s6] [])) := q1.trans (by
          show Steps p.tables e below (T0.setTop (mkF m 24 #[.val (.ref o0), .val (.int p1), .val (.ref cb), .val (.ref d), .val (.int c4), .val (.int i), s6] [(.int (Own.ln xd)), (.int i)])) _
          refine XS.icmpNo X0.here hx rfl (hb hby d11_24) rfl (tlt hc3).2.1 ?_
          show Steps p.tables e below (T0.setTop (mkF m 27 #[.val (.ref o0), .val (.int p1), .val (.ref cb), .val (.ref d), .val (.int c4), .val (.int i), s6] [])) _
          exact Steps.refl _)
      have q5 : Steps p.tables e below (T0.setTop (mkF m 20 #[.val (.ref o0), .val (.int p1), .val (.ref cb), .val (.ref d), .val (.int c4), .val (.int i), s6] [])) (T0.setTop (mkF m 30 #[.val (.ref o0), .val (.int p1), .val (.ref cb), .val (.ref d), .val (.int c4), .val (.int i), s6] [(.int i), (.ref o0)])) := q4.trans (by
          show Steps p.tables e below (T0.setTop (mkF m 27 #[.val (.ref o0), .val (.int p1), .val (.ref cb), .val (.ref d), .val (.int c4), .val (.int i), s6] [])) _
          refine XS.aloadN X0.here hx rfl (hb hby d11_27) rfl rfl ?_
          show Steps p.tables e below (T0.setTop (mkF m 28 #[.val (.ref o0), .val (.int p1), .val (.ref cb), .val (.ref d), .val (.int c4), .val (.int i), s6] [(.ref o0)])) _
          refine XS.iload X0.here hx rfl (hb hby d11_28) rfl ?_
          show Steps p.tables e below (T0.setTop (mkF m 30 #[.val (.ref o0), .val (.int p1), .val (.ref cb), .val (.ref d), .val (.int c4), .val (.int i), s6] [(.int i), (.ref o0)])) _
          exact Steps.refl _)
      obtain ⟨v6, hv6, hM⟩ := Option.bind_eq_some_iff.mp hM
      have q7 : Steps p.tables e below (T0.setTop (mkF m 20 #[.val (.ref o0), .val (.int p1), .val (.ref cb), .val (.ref d), .val (.int c4), .val (.int i), s6] [])) (T0.setTop (mkF m 31 #[.val (.ref o0), .val (.int p1), .val (.ref cb), .val (.ref d), .val (.int c4), .val (.int i), s6] [(.int v6)])) := q5.trans (Own.ldO X0 hx hZ e0 I_o0 hv6 (g := (mkF m 30 #[.val (.ref o0), .val (.int p1), .val (.ref cb), .val (.ref d), .val (.int c4), .val (.int i), s6] [(.int i), (.ref o0)])) rfl rfl (hb hby d11_30) _ (Steps.refl _))
      have q8 : Steps p.tables e below (T0.setTop (mkF m 20 #[.val (.ref o0), .val (.int p1), .val (.ref cb), .val (.ref d), .val (.int c4), .val (.int i), s6] [])) (T0.setTop (mkF m 36 #[.val (.ref o0), .val (.int p1), .val (.ref cb), .val (.ref d), .val (.int c4), .val (.int i), .val (.int v6)] [(.int v6), (.ref cb)])) := q7.trans (by
          show Steps p.tables e below (T0.setTop (mkF m 31 #[.val (.ref o0), .val (.int p1), .val (.ref cb), .val (.ref d), .val (.int c4), .val (.int i), s6] [(.int v6)])) _
          refine XS.istoreS X0.here hx rfl (hb hby d11_31) rfl rfl os_s6 ?_
          show Steps p.tables e below (T0.setTop (mkF m 33 #[.val (.ref o0), .val (.int p1), .val (.ref cb), .val (.ref d), .val (.int c4), .val (.int i), .val (.int v6)] [])) _
          refine XS.aloadN X0.here hx rfl (hb hby d11_33) rfl rfl ?_
          show Steps p.tables e below (T0.setTop (mkF m 34 #[.val (.ref o0), .val (.int p1), .val (.ref cb), .val (.ref d), .val (.int c4), .val (.int i), .val (.int v6)] [(.ref cb)])) _
          refine XS.iload X0.here hx rfl (hb hby d11_34) rfl ?_
          show Steps p.tables e below (T0.setTop (mkF m 36 #[.val (.ref o0), .val (.int p1), .val (.ref cb), .val (.ref d), .val (.int c4), .val (.int i), .val (.int v6)] [(.int v6), (.ref cb)])) _
          exact Steps.refl _)
      obtain ⟨v9, hv9, hM⟩ := Option.bind_eq_some_iff.mp hM
      have q10 : Steps p.tables e below (T0.setTop (mkF m 20 #[.val (.ref o0), .val (.int p1), .val (.ref cb), .val (.ref d), .val (.int c4), .val (.int i), s6] [])) (T0.setTop (mkF m 37 #[.val (.ref o0), .val (.int p1), .val (.ref cb), .val (.ref d), .val (.int c4), .val (.int i), .val (.int v6)] [(.int v9)])) := q8.trans (Own.ldO X0 hx hZ e0 I_cb hv9 (g := (mkF m 36 #[.val (.ref o0), .val (.int p1), .val (.ref cb), .val (.ref d), .val (.int c4), .val (.int i), .val (.int v6)] [(.int v6), (.ref cb)])) rfl rfl (hb hby d11_36) _ (Steps.refl _))
      have q11 : Steps p.tables e below (T0.setTop (mkF m 20 #[.val (.ref o0), .val (.int p1), .val (.ref cb), .val (.ref d), .val (.int c4), .val (.int i), s6] [])) (T0.setTop (mkF m 38 #[.val (.ref o0), .val (.int p1), .val (.ref cb), .val (.ref d), .val (.int c4), .val (.int i), .val (.int v6)] [(.int (-1 : Int32)), (.int v9)])) := q10.trans (by
          show Steps p.tables e below (T0.setTop (mkF m 37 #[.val (.ref o0), .val (.int p1), .val (.ref cb), .val (.ref d), .val (.int c4), .val (.int i), .val (.int v6)] [(.int v9)])) _
          refine XS.iconst X0.here hx rfl (hb hby d11_37) ?_
          show Steps p.tables e below (T0.setTop (mkF m 38 #[.val (.ref o0), .val (.int p1), .val (.ref cb), .val (.ref d), .val (.int c4), .val (.int i), .val (.int v6)] [(.int (-1 : Int32)), (.int v9)])) _
          exact Steps.refl _)
      by_cases hc13 : v9 = (-1 : Int32)
      · rw [if_pos hc13] at hM
        have q14 : Steps p.tables e below (T0.setTop (mkF m 20 #[.val (.ref o0), .val (.int p1), .val (.ref cb), .val (.ref d), .val (.int c4), .val (.int i), s6] [])) (T0.setTop (mkF m 41 #[.val (.ref o0), .val (.int p1), .val (.ref cb), .val (.ref d), .val (.int c4), .val (.int i), .val (.int v6)] [])) := q11.trans (by
            show Steps p.tables e below (T0.setTop (mkF m 38 #[.val (.ref o0), .val (.int p1), .val (.ref cb), .val (.ref d), .val (.int c4), .val (.int i), .val (.int v6)] [(.int (-1 : Int32)), (.int v9)])) _
            refine XS.icmpNo X0.here hx rfl (hb hby d11_38) rfl (teq hc13).2 ?_
            show Steps p.tables e below (T0.setTop (mkF m 41 #[.val (.ref o0), .val (.int p1), .val (.ref cb), .val (.ref d), .val (.int c4), .val (.int i), .val (.int v6)] [])) _
            exact Steps.refl _)
        have q15 : Steps p.tables e below (T0.setTop (mkF m 20 #[.val (.ref o0), .val (.int p1), .val (.ref cb), .val (.ref d), .val (.int c4), .val (.int i), s6] [])) (T0.setTop (mkF m 49 #[.val (.ref o0), .val (.int p1), .val (.ref cb), .val (.ref d), .val (.int (c4 + (1 : Int32))), .val (.int i), .val (.int v6)] [(.int c4), (.int v6), (.ref cb)])) := q14.trans (by
            show Steps p.tables e below (T0.setTop (mkF m 41 #[.val (.ref o0), .val (.int p1), .val (.ref cb), .val (.ref d), .val (.int c4), .val (.int i), .val (.int v6)] [])) _
            refine XS.aloadN X0.here hx rfl (hb hby d11_41) rfl rfl ?_
            show Steps p.tables e below (T0.setTop (mkF m 42 #[.val (.ref o0), .val (.int p1), .val (.ref cb), .val (.ref d), .val (.int c4), .val (.int i), .val (.int v6)] [(.ref cb)])) _
            refine XS.iload X0.here hx rfl (hb hby d11_42) rfl ?_
            show Steps p.tables e below (T0.setTop (mkF m 44 #[.val (.ref o0), .val (.int p1), .val (.ref cb), .val (.ref d), .val (.int c4), .val (.int i), .val (.int v6)] [(.int v6), (.ref cb)])) _
            refine XS.iload X0.here hx rfl (hb hby d11_44) rfl ?_
            show Steps p.tables e below (T0.setTop (mkF m 46 #[.val (.ref o0), .val (.int p1), .val (.ref cb), .val (.ref d), .val (.int c4), .val (.int i), .val (.int v6)] [(.int c4), (.int v6), (.ref cb)])) _
            refine XS.iinc X0.here hx rfl (hb hby d11_46) rfl (l' := #[.val (.ref o0), .val (.int p1), .val (.ref cb), .val (.ref d), .val (.int (c4 + (1 : Int32))), .val (.int i), .val (.int v6)]) rfl ?_
            show Steps p.tables e below (T0.setTop (mkF m 49 #[.val (.ref o0), .val (.int p1), .val (.ref cb), .val (.ref d), .val (.int (c4 + (1 : Int32))), .val (.int i), .val (.int v6)] [(.int c4), (.int v6), (.ref cb)])) _
            exact Steps.refl _)
        obtain ⟨y16, hy16, hM⟩ := Option.bind_eq_some_iff.mp hM
        obtain ⟨T17, h17, X17, e17, W17, J17, st17⟩ := Own.stO X0 hx hZ e0 I_cb hy16 (g := (mkF m 49 #[.val (.ref o0), .val (.int p1), .val (.ref cb), .val (.ref d), .val (.int (c4 + (1 : Int32))), .val (.int i), .val (.int v6)] [(.int c4), (.int v6), (.ref cb)])) rfl rfl (hb hby d11_49)
        have N17 := Fr.snoc X17 N0 ge_cb
        have Io0_17 := I_o0.other W17 ne_o0_cb
        have Id_17 := I_d.other W17 (Ne.symm ne_cb_d)
        have Z17 : n0 ≤ h17.size := Own.size_wr W17 Z0
        have K17 : Keep h0 h17 [cb, d] := K0.wr W17 (Or.inl (List.mem_of_getElem? (i := 0) rfl))
        have q18 : Steps p.tables e below (T0.setTop (mkF m 20 #[.val (.ref o0), .val (.int p1), .val (.ref cb), .val (.ref d), .val (.int c4), .val (.int i), s6] [])) (T17.setTop (mkF m 50 #[.val (.ref o0), .val (.int p1), .val (.ref cb), .val (.ref d), .val (.int (c4 + (1 : Int32))), .val (.int i), .val (.int v6)] [])) := q15.trans (st17 _ (Steps.refl _))
        have q19 : Steps p.tables e below (T0.setTop (mkF m 20 #[.val (.ref o0), .val (.int p1), .val (.ref cb), .val (.ref d), .val (.int c4), .val (.int i), s6] [])) (T17.setTop (mkF m 56 #[.val (.ref o0), .val (.int p1), .val (.ref cb), .val (.ref d), .val (.int (c4 + (1 : Int32))), .val (.int i), .val (.int v6)] [(.int v6), (.ref cb), (.int i), (.ref d)])) := q18.trans (by
            show Steps p.tables e below (T17.setTop (mkF m 50 #[.val (.ref o0), .val (.int p1), .val (.ref cb), .val (.ref d), .val (.int (c4 + (1 : Int32))), .val (.int i), .val (.int v6)] [])) _
            refine XS.aloadN X17.here hx rfl (hb hby d11_50) rfl rfl ?_
            show Steps p.tables e below (T17.setTop (mkF m 51 #[.val (.ref o0), .val (.int p1), .val (.ref cb), .val (.ref d), .val (.int (c4 + (1 : Int32))), .val (.int i), .val (.int v6)] [(.ref d)])) _
            refine XS.iload X17.here hx rfl (hb hby d11_51) rfl ?_
            show Steps p.tables e below (T17.setTop (mkF m 53 #[.val (.ref o0), .val (.int p1), .val (.ref cb), .val (.ref d), .val (.int (c4 + (1 : Int32))), .val (.int i), .val (.int v6)] [(.int i), (.ref d)])) _
            refine XS.aloadN X17.here hx rfl (hb hby d11_53) rfl rfl ?_
            show Steps p.tables e below (T17.setTop (mkF m 54 #[.val (.ref o0), .val (.int p1), .val (.ref cb), .val (.ref d), .val (.int (c4 + (1 : Int32))), .val (.int i), .val (.int v6)] [(.ref cb), (.int i), (.ref d)])) _
            refine XS.iload X17.here hx rfl (hb hby d11_54) rfl ?_
            show Steps p.tables e below (T17.setTop (mkF m 56 #[.val (.ref o0), .val (.int p1), .val (.ref cb), .val (.ref d), .val (.int (c4 + (1 : Int32))), .val (.int i), .val (.int v6)] [(.int v6), (.ref cb), (.int i), (.ref d)])) _
            exact Steps.refl _)
        obtain ⟨v20, hv20, hM⟩ := Option.bind_eq_some_iff.mp hM
        have q21 : Steps p.tables e below (T0.setTop (mkF m 20 #[.val (.ref o0), .val (.int p1), .val (.ref cb), .val (.ref d), .val (.int c4), .val (.int i), s6] [])) (T17.setTop (mkF m 57 #[.val (.ref o0), .val (.int p1), .val (.ref cb), .val (.ref d), .val (.int (c4 + (1 : Int32))), .val (.int i), .val (.int v6)] [(.int v20), (.int i), (.ref d)])) := q19.trans (Own.ldO X17 hx hZ e17 J17 hv20 (g := (mkF m 56 #[.val (.ref o0), .val (.int p1), .val (.ref cb), .val (.ref d), .val (.int (c4 + (1 : Int32))), .val (.int i), .val (.int v6)] [(.int v6), (.ref cb), (.int i), (.ref d)])) rfl rfl (hb hby d11_56) _ (Steps.refl _))
        obtain ⟨y22, hy22, hM⟩ := Option.bind_eq_some_iff.mp hM
        obtain ⟨T23, h23, X23, e23, W23, J23, st23⟩ := Own.stO X17 hx hZ e17 Id_17 hy22 (g := (mkF m 57 #[.val (.ref o0), .val (.int p1), .val (.ref cb), .val (.ref d), .val (.int (c4 + (1 : Int32))), .val (.int i), .val (.int v6)] [(.int v20), (.int i), (.ref d)])) rfl rfl (hb hby d11_57)
        have N23 := Fr.snoc X23 N17 ge_d
        have Io0_23 := Io0_17.other W23 ne_o0_d
        have Icb_23 := J17.other W23 ne_cb_d
        have Z23 : n0 ≤ h23.size := Own.size_wr W23 Z17
        have K23 : Keep h0 h23 [cb, d] := K17.wr W23 (Or.inl (List.mem_of_getElem? (i := 1) rfl))
        have q24 : Steps p.tables e below (T0.setTop (mkF m 20 #[.val (.ref o0), .val (.int p1), .val (.ref cb), .val (.ref d), .val (.int c4), .val (.int i), s6] [])) (T23.setTop (mkF m 58 #[.val (.ref o0), .val (.int p1), .val (.ref cb), .val (.ref d), .val (.int (c4 + (1 : Int32))), .val (.int i), .val (.int v6)] [])) := q21.trans (st23 _ (Steps.refl _))
        have q25 : Steps p.tables e below (T0.setTop (mkF m 20 #[.val (.ref o0), .val (.int p1), .val (.ref cb), .val (.ref d), .val (.int c4), .val (.int i), s6] [])) (T23.setTop (mkF m 20 #[.val (.ref o0), .val (.int p1), .val (.ref cb), .val (.ref d), .val (.int (c4 + (1 : Int32))), .val (.int (i + (1 : Int32))), .val (.int v6)] [])) := q24.trans (by
            show Steps p.tables e below (T23.setTop (mkF m 58 #[.val (.ref o0), .val (.int p1), .val (.ref cb), .val (.ref d), .val (.int (c4 + (1 : Int32))), .val (.int i), .val (.int v6)] [])) _
            refine XS.iinc X23.here hx rfl (hb hby d11_58) rfl (l' := #[.val (.ref o0), .val (.int p1), .val (.ref cb), .val (.ref d), .val (.int (c4 + (1 : Int32))), .val (.int (i + (1 : Int32))), .val (.int v6)]) rfl ?_
            show Steps p.tables e below (T23.setTop (mkF m 61 #[.val (.ref o0), .val (.int p1), .val (.ref cb), .val (.ref d), .val (.int (c4 + (1 : Int32))), .val (.int (i + (1 : Int32))), .val (.int v6)] [])) _
            refine XS.goto X23.here hx rfl (pc0 := 61) (pc' := 20) rfl (hb hby d11_61) (by decide) (by decide) ?_
            show Steps p.tables e below (T23.setTop (mkF m 20 #[.val (.ref o0), .val (.int p1), .val (.ref cb), .val (.ref d), .val (.int (c4 + (1 : Int32))), .val (.int (i + (1 : Int32))), .val (.int v6)] [])) _
            exact Steps.refl _)
        obtain ⟨T', locs', h', u0, X', e', N', Z', K', o0_, J0', J1', q'⟩ := ih (c4 + (1 : Int32)) (i + (1 : Int32)) y16 y22 (.val (.int v6)) _ hM X23 e23 N23 Z23 (One.val rfl) Io0_23 Icb_23 J23
        exact ⟨T', locs', h', u0, X', e', N', Z', K23.trans K' (fun _ hx' => Or.inl hx'), o0_, J0', J1', q25.trans q'⟩
      · rw [if_neg hc13] at hM
        have q26 : Steps p.tables e below (T0.setTop (mkF m 20 #[.val (.ref o0), .val (.int p1), .val (.ref cb), .val (.ref d), .val (.int c4), .val (.int i), s6] [])) (T0.setTop (mkF m 50 #[.val (.ref o0), .val (.int p1), .val (.ref cb), .val (.ref d), .val (.int c4), .val (.int i), .val (.int v6)] [])) := q11.trans (by
            show Steps p.tables e below (T0.setTop (mkF m 38 #[.val (.ref o0), .val (.int p1), .val (.ref cb), .val (.ref d), .val (.int c4), .val (.int i), .val (.int v6)] [(.int (-1 : Int32)), (.int v9)])) _
            refine XS.icmpYes X0.here hx rfl (pc0 := 38) (pc' := 50) rfl (hb hby d11_38) rfl (feq hc13).2 (by decide) (by decide) ?_
            show Steps p.tables e below (T0.setTop (mkF m 50 #[.val (.ref o0), .val (.int p1), .val (.ref cb), .val (.ref d), .val (.int c4), .val (.int i), .val (.int v6)] [])) _
            exact Steps.refl _)
        have q27 : Steps p.tables e below (T0.setTop (mkF m 20 #[.val (.ref o0), .val (.int p1), .val (.ref cb), .val (.ref d), .val (.int c4), .val (.int i), s6] [])) (T0.setTop (mkF m 56 #[.val (.ref o0), .val (.int p1), .val (.ref cb), .val (.ref d), .val (.int c4), .val (.int i), .val (.int v6)] [(.int v6), (.ref cb), (.int i), (.ref d)])) := q26.trans (by
            show Steps p.tables e below (T0.setTop (mkF m 50 #[.val (.ref o0), .val (.int p1), .val (.ref cb), .val (.ref d), .val (.int c4), .val (.int i), .val (.int v6)] [])) _
            refine XS.aloadN X0.here hx rfl (hb hby d11_50) rfl rfl ?_
            show Steps p.tables e below (T0.setTop (mkF m 51 #[.val (.ref o0), .val (.int p1), .val (.ref cb), .val (.ref d), .val (.int c4), .val (.int i), .val (.int v6)] [(.ref d)])) _
            refine XS.iload X0.here hx rfl (hb hby d11_51) rfl ?_
            show Steps p.tables e below (T0.setTop (mkF m 53 #[.val (.ref o0), .val (.int p1), .val (.ref cb), .val (.ref d), .val (.int c4), .val (.int i), .val (.int v6)] [(.int i), (.ref d)])) _
            refine XS.aloadN X0.here hx rfl (hb hby d11_53) rfl rfl ?_
            show Steps p.tables e below (T0.setTop (mkF m 54 #[.val (.ref o0), .val (.int p1), .val (.ref cb), .val (.ref d), .val (.int c4), .val (.int i), .val (.int v6)] [(.ref cb), (.int i), (.ref d)])) _
            refine XS.iload X0.here hx rfl (hb hby d11_54) rfl ?_
            show Steps p.tables e below (T0.setTop (mkF m 56 #[.val (.ref o0), .val (.int p1), .val (.ref cb), .val (.ref d), .val (.int c4), .val (.int i), .val (.int v6)] [(.int v6), (.ref cb), (.int i), (.ref d)])) _
            exact Steps.refl _)
        obtain ⟨v28, hv28, hM⟩ := Option.bind_eq_some_iff.mp hM
        have q29 : Steps p.tables e below (T0.setTop (mkF m 20 #[.val (.ref o0), .val (.int p1), .val (.ref cb), .val (.ref d), .val (.int c4), .val (.int i), s6] [])) (T0.setTop (mkF m 57 #[.val (.ref o0), .val (.int p1), .val (.ref cb), .val (.ref d), .val (.int c4), .val (.int i), .val (.int v6)] [(.int v28), (.int i), (.ref d)])) := q27.trans (Own.ldO X0 hx hZ e0 I_cb hv28 (g := (mkF m 56 #[.val (.ref o0), .val (.int p1), .val (.ref cb), .val (.ref d), .val (.int c4), .val (.int i), .val (.int v6)] [(.int v6), (.ref cb), (.int i), (.ref d)])) rfl rfl (hb hby d11_56) _ (Steps.refl _))
        obtain ⟨y30, hy30, hM⟩ := Option.bind_eq_some_iff.mp hM
        obtain ⟨T31, h31, X31, e31, W31, J31, st31⟩ := Own.stO X0 hx hZ e0 I_d hy30 (g := (mkF m 57 #[.val (.ref o0), .val (.int p1), .val (.ref cb), .val (.ref d), .val (.int c4), .val (.int i), .val (.int v6)] [(.int v28), (.int i), (.ref d)])) rfl rfl (hb hby d11_57)
        have N31 := Fr.snoc X31 N0 ge_d
        have Io0_31 := I_o0.other W31 ne_o0_d
        have Icb_31 := I_cb.other W31 ne_cb_d
        have Z31 : n0 ≤ h31.size := Own.size_wr W31 Z0
        have K31 : Keep h0 h31 [cb, d] := K0.wr W31 (Or.inl (List.mem_of_getElem? (i := 1) rfl))
        have q32 : Steps p.tables e below (T0.setTop (mkF m 20 #[.val (.ref o0), .val (.int p1), .val (.ref cb), .val (.ref d), .val (.int c4), .val (.int i), s6] [])) (T31.setTop (mkF m 58 #[.val (.ref o0), .val (.int p1), .val (.ref cb), .val (.ref d), .val (.int c4), .val (.int i), .val (.int v6)] [])) := q29.trans (st31 _ (Steps.refl _))
        have q33 : Steps p.tables e below (T0.setTop (mkF m 20 #[.val (.ref o0), .val (.int p1), .val (.ref cb), .val (.ref d), .val (.int c4), .val (.int i), s6] [])) (T31.setTop (mkF m 20 #[.val (.ref o0), .val (.int p1), .val (.ref cb), .val (.ref d), .val (.int c4), .val (.int (i + (1 : Int32))), .val (.int v6)] [])) := q32.trans (by
            show Steps p.tables e below (T31.setTop (mkF m 58 #[.val (.ref o0), .val (.int p1), .val (.ref cb), .val (.ref d), .val (.int c4), .val (.int i), .val (.int v6)] [])) _
            refine XS.iinc X31.here hx rfl (hb hby d11_58) rfl (l' := #[.val (.ref o0), .val (.int p1), .val (.ref cb), .val (.ref d), .val (.int c4), .val (.int (i + (1 : Int32))), .val (.int v6)]) rfl ?_
            show Steps p.tables e below (T31.setTop (mkF m 61 #[.val (.ref o0), .val (.int p1), .val (.ref cb), .val (.ref d), .val (.int c4), .val (.int (i + (1 : Int32))), .val (.int v6)] [])) _
            refine XS.goto X31.here hx rfl (pc0 := 61) (pc' := 20) rfl (hb hby d11_61) (by decide) (by decide) ?_
            show Steps p.tables e below (T31.setTop (mkF m 20 #[.val (.ref o0), .val (.int p1), .val (.ref cb), .val (.ref d), .val (.int c4), .val (.int (i + (1 : Int32))), .val (.int v6)] [])) _
            exact Steps.refl _)
        obtain ⟨T', locs', h', u0, X', e', N', Z', K', o0_, J0', J1', q'⟩ := ih c4 (i + (1 : Int32)) xc y30 (.val (.int v6)) _ hM X31 e31 N31 Z31 (One.val rfl) Io0_31 Icb_31 J31
        exact ⟨T', locs', h', u0, X', e', N', Z', K31.trans K' (fun _ hx' => Or.inl hx'), o0_, J0', J1', q33.trans q'⟩
    · rw [if_neg hc3] at hM
      have q34 : Steps p.tables e below (T0.setTop (mkF m 20 #[.val (.ref o0), .val (.int p1), .val (.ref cb), .val (.ref d), .val (.int c4), .val (.int i), s6] [])) (T0.setTop (mkF m 64 #[.val (.ref o0), .val (.int p1), .val (.ref cb), .val (.ref d), .val (.int c4), .val (.int i), s6] [])) := q1.trans (by
          show Steps p.tables e below (T0.setTop (mkF m 24 #[.val (.ref o0), .val (.int p1), .val (.ref cb), .val (.ref d), .val (.int c4), .val (.int i), s6] [(.int (Own.ln xd)), (.int i)])) _
          refine XS.icmpYes X0.here hx rfl (pc0 := 24) (pc' := 64) rfl (hb hby d11_24) rfl (flt hc3).2.1 (by decide) (by decide) ?_
          show Steps p.tables e below (T0.setTop (mkF m 64 #[.val (.ref o0), .val (.int p1), .val (.ref cb), .val (.ref d), .val (.int c4), .val (.int i), s6] [])) _
          exact Steps.refl _)
      obtain rfl := Option.some.inj hM
      exact ⟨_, _, _, s6, X0, e0, N0, Z0, K0, os_s6, I_cb, I_d, q34⟩

theorem d11_0 : decode prog_1_method_9_code 0 = .ok (.iload_n 1, 1) := by decide +kernel
theorem d11_1 : decode prog_1_method_9_code 1 = .ok (.newarray .int, 2) := by decide +kernel
theorem d11_3 : decode prog_1_method_9_code 3 = .ok (.astore_n 2, 1) := by decide +kernel
theorem d11_4 : decode prog_1_method_9_code 4 = .ok (.aload_n 2, 1) := by decide +kernel
theorem d11_5 : decode prog_1_method_9_code 5 = .ok (.iconst (-1), 1) := by decide +kernel
theorem d11_6 : decode prog_1_method_9_code 6 = .ok (.invokestatic 60, 3) := by decide +kernel
theorem d11_9 : decode prog_1_method_9_code 9 = .ok (.aload_n 0, 1) := by decide +kernel
theorem d11_10 : decode prog_1_method_9_code 10 = .ok (.arraylength, 1) := by decide +kernel
theorem d11_11 : decode prog_1_method_9_code 11 = .ok (.newarray .int, 2) := by decide +kernel
theorem d11_13 : decode prog_1_method_9_code 13 = .ok (.astore_n 3, 1) := by decide +kernel
theorem d11_14 : decode prog_1_method_9_code 14 = .ok (.iconst 0, 1) := by decide +kernel
theorem d11_15 : decode prog_1_method_9_code 15 = .ok (.istore 4, 2) := by decide +kernel
theorem d11_17 : decode prog_1_method_9_code 17 = .ok (.iconst 0, 1) := by decide +kernel
theorem d11_18 : decode prog_1_method_9_code 18 = .ok (.istore 5, 2) := by decide +kernel
theorem d11_64 : decode prog_1_method_9_code 64 = .ok (.aload_n 3, 1) := by decide +kernel
theorem d11_65 : decode prog_1_method_9_code 65 = .ok (.areturn, 1) := by decide +kernel
theorem pd_3 : parseMethodDescriptor "([II)V" = some ⟨[(.array .int), .int], none⟩ := by decide +kernel
theorem pn_rmK : plainName "com/example/libpathsum/libpathsum/Blocks" = true := by first | (simp [plainName, overriddenIn]; done) | decide +kernel
theorem ef_rmK (m : MethodId) (o0 : Addr) (p1 : Int32) : entryFrame m #[(.ref o0), (.int p1)] 7 = mkF m 0 #[.val (.ref o0), .val (.int p1), .unset, .unset, .unset, .unset, .unset] [] := by first | (simp [entryFrame, mkF, argsToLocals, Value.category]; done) | rfl
def M_cls (p1 : Int32) (xs : List Int32) : Option (List Int32) := (Own.mk 4 p1).bind fun y2 => (M_fill (-1 : Int32) y2).bind fun r6 => (Own.mk 4 (Own.ln xs)).bind fun y10 => (M_lpK 8 xs (0 : Int32) (0 : Int32) r6 y10).bind fun r14 => some r14.2.2.2
def Q_rmK (Z : State) (o0 : Addr) (p1 : Int32) (xs : List Int32) (out : List Int32) (h0 : Heap) (n0 : Nat) (v : Option Value) (h : Heap) (L : List Loc) : Prop := ∃ d : Addr, v = some (.ref d) ∧ Fr n0 L ∧ Keep h0 h [] ∧ h0.size ≤ d ∧ Own.IA Z h d out
set_option maxRecDepth 65536 in
set_option maxHeartbeats 40000000 in
theorem rmK (l : Launch) (Z : State) (a0 : Array Value) (hw : ∀ d ∈ tables_1, d.before a0 Z = true) (ws : List Jvm.Cond) (o0 : Addr) (p1 : Int32) (xs : List Int32) (out : List Int32) (h0 : Heap) (n0 : Nat) (Z0 : n0 ≤ h0.size) (I_o0 : Own.IA Z h0 o0 xs) (hM : M_cls p1 xs = some out) :
    MetFree l (⟨"com/example/libpathsum/libpathsum/Blocks", "classes", "([II)[I"⟩ : MethodName) (head1 (Jvm.Cond.code (⟨"com/example/libpathsum/libpathsum/Blocks", "classes", "([II)[I"⟩ : MethodName) prog_1_method_9_code 7 (some (.array .int)) :: ws) ({ frames := 1, cells := 2, slots := 8, locals := 15 } : Room)) (fun a U => a = #[(.ref o0), (.int p1)] ∧ Z.Warmed39 U.vm ∧ U.heap = h0) (fun _ _ _ _ _ => True) (fun _ U o U' => ∃ v L, o = .returned v ∧ Q_rmK Z o0 p1 xs out h0 n0 v U'.heap L ∧ FrameEnd U o U' L ({ frames := 1, cells := 2, slots := 8, locals := 15 } : Room).cells ({ frames := 1, cells := 2, slots := 8, locals := 15 } : Room).slots) := by
  refine MetFree.of_bodySF (plainFor_of_name pn_rmK) hisR ?_
  intro p e s m args below meth c s₁ Bd hml0 hP hK
  obtain ⟨rfl, hZ, hh⟩ := hP
  have hx := Bd.exec
  have hby := Bd.bytes
  have hml : c.maxLocals = 7 := hml0
  have hown : s.vm.findClass "com/example/libpathsum/libpathsum/Blocks" = some m.cls := findClass_of_methodNamed Bd.named
  have hnm := (name_of_methodNamed Bd.named Bd.method).1
  have X0 : Stand p l e ({ frames := 1, cells := 2, slots := 8, locals := 15 } : Room) s m #[(.ref o0), (.int p1)] below meth c s₁ [] 0 0 := Stand.of_body Bd
  have e0 : s₁.heap = h0 := by rw [← hh, Bd.state]; rfl
  have N0 := Fr.nil n0
  have q0 : Steps p.tables e below (s₁.setTop (entryFrame m #[(.ref o0), (.int p1)] 7)) (s₁.setTop (mkF m 0 #[.val (.ref o0), .val (.int p1), .unset, .unset, .unset, .unset, .unset] [])) := castTop (ef_rmK m o0 p1) (Steps.refl _)
  unfold M_cls at hM
  have K0 : Keep h0 h0 [] := Keep.refl _ _
  have q1 : Steps p.tables e below (s₁.setTop (entryFrame m #[(.ref o0), (.int p1)] 7)) (s₁.setTop (mkF m 1 #[.val (.ref o0), .val (.int p1), .unset, .unset, .unset, .unset, .unset] [(.int p1)])) := q0.trans (by
      show Steps p.tables e below (s₁.setTop (mkF m 0 #[.val (.ref o0), .val (.int p1), .unset, .unset, .unset, .unset, .unset] [])) _
      refine XS.iloadN X0.here hx rfl (hb hby d11_0) rfl ?_
      show Steps p.tables e below (s₁.setTop (mkF m 1 #[.val (.ref o0), .val (.int p1), .unset, .unset, .unset, .unset, .unset] [(.int p1)])) _
      exact Steps.refl _)
  obtain ⟨y2, hy2, hM⟩ := Option.bind_eq_some_iff.mp hM
  obtain ⟨T3, h3, k3, X3, e3, E3, A3, AE3, st3⟩ := newPE X0 hx hZ (hw _ (List.mem_of_getElem? (i := 0) rfl)) e0 (g := (mkF m 1 #[.val (.ref o0), .val (.int p1), .unset, .unset, .unset, .unset, .unset] [(.int p1)])) rfl (hb hby d11_1) rfl (Own.mk_some hy2).1 (cap := 4) (Own.mk_some hy2).2.1 (by decide) (by decide) (by decide) (ad := "[I") (by decide)
  obtain ⟨cb, g3⟩ : ∃ z, z = h0.size := ⟨_, rfl⟩
  rw [← g3] at A3 AE3 st3
  have ge_cb : n0 ≤ cb := Nat.le_trans Z0 (Nat.le_of_eq g3.symm)
  have ne_o0_cb : o0 ≠ cb := Nat.ne_of_lt (Nat.lt_of_lt_of_le I_o0.lt (Nat.le_of_eq g3.symm))
  have old_cb : h0.size ≤ cb := Nat.le_trans K0.1 (Nat.le_of_eq g3.symm)
  have Io0_3 := I_o0.ext E3
  have Z3 : n0 ≤ h3.size := Nat.le_trans Z0 E3.1
  have K3 : Keep h0 h3 [] := K0.ext E3
  have I_cb : Own.IA Z h3 cb y2 := (Own.mk_some hy2).2.2 ▸ Own.IA.new A3 rfl
  have q4 : Steps p.tables e below (s₁.setTop (entryFrame m #[(.ref o0), (.int p1)] 7)) (T3.setTop (mkF m 3 #[.val (.ref o0), .val (.int p1), .unset, .unset, .unset, .unset, .unset] [(.ref cb)])) := q1.trans (st3 _ (Steps.refl _))
  have q5 : Steps p.tables e below (s₁.setTop (entryFrame m #[(.ref o0), (.int p1)] 7)) (T3.setTop (mkF m 6 #[.val (.ref o0), .val (.int p1), .val (.ref cb), .unset, .unset, .unset, .unset] [(.int (-1 : Int32)), (.ref cb)])) := q4.trans (by
      show Steps p.tables e below (T3.setTop (mkF m 3 #[.val (.ref o0), .val (.int p1), .unset, .unset, .unset, .unset, .unset] [(.ref cb)])) _
      refine XS.astoreN X3.here hx rfl (hb hby d11_3) rfl rfl (l' := #[.val (.ref o0), .val (.int p1), .val (.ref cb), .unset, .unset, .unset, .unset]) rfl ?_
      show Steps p.tables e below (T3.setTop (mkF m 4 #[.val (.ref o0), .val (.int p1), .val (.ref cb), .unset, .unset, .unset, .unset] [])) _
      refine XS.aloadN X3.here hx rfl (hb hby d11_4) rfl rfl ?_
      show Steps p.tables e below (T3.setTop (mkF m 5 #[.val (.ref o0), .val (.int p1), .val (.ref cb), .unset, .unset, .unset, .unset] [(.ref cb)])) _
      refine XS.iconst X3.here hx rfl (hb hby d11_5) ?_
      show Steps p.tables e below (T3.setTop (mkF m 6 #[.val (.ref o0), .val (.int p1), .val (.ref cb), .unset, .unset, .unset, .unset] [(.int (-1 : Int32)), (.ref cb)])) _
      exact Steps.refl _)
  obtain ⟨r6, hr6, hM⟩ := Option.bind_eq_some_iff.mp hM
  obtain ⟨_, _, ⟨T7, L7, k7, n7⟩, -, X7, ⟨Lc7, hQ7, l7, y7, z7⟩, st7⟩ := Jvm.LawKit.callS X3 hx (y := (⟨"java/util/Arrays", "fill", "([II)V"⟩ : MethodName)) hown (mvT hZ (hw _ (List.mem_of_getElem? (i := 76) rfl))) (mvT hZ (hw _ (List.mem_of_getElem? (i := 77) rfl))) (mvT hZ (hw _ (List.mem_of_getElem? (i := 20) rfl))) (mvT hZ (hw _ (List.mem_of_getElem? (i := 78) rfl))) (by decide) (backOf (W := 0) (rmFl l Z a0 hw [] cb (-1 : Int32)  y2 r6 h3 n0 Z3 I_cb ge_cb hr6) hZ (hw _ (List.mem_of_getElem? (i := 78) rfl)) (hw _ (List.mem_of_getElem? (i := 20) rfl)) (by decide) (by decide)) (g := (mkF m 6 #[.val (.ref o0), .val (.int p1), .val (.ref cb), .unset, .unset, .unset, .unset] [(.int (-1 : Int32)), (.ref cb)])) rfl (by rw [hml]; rfl) (argsL := [(.ref cb), (.int (-1 : Int32))]) (rest := []) (lenOf pd_3 rfl) rfl (by show 2 * 0 + _ ≤ _; exact Nat.le_of_eq rfl) (hb hby d11_6) (fun _ _ => ⟨rfl, e3, (by decide : 1 + 0 ≤ _), (by decide : 4 + 0 ≤ _)⟩)
  dsimp only [Pt.U, Pt.locs, Pt.cells, Pt.slots] at X7 l7 y7 z7 st7 hQ7
  subst l7 y7 z7
  obtain ⟨rfl, N7q, K7, J7_0⟩ := hQ7
  have N7 := Fr.app N0 N7q
  have Io0_7 := Io0_3.keep K7 (ninS ne_o0_cb nin0)
  have Z7 : n0 ≤ T7.heap.size := Nat.le_trans Z3 K7.1
  have KK7 : Keep h0 T7.heap [] := K3.trans K7 (allS (Or.inr old_cb) all0)
  have q8 : Steps p.tables e below (s₁.setTop (entryFrame m #[(.ref o0), (.int p1)] 7)) (T7.setTop (mkF m 9 #[.val (.ref o0), .val (.int p1), .val (.ref cb), .unset, .unset, .unset, .unset] [])) := q5.trans (st7 _ (Steps.refl _))
  have q9 : Steps p.tables e below (s₁.setTop (entryFrame m #[(.ref o0), (.int p1)] 7)) (T7.setTop (mkF m 11 #[.val (.ref o0), .val (.int p1), .val (.ref cb), .unset, .unset, .unset, .unset] [(.int (Own.ln xs))])) := q8.trans (by
      show Steps p.tables e below (T7.setTop (mkF m 9 #[.val (.ref o0), .val (.int p1), .val (.ref cb), .unset, .unset, .unset, .unset] [])) _
      refine XS.aloadN X7.here hx rfl (hb hby d11_9) rfl rfl ?_
      show Steps p.tables e below (T7.setTop (mkF m 10 #[.val (.ref o0), .val (.int p1), .val (.ref cb), .unset, .unset, .unset, .unset] [(.ref o0)])) _
      refine Own.lnV X7 hx hZ rfl Io0_7 (z := Own.ln xs) (by rw [List.length_map]; rfl) (g := (mkF m 10 #[.val (.ref o0), .val (.int p1), .val (.ref cb), .unset, .unset, .unset, .unset] [(.ref o0)])) rfl rfl (hb hby d11_10) _ ?_
      show Steps p.tables e below (T7.setTop (mkF m 11 #[.val (.ref o0), .val (.int p1), .val (.ref cb), .unset, .unset, .unset, .unset] [(.int (Own.ln xs))])) _
      exact Steps.refl _)
  obtain ⟨y10, hy10, hM⟩ := Option.bind_eq_some_iff.mp hM
  obtain ⟨T11, h11, k11, X11, e11, E11, A11, AE11, st11⟩ := newPE X7 hx hZ (hw _ (List.mem_of_getElem? (i := 0) rfl)) rfl (g := (mkF m 11 #[.val (.ref o0), .val (.int p1), .val (.ref cb), .unset, .unset, .unset, .unset] [(.int (Own.ln xs))])) rfl (hb hby d11_11) rfl (Own.mk_some hy10).1 (cap := 4) (Own.mk_some hy10).2.1 (by decide) (by decide) (by decide) (ad := "[I") (by decide)
  obtain ⟨d, g11⟩ : ∃ z, z = T7.heap.size := ⟨_, rfl⟩
  rw [← g11] at A11 AE11 st11
  have ge_d : n0 ≤ d := Nat.le_trans Z7 (Nat.le_of_eq g11.symm)
  have ne_o0_d : o0 ≠ d := Nat.ne_of_lt (Nat.lt_of_lt_of_le Io0_7.lt (Nat.le_of_eq g11.symm))
  have ne_cb_d : cb ≠ d := Nat.ne_of_lt (Nat.lt_of_lt_of_le J7_0.lt (Nat.le_of_eq g11.symm))
  have old_d : h0.size ≤ d := Nat.le_trans KK7.1 (Nat.le_of_eq g11.symm)
  have Io0_11 := Io0_7.ext E11
  have Icb_11 := J7_0.ext E11
  have Z11 : n0 ≤ h11.size := Nat.le_trans Z7 E11.1
  have K11 : Keep h0 h11 [] := KK7.ext E11
  have I_d : Own.IA Z h11 d y10 := (Own.mk_some hy10).2.2 ▸ Own.IA.new A11 rfl
  have q12 : Steps p.tables e below (s₁.setTop (entryFrame m #[(.ref o0), (.int p1)] 7)) (T11.setTop (mkF m 13 #[.val (.ref o0), .val (.int p1), .val (.ref cb), .unset, .unset, .unset, .unset] [(.ref d)])) := q9.trans (st11 _ (Steps.refl _))
  have q13 : Steps p.tables e below (s₁.setTop (entryFrame m #[(.ref o0), (.int p1)] 7)) (T11.setTop (mkF m 20 #[.val (.ref o0), .val (.int p1), .val (.ref cb), .val (.ref d), .val (.int (0 : Int32)), .val (.int (0 : Int32)), .unset] [])) := q12.trans (by
      show Steps p.tables e below (T11.setTop (mkF m 13 #[.val (.ref o0), .val (.int p1), .val (.ref cb), .unset, .unset, .unset, .unset] [(.ref d)])) _
      refine XS.astoreN X11.here hx rfl (hb hby d11_13) rfl rfl (l' := #[.val (.ref o0), .val (.int p1), .val (.ref cb), .val (.ref d), .unset, .unset, .unset]) rfl ?_
      show Steps p.tables e below (T11.setTop (mkF m 14 #[.val (.ref o0), .val (.int p1), .val (.ref cb), .val (.ref d), .unset, .unset, .unset] [])) _
      refine XS.iconst X11.here hx rfl (hb hby d11_14) ?_
      show Steps p.tables e below (T11.setTop (mkF m 15 #[.val (.ref o0), .val (.int p1), .val (.ref cb), .val (.ref d), .unset, .unset, .unset] [(.int (0 : Int32))])) _
      refine XS.istore X11.here hx rfl (hb hby d11_15) rfl (l' := #[.val (.ref o0), .val (.int p1), .val (.ref cb), .val (.ref d), .val (.int (0 : Int32)), .unset, .unset]) rfl ?_
      show Steps p.tables e below (T11.setTop (mkF m 17 #[.val (.ref o0), .val (.int p1), .val (.ref cb), .val (.ref d), .val (.int (0 : Int32)), .unset, .unset] [])) _
      refine XS.iconst X11.here hx rfl (hb hby d11_17) ?_
      show Steps p.tables e below (T11.setTop (mkF m 18 #[.val (.ref o0), .val (.int p1), .val (.ref cb), .val (.ref d), .val (.int (0 : Int32)), .unset, .unset] [(.int (0 : Int32))])) _
      refine XS.istore X11.here hx rfl (hb hby d11_18) rfl (l' := #[.val (.ref o0), .val (.int p1), .val (.ref cb), .val (.ref d), .val (.int (0 : Int32)), .val (.int (0 : Int32)), .unset]) rfl ?_
      show Steps p.tables e below (T11.setTop (mkF m 20 #[.val (.ref o0), .val (.int p1), .val (.ref cb), .val (.ref d), .val (.int (0 : Int32)), .val (.int (0 : Int32)), .unset] [])) _
      exact Steps.refl _)
  obtain ⟨r14, hr14, hM⟩ := Option.bind_eq_some_iff.mp hM
  obtain ⟨T15, L15, h15, u15_0, X15, e15, N15, Zq15, K15, os_u15_0, J15_0, J15_1, ql15⟩ := lpK hx hZ hw hby hml hown o0 cb d p1 xs ge_cb ge_d ne_o0_cb ne_o0_d ne_cb_d 8 (0 : Int32) (0 : Int32) r6 y10 .unset _ hr14 X11 e11 N7 Z11 One.u Io0_11 Icb_11 I_d
  have Io0_15 := Io0_11.keep K15 (ninS ne_o0_cb (ninS ne_o0_d nin0))
  have Z15 : n0 ≤ h15.size := Nat.le_trans Z11 K15.1
  have KK15 : Keep h0 h15 [] := K11.trans K15 (allS (Or.inr old_cb) (allS (Or.inr old_d) all0))
  have q16 : Steps p.tables e below (s₁.setTop (entryFrame m #[(.ref o0), (.int p1)] 7)) (T15.setTop (mkF m 64 #[.val (.ref o0), .val (.int p1), .val (.ref cb), .val (.ref d), .val (.int r14.1), .val (.int r14.2.1), u15_0] [])) := q13.trans ql15
  have q17 : Steps p.tables e below (s₁.setTop (entryFrame m #[(.ref o0), (.int p1)] 7)) (T15.setTop (mkF m 65 #[.val (.ref o0), .val (.int p1), .val (.ref cb), .val (.ref d), .val (.int r14.1), .val (.int r14.2.1), u15_0] [(.ref d)])) := q16.trans (by
      show Steps p.tables e below (T15.setTop (mkF m 64 #[.val (.ref o0), .val (.int p1), .val (.ref cb), .val (.ref d), .val (.int r14.1), .val (.int r14.2.1), u15_0] [])) _
      refine XS.aloadN X15.here hx rfl (hb hby d11_64) rfl rfl ?_
      show Steps p.tables e below (T15.setTop (mkF m 65 #[.val (.ref o0), .val (.int p1), .val (.ref cb), .val (.ref d), .val (.int r14.1), .val (.int r14.2.1), u15_0] [(.ref d)])) _
      exact Steps.refl _)
  obtain rfl := Option.some.inj hM
  obtain ⟨fs, hr, hrun, hended, hW, hsame⟩ := X15.leave (v := some (.ref d)) (fun h => by rw [Bd.returns] at h; cases h)
  refine ⟨_, _, q17.trans ?_, hrun, hended, _, _, rfl, ?_, ⟨_, rfl⟩, hW, hsame.mono (by decide) (by decide)⟩
  · exact retA X15 hx Bd.returns rfl rfl (hb hby d11_65) hr
  · show Q_rmK Z o0 p1 xs _ h0 n0 _ T15.heap _
    rw [e15]
    exact ⟨d, rfl, N15, KK15, old_d, J15_1⟩

theorem d10_0 : decode prog_1_method_8_code 0 = .ok (.aload_n 0, 1) := by decide +kernel
theorem d10_1 : decode prog_1_method_8_code 1 = .ok (.getfield 22, 3) := by decide +kernel
theorem d10_4 : decode prog_1_method_8_code 4 = .ok (.aload_n 0, 1) := by decide +kernel
theorem d10_5 : decode prog_1_method_8_code 5 = .ok (.getfield 40, 3) := by decide +kernel
theorem d10_8 : decode prog_1_method_8_code 8 = .ok (.invokestatic 57, 3) := by decide +kernel
theorem d10_11 : decode prog_1_method_8_code 11 = .ok (.areturn, 1) := by decide +kernel
theorem pn_rmL : plainName "com/example/libpathsum/libpathsum/Blocks" = true := by first | (simp [plainName, overriddenIn]; done) | decide +kernel
theorem ef_rmL (m : MethodId) (o0 : Addr) : entryFrame m #[(.ref o0)] 1 = mkF m 0 #[.val (.ref o0)] [] := by first | (simp [entryFrame, mkF, argsToLocals, Value.category]; done) | rfl
def M_classes (xM : List Int32) (xI : List Int32) (xB : List Int32) (xS : List Int32) (xE : List Int32) (xF : List Int32) (xC : List Int32) (xK : List Int32) (cn : Int32) (mc : Int32) : Option (List Int32) := (M_cls cn xB).bind fun r7 => some r7
def Q_rmL (Z : State) (o0 : Addr) (aM : Addr) (aI : Addr) (aB : Addr) (aS : Addr) (aE : Addr) (aF : Addr) (aC : Addr) (aK : Addr) (xM : List Int32) (xI : List Int32) (xB : List Int32) (xS : List Int32) (xE : List Int32) (xF : List Int32) (xC : List Int32) (xK : List Int32) (cn : Int32) (mc : Int32) (out : List Int32) (h0 : Heap) (n0 : Nat) (v : Option Value) (h : Heap) (L : List Loc) : Prop := ∃ d : Addr, v = some (.ref d) ∧ Fr n0 L ∧ Keep h0 h [] ∧ h0.size ≤ d ∧ Own.IA Z h d out
set_option maxRecDepth 65536 in
set_option maxHeartbeats 40000000 in
theorem rmL (l : Launch) (Z : State) (a0 : Array Value) (hw : ∀ d ∈ tables_1, d.before a0 Z = true) (ws : List Jvm.Cond) (o0 : Addr) (aM : Addr) (aI : Addr) (aB : Addr) (aS : Addr) (aE : Addr) (aF : Addr) (aC : Addr) (aK : Addr) (xM : List Int32) (xI : List Int32) (xB : List Int32) (xS : List Int32) (xE : List Int32) (xF : List Int32) (xC : List Int32) (xK : List Int32) (cn : Int32) (mc : Int32) (out : List Int32) (h0 : Heap) (n0 : Nat) (Z0 : n0 ≤ h0.size) (E_o0 : Exa Z h0 o0 "com/example/libpathsum/libpathsum/Blocks") (F_o0_members : Fld Z h0 o0 "com/example/libpathsum/libpathsum/Blocks" "members" "[I" (.ref aM)) (F_o0_memberIndex : Fld Z h0 o0 "com/example/libpathsum/libpathsum/Blocks" "memberIndex" "[I" (.ref aI)) (F_o0_blockOf : Fld Z h0 o0 "com/example/libpathsum/libpathsum/Blocks" "blockOf" "[I" (.ref aB)) (F_o0_start : Fld Z h0 o0 "com/example/libpathsum/libpathsum/Blocks" "start" "[I" (.ref aS)) (F_o0_end : Fld Z h0 o0 "com/example/libpathsum/libpathsum/Blocks" "end" "[I" (.ref aE)) (F_o0_splitFrom : Fld Z h0 o0 "com/example/libpathsum/libpathsum/Blocks" "splitFrom" "[I" (.ref aF)) (F_o0_markedCount : Fld Z h0 o0 "com/example/libpathsum/libpathsum/Blocks" "markedCount" "[I" (.ref aC)) (F_o0_markedBlocks : Fld Z h0 o0 "com/example/libpathsum/libpathsum/Blocks" "markedBlocks" "[I" (.ref aK)) (F_o0_count : Fld Z h0 o0 "com/example/libpathsum/libpathsum/Blocks" "count" "I" (.int cn)) (F_o0_markedBlockCount : Fld Z h0 o0 "com/example/libpathsum/libpathsum/Blocks" "markedBlockCount" "I" (.int mc)) (I_aM : Own.IA Z h0 aM xM) (I_aI : Own.IA Z h0 aI xI) (I_aB : Own.IA Z h0 aB xB) (I_aS : Own.IA Z h0 aS xS) (I_aE : Own.IA Z h0 aE xE) (I_aF : Own.IA Z h0 aF xF) (I_aC : Own.IA Z h0 aC xC) (I_aK : Own.IA Z h0 aK xK) (ge_aM : n0 ≤ aM) (ge_aI : n0 ≤ aI) (ge_aB : n0 ≤ aB) (ge_aS : n0 ≤ aS) (ge_aE : n0 ≤ aE) (ge_aF : n0 ≤ aF) (ge_aC : n0 ≤ aC) (ge_aK : n0 ≤ aK) (ge_o0 : n0 ≤ o0) (ne_aM_aI : aM ≠ aI) (ne_aM_aB : aM ≠ aB) (ne_aM_aS : aM ≠ aS) (ne_aM_aE : aM ≠ aE) (ne_aM_aF : aM ≠ aF) (ne_aM_aC : aM ≠ aC) (ne_aM_aK : aM ≠ aK) (ne_aI_aB : aI ≠ aB) (ne_aI_aS : aI ≠ aS) (ne_aI_aE : aI ≠ aE) (ne_aI_aF : aI ≠ aF) (ne_aI_aC : aI ≠ aC) (ne_aI_aK : aI ≠ aK) (ne_aB_aS : aB ≠ aS) (ne_aB_aE : aB ≠ aE) (ne_aB_aF : aB ≠ aF) (ne_aB_aC : aB ≠ aC) (ne_aB_aK : aB ≠ aK) (ne_aS_aE : aS ≠ aE) (ne_aS_aF : aS ≠ aF) (ne_aS_aC : aS ≠ aC) (ne_aS_aK : aS ≠ aK) (ne_aE_aF : aE ≠ aF) (ne_aE_aC : aE ≠ aC) (ne_aE_aK : aE ≠ aK) (ne_aF_aC : aF ≠ aC) (ne_aF_aK : aF ≠ aK) (ne_aC_aK : aC ≠ aK) (ne_o0_aM : o0 ≠ aM) (ne_o0_aI : o0 ≠ aI) (ne_o0_aB : o0 ≠ aB) (ne_o0_aS : o0 ≠ aS) (ne_o0_aE : o0 ≠ aE) (ne_o0_aF : o0 ≠ aF) (ne_o0_aC : o0 ≠ aC) (ne_o0_aK : o0 ≠ aK) (hM : M_classes xM xI xB xS xE xF xC xK cn mc = some out) :
    MetFree l (⟨"com/example/libpathsum/libpathsum/Blocks", "classes", "()[I"⟩ : MethodName) (head1 (Jvm.Cond.code (⟨"com/example/libpathsum/libpathsum/Blocks", "classes", "()[I"⟩ : MethodName) prog_1_method_8_code 1 (some (.array .int)) :: ws) ({ frames := 2, cells := 2, slots := 8, locals := 33 } : Room)) (fun a U => a = #[(.ref o0)] ∧ Z.Warmed39 U.vm ∧ U.heap = h0) (fun _ _ _ _ _ => True) (fun _ U o U' => ∃ v L, o = .returned v ∧ Q_rmL Z o0 aM aI aB aS aE aF aC aK xM xI xB xS xE xF xC xK cn mc out h0 n0 v U'.heap L ∧ FrameEnd U o U' L ({ frames := 2, cells := 2, slots := 8, locals := 33 } : Room).cells ({ frames := 2, cells := 2, slots := 8, locals := 33 } : Room).slots) := by
  refine MetFree.of_bodySF (plainFor_of_name pn_rmL) hisR ?_
  intro p e s m args below meth c s₁ Bd hml0 hP hK
  obtain ⟨rfl, hZ, hh⟩ := hP
  have hx := Bd.exec
  have hby := Bd.bytes
  have hml : c.maxLocals = 1 := hml0
  have hown : s.vm.findClass "com/example/libpathsum/libpathsum/Blocks" = some m.cls := findClass_of_methodNamed Bd.named
  have hnm := (name_of_methodNamed Bd.named Bd.method).1
  have X0 : Stand p l e ({ frames := 2, cells := 2, slots := 8, locals := 33 } : Room) s m #[(.ref o0)] below meth c s₁ [] 0 0 := Stand.of_body Bd
  have e0 : s₁.heap = h0 := by rw [← hh, Bd.state]; rfl
  have N0 := Fr.nil n0
  have q0 : Steps p.tables e below (s₁.setTop (entryFrame m #[(.ref o0)] 1)) (s₁.setTop (mkF m 0 #[.val (.ref o0)] [])) := castTop (ef_rmL m o0) (Steps.refl _)
  unfold M_classes at hM
  have K0 : Keep h0 h0 [] := Keep.refl _ _
  have q1 : Steps p.tables e below (s₁.setTop (entryFrame m #[(.ref o0)] 1)) (s₁.setTop (mkF m 1 #[.val (.ref o0)] [(.ref o0)])) := q0.trans (by
      show Steps p.tables e below (s₁.setTop (mkF m 0 #[.val (.ref o0)] [])) _
      refine XS.aloadN X0.here hx rfl (hb hby d10_0) rfl rfl ?_
      show Steps p.tables e below (s₁.setTop (mkF m 1 #[.val (.ref o0)] [(.ref o0)])) _
      exact Steps.refl _)
  obtain ⟨T2, X2, e2, st2⟩ := getF X0 hx hZ hown (host := "") (Or.inl (hw _ (List.mem_of_getElem? (i := 31) rfl))) Via.refl e0 F_o0_blockOf (g := (mkF m 1 #[.val (.ref o0)] [(.ref o0)])) rfl rfl (hb hby d10_1)
  have q3 : Steps p.tables e below (s₁.setTop (entryFrame m #[(.ref o0)] 1)) (T2.setTop (mkF m 4 #[.val (.ref o0)] [(.ref aB)])) := q1.trans (st2 _ (Steps.refl _))
  have q4 : Steps p.tables e below (s₁.setTop (entryFrame m #[(.ref o0)] 1)) (T2.setTop (mkF m 5 #[.val (.ref o0)] [(.ref o0), (.ref aB)])) := q3.trans (by
      show Steps p.tables e below (T2.setTop (mkF m 4 #[.val (.ref o0)] [(.ref aB)])) _
      refine XS.aloadN X2.here hx rfl (hb hby d10_4) rfl rfl ?_
      show Steps p.tables e below (T2.setTop (mkF m 5 #[.val (.ref o0)] [(.ref o0), (.ref aB)])) _
      exact Steps.refl _)
  obtain ⟨T5, X5, e5, st5⟩ := getF X2 hx hZ hown (host := "") (Or.inl (hw _ (List.mem_of_getElem? (i := 43) rfl))) Via.refl e2 F_o0_count (g := (mkF m 5 #[.val (.ref o0)] [(.ref o0), (.ref aB)])) rfl rfl (hb hby d10_5)
  have q6 : Steps p.tables e below (s₁.setTop (entryFrame m #[(.ref o0)] 1)) (T5.setTop (mkF m 8 #[.val (.ref o0)] [(.int cn), (.ref aB)])) := q4.trans (st5 _ (Steps.refl _))
  obtain ⟨r7, hr7, hM⟩ := Option.bind_eq_some_iff.mp hM
  obtain ⟨_, _, ⟨T8, L8, k8, n8⟩, -, X8, ⟨Lc8, hQ8, l8, y8, z8⟩, st8⟩ := Jvm.LawKit.callS X5 hx (y := (⟨"com/example/libpathsum/libpathsum/Blocks", "classes", "([II)[I"⟩ : MethodName)) hown (mvT hZ (hw _ (List.mem_of_getElem? (i := 73) rfl))) (mvT hZ (hw _ (List.mem_of_getElem? (i := 74) rfl))) (mvT hZ (hw _ (List.mem_of_getElem? (i := 7) rfl))) (mvT hZ (hw _ (List.mem_of_getElem? (i := 75) rfl))) (by decide) (backOf (W := 0) (rmK l Z a0 hw [] aB cn xB r7 h0 n0 Z0 I_aB hr7) hZ (hw _ (List.mem_of_getElem? (i := 75) rfl)) (hw _ (List.mem_of_getElem? (i := 7) rfl)) (by decide) (by decide)) (g := (mkF m 8 #[.val (.ref o0)] [(.int cn), (.ref aB)])) rfl (by rw [hml]; rfl) (argsL := [(.ref aB), (.int cn)]) (rest := []) (lenOf pd_0 rfl) rfl (by show 2 * 0 + _ ≤ _; exact Nat.le_of_eq rfl) (hb hby d10_8) (fun _ _ => ⟨rfl, e5, (by decide : 0 + 2 ≤ _), (by decide : 0 + 8 ≤ _)⟩)
  dsimp only [Pt.U, Pt.locs, Pt.cells, Pt.slots] at X8 l8 y8 z8 st8 hQ8
  subst l8 y8 z8
  obtain ⟨d, rfl, N8q, K8, ob8, J8⟩ := hQ8
  have N8 := Fr.app N0 N8q
  have ge_d : n0 ≤ d := Nat.le_trans Z0 ob8
  have ne_aM_d : aM ≠ d := Nat.ne_of_lt (Nat.lt_of_lt_of_le I_aM.lt ob8)
  have ne_aI_d : aI ≠ d := Nat.ne_of_lt (Nat.lt_of_lt_of_le I_aI.lt ob8)
  have ne_aB_d : aB ≠ d := Nat.ne_of_lt (Nat.lt_of_lt_of_le I_aB.lt ob8)
  have ne_aS_d : aS ≠ d := Nat.ne_of_lt (Nat.lt_of_lt_of_le I_aS.lt ob8)
  have ne_aE_d : aE ≠ d := Nat.ne_of_lt (Nat.lt_of_lt_of_le I_aE.lt ob8)
  have ne_aF_d : aF ≠ d := Nat.ne_of_lt (Nat.lt_of_lt_of_le I_aF.lt ob8)
  have ne_aC_d : aC ≠ d := Nat.ne_of_lt (Nat.lt_of_lt_of_le I_aC.lt ob8)
  have ne_aK_d : aK ≠ d := Nat.ne_of_lt (Nat.lt_of_lt_of_le I_aK.lt ob8)
  have ne_o0_d : o0 ≠ d := Nat.ne_of_lt (Nat.lt_of_lt_of_le E_o0.lt ob8)
  have old_d : h0.size ≤ d := Nat.le_trans K0.1 ob8
  have IaM_8 := I_aM.keep K8 nin0
  have IaI_8 := I_aI.keep K8 nin0
  have IaB_8 := I_aB.keep K8 nin0
  have IaS_8 := I_aS.keep K8 nin0
  have IaE_8 := I_aE.keep K8 nin0
  have IaF_8 := I_aF.keep K8 nin0
  have IaC_8 := I_aC.keep K8 nin0
  have IaK_8 := I_aK.keep K8 nin0
  have Xo0_8 := E_o0.keep K8
  have Fo0_members_8 := F_o0_members.keep K8 nin0
  have Fo0_memberIndex_8 := F_o0_memberIndex.keep K8 nin0
  have Fo0_blockOf_8 := F_o0_blockOf.keep K8 nin0
  have Fo0_start_8 := F_o0_start.keep K8 nin0
  have Fo0_end_8 := F_o0_end.keep K8 nin0
  have Fo0_splitFrom_8 := F_o0_splitFrom.keep K8 nin0
  have Fo0_markedCount_8 := F_o0_markedCount.keep K8 nin0
  have Fo0_markedBlocks_8 := F_o0_markedBlocks.keep K8 nin0
  have Fo0_count_8 := F_o0_count.keep K8 nin0
  have Fo0_markedBlockCount_8 := F_o0_markedBlockCount.keep K8 nin0
  have Z8 : n0 ≤ T8.heap.size := Nat.le_trans Z0 K8.1
  have KK8 : Keep h0 T8.heap [] := K0.trans K8 all0
  have q9 : Steps p.tables e below (s₁.setTop (entryFrame m #[(.ref o0)] 1)) (T8.setTop (mkF m 11 #[.val (.ref o0)] [(.ref d)])) := q6.trans (st8 _ (Steps.refl _))
  obtain rfl := Option.some.inj hM
  obtain ⟨fs, hr, hrun, hended, hW, hsame⟩ := X8.leave (v := some (.ref d)) (fun h => by rw [Bd.returns] at h; cases h)
  refine ⟨_, _, q9.trans ?_, hrun, hended, _, _, rfl, ?_, ⟨_, rfl⟩, hW, hsame.mono (by decide) (by decide)⟩
  · exact retA X8 hx Bd.returns rfl rfl (hb hby d10_11) hr
  · show Q_rmL Z o0 aM aI aB aS aE aF aC aK xM xI xB xS xE xF xC xK cn mc _ h0 n0 _ T8.heap _
    exact ⟨d, rfl, N8, KK8, old_d, J8⟩

theorem d13_0 : decode prog_1_method_2_code 0 = .ok (.aload_n 0, 1) := by decide +kernel
theorem d13_1 : decode prog_1_method_2_code 1 = .ok (.getfield 40, 3) := by decide +kernel
theorem d13_4 : decode prog_1_method_2_code 4 = .ok (.ireturn, 1) := by decide +kernel
theorem pn_rmN : plainName "com/example/libpathsum/libpathsum/Blocks" = true := by first | (simp [plainName, overriddenIn]; done) | decide +kernel
theorem ef_rmN (m : MethodId) (o0 : Addr) : entryFrame m #[(.ref o0)] 1 = mkF m 0 #[.val (.ref o0)] [] := by first | (simp [entryFrame, mkF, argsToLocals, Value.category]; done) | rfl
def Q_rmN (Z : State) (o0 : Addr) (cn : Int32) (h0 : Heap) (n0 : Nat) (v : Option Value) (h : Heap) (L : List Loc) : Prop := v = some (.int cn) ∧ Fr n0 L ∧ h = h0
set_option maxRecDepth 65536 in
set_option maxHeartbeats 40000000 in
theorem rmN (l : Launch) (Z : State) (a0 : Array Value) (hw : ∀ d ∈ tables_1, d.before a0 Z = true) (ws : List Jvm.Cond) (o0 : Addr) (cn : Int32) (h0 : Heap) (n0 : Nat) (Z0 : n0 ≤ h0.size) (F_o0_count : Fld Z h0 o0 "com/example/libpathsum/libpathsum/Blocks" "count" "I" (.int cn)) :
    MetFree l (⟨"com/example/libpathsum/libpathsum/Blocks", "count", "()I"⟩ : MethodName) (head1 (Jvm.Cond.code (⟨"com/example/libpathsum/libpathsum/Blocks", "count", "()I"⟩ : MethodName) prog_1_method_2_code 1 (some .int) :: ws) ({ frames := 0, cells := 0, slots := 0, locals := 0 } : Room)) (fun a U => a = #[(.ref o0)] ∧ Z.Warmed39 U.vm ∧ U.heap = h0) (fun _ _ _ _ _ => True) (fun _ U o U' => ∃ v L, o = .returned v ∧ Q_rmN Z o0 cn h0 n0 v U'.heap L ∧ FrameEnd U o U' L ({ frames := 0, cells := 0, slots := 0, locals := 0 } : Room).cells ({ frames := 0, cells := 0, slots := 0, locals := 0 } : Room).slots) := by
  refine MetFree.of_bodySF (plainFor_of_name pn_rmN) hisR ?_
  intro p e s m args below meth c s₁ Bd hml0 hP hK
  obtain ⟨rfl, hZ, hh⟩ := hP
  have hx := Bd.exec
  have hby := Bd.bytes
  have hml : c.maxLocals = 1 := hml0
  have hown : s.vm.findClass "com/example/libpathsum/libpathsum/Blocks" = some m.cls := findClass_of_methodNamed Bd.named
  have hnm := (name_of_methodNamed Bd.named Bd.method).1
  have X0 : Stand p l e ({ frames := 0, cells := 0, slots := 0, locals := 0 } : Room) s m #[(.ref o0)] below meth c s₁ [] 0 0 := Stand.of_body Bd
  have e0 : s₁.heap = h0 := by rw [← hh, Bd.state]; rfl
  have N0 := Fr.nil n0
  have q0 : Steps p.tables e below (s₁.setTop (entryFrame m #[(.ref o0)] 1)) (s₁.setTop (mkF m 0 #[.val (.ref o0)] [])) := castTop (ef_rmN m o0) (Steps.refl _)
  have q1 : Steps p.tables e below (s₁.setTop (entryFrame m #[(.ref o0)] 1)) (s₁.setTop (mkF m 1 #[.val (.ref o0)] [(.ref o0)])) := q0.trans (by
      show Steps p.tables e below (s₁.setTop (mkF m 0 #[.val (.ref o0)] [])) _
      refine XS.aloadN X0.here hx rfl (hb hby d13_0) rfl rfl ?_
      show Steps p.tables e below (s₁.setTop (mkF m 1 #[.val (.ref o0)] [(.ref o0)])) _
      exact Steps.refl _)
  obtain ⟨T2, X2, e2, st2⟩ := getF X0 hx hZ hown (host := "") (Or.inl (hw _ (List.mem_of_getElem? (i := 43) rfl))) Via.refl e0 F_o0_count (g := (mkF m 1 #[.val (.ref o0)] [(.ref o0)])) rfl rfl (hb hby d13_1)
  have q3 : Steps p.tables e below (s₁.setTop (entryFrame m #[(.ref o0)] 1)) (T2.setTop (mkF m 4 #[.val (.ref o0)] [(.int cn)])) := q1.trans (st2 _ (Steps.refl _))
  obtain ⟨fs, hr, hrun, hended, hW, hsame⟩ := X2.leave (v := some (.int cn)) (fun h => by rw [Bd.returns] at h; cases h)
  refine ⟨_, _, q3.trans ?_, hrun, hended, _, _, rfl, ?_, ⟨_, rfl⟩, hW, hsame.mono (by decide) (by decide)⟩
  · exact retI X2 hx Bd.returns (hb hby d13_4) hr
  · show Q_rmN Z o0 cn h0 n0 _ T2.heap _
    rw [e2]
    exact ⟨rfl, N0, rfl⟩

theorem pd_4 : parseMethodDescriptor "(IZZZ)I" = some ⟨[.int, .boolean, .boolean, .boolean], some .int⟩ := by decide +kernel
theorem pd_5 : parseMethodDescriptor "(IZI)I" = some ⟨[.int, .boolean, .int], some .int⟩ := by decide +kernel
theorem pd_6 : parseMethodDescriptor "(Lcom/example/libpathsum/libpathsum/Blocks;II)V" = some ⟨[(.object "com/example/libpathsum/libpathsum/Blocks"), .int, .int], none⟩ := by decide +kernel
theorem pd_7 : parseMethodDescriptor "()V" = some ⟨[], none⟩ := by decide +kernel
theorem pd_8 : parseMethodDescriptor "()[I" = some ⟨[], some (.array .int)⟩ := by decide +kernel
theorem pd_9 : parseMethodDescriptor "()I" = some ⟨[], some .int⟩ := by decide +kernel
theorem pn_rm0 : plainName "com/example/libpathsum/libpathsum/BlocksMarkPinLaw" = true := by first | (simp [plainName, overriddenIn]; done) | decide +kernel
theorem ef_rm0 (m : MethodId) (p0 : Int32) (p1 : Int32) (p2 : Int32) : entryFrame m #[(.int p0), (.int p1), (.int p2)] maxLocals = mkF m 0 #[.val (.int p0), .val (.int p1), .val (.int p2), .unset, .unset, .unset, .unset, .unset, .unset, .unset, .unset, .unset, .unset, .unset, .unset, .unset, .unset, .unset, .unset, .unset, .unset, .unset, .unset, .unset, .unset, .unset, .unset] [] := by first | (simp [entryFrame, mkF, argsToLocals, Value.category, maxLocals]; done) | rfl
def M_rest (y80 : List Int32) (r86 : List Int32 × List Int32 × List Int32 × List Int32 × List Int32 × List Int32 × List Int32 × List Int32) (kk : Int32) (p1 : Int32) (p2 : Int32) : Option (Int32) := (some (p1 &&& (15 : Int32))).bind fun mm => (some (p2 &&& (3 : Int32))).bind fun rot => (some (if (p2 &&& (4 : Int32)) = (0 : Int32) then (0 : Int32) else (1 : Int32))).bind fun v94 => (M_markIf mm (Fpos rot v94 (0 : Int32)) r86.1 r86.2.1 r86.2.2.1 r86.2.2.2.1 r86.2.2.2.2.1 r86.2.2.2.2.2.1 r86.2.2.2.2.2.2.1 r86.2.2.2.2.2.2.2 kk (0 : Int32)).bind fun r99 => (M_markIf mm (Fpos rot v94 (1 : Int32)) r99.1 r99.2.1 r86.2.2.1 r86.2.2.2.1 r86.2.2.2.2.1 r86.2.2.2.2.2.1 r99.2.2.1 r99.2.2.2.1 kk r99.2.2.2.2).bind fun r105 => (M_markIf mm (Fpos rot v94 (2 : Int32)) r105.1 r105.2.1 r86.2.2.1 r86.2.2.2.1 r86.2.2.2.2.1 r86.2.2.2.2.2.1 r105.2.2.1 r105.2.2.2.1 kk r105.2.2.2.2).bind fun r111 => (M_markIf mm (Fpos rot v94 (3 : Int32)) r111.1 r111.2.1 r86.2.2.1 r86.2.2.2.1 r86.2.2.2.2.1 r86.2.2.2.2.2.1 r111.2.2.1 r111.2.2.2.1 kk r111.2.2.2.2).bind fun r117 => (M_split r117.1 r117.2.1 r86.2.2.1 r86.2.2.2.1 r86.2.2.2.2.1 r86.2.2.2.2.2.1 r117.2.2.1 r117.2.2.2.1 kk r117.2.2.2.2).bind fun r121 => (M_classes r117.1 r117.2.1 r121.1 r121.2.1 r121.2.2.1 r121.2.2.2.1 r121.2.2.2.2.1 r117.2.2.2.1 r121.2.2.2.2.2 (0 : Int32)).bind fun r125 => (Own.rd y80 (0 : Int32)).bind fun v129 => (Own.rd y80 (1 : Int32)).bind fun v132 => (Own.rd y80 (2 : Int32)).bind fun v135 => (Own.rd y80 (3 : Int32)).bind fun v138 => (some (if ((v132 * (2 : Int32)) + (((mm.toUInt32 >>> ((1 : Int32) &&& 31).toUInt32).toInt32) &&& (1 : Int32))) = ((v129 * (2 : Int32)) + (mm &&& (1 : Int32))) then (1 : Int32) else (2 : Int32))).bind fun v142 => (some (if ((v132 * (2 : Int32)) + (((mm.toUInt32 >>> ((1 : Int32) &&& 31).toUInt32).toInt32) &&& (1 : Int32))) = ((v129 * (2 : Int32)) + (mm &&& (1 : Int32))) then (0 : Int32) else (1 : Int32))).bind fun v143 => (some (if ((v135 * (2 : Int32)) + (((mm.toUInt32 >>> ((2 : Int32) &&& 31).toUInt32).toInt32) &&& (1 : Int32))) = ((v129 * (2 : Int32)) + (mm &&& (1 : Int32))) then v142 else (if ((v135 * (2 : Int32)) + (((mm.toUInt32 >>> ((2 : Int32) &&& 31).toUInt32).toInt32) &&& (1 : Int32))) = ((v132 * (2 : Int32)) + (((mm.toUInt32 >>> ((1 : Int32) &&& 31).toUInt32).toInt32) &&& (1 : Int32))) then v142 else (v142 + (1 : Int32))))).bind fun v148 => (some (if ((v135 * (2 : Int32)) + (((mm.toUInt32 >>> ((2 : Int32) &&& 31).toUInt32).toInt32) &&& (1 : Int32))) = ((v129 * (2 : Int32)) + (mm &&& (1 : Int32))) then (0 : Int32) else (if ((v135 * (2 : Int32)) + (((mm.toUInt32 >>> ((2 : Int32) &&& 31).toUInt32).toInt32) &&& (1 : Int32))) = ((v132 * (2 : Int32)) + (((mm.toUInt32 >>> ((1 : Int32) &&& 31).toUInt32).toInt32) &&& (1 : Int32))) then v143 else v142))).bind fun v149 => (some (if ((v138 * (2 : Int32)) + (((mm.toUInt32 >>> ((3 : Int32) &&& 31).toUInt32).toInt32) &&& (1 : Int32))) = ((v129 * (2 : Int32)) + (mm &&& (1 : Int32))) then v148 else (if ((v138 * (2 : Int32)) + (((mm.toUInt32 >>> ((3 : Int32) &&& 31).toUInt32).toInt32) &&& (1 : Int32))) = ((v132 * (2 : Int32)) + (((mm.toUInt32 >>> ((1 : Int32) &&& 31).toUInt32).toInt32) &&& (1 : Int32))) then v148 else (if ((v138 * (2 : Int32)) + (((mm.toUInt32 >>> ((3 : Int32) &&& 31).toUInt32).toInt32) &&& (1 : Int32))) = ((v135 * (2 : Int32)) + (((mm.toUInt32 >>> ((2 : Int32) &&& 31).toUInt32).toInt32) &&& (1 : Int32))) then v148 else (v148 + (1 : Int32)))))).bind fun v155 => (some (if ((v138 * (2 : Int32)) + (((mm.toUInt32 >>> ((3 : Int32) &&& 31).toUInt32).toInt32) &&& (1 : Int32))) = ((v129 * (2 : Int32)) + (mm &&& (1 : Int32))) then (0 : Int32) else (if ((v138 * (2 : Int32)) + (((mm.toUInt32 >>> ((3 : Int32) &&& 31).toUInt32).toInt32) &&& (1 : Int32))) = ((v132 * (2 : Int32)) + (((mm.toUInt32 >>> ((1 : Int32) &&& 31).toUInt32).toInt32) &&& (1 : Int32))) then v143 else (if ((v138 * (2 : Int32)) + (((mm.toUInt32 >>> ((3 : Int32) &&& 31).toUInt32).toInt32) &&& (1 : Int32))) = ((v135 * (2 : Int32)) + (((mm.toUInt32 >>> ((2 : Int32) &&& 31).toUInt32).toInt32) &&& (1 : Int32))) then v149 else v148)))).bind fun v156 => (if (Own.ln r125) = (4 : Int32) then (Own.rd r125 (0 : Int32)).bind fun v162 => (if v162 = (0 : Int32) then (Own.rd r125 (1 : Int32)).bind fun v168 => (if v168 = v143 then (Own.rd r125 (2 : Int32)).bind fun v174 => (if v174 = v149 then (Own.rd r125 (3 : Int32)).bind fun v180 => (if v180 = v156 then (if r121.2.2.2.2.2 = v155 then some (1 : Int32) else none) else none) else none) else none) else none) else none)
def M_mid (y80 : List Int32) (kk : Int32) (p1 : Int32) (p2 : Int32) : Option (Int32) := (M_new kk y80).bind fun r86 => M_rest y80 r86 kk p1 p2
def M_core2 (r0 : Int32) (r1 : Int32) (r2 : Int32) (r3 : Int32) (v10 : Int32) (v17 : Int32) (v24 : Int32) (v31 : Int32) (p1 : Int32) (p2 : Int32) : Option (Int32) := (some (if v10 = (0 : Int32) then (0 : Int32) else (1 : Int32))).bind fun v36 => (some (if v17 = (0 : Int32) then (0 : Int32) else (1 : Int32))).bind fun v40 => (some (if v24 = (0 : Int32) then (0 : Int32) else (1 : Int32))).bind fun v44 => (some (if v31 = (0 : Int32) then (0 : Int32) else (1 : Int32))).bind fun v48 => (some (((v36 + v40) + v44) + v48)).bind fun kk => (Own.mk 4 (4 : Int32)).bind fun y52 => (M_rank r0 v10 v17 v24).bind fun k56 => (Own.wt y52 (0 : Int32) k56).bind fun y59 => (M_rank r1 v10 v17 v24).bind fun k63 => (Own.wt y59 (1 : Int32) k63).bind fun y66 => (M_rank r2 v10 v17 v24).bind fun k70 => (Own.wt y66 (2 : Int32) k70).bind fun y73 => (M_rank r3 v10 v17 v24).bind fun k77 => (Own.wt y73 (3 : Int32) k77).bind fun y80 => M_mid y80 kk p1 p2
def M_core (r0 : Int32) (r1 : Int32) (r2 : Int32) (r3 : Int32) (p1 : Int32) (p2 : Int32) : Option (Int32) := (some (if r0 = (0 : Int32) then (1 : Int32) else (if r1 = (0 : Int32) then (1 : Int32) else (if r2 = (0 : Int32) then (1 : Int32) else (if r3 = (0 : Int32) then (1 : Int32) else (0 : Int32)))))).bind fun v10 => (some (if r0 = (1 : Int32) then (1 : Int32) else (if r1 = (1 : Int32) then (1 : Int32) else (if r2 = (1 : Int32) then (1 : Int32) else (if r3 = (1 : Int32) then (1 : Int32) else (0 : Int32)))))).bind fun v17 => (some (if r0 = (2 : Int32) then (1 : Int32) else (if r1 = (2 : Int32) then (1 : Int32) else (if r2 = (2 : Int32) then (1 : Int32) else (if r3 = (2 : Int32) then (1 : Int32) else (0 : Int32)))))).bind fun v24 => (some (if r0 = (3 : Int32) then (1 : Int32) else (if r1 = (3 : Int32) then (1 : Int32) else (if r2 = (3 : Int32) then (1 : Int32) else (if r3 = (3 : Int32) then (1 : Int32) else (0 : Int32)))))).bind fun v31 => M_core2 r0 r1 r2 r3 v10 v17 v24 v31 p1 p2
def M_law (p0 : Int32) (p1 : Int32) (p2 : Int32) : Option (Int32) := (some (p0 &&& (3 : Int32))).bind fun r0 => (some (((p0.toUInt32 >>> ((2 : Int32) &&& 31).toUInt32).toInt32) &&& (3 : Int32))).bind fun r1 => (some (((p0.toUInt32 >>> ((4 : Int32) &&& 31).toUInt32).toInt32) &&& (3 : Int32))).bind fun r2 => (some (((p0.toUInt32 >>> ((6 : Int32) &&& 31).toUInt32).toInt32) &&& (3 : Int32))).bind fun r3 => M_core r0 r1 r2 r3 p1 p2
def Q_rm0 (Z : State) (p0 : Int32) (p1 : Int32) (p2 : Int32) (out : Int32) (h0 : Heap) (n0 : Nat) (v : Option Value) (h : Heap) (L : List Loc) : Prop := v = some (.int out) ∧ Fr n0 L
set_option maxRecDepth 65536 in
set_option maxHeartbeats 40000000 in
theorem rm0 (l : Launch) (Z : State) (a0 : Array Value) (hw : ∀ d ∈ tables_1, d.before a0 Z = true) (ws : List Jvm.Cond) (p0 : Int32) (p1 : Int32) (p2 : Int32) (out : Int32) (h0 : Heap) (n0 : Nat) (Z0 : n0 ≤ h0.size) (hM : M_law p0 p1 p2 = some out) :
    MetFree l x (head1 (Jvm.Cond.code x code maxLocals ret :: ws) room_1) (fun a U => a = #[(.int p0), (.int p1), (.int p2)] ∧ Z.Warmed39 U.vm ∧ U.heap = h0) (fun _ _ _ _ _ => True) (fun _ U o U' => ∃ v L, o = .returned v ∧ Q_rm0 Z p0 p1 p2 out h0 n0 v U'.heap L ∧ FrameEnd U o U' L room_1.cells room_1.slots) := by
  refine MetFree.of_bodySF (plainFor_of_name pn_rm0) hisR ?_
  intro p e s m args below meth c s₁ Bd hml0 hP hK
  obtain ⟨rfl, hZ, hh⟩ := hP
  have hx := Bd.exec
  have hby := Bd.bytes
  have hml : c.maxLocals = 27 := hml0
  have hown : s.vm.findClass "com/example/libpathsum/libpathsum/BlocksMarkPinLaw" = some m.cls := findClass_of_methodNamed Bd.named
  have hnm := (name_of_methodNamed Bd.named Bd.method).1
  have X0 : Stand p l e room_1 s m #[(.int p0), (.int p1), (.int p2)] below meth c s₁ [] 0 0 := Stand.of_body Bd
  have e0 : s₁.heap = h0 := by rw [← hh, Bd.state]; rfl
  have N0 := Fr.nil n0
  have q0 : Steps p.tables e below (s₁.setTop (entryFrame m #[(.int p0), (.int p1), (.int p2)] maxLocals)) (s₁.setTop (mkF m 0 #[.val (.int p0), .val (.int p1), .val (.int p2), .unset, .unset, .unset, .unset, .unset, .unset, .unset, .unset, .unset, .unset, .unset, .unset, .unset, .unset, .unset, .unset, .unset, .unset, .unset, .unset, .unset, .unset, .unset, .unset] [])) := castTop (ef_rm0 m p0 p1 p2) (Steps.refl _)
  unfold M_law at hM
  have q1 : Steps p.tables e below (s₁.setTop (entryFrame m #[(.int p0), (.int p1), (.int p2)] maxLocals)) (s₁.setTop (mkF m 4 #[.val (.int p0), .val (.int p1), .val (.int p2), .val (.int (p0 &&& (3 : Int32))), .unset, .unset, .unset, .unset, .unset, .unset, .unset, .unset, .unset, .unset, .unset, .unset, .unset, .unset, .unset, .unset, .unset, .unset, .unset, .unset, .unset, .unset, .unset] [])) := q0.trans (by
      show Steps p.tables e below (s₁.setTop (mkF m 0 #[.val (.int p0), .val (.int p1), .val (.int p2), .unset, .unset, .unset, .unset, .unset, .unset, .unset, .unset, .unset, .unset, .unset, .unset, .unset, .unset, .unset, .unset, .unset, .unset, .unset, .unset, .unset, .unset, .unset, .unset] [])) _
      refine XS.iloadN X0.here hx rfl (hb hby at_0) rfl ?_
      show Steps p.tables e below (s₁.setTop (mkF m 1 #[.val (.int p0), .val (.int p1), .val (.int p2), .unset, .unset, .unset, .unset, .unset, .unset, .unset, .unset, .unset, .unset, .unset, .unset, .unset, .unset, .unset, .unset, .unset, .unset, .unset, .unset, .unset, .unset, .unset, .unset] [(.int p0)])) _
      refine XS.iconst X0.here hx rfl (hb hby at_1) ?_
      show Steps p.tables e below (s₁.setTop (mkF m 2 #[.val (.int p0), .val (.int p1), .val (.int p2), .unset, .unset, .unset, .unset, .unset, .unset, .unset, .unset, .unset, .unset, .unset, .unset, .unset, .unset, .unset, .unset, .unset, .unset, .unset, .unset, .unset, .unset, .unset, .unset] [(.int (3 : Int32)), (.int p0)])) _
      refine XS.iand X0.here hx rfl (hb hby at_2) rfl ?_
      show Steps p.tables e below (s₁.setTop (mkF m 3 #[.val (.int p0), .val (.int p1), .val (.int p2), .unset, .unset, .unset, .unset, .unset, .unset, .unset, .unset, .unset, .unset, .unset, .unset, .unset, .unset, .unset, .unset, .unset, .unset, .unset, .unset, .unset, .unset, .unset, .unset] [(.int (p0 &&& (3 : Int32)))])) _
      refine XS.istoreN X0.here hx rfl (hb hby at_3) rfl (l' := #[.val (.int p0), .val (.int p1), .val (.int p2), .val (.int (p0 &&& (3 : Int32))), .unset, .unset, .unset, .unset, .unset, .unset, .unset, .unset, .unset, .unset, .unset, .unset, .unset, .unset, .unset, .unset, .unset, .unset, .unset, .unset, .unset, .unset, .unset]) rfl ?_
      show Steps p.tables e below (s₁.setTop (mkF m 4 #[.val (.int p0), .val (.int p1), .val (.int p2), .val (.int (p0 &&& (3 : Int32))), .unset, .unset, .unset, .unset, .unset, .unset, .unset, .unset, .unset, .unset, .unset, .unset, .unset, .unset, .unset, .unset, .unset, .unset, .unset, .unset, .unset, .unset, .unset] [])) _
      exact Steps.refl _)
  obtain ⟨r0, hr0, hM⟩ := Option.bind_eq_some_iff.mp hM
  have hr0 := (Option.some.inj hr0).symm
  rw [← hr0] at q1
  have q2 : Steps p.tables e below (s₁.setTop (entryFrame m #[(.int p0), (.int p1), (.int p2)] maxLocals)) (s₁.setTop (mkF m 11 #[.val (.int p0), .val (.int p1), .val (.int p2), .val (.int r0), .val (.int (((p0.toUInt32 >>> ((2 : Int32) &&& 31).toUInt32).toInt32) &&& (3 : Int32))), .unset, .unset, .unset, .unset, .unset, .unset, .unset, .unset, .unset, .unset, .unset, .unset, .unset, .unset, .unset, .unset, .unset, .unset, .unset, .unset, .unset, .unset] [])) := q1.trans (by
      show Steps p.tables e below (s₁.setTop (mkF m 4 #[.val (.int p0), .val (.int p1), .val (.int p2), .val (.int r0), .unset, .unset, .unset, .unset, .unset, .unset, .unset, .unset, .unset, .unset, .unset, .unset, .unset, .unset, .unset, .unset, .unset, .unset, .unset, .unset, .unset, .unset, .unset] [])) _
      refine XS.iloadN X0.here hx rfl (hb hby at_4) rfl ?_
      show Steps p.tables e below (s₁.setTop (mkF m 5 #[.val (.int p0), .val (.int p1), .val (.int p2), .val (.int r0), .unset, .unset, .unset, .unset, .unset, .unset, .unset, .unset, .unset, .unset, .unset, .unset, .unset, .unset, .unset, .unset, .unset, .unset, .unset, .unset, .unset, .unset, .unset] [(.int p0)])) _
      refine XS.iconst X0.here hx rfl (hb hby at_5) ?_
      show Steps p.tables e below (s₁.setTop (mkF m 6 #[.val (.int p0), .val (.int p1), .val (.int p2), .val (.int r0), .unset, .unset, .unset, .unset, .unset, .unset, .unset, .unset, .unset, .unset, .unset, .unset, .unset, .unset, .unset, .unset, .unset, .unset, .unset, .unset, .unset, .unset, .unset] [(.int (2 : Int32)), (.int p0)])) _
      refine XS.iushr X0.here hx rfl (hb hby at_6) rfl ?_
      show Steps p.tables e below (s₁.setTop (mkF m 7 #[.val (.int p0), .val (.int p1), .val (.int p2), .val (.int r0), .unset, .unset, .unset, .unset, .unset, .unset, .unset, .unset, .unset, .unset, .unset, .unset, .unset, .unset, .unset, .unset, .unset, .unset, .unset, .unset, .unset, .unset, .unset] [(.int ((p0.toUInt32 >>> ((2 : Int32) &&& 31).toUInt32).toInt32))])) _
      refine XS.iconst X0.here hx rfl (hb hby at_7) ?_
      show Steps p.tables e below (s₁.setTop (mkF m 8 #[.val (.int p0), .val (.int p1), .val (.int p2), .val (.int r0), .unset, .unset, .unset, .unset, .unset, .unset, .unset, .unset, .unset, .unset, .unset, .unset, .unset, .unset, .unset, .unset, .unset, .unset, .unset, .unset, .unset, .unset, .unset] [(.int (3 : Int32)), (.int ((p0.toUInt32 >>> ((2 : Int32) &&& 31).toUInt32).toInt32))])) _
      refine XS.iand X0.here hx rfl (hb hby at_8) rfl ?_
      show Steps p.tables e below (s₁.setTop (mkF m 9 #[.val (.int p0), .val (.int p1), .val (.int p2), .val (.int r0), .unset, .unset, .unset, .unset, .unset, .unset, .unset, .unset, .unset, .unset, .unset, .unset, .unset, .unset, .unset, .unset, .unset, .unset, .unset, .unset, .unset, .unset, .unset] [(.int (((p0.toUInt32 >>> ((2 : Int32) &&& 31).toUInt32).toInt32) &&& (3 : Int32)))])) _
      refine XS.istore X0.here hx rfl (hb hby at_9) rfl (l' := #[.val (.int p0), .val (.int p1), .val (.int p2), .val (.int r0), .val (.int (((p0.toUInt32 >>> ((2 : Int32) &&& 31).toUInt32).toInt32) &&& (3 : Int32))), .unset, .unset, .unset, .unset, .unset, .unset, .unset, .unset, .unset, .unset, .unset, .unset, .unset, .unset, .unset, .unset, .unset, .unset, .unset, .unset, .unset, .unset]) rfl ?_
      show Steps p.tables e below (s₁.setTop (mkF m 11 #[.val (.int p0), .val (.int p1), .val (.int p2), .val (.int r0), .val (.int (((p0.toUInt32 >>> ((2 : Int32) &&& 31).toUInt32).toInt32) &&& (3 : Int32))), .unset, .unset, .unset, .unset, .unset, .unset, .unset, .unset, .unset, .unset, .unset, .unset, .unset, .unset, .unset, .unset, .unset, .unset, .unset, .unset, .unset, .unset] [])) _
      exact Steps.refl _)
  obtain ⟨r1, hr1, hM⟩ := Option.bind_eq_some_iff.mp hM
  have hr1 := (Option.some.inj hr1).symm
  rw [← hr1] at q2
  have q3 : Steps p.tables e below (s₁.setTop (entryFrame m #[(.int p0), (.int p1), (.int p2)] maxLocals)) (s₁.setTop (mkF m 18 #[.val (.int p0), .val (.int p1), .val (.int p2), .val (.int r0), .val (.int r1), .val (.int (((p0.toUInt32 >>> ((4 : Int32) &&& 31).toUInt32).toInt32) &&& (3 : Int32))), .unset, .unset, .unset, .unset, .unset, .unset, .unset, .unset, .unset, .unset, .unset, .unset, .unset, .unset, .unset, .unset, .unset, .unset, .unset, .unset, .unset] [])) := q2.trans (by
      show Steps p.tables e below (s₁.setTop (mkF m 11 #[.val (.int p0), .val (.int p1), .val (.int p2), .val (.int r0), .val (.int r1), .unset, .unset, .unset, .unset, .unset, .unset, .unset, .unset, .unset, .unset, .unset, .unset, .unset, .unset, .unset, .unset, .unset, .unset, .unset, .unset, .unset, .unset] [])) _
      refine XS.iloadN X0.here hx rfl (hb hby at_11) rfl ?_
      show Steps p.tables e below (s₁.setTop (mkF m 12 #[.val (.int p0), .val (.int p1), .val (.int p2), .val (.int r0), .val (.int r1), .unset, .unset, .unset, .unset, .unset, .unset, .unset, .unset, .unset, .unset, .unset, .unset, .unset, .unset, .unset, .unset, .unset, .unset, .unset, .unset, .unset, .unset] [(.int p0)])) _
      refine XS.iconst X0.here hx rfl (hb hby at_12) ?_
      show Steps p.tables e below (s₁.setTop (mkF m 13 #[.val (.int p0), .val (.int p1), .val (.int p2), .val (.int r0), .val (.int r1), .unset, .unset, .unset, .unset, .unset, .unset, .unset, .unset, .unset, .unset, .unset, .unset, .unset, .unset, .unset, .unset, .unset, .unset, .unset, .unset, .unset, .unset] [(.int (4 : Int32)), (.int p0)])) _
      refine XS.iushr X0.here hx rfl (hb hby at_13) rfl ?_
      show Steps p.tables e below (s₁.setTop (mkF m 14 #[.val (.int p0), .val (.int p1), .val (.int p2), .val (.int r0), .val (.int r1), .unset, .unset, .unset, .unset, .unset, .unset, .unset, .unset, .unset, .unset, .unset, .unset, .unset, .unset, .unset, .unset, .unset, .unset, .unset, .unset, .unset, .unset] [(.int ((p0.toUInt32 >>> ((4 : Int32) &&& 31).toUInt32).toInt32))])) _
      refine XS.iconst X0.here hx rfl (hb hby at_14) ?_
      show Steps p.tables e below (s₁.setTop (mkF m 15 #[.val (.int p0), .val (.int p1), .val (.int p2), .val (.int r0), .val (.int r1), .unset, .unset, .unset, .unset, .unset, .unset, .unset, .unset, .unset, .unset, .unset, .unset, .unset, .unset, .unset, .unset, .unset, .unset, .unset, .unset, .unset, .unset] [(.int (3 : Int32)), (.int ((p0.toUInt32 >>> ((4 : Int32) &&& 31).toUInt32).toInt32))])) _
      refine XS.iand X0.here hx rfl (hb hby at_15) rfl ?_
      show Steps p.tables e below (s₁.setTop (mkF m 16 #[.val (.int p0), .val (.int p1), .val (.int p2), .val (.int r0), .val (.int r1), .unset, .unset, .unset, .unset, .unset, .unset, .unset, .unset, .unset, .unset, .unset, .unset, .unset, .unset, .unset, .unset, .unset, .unset, .unset, .unset, .unset, .unset] [(.int (((p0.toUInt32 >>> ((4 : Int32) &&& 31).toUInt32).toInt32) &&& (3 : Int32)))])) _
      refine XS.istore X0.here hx rfl (hb hby at_16) rfl (l' := #[.val (.int p0), .val (.int p1), .val (.int p2), .val (.int r0), .val (.int r1), .val (.int (((p0.toUInt32 >>> ((4 : Int32) &&& 31).toUInt32).toInt32) &&& (3 : Int32))), .unset, .unset, .unset, .unset, .unset, .unset, .unset, .unset, .unset, .unset, .unset, .unset, .unset, .unset, .unset, .unset, .unset, .unset, .unset, .unset, .unset]) rfl ?_
      show Steps p.tables e below (s₁.setTop (mkF m 18 #[.val (.int p0), .val (.int p1), .val (.int p2), .val (.int r0), .val (.int r1), .val (.int (((p0.toUInt32 >>> ((4 : Int32) &&& 31).toUInt32).toInt32) &&& (3 : Int32))), .unset, .unset, .unset, .unset, .unset, .unset, .unset, .unset, .unset, .unset, .unset, .unset, .unset, .unset, .unset, .unset, .unset, .unset, .unset, .unset, .unset] [])) _
      exact Steps.refl _)
  obtain ⟨r2, hr2, hM⟩ := Option.bind_eq_some_iff.mp hM
  have hr2 := (Option.some.inj hr2).symm
  rw [← hr2] at q3
  have q4 : Steps p.tables e below (s₁.setTop (entryFrame m #[(.int p0), (.int p1), (.int p2)] maxLocals)) (s₁.setTop (mkF m 26 #[.val (.int p0), .val (.int p1), .val (.int p2), .val (.int r0), .val (.int r1), .val (.int r2), .val (.int (((p0.toUInt32 >>> ((6 : Int32) &&& 31).toUInt32).toInt32) &&& (3 : Int32))), .unset, .unset, .unset, .unset, .unset, .unset, .unset, .unset, .unset, .unset, .unset, .unset, .unset, .unset, .unset, .unset, .unset, .unset, .unset, .unset] [])) := q3.trans (by
      show Steps p.tables e below (s₁.setTop (mkF m 18 #[.val (.int p0), .val (.int p1), .val (.int p2), .val (.int r0), .val (.int r1), .val (.int r2), .unset, .unset, .unset, .unset, .unset, .unset, .unset, .unset, .unset, .unset, .unset, .unset, .unset, .unset, .unset, .unset, .unset, .unset, .unset, .unset, .unset] [])) _
      refine XS.iloadN X0.here hx rfl (hb hby at_18) rfl ?_
      show Steps p.tables e below (s₁.setTop (mkF m 19 #[.val (.int p0), .val (.int p1), .val (.int p2), .val (.int r0), .val (.int r1), .val (.int r2), .unset, .unset, .unset, .unset, .unset, .unset, .unset, .unset, .unset, .unset, .unset, .unset, .unset, .unset, .unset, .unset, .unset, .unset, .unset, .unset, .unset] [(.int p0)])) _
      refine XS.bipush X0.here hx rfl (hb hby at_19) ?_
      show Steps p.tables e below (s₁.setTop (mkF m 21 #[.val (.int p0), .val (.int p1), .val (.int p2), .val (.int r0), .val (.int r1), .val (.int r2), .unset, .unset, .unset, .unset, .unset, .unset, .unset, .unset, .unset, .unset, .unset, .unset, .unset, .unset, .unset, .unset, .unset, .unset, .unset, .unset, .unset] [(.int (6 : Int32)), (.int p0)])) _
      refine XS.iushr X0.here hx rfl (hb hby at_21) rfl ?_
      show Steps p.tables e below (s₁.setTop (mkF m 22 #[.val (.int p0), .val (.int p1), .val (.int p2), .val (.int r0), .val (.int r1), .val (.int r2), .unset, .unset, .unset, .unset, .unset, .unset, .unset, .unset, .unset, .unset, .unset, .unset, .unset, .unset, .unset, .unset, .unset, .unset, .unset, .unset, .unset] [(.int ((p0.toUInt32 >>> ((6 : Int32) &&& 31).toUInt32).toInt32))])) _
      refine XS.iconst X0.here hx rfl (hb hby at_22) ?_
      show Steps p.tables e below (s₁.setTop (mkF m 23 #[.val (.int p0), .val (.int p1), .val (.int p2), .val (.int r0), .val (.int r1), .val (.int r2), .unset, .unset, .unset, .unset, .unset, .unset, .unset, .unset, .unset, .unset, .unset, .unset, .unset, .unset, .unset, .unset, .unset, .unset, .unset, .unset, .unset] [(.int (3 : Int32)), (.int ((p0.toUInt32 >>> ((6 : Int32) &&& 31).toUInt32).toInt32))])) _
      refine XS.iand X0.here hx rfl (hb hby at_23) rfl ?_
      show Steps p.tables e below (s₁.setTop (mkF m 24 #[.val (.int p0), .val (.int p1), .val (.int p2), .val (.int r0), .val (.int r1), .val (.int r2), .unset, .unset, .unset, .unset, .unset, .unset, .unset, .unset, .unset, .unset, .unset, .unset, .unset, .unset, .unset, .unset, .unset, .unset, .unset, .unset, .unset] [(.int (((p0.toUInt32 >>> ((6 : Int32) &&& 31).toUInt32).toInt32) &&& (3 : Int32)))])) _
      refine XS.istore X0.here hx rfl (hb hby at_24) rfl (l' := #[.val (.int p0), .val (.int p1), .val (.int p2), .val (.int r0), .val (.int r1), .val (.int r2), .val (.int (((p0.toUInt32 >>> ((6 : Int32) &&& 31).toUInt32).toInt32) &&& (3 : Int32))), .unset, .unset, .unset, .unset, .unset, .unset, .unset, .unset, .unset, .unset, .unset, .unset, .unset, .unset, .unset, .unset, .unset, .unset, .unset, .unset]) rfl ?_
      show Steps p.tables e below (s₁.setTop (mkF m 26 #[.val (.int p0), .val (.int p1), .val (.int p2), .val (.int r0), .val (.int r1), .val (.int r2), .val (.int (((p0.toUInt32 >>> ((6 : Int32) &&& 31).toUInt32).toInt32) &&& (3 : Int32))), .unset, .unset, .unset, .unset, .unset, .unset, .unset, .unset, .unset, .unset, .unset, .unset, .unset, .unset, .unset, .unset, .unset, .unset, .unset, .unset] [])) _
      exact Steps.refl _)
  obtain ⟨r3, hr3, hM⟩ := Option.bind_eq_some_iff.mp hM
  have hr3 := (Option.some.inj hr3).symm
  rw [← hr3] at q4
  unfold M_core at hM
  have q5 : Steps p.tables e below (s₁.setTop (entryFrame m #[(.int p0), (.int p1), (.int p2)] maxLocals)) (s₁.setTop (mkF m 27 #[.val (.int p0), .val (.int p1), .val (.int p2), .val (.int r0), .val (.int r1), .val (.int r2), .val (.int r3), .unset, .unset, .unset, .unset, .unset, .unset, .unset, .unset, .unset, .unset, .unset, .unset, .unset, .unset, .unset, .unset, .unset, .unset, .unset, .unset] [(.int r0)])) := q4.trans (by
      show Steps p.tables e below (s₁.setTop (mkF m 26 #[.val (.int p0), .val (.int p1), .val (.int p2), .val (.int r0), .val (.int r1), .val (.int r2), .val (.int r3), .unset, .unset, .unset, .unset, .unset, .unset, .unset, .unset, .unset, .unset, .unset, .unset, .unset, .unset, .unset, .unset, .unset, .unset, .unset, .unset] [])) _
      refine XS.iloadN X0.here hx rfl (hb hby at_26) rfl ?_
      show Steps p.tables e below (s₁.setTop (mkF m 27 #[.val (.int p0), .val (.int p1), .val (.int p2), .val (.int r0), .val (.int r1), .val (.int r2), .val (.int r3), .unset, .unset, .unset, .unset, .unset, .unset, .unset, .unset, .unset, .unset, .unset, .unset, .unset, .unset, .unset, .unset, .unset, .unset, .unset, .unset] [(.int r0)])) _
      exact Steps.refl _)
  obtain ⟨v10, hv10, hM⟩ := Option.bind_eq_some_iff.mp hM
  have hv10 := (Option.some.inj hv10).symm
  have q11 : Steps p.tables e below (s₁.setTop (entryFrame m #[(.int p0), (.int p1), (.int p2)] maxLocals)) (s₁.setTop (mkF m 50 #[.val (.int p0), .val (.int p1), .val (.int p2), .val (.int r0), .val (.int r1), .val (.int r2), .val (.int r3), .unset, .unset, .unset, .unset, .unset, .unset, .unset, .unset, .unset, .unset, .unset, .unset, .unset, .unset, .unset, .unset, .unset, .unset, .unset, .unset] [(.int v10)])) := by
    refine q5.trans ?_
    show Steps p.tables e below (s₁.setTop (mkF m 27 #[.val (.int p0), .val (.int p1), .val (.int p2), .val (.int r0), .val (.int r1), .val (.int r2), .val (.int r3), .unset, .unset, .unset, .unset, .unset, .unset, .unset, .unset, .unset, .unset, .unset, .unset, .unset, .unset, .unset, .unset, .unset, .unset, .unset, .unset] [(.int r0)])) _
    by_cases hc6 : r0 = (0 : Int32)
    · rw [if_pos hc6] at hv10
      refine XS.ifYes X0.here hx rfl (pc0 := 27) (pc' := 45) rfl (hb hby at_27) rfl ((if0 _ _).trans (teq hc6).1) (by decide) (by decide) ?_
      show Steps p.tables e below (s₁.setTop (mkF m 45 #[.val (.int p0), .val (.int p1), .val (.int p2), .val (.int r0), .val (.int r1), .val (.int r2), .val (.int r3), .unset, .unset, .unset, .unset, .unset, .unset, .unset, .unset, .unset, .unset, .unset, .unset, .unset, .unset, .unset, .unset, .unset, .unset, .unset, .unset] [])) _
      refine XS.iconst X0.here hx rfl (hb hby at_45) ?_
      show Steps p.tables e below (s₁.setTop (mkF m 46 #[.val (.int p0), .val (.int p1), .val (.int p2), .val (.int r0), .val (.int r1), .val (.int r2), .val (.int r3), .unset, .unset, .unset, .unset, .unset, .unset, .unset, .unset, .unset, .unset, .unset, .unset, .unset, .unset, .unset, .unset, .unset, .unset, .unset, .unset] [(.int (1 : Int32))])) _
      refine XS.goto X0.here hx rfl (pc0 := 46) (pc' := 50) rfl (hb hby at_46) (by decide) (by decide) ?_
      show Steps p.tables e below (s₁.setTop (mkF m 50 #[.val (.int p0), .val (.int p1), .val (.int p2), .val (.int r0), .val (.int r1), .val (.int r2), .val (.int r3), .unset, .unset, .unset, .unset, .unset, .unset, .unset, .unset, .unset, .unset, .unset, .unset, .unset, .unset, .unset, .unset, .unset, .unset, .unset, .unset] [(.int (1 : Int32))])) _
      rw [hv10]
      exact Steps.refl _
    · rw [if_neg hc6] at hv10
      refine XS.ifNo X0.here hx rfl (hb hby at_27) rfl ((if0 _ _).trans (feq hc6).1) ?_
      show Steps p.tables e below (s₁.setTop (mkF m 30 #[.val (.int p0), .val (.int p1), .val (.int p2), .val (.int r0), .val (.int r1), .val (.int r2), .val (.int r3), .unset, .unset, .unset, .unset, .unset, .unset, .unset, .unset, .unset, .unset, .unset, .unset, .unset, .unset, .unset, .unset, .unset, .unset, .unset, .unset] [])) _
      refine XS.iload X0.here hx rfl (hb hby at_30) rfl ?_
      show Steps p.tables e below (s₁.setTop (mkF m 32 #[.val (.int p0), .val (.int p1), .val (.int p2), .val (.int r0), .val (.int r1), .val (.int r2), .val (.int r3), .unset, .unset, .unset, .unset, .unset, .unset, .unset, .unset, .unset, .unset, .unset, .unset, .unset, .unset, .unset, .unset, .unset, .unset, .unset, .unset] [(.int r1)])) _
      by_cases hc7 : r1 = (0 : Int32)
      · rw [if_pos hc7] at hv10
        refine XS.ifYes X0.here hx rfl (pc0 := 32) (pc' := 45) rfl (hb hby at_32) rfl ((if0 _ _).trans (teq hc7).1) (by decide) (by decide) ?_
        show Steps p.tables e below (s₁.setTop (mkF m 45 #[.val (.int p0), .val (.int p1), .val (.int p2), .val (.int r0), .val (.int r1), .val (.int r2), .val (.int r3), .unset, .unset, .unset, .unset, .unset, .unset, .unset, .unset, .unset, .unset, .unset, .unset, .unset, .unset, .unset, .unset, .unset, .unset, .unset, .unset] [])) _
        refine XS.iconst X0.here hx rfl (hb hby at_45) ?_
        show Steps p.tables e below (s₁.setTop (mkF m 46 #[.val (.int p0), .val (.int p1), .val (.int p2), .val (.int r0), .val (.int r1), .val (.int r2), .val (.int r3), .unset, .unset, .unset, .unset, .unset, .unset, .unset, .unset, .unset, .unset, .unset, .unset, .unset, .unset, .unset, .unset, .unset, .unset, .unset, .unset] [(.int (1 : Int32))])) _
        refine XS.goto X0.here hx rfl (pc0 := 46) (pc' := 50) rfl (hb hby at_46) (by decide) (by decide) ?_
        show Steps p.tables e below (s₁.setTop (mkF m 50 #[.val (.int p0), .val (.int p1), .val (.int p2), .val (.int r0), .val (.int r1), .val (.int r2), .val (.int r3), .unset, .unset, .unset, .unset, .unset, .unset, .unset, .unset, .unset, .unset, .unset, .unset, .unset, .unset, .unset, .unset, .unset, .unset, .unset, .unset] [(.int (1 : Int32))])) _
        rw [hv10]
        exact Steps.refl _
      · rw [if_neg hc7] at hv10
        refine XS.ifNo X0.here hx rfl (hb hby at_32) rfl ((if0 _ _).trans (feq hc7).1) ?_
        show Steps p.tables e below (s₁.setTop (mkF m 35 #[.val (.int p0), .val (.int p1), .val (.int p2), .val (.int r0), .val (.int r1), .val (.int r2), .val (.int r3), .unset, .unset, .unset, .unset, .unset, .unset, .unset, .unset, .unset, .unset, .unset, .unset, .unset, .unset, .unset, .unset, .unset, .unset, .unset, .unset] [])) _
        refine XS.iload X0.here hx rfl (hb hby at_35) rfl ?_
        show Steps p.tables e below (s₁.setTop (mkF m 37 #[.val (.int p0), .val (.int p1), .val (.int p2), .val (.int r0), .val (.int r1), .val (.int r2), .val (.int r3), .unset, .unset, .unset, .unset, .unset, .unset, .unset, .unset, .unset, .unset, .unset, .unset, .unset, .unset, .unset, .unset, .unset, .unset, .unset, .unset] [(.int r2)])) _
        by_cases hc8 : r2 = (0 : Int32)
        · rw [if_pos hc8] at hv10
          refine XS.ifYes X0.here hx rfl (pc0 := 37) (pc' := 45) rfl (hb hby at_37) rfl ((if0 _ _).trans (teq hc8).1) (by decide) (by decide) ?_
          show Steps p.tables e below (s₁.setTop (mkF m 45 #[.val (.int p0), .val (.int p1), .val (.int p2), .val (.int r0), .val (.int r1), .val (.int r2), .val (.int r3), .unset, .unset, .unset, .unset, .unset, .unset, .unset, .unset, .unset, .unset, .unset, .unset, .unset, .unset, .unset, .unset, .unset, .unset, .unset, .unset] [])) _
          refine XS.iconst X0.here hx rfl (hb hby at_45) ?_
          show Steps p.tables e below (s₁.setTop (mkF m 46 #[.val (.int p0), .val (.int p1), .val (.int p2), .val (.int r0), .val (.int r1), .val (.int r2), .val (.int r3), .unset, .unset, .unset, .unset, .unset, .unset, .unset, .unset, .unset, .unset, .unset, .unset, .unset, .unset, .unset, .unset, .unset, .unset, .unset, .unset] [(.int (1 : Int32))])) _
          refine XS.goto X0.here hx rfl (pc0 := 46) (pc' := 50) rfl (hb hby at_46) (by decide) (by decide) ?_
          show Steps p.tables e below (s₁.setTop (mkF m 50 #[.val (.int p0), .val (.int p1), .val (.int p2), .val (.int r0), .val (.int r1), .val (.int r2), .val (.int r3), .unset, .unset, .unset, .unset, .unset, .unset, .unset, .unset, .unset, .unset, .unset, .unset, .unset, .unset, .unset, .unset, .unset, .unset, .unset, .unset] [(.int (1 : Int32))])) _
          rw [hv10]
          exact Steps.refl _
        · rw [if_neg hc8] at hv10
          refine XS.ifNo X0.here hx rfl (hb hby at_37) rfl ((if0 _ _).trans (feq hc8).1) ?_
          show Steps p.tables e below (s₁.setTop (mkF m 40 #[.val (.int p0), .val (.int p1), .val (.int p2), .val (.int r0), .val (.int r1), .val (.int r2), .val (.int r3), .unset, .unset, .unset, .unset, .unset, .unset, .unset, .unset, .unset, .unset, .unset, .unset, .unset, .unset, .unset, .unset, .unset, .unset, .unset, .unset] [])) _
          refine XS.iload X0.here hx rfl (hb hby at_40) rfl ?_
          show Steps p.tables e below (s₁.setTop (mkF m 42 #[.val (.int p0), .val (.int p1), .val (.int p2), .val (.int r0), .val (.int r1), .val (.int r2), .val (.int r3), .unset, .unset, .unset, .unset, .unset, .unset, .unset, .unset, .unset, .unset, .unset, .unset, .unset, .unset, .unset, .unset, .unset, .unset, .unset, .unset] [(.int r3)])) _
          by_cases hc9 : r3 = (0 : Int32)
          · rw [if_pos hc9] at hv10
            refine XS.ifNo X0.here hx rfl (hb hby at_42) rfl ((if0 _ _).trans (teq hc9).2) ?_
            show Steps p.tables e below (s₁.setTop (mkF m 45 #[.val (.int p0), .val (.int p1), .val (.int p2), .val (.int r0), .val (.int r1), .val (.int r2), .val (.int r3), .unset, .unset, .unset, .unset, .unset, .unset, .unset, .unset, .unset, .unset, .unset, .unset, .unset, .unset, .unset, .unset, .unset, .unset, .unset, .unset] [])) _
            refine XS.iconst X0.here hx rfl (hb hby at_45) ?_
            show Steps p.tables e below (s₁.setTop (mkF m 46 #[.val (.int p0), .val (.int p1), .val (.int p2), .val (.int r0), .val (.int r1), .val (.int r2), .val (.int r3), .unset, .unset, .unset, .unset, .unset, .unset, .unset, .unset, .unset, .unset, .unset, .unset, .unset, .unset, .unset, .unset, .unset, .unset, .unset, .unset] [(.int (1 : Int32))])) _
            refine XS.goto X0.here hx rfl (pc0 := 46) (pc' := 50) rfl (hb hby at_46) (by decide) (by decide) ?_
            show Steps p.tables e below (s₁.setTop (mkF m 50 #[.val (.int p0), .val (.int p1), .val (.int p2), .val (.int r0), .val (.int r1), .val (.int r2), .val (.int r3), .unset, .unset, .unset, .unset, .unset, .unset, .unset, .unset, .unset, .unset, .unset, .unset, .unset, .unset, .unset, .unset, .unset, .unset, .unset, .unset] [(.int (1 : Int32))])) _
            rw [hv10]
            exact Steps.refl _
          · rw [if_neg hc9] at hv10
            refine XS.ifYes X0.here hx rfl (pc0 := 42) (pc' := 49) rfl (hb hby at_42) rfl ((if0 _ _).trans (feq hc9).2) (by decide) (by decide) ?_
            show Steps p.tables e below (s₁.setTop (mkF m 49 #[.val (.int p0), .val (.int p1), .val (.int p2), .val (.int r0), .val (.int r1), .val (.int r2), .val (.int r3), .unset, .unset, .unset, .unset, .unset, .unset, .unset, .unset, .unset, .unset, .unset, .unset, .unset, .unset, .unset, .unset, .unset, .unset, .unset, .unset] [])) _
            refine XS.iconst X0.here hx rfl (hb hby at_49) ?_
            show Steps p.tables e below (s₁.setTop (mkF m 50 #[.val (.int p0), .val (.int p1), .val (.int p2), .val (.int r0), .val (.int r1), .val (.int r2), .val (.int r3), .unset, .unset, .unset, .unset, .unset, .unset, .unset, .unset, .unset, .unset, .unset, .unset, .unset, .unset, .unset, .unset, .unset, .unset, .unset, .unset] [(.int (0 : Int32))])) _
            rw [hv10]
            exact Steps.refl _
  have q12 : Steps p.tables e below (s₁.setTop (entryFrame m #[(.int p0), (.int p1), (.int p2)] maxLocals)) (s₁.setTop (mkF m 54 #[.val (.int p0), .val (.int p1), .val (.int p2), .val (.int r0), .val (.int r1), .val (.int r2), .val (.int r3), .val (.int v10), .unset, .unset, .unset, .unset, .unset, .unset, .unset, .unset, .unset, .unset, .unset, .unset, .unset, .unset, .unset, .unset, .unset, .unset, .unset] [(.int (1 : Int32)), (.int r0)])) := q11.trans (by
      show Steps p.tables e below (s₁.setTop (mkF m 50 #[.val (.int p0), .val (.int p1), .val (.int p2), .val (.int r0), .val (.int r1), .val (.int r2), .val (.int r3), .unset, .unset, .unset, .unset, .unset, .unset, .unset, .unset, .unset, .unset, .unset, .unset, .unset, .unset, .unset, .unset, .unset, .unset, .unset, .unset] [(.int v10)])) _
      refine XS.istore X0.here hx rfl (hb hby at_50) rfl (l' := #[.val (.int p0), .val (.int p1), .val (.int p2), .val (.int r0), .val (.int r1), .val (.int r2), .val (.int r3), .val (.int v10), .unset, .unset, .unset, .unset, .unset, .unset, .unset, .unset, .unset, .unset, .unset, .unset, .unset, .unset, .unset, .unset, .unset, .unset, .unset]) rfl ?_
      show Steps p.tables e below (s₁.setTop (mkF m 52 #[.val (.int p0), .val (.int p1), .val (.int p2), .val (.int r0), .val (.int r1), .val (.int r2), .val (.int r3), .val (.int v10), .unset, .unset, .unset, .unset, .unset, .unset, .unset, .unset, .unset, .unset, .unset, .unset, .unset, .unset, .unset, .unset, .unset, .unset, .unset] [])) _
      refine XS.iloadN X0.here hx rfl (hb hby at_52) rfl ?_
      show Steps p.tables e below (s₁.setTop (mkF m 53 #[.val (.int p0), .val (.int p1), .val (.int p2), .val (.int r0), .val (.int r1), .val (.int r2), .val (.int r3), .val (.int v10), .unset, .unset, .unset, .unset, .unset, .unset, .unset, .unset, .unset, .unset, .unset, .unset, .unset, .unset, .unset, .unset, .unset, .unset, .unset] [(.int r0)])) _
      refine XS.iconst X0.here hx rfl (hb hby at_53) ?_
      show Steps p.tables e below (s₁.setTop (mkF m 54 #[.val (.int p0), .val (.int p1), .val (.int p2), .val (.int r0), .val (.int r1), .val (.int r2), .val (.int r3), .val (.int v10), .unset, .unset, .unset, .unset, .unset, .unset, .unset, .unset, .unset, .unset, .unset, .unset, .unset, .unset, .unset, .unset, .unset, .unset, .unset] [(.int (1 : Int32)), (.int r0)])) _
      exact Steps.refl _)
  obtain ⟨v17, hv17, hM⟩ := Option.bind_eq_some_iff.mp hM
  have hv17 := (Option.some.inj hv17).symm
  have q18 : Steps p.tables e below (s₁.setTop (entryFrame m #[(.int p0), (.int p1), (.int p2)] maxLocals)) (s₁.setTop (mkF m 80 #[.val (.int p0), .val (.int p1), .val (.int p2), .val (.int r0), .val (.int r1), .val (.int r2), .val (.int r3), .val (.int v10), .unset, .unset, .unset, .unset, .unset, .unset, .unset, .unset, .unset, .unset, .unset, .unset, .unset, .unset, .unset, .unset, .unset, .unset, .unset] [(.int v17)])) := by
    refine q12.trans ?_
    show Steps p.tables e below (s₁.setTop (mkF m 54 #[.val (.int p0), .val (.int p1), .val (.int p2), .val (.int r0), .val (.int r1), .val (.int r2), .val (.int r3), .val (.int v10), .unset, .unset, .unset, .unset, .unset, .unset, .unset, .unset, .unset, .unset, .unset, .unset, .unset, .unset, .unset, .unset, .unset, .unset, .unset] [(.int (1 : Int32)), (.int r0)])) _
    by_cases hc13 : r0 = (1 : Int32)
    · rw [if_pos hc13] at hv17
      refine XS.icmpYes X0.here hx rfl (pc0 := 54) (pc' := 75) rfl (hb hby at_54) rfl (teq hc13).1 (by decide) (by decide) ?_
      show Steps p.tables e below (s₁.setTop (mkF m 75 #[.val (.int p0), .val (.int p1), .val (.int p2), .val (.int r0), .val (.int r1), .val (.int r2), .val (.int r3), .val (.int v10), .unset, .unset, .unset, .unset, .unset, .unset, .unset, .unset, .unset, .unset, .unset, .unset, .unset, .unset, .unset, .unset, .unset, .unset, .unset] [])) _
      refine XS.iconst X0.here hx rfl (hb hby at_75) ?_
      show Steps p.tables e below (s₁.setTop (mkF m 76 #[.val (.int p0), .val (.int p1), .val (.int p2), .val (.int r0), .val (.int r1), .val (.int r2), .val (.int r3), .val (.int v10), .unset, .unset, .unset, .unset, .unset, .unset, .unset, .unset, .unset, .unset, .unset, .unset, .unset, .unset, .unset, .unset, .unset, .unset, .unset] [(.int (1 : Int32))])) _
      refine XS.goto X0.here hx rfl (pc0 := 76) (pc' := 80) rfl (hb hby at_76) (by decide) (by decide) ?_
      show Steps p.tables e below (s₁.setTop (mkF m 80 #[.val (.int p0), .val (.int p1), .val (.int p2), .val (.int r0), .val (.int r1), .val (.int r2), .val (.int r3), .val (.int v10), .unset, .unset, .unset, .unset, .unset, .unset, .unset, .unset, .unset, .unset, .unset, .unset, .unset, .unset, .unset, .unset, .unset, .unset, .unset] [(.int (1 : Int32))])) _
      rw [hv17]
      exact Steps.refl _
    · rw [if_neg hc13] at hv17
      refine XS.icmpNo X0.here hx rfl (hb hby at_54) rfl (feq hc13).1 ?_
      show Steps p.tables e below (s₁.setTop (mkF m 57 #[.val (.int p0), .val (.int p1), .val (.int p2), .val (.int r0), .val (.int r1), .val (.int r2), .val (.int r3), .val (.int v10), .unset, .unset, .unset, .unset, .unset, .unset, .unset, .unset, .unset, .unset, .unset, .unset, .unset, .unset, .unset, .unset, .unset, .unset, .unset] [])) _
      refine XS.iload X0.here hx rfl (hb hby at_57) rfl ?_
      show Steps p.tables e below (s₁.setTop (mkF m 59 #[.val (.int p0), .val (.int p1), .val (.int p2), .val (.int r0), .val (.int r1), .val (.int r2), .val (.int r3), .val (.int v10), .unset, .unset, .unset, .unset, .unset, .unset, .unset, .unset, .unset, .unset, .unset, .unset, .unset, .unset, .unset, .unset, .unset, .unset, .unset] [(.int r1)])) _
      refine XS.iconst X0.here hx rfl (hb hby at_59) ?_
      show Steps p.tables e below (s₁.setTop (mkF m 60 #[.val (.int p0), .val (.int p1), .val (.int p2), .val (.int r0), .val (.int r1), .val (.int r2), .val (.int r3), .val (.int v10), .unset, .unset, .unset, .unset, .unset, .unset, .unset, .unset, .unset, .unset, .unset, .unset, .unset, .unset, .unset, .unset, .unset, .unset, .unset] [(.int (1 : Int32)), (.int r1)])) _
      by_cases hc14 : r1 = (1 : Int32)
      · rw [if_pos hc14] at hv17
        refine XS.icmpYes X0.here hx rfl (pc0 := 60) (pc' := 75) rfl (hb hby at_60) rfl (teq hc14).1 (by decide) (by decide) ?_
        show Steps p.tables e below (s₁.setTop (mkF m 75 #[.val (.int p0), .val (.int p1), .val (.int p2), .val (.int r0), .val (.int r1), .val (.int r2), .val (.int r3), .val (.int v10), .unset, .unset, .unset, .unset, .unset, .unset, .unset, .unset, .unset, .unset, .unset, .unset, .unset, .unset, .unset, .unset, .unset, .unset, .unset] [])) _
        refine XS.iconst X0.here hx rfl (hb hby at_75) ?_
        show Steps p.tables e below (s₁.setTop (mkF m 76 #[.val (.int p0), .val (.int p1), .val (.int p2), .val (.int r0), .val (.int r1), .val (.int r2), .val (.int r3), .val (.int v10), .unset, .unset, .unset, .unset, .unset, .unset, .unset, .unset, .unset, .unset, .unset, .unset, .unset, .unset, .unset, .unset, .unset, .unset, .unset] [(.int (1 : Int32))])) _
        refine XS.goto X0.here hx rfl (pc0 := 76) (pc' := 80) rfl (hb hby at_76) (by decide) (by decide) ?_
        show Steps p.tables e below (s₁.setTop (mkF m 80 #[.val (.int p0), .val (.int p1), .val (.int p2), .val (.int r0), .val (.int r1), .val (.int r2), .val (.int r3), .val (.int v10), .unset, .unset, .unset, .unset, .unset, .unset, .unset, .unset, .unset, .unset, .unset, .unset, .unset, .unset, .unset, .unset, .unset, .unset, .unset] [(.int (1 : Int32))])) _
        rw [hv17]
        exact Steps.refl _
      · rw [if_neg hc14] at hv17
        refine XS.icmpNo X0.here hx rfl (hb hby at_60) rfl (feq hc14).1 ?_
        show Steps p.tables e below (s₁.setTop (mkF m 63 #[.val (.int p0), .val (.int p1), .val (.int p2), .val (.int r0), .val (.int r1), .val (.int r2), .val (.int r3), .val (.int v10), .unset, .unset, .unset, .unset, .unset, .unset, .unset, .unset, .unset, .unset, .unset, .unset, .unset, .unset, .unset, .unset, .unset, .unset, .unset] [])) _
        refine XS.iload X0.here hx rfl (hb hby at_63) rfl ?_
        show Steps p.tables e below (s₁.setTop (mkF m 65 #[.val (.int p0), .val (.int p1), .val (.int p2), .val (.int r0), .val (.int r1), .val (.int r2), .val (.int r3), .val (.int v10), .unset, .unset, .unset, .unset, .unset, .unset, .unset, .unset, .unset, .unset, .unset, .unset, .unset, .unset, .unset, .unset, .unset, .unset, .unset] [(.int r2)])) _
        refine XS.iconst X0.here hx rfl (hb hby at_65) ?_
        show Steps p.tables e below (s₁.setTop (mkF m 66 #[.val (.int p0), .val (.int p1), .val (.int p2), .val (.int r0), .val (.int r1), .val (.int r2), .val (.int r3), .val (.int v10), .unset, .unset, .unset, .unset, .unset, .unset, .unset, .unset, .unset, .unset, .unset, .unset, .unset, .unset, .unset, .unset, .unset, .unset, .unset] [(.int (1 : Int32)), (.int r2)])) _
        by_cases hc15 : r2 = (1 : Int32)
        · rw [if_pos hc15] at hv17
          refine XS.icmpYes X0.here hx rfl (pc0 := 66) (pc' := 75) rfl (hb hby at_66) rfl (teq hc15).1 (by decide) (by decide) ?_
          show Steps p.tables e below (s₁.setTop (mkF m 75 #[.val (.int p0), .val (.int p1), .val (.int p2), .val (.int r0), .val (.int r1), .val (.int r2), .val (.int r3), .val (.int v10), .unset, .unset, .unset, .unset, .unset, .unset, .unset, .unset, .unset, .unset, .unset, .unset, .unset, .unset, .unset, .unset, .unset, .unset, .unset] [])) _
          refine XS.iconst X0.here hx rfl (hb hby at_75) ?_
          show Steps p.tables e below (s₁.setTop (mkF m 76 #[.val (.int p0), .val (.int p1), .val (.int p2), .val (.int r0), .val (.int r1), .val (.int r2), .val (.int r3), .val (.int v10), .unset, .unset, .unset, .unset, .unset, .unset, .unset, .unset, .unset, .unset, .unset, .unset, .unset, .unset, .unset, .unset, .unset, .unset, .unset] [(.int (1 : Int32))])) _
          refine XS.goto X0.here hx rfl (pc0 := 76) (pc' := 80) rfl (hb hby at_76) (by decide) (by decide) ?_
          show Steps p.tables e below (s₁.setTop (mkF m 80 #[.val (.int p0), .val (.int p1), .val (.int p2), .val (.int r0), .val (.int r1), .val (.int r2), .val (.int r3), .val (.int v10), .unset, .unset, .unset, .unset, .unset, .unset, .unset, .unset, .unset, .unset, .unset, .unset, .unset, .unset, .unset, .unset, .unset, .unset, .unset] [(.int (1 : Int32))])) _
          rw [hv17]
          exact Steps.refl _
        · rw [if_neg hc15] at hv17
          refine XS.icmpNo X0.here hx rfl (hb hby at_66) rfl (feq hc15).1 ?_
          show Steps p.tables e below (s₁.setTop (mkF m 69 #[.val (.int p0), .val (.int p1), .val (.int p2), .val (.int r0), .val (.int r1), .val (.int r2), .val (.int r3), .val (.int v10), .unset, .unset, .unset, .unset, .unset, .unset, .unset, .unset, .unset, .unset, .unset, .unset, .unset, .unset, .unset, .unset, .unset, .unset, .unset] [])) _
          refine XS.iload X0.here hx rfl (hb hby at_69) rfl ?_
          show Steps p.tables e below (s₁.setTop (mkF m 71 #[.val (.int p0), .val (.int p1), .val (.int p2), .val (.int r0), .val (.int r1), .val (.int r2), .val (.int r3), .val (.int v10), .unset, .unset, .unset, .unset, .unset, .unset, .unset, .unset, .unset, .unset, .unset, .unset, .unset, .unset, .unset, .unset, .unset, .unset, .unset] [(.int r3)])) _
          refine XS.iconst X0.here hx rfl (hb hby at_71) ?_
          show Steps p.tables e below (s₁.setTop (mkF m 72 #[.val (.int p0), .val (.int p1), .val (.int p2), .val (.int r0), .val (.int r1), .val (.int r2), .val (.int r3), .val (.int v10), .unset, .unset, .unset, .unset, .unset, .unset, .unset, .unset, .unset, .unset, .unset, .unset, .unset, .unset, .unset, .unset, .unset, .unset, .unset] [(.int (1 : Int32)), (.int r3)])) _
          by_cases hc16 : r3 = (1 : Int32)
          · rw [if_pos hc16] at hv17
            refine XS.icmpNo X0.here hx rfl (hb hby at_72) rfl (teq hc16).2 ?_
            show Steps p.tables e below (s₁.setTop (mkF m 75 #[.val (.int p0), .val (.int p1), .val (.int p2), .val (.int r0), .val (.int r1), .val (.int r2), .val (.int r3), .val (.int v10), .unset, .unset, .unset, .unset, .unset, .unset, .unset, .unset, .unset, .unset, .unset, .unset, .unset, .unset, .unset, .unset, .unset, .unset, .unset] [])) _
            refine XS.iconst X0.here hx rfl (hb hby at_75) ?_
            show Steps p.tables e below (s₁.setTop (mkF m 76 #[.val (.int p0), .val (.int p1), .val (.int p2), .val (.int r0), .val (.int r1), .val (.int r2), .val (.int r3), .val (.int v10), .unset, .unset, .unset, .unset, .unset, .unset, .unset, .unset, .unset, .unset, .unset, .unset, .unset, .unset, .unset, .unset, .unset, .unset, .unset] [(.int (1 : Int32))])) _
            refine XS.goto X0.here hx rfl (pc0 := 76) (pc' := 80) rfl (hb hby at_76) (by decide) (by decide) ?_
            show Steps p.tables e below (s₁.setTop (mkF m 80 #[.val (.int p0), .val (.int p1), .val (.int p2), .val (.int r0), .val (.int r1), .val (.int r2), .val (.int r3), .val (.int v10), .unset, .unset, .unset, .unset, .unset, .unset, .unset, .unset, .unset, .unset, .unset, .unset, .unset, .unset, .unset, .unset, .unset, .unset, .unset] [(.int (1 : Int32))])) _
            rw [hv17]
            exact Steps.refl _
          · rw [if_neg hc16] at hv17
            refine XS.icmpYes X0.here hx rfl (pc0 := 72) (pc' := 79) rfl (hb hby at_72) rfl (feq hc16).2 (by decide) (by decide) ?_
            show Steps p.tables e below (s₁.setTop (mkF m 79 #[.val (.int p0), .val (.int p1), .val (.int p2), .val (.int r0), .val (.int r1), .val (.int r2), .val (.int r3), .val (.int v10), .unset, .unset, .unset, .unset, .unset, .unset, .unset, .unset, .unset, .unset, .unset, .unset, .unset, .unset, .unset, .unset, .unset, .unset, .unset] [])) _
            refine XS.iconst X0.here hx rfl (hb hby at_79) ?_
            show Steps p.tables e below (s₁.setTop (mkF m 80 #[.val (.int p0), .val (.int p1), .val (.int p2), .val (.int r0), .val (.int r1), .val (.int r2), .val (.int r3), .val (.int v10), .unset, .unset, .unset, .unset, .unset, .unset, .unset, .unset, .unset, .unset, .unset, .unset, .unset, .unset, .unset, .unset, .unset, .unset, .unset] [(.int (0 : Int32))])) _
            rw [hv17]
            exact Steps.refl _
  have q19 : Steps p.tables e below (s₁.setTop (entryFrame m #[(.int p0), (.int p1), (.int p2)] maxLocals)) (s₁.setTop (mkF m 84 #[.val (.int p0), .val (.int p1), .val (.int p2), .val (.int r0), .val (.int r1), .val (.int r2), .val (.int r3), .val (.int v10), .val (.int v17), .unset, .unset, .unset, .unset, .unset, .unset, .unset, .unset, .unset, .unset, .unset, .unset, .unset, .unset, .unset, .unset, .unset, .unset] [(.int (2 : Int32)), (.int r0)])) := q18.trans (by
      show Steps p.tables e below (s₁.setTop (mkF m 80 #[.val (.int p0), .val (.int p1), .val (.int p2), .val (.int r0), .val (.int r1), .val (.int r2), .val (.int r3), .val (.int v10), .unset, .unset, .unset, .unset, .unset, .unset, .unset, .unset, .unset, .unset, .unset, .unset, .unset, .unset, .unset, .unset, .unset, .unset, .unset] [(.int v17)])) _
      refine XS.istore X0.here hx rfl (hb hby at_80) rfl (l' := #[.val (.int p0), .val (.int p1), .val (.int p2), .val (.int r0), .val (.int r1), .val (.int r2), .val (.int r3), .val (.int v10), .val (.int v17), .unset, .unset, .unset, .unset, .unset, .unset, .unset, .unset, .unset, .unset, .unset, .unset, .unset, .unset, .unset, .unset, .unset, .unset]) rfl ?_
      show Steps p.tables e below (s₁.setTop (mkF m 82 #[.val (.int p0), .val (.int p1), .val (.int p2), .val (.int r0), .val (.int r1), .val (.int r2), .val (.int r3), .val (.int v10), .val (.int v17), .unset, .unset, .unset, .unset, .unset, .unset, .unset, .unset, .unset, .unset, .unset, .unset, .unset, .unset, .unset, .unset, .unset, .unset] [])) _
      refine XS.iloadN X0.here hx rfl (hb hby at_82) rfl ?_
      show Steps p.tables e below (s₁.setTop (mkF m 83 #[.val (.int p0), .val (.int p1), .val (.int p2), .val (.int r0), .val (.int r1), .val (.int r2), .val (.int r3), .val (.int v10), .val (.int v17), .unset, .unset, .unset, .unset, .unset, .unset, .unset, .unset, .unset, .unset, .unset, .unset, .unset, .unset, .unset, .unset, .unset, .unset] [(.int r0)])) _
      refine XS.iconst X0.here hx rfl (hb hby at_83) ?_
      show Steps p.tables e below (s₁.setTop (mkF m 84 #[.val (.int p0), .val (.int p1), .val (.int p2), .val (.int r0), .val (.int r1), .val (.int r2), .val (.int r3), .val (.int v10), .val (.int v17), .unset, .unset, .unset, .unset, .unset, .unset, .unset, .unset, .unset, .unset, .unset, .unset, .unset, .unset, .unset, .unset, .unset, .unset] [(.int (2 : Int32)), (.int r0)])) _
      exact Steps.refl _)
  obtain ⟨v24, hv24, hM⟩ := Option.bind_eq_some_iff.mp hM
  have hv24 := (Option.some.inj hv24).symm
  have q25 : Steps p.tables e below (s₁.setTop (entryFrame m #[(.int p0), (.int p1), (.int p2)] maxLocals)) (s₁.setTop (mkF m 110 #[.val (.int p0), .val (.int p1), .val (.int p2), .val (.int r0), .val (.int r1), .val (.int r2), .val (.int r3), .val (.int v10), .val (.int v17), .unset, .unset, .unset, .unset, .unset, .unset, .unset, .unset, .unset, .unset, .unset, .unset, .unset, .unset, .unset, .unset, .unset, .unset] [(.int v24)])) := by
    refine q19.trans ?_
    show Steps p.tables e below (s₁.setTop (mkF m 84 #[.val (.int p0), .val (.int p1), .val (.int p2), .val (.int r0), .val (.int r1), .val (.int r2), .val (.int r3), .val (.int v10), .val (.int v17), .unset, .unset, .unset, .unset, .unset, .unset, .unset, .unset, .unset, .unset, .unset, .unset, .unset, .unset, .unset, .unset, .unset, .unset] [(.int (2 : Int32)), (.int r0)])) _
    by_cases hc20 : r0 = (2 : Int32)
    · rw [if_pos hc20] at hv24
      refine XS.icmpYes X0.here hx rfl (pc0 := 84) (pc' := 105) rfl (hb hby at_84) rfl (teq hc20).1 (by decide) (by decide) ?_
      show Steps p.tables e below (s₁.setTop (mkF m 105 #[.val (.int p0), .val (.int p1), .val (.int p2), .val (.int r0), .val (.int r1), .val (.int r2), .val (.int r3), .val (.int v10), .val (.int v17), .unset, .unset, .unset, .unset, .unset, .unset, .unset, .unset, .unset, .unset, .unset, .unset, .unset, .unset, .unset, .unset, .unset, .unset] [])) _
      refine XS.iconst X0.here hx rfl (hb hby at_105) ?_
      show Steps p.tables e below (s₁.setTop (mkF m 106 #[.val (.int p0), .val (.int p1), .val (.int p2), .val (.int r0), .val (.int r1), .val (.int r2), .val (.int r3), .val (.int v10), .val (.int v17), .unset, .unset, .unset, .unset, .unset, .unset, .unset, .unset, .unset, .unset, .unset, .unset, .unset, .unset, .unset, .unset, .unset, .unset] [(.int (1 : Int32))])) _
      refine XS.goto X0.here hx rfl (pc0 := 106) (pc' := 110) rfl (hb hby at_106) (by decide) (by decide) ?_
      show Steps p.tables e below (s₁.setTop (mkF m 110 #[.val (.int p0), .val (.int p1), .val (.int p2), .val (.int r0), .val (.int r1), .val (.int r2), .val (.int r3), .val (.int v10), .val (.int v17), .unset, .unset, .unset, .unset, .unset, .unset, .unset, .unset, .unset, .unset, .unset, .unset, .unset, .unset, .unset, .unset, .unset, .unset] [(.int (1 : Int32))])) _
      rw [hv24]
      exact Steps.refl _
    · rw [if_neg hc20] at hv24
      refine XS.icmpNo X0.here hx rfl (hb hby at_84) rfl (feq hc20).1 ?_
      show Steps p.tables e below (s₁.setTop (mkF m 87 #[.val (.int p0), .val (.int p1), .val (.int p2), .val (.int r0), .val (.int r1), .val (.int r2), .val (.int r3), .val (.int v10), .val (.int v17), .unset, .unset, .unset, .unset, .unset, .unset, .unset, .unset, .unset, .unset, .unset, .unset, .unset, .unset, .unset, .unset, .unset, .unset] [])) _
      refine XS.iload X0.here hx rfl (hb hby at_87) rfl ?_
      show Steps p.tables e below (s₁.setTop (mkF m 89 #[.val (.int p0), .val (.int p1), .val (.int p2), .val (.int r0), .val (.int r1), .val (.int r2), .val (.int r3), .val (.int v10), .val (.int v17), .unset, .unset, .unset, .unset, .unset, .unset, .unset, .unset, .unset, .unset, .unset, .unset, .unset, .unset, .unset, .unset, .unset, .unset] [(.int r1)])) _
      refine XS.iconst X0.here hx rfl (hb hby at_89) ?_
      show Steps p.tables e below (s₁.setTop (mkF m 90 #[.val (.int p0), .val (.int p1), .val (.int p2), .val (.int r0), .val (.int r1), .val (.int r2), .val (.int r3), .val (.int v10), .val (.int v17), .unset, .unset, .unset, .unset, .unset, .unset, .unset, .unset, .unset, .unset, .unset, .unset, .unset, .unset, .unset, .unset, .unset, .unset] [(.int (2 : Int32)), (.int r1)])) _
      by_cases hc21 : r1 = (2 : Int32)
      · rw [if_pos hc21] at hv24
        refine XS.icmpYes X0.here hx rfl (pc0 := 90) (pc' := 105) rfl (hb hby at_90) rfl (teq hc21).1 (by decide) (by decide) ?_
        show Steps p.tables e below (s₁.setTop (mkF m 105 #[.val (.int p0), .val (.int p1), .val (.int p2), .val (.int r0), .val (.int r1), .val (.int r2), .val (.int r3), .val (.int v10), .val (.int v17), .unset, .unset, .unset, .unset, .unset, .unset, .unset, .unset, .unset, .unset, .unset, .unset, .unset, .unset, .unset, .unset, .unset, .unset] [])) _
        refine XS.iconst X0.here hx rfl (hb hby at_105) ?_
        show Steps p.tables e below (s₁.setTop (mkF m 106 #[.val (.int p0), .val (.int p1), .val (.int p2), .val (.int r0), .val (.int r1), .val (.int r2), .val (.int r3), .val (.int v10), .val (.int v17), .unset, .unset, .unset, .unset, .unset, .unset, .unset, .unset, .unset, .unset, .unset, .unset, .unset, .unset, .unset, .unset, .unset, .unset] [(.int (1 : Int32))])) _
        refine XS.goto X0.here hx rfl (pc0 := 106) (pc' := 110) rfl (hb hby at_106) (by decide) (by decide) ?_
        show Steps p.tables e below (s₁.setTop (mkF m 110 #[.val (.int p0), .val (.int p1), .val (.int p2), .val (.int r0), .val (.int r1), .val (.int r2), .val (.int r3), .val (.int v10), .val (.int v17), .unset, .unset, .unset, .unset, .unset, .unset, .unset, .unset, .unset, .unset, .unset, .unset, .unset, .unset, .unset, .unset, .unset, .unset] [(.int (1 : Int32))])) _
        rw [hv24]
        exact Steps.refl _
      · rw [if_neg hc21] at hv24
        refine XS.icmpNo X0.here hx rfl (hb hby at_90) rfl (feq hc21).1 ?_
        show Steps p.tables e below (s₁.setTop (mkF m 93 #[.val (.int p0), .val (.int p1), .val (.int p2), .val (.int r0), .val (.int r1), .val (.int r2), .val (.int r3), .val (.int v10), .val (.int v17), .unset, .unset, .unset, .unset, .unset, .unset, .unset, .unset, .unset, .unset, .unset, .unset, .unset, .unset, .unset, .unset, .unset, .unset] [])) _
        refine XS.iload X0.here hx rfl (hb hby at_93) rfl ?_
        show Steps p.tables e below (s₁.setTop (mkF m 95 #[.val (.int p0), .val (.int p1), .val (.int p2), .val (.int r0), .val (.int r1), .val (.int r2), .val (.int r3), .val (.int v10), .val (.int v17), .unset, .unset, .unset, .unset, .unset, .unset, .unset, .unset, .unset, .unset, .unset, .unset, .unset, .unset, .unset, .unset, .unset, .unset] [(.int r2)])) _
        refine XS.iconst X0.here hx rfl (hb hby at_95) ?_
        show Steps p.tables e below (s₁.setTop (mkF m 96 #[.val (.int p0), .val (.int p1), .val (.int p2), .val (.int r0), .val (.int r1), .val (.int r2), .val (.int r3), .val (.int v10), .val (.int v17), .unset, .unset, .unset, .unset, .unset, .unset, .unset, .unset, .unset, .unset, .unset, .unset, .unset, .unset, .unset, .unset, .unset, .unset] [(.int (2 : Int32)), (.int r2)])) _
        by_cases hc22 : r2 = (2 : Int32)
        · rw [if_pos hc22] at hv24
          refine XS.icmpYes X0.here hx rfl (pc0 := 96) (pc' := 105) rfl (hb hby at_96) rfl (teq hc22).1 (by decide) (by decide) ?_
          show Steps p.tables e below (s₁.setTop (mkF m 105 #[.val (.int p0), .val (.int p1), .val (.int p2), .val (.int r0), .val (.int r1), .val (.int r2), .val (.int r3), .val (.int v10), .val (.int v17), .unset, .unset, .unset, .unset, .unset, .unset, .unset, .unset, .unset, .unset, .unset, .unset, .unset, .unset, .unset, .unset, .unset, .unset] [])) _
          refine XS.iconst X0.here hx rfl (hb hby at_105) ?_
          show Steps p.tables e below (s₁.setTop (mkF m 106 #[.val (.int p0), .val (.int p1), .val (.int p2), .val (.int r0), .val (.int r1), .val (.int r2), .val (.int r3), .val (.int v10), .val (.int v17), .unset, .unset, .unset, .unset, .unset, .unset, .unset, .unset, .unset, .unset, .unset, .unset, .unset, .unset, .unset, .unset, .unset, .unset] [(.int (1 : Int32))])) _
          refine XS.goto X0.here hx rfl (pc0 := 106) (pc' := 110) rfl (hb hby at_106) (by decide) (by decide) ?_
          show Steps p.tables e below (s₁.setTop (mkF m 110 #[.val (.int p0), .val (.int p1), .val (.int p2), .val (.int r0), .val (.int r1), .val (.int r2), .val (.int r3), .val (.int v10), .val (.int v17), .unset, .unset, .unset, .unset, .unset, .unset, .unset, .unset, .unset, .unset, .unset, .unset, .unset, .unset, .unset, .unset, .unset, .unset] [(.int (1 : Int32))])) _
          rw [hv24]
          exact Steps.refl _
        · rw [if_neg hc22] at hv24
          refine XS.icmpNo X0.here hx rfl (hb hby at_96) rfl (feq hc22).1 ?_
          show Steps p.tables e below (s₁.setTop (mkF m 99 #[.val (.int p0), .val (.int p1), .val (.int p2), .val (.int r0), .val (.int r1), .val (.int r2), .val (.int r3), .val (.int v10), .val (.int v17), .unset, .unset, .unset, .unset, .unset, .unset, .unset, .unset, .unset, .unset, .unset, .unset, .unset, .unset, .unset, .unset, .unset, .unset] [])) _
          refine XS.iload X0.here hx rfl (hb hby at_99) rfl ?_
          show Steps p.tables e below (s₁.setTop (mkF m 101 #[.val (.int p0), .val (.int p1), .val (.int p2), .val (.int r0), .val (.int r1), .val (.int r2), .val (.int r3), .val (.int v10), .val (.int v17), .unset, .unset, .unset, .unset, .unset, .unset, .unset, .unset, .unset, .unset, .unset, .unset, .unset, .unset, .unset, .unset, .unset, .unset] [(.int r3)])) _
          refine XS.iconst X0.here hx rfl (hb hby at_101) ?_
          show Steps p.tables e below (s₁.setTop (mkF m 102 #[.val (.int p0), .val (.int p1), .val (.int p2), .val (.int r0), .val (.int r1), .val (.int r2), .val (.int r3), .val (.int v10), .val (.int v17), .unset, .unset, .unset, .unset, .unset, .unset, .unset, .unset, .unset, .unset, .unset, .unset, .unset, .unset, .unset, .unset, .unset, .unset] [(.int (2 : Int32)), (.int r3)])) _
          by_cases hc23 : r3 = (2 : Int32)
          · rw [if_pos hc23] at hv24
            refine XS.icmpNo X0.here hx rfl (hb hby at_102) rfl (teq hc23).2 ?_
            show Steps p.tables e below (s₁.setTop (mkF m 105 #[.val (.int p0), .val (.int p1), .val (.int p2), .val (.int r0), .val (.int r1), .val (.int r2), .val (.int r3), .val (.int v10), .val (.int v17), .unset, .unset, .unset, .unset, .unset, .unset, .unset, .unset, .unset, .unset, .unset, .unset, .unset, .unset, .unset, .unset, .unset, .unset] [])) _
            refine XS.iconst X0.here hx rfl (hb hby at_105) ?_
            show Steps p.tables e below (s₁.setTop (mkF m 106 #[.val (.int p0), .val (.int p1), .val (.int p2), .val (.int r0), .val (.int r1), .val (.int r2), .val (.int r3), .val (.int v10), .val (.int v17), .unset, .unset, .unset, .unset, .unset, .unset, .unset, .unset, .unset, .unset, .unset, .unset, .unset, .unset, .unset, .unset, .unset, .unset] [(.int (1 : Int32))])) _
            refine XS.goto X0.here hx rfl (pc0 := 106) (pc' := 110) rfl (hb hby at_106) (by decide) (by decide) ?_
            show Steps p.tables e below (s₁.setTop (mkF m 110 #[.val (.int p0), .val (.int p1), .val (.int p2), .val (.int r0), .val (.int r1), .val (.int r2), .val (.int r3), .val (.int v10), .val (.int v17), .unset, .unset, .unset, .unset, .unset, .unset, .unset, .unset, .unset, .unset, .unset, .unset, .unset, .unset, .unset, .unset, .unset, .unset] [(.int (1 : Int32))])) _
            rw [hv24]
            exact Steps.refl _
          · rw [if_neg hc23] at hv24
            refine XS.icmpYes X0.here hx rfl (pc0 := 102) (pc' := 109) rfl (hb hby at_102) rfl (feq hc23).2 (by decide) (by decide) ?_
            show Steps p.tables e below (s₁.setTop (mkF m 109 #[.val (.int p0), .val (.int p1), .val (.int p2), .val (.int r0), .val (.int r1), .val (.int r2), .val (.int r3), .val (.int v10), .val (.int v17), .unset, .unset, .unset, .unset, .unset, .unset, .unset, .unset, .unset, .unset, .unset, .unset, .unset, .unset, .unset, .unset, .unset, .unset] [])) _
            refine XS.iconst X0.here hx rfl (hb hby at_109) ?_
            show Steps p.tables e below (s₁.setTop (mkF m 110 #[.val (.int p0), .val (.int p1), .val (.int p2), .val (.int r0), .val (.int r1), .val (.int r2), .val (.int r3), .val (.int v10), .val (.int v17), .unset, .unset, .unset, .unset, .unset, .unset, .unset, .unset, .unset, .unset, .unset, .unset, .unset, .unset, .unset, .unset, .unset, .unset] [(.int (0 : Int32))])) _
            rw [hv24]
            exact Steps.refl _
  have q26 : Steps p.tables e below (s₁.setTop (entryFrame m #[(.int p0), (.int p1), (.int p2)] maxLocals)) (s₁.setTop (mkF m 114 #[.val (.int p0), .val (.int p1), .val (.int p2), .val (.int r0), .val (.int r1), .val (.int r2), .val (.int r3), .val (.int v10), .val (.int v17), .val (.int v24), .unset, .unset, .unset, .unset, .unset, .unset, .unset, .unset, .unset, .unset, .unset, .unset, .unset, .unset, .unset, .unset, .unset] [(.int (3 : Int32)), (.int r0)])) := q25.trans (by
      show Steps p.tables e below (s₁.setTop (mkF m 110 #[.val (.int p0), .val (.int p1), .val (.int p2), .val (.int r0), .val (.int r1), .val (.int r2), .val (.int r3), .val (.int v10), .val (.int v17), .unset, .unset, .unset, .unset, .unset, .unset, .unset, .unset, .unset, .unset, .unset, .unset, .unset, .unset, .unset, .unset, .unset, .unset] [(.int v24)])) _
      refine XS.istore X0.here hx rfl (hb hby at_110) rfl (l' := #[.val (.int p0), .val (.int p1), .val (.int p2), .val (.int r0), .val (.int r1), .val (.int r2), .val (.int r3), .val (.int v10), .val (.int v17), .val (.int v24), .unset, .unset, .unset, .unset, .unset, .unset, .unset, .unset, .unset, .unset, .unset, .unset, .unset, .unset, .unset, .unset, .unset]) rfl ?_
      show Steps p.tables e below (s₁.setTop (mkF m 112 #[.val (.int p0), .val (.int p1), .val (.int p2), .val (.int r0), .val (.int r1), .val (.int r2), .val (.int r3), .val (.int v10), .val (.int v17), .val (.int v24), .unset, .unset, .unset, .unset, .unset, .unset, .unset, .unset, .unset, .unset, .unset, .unset, .unset, .unset, .unset, .unset, .unset] [])) _
      refine XS.iloadN X0.here hx rfl (hb hby at_112) rfl ?_
      show Steps p.tables e below (s₁.setTop (mkF m 113 #[.val (.int p0), .val (.int p1), .val (.int p2), .val (.int r0), .val (.int r1), .val (.int r2), .val (.int r3), .val (.int v10), .val (.int v17), .val (.int v24), .unset, .unset, .unset, .unset, .unset, .unset, .unset, .unset, .unset, .unset, .unset, .unset, .unset, .unset, .unset, .unset, .unset] [(.int r0)])) _
      refine XS.iconst X0.here hx rfl (hb hby at_113) ?_
      show Steps p.tables e below (s₁.setTop (mkF m 114 #[.val (.int p0), .val (.int p1), .val (.int p2), .val (.int r0), .val (.int r1), .val (.int r2), .val (.int r3), .val (.int v10), .val (.int v17), .val (.int v24), .unset, .unset, .unset, .unset, .unset, .unset, .unset, .unset, .unset, .unset, .unset, .unset, .unset, .unset, .unset, .unset, .unset] [(.int (3 : Int32)), (.int r0)])) _
      exact Steps.refl _)
  obtain ⟨v31, hv31, hM⟩ := Option.bind_eq_some_iff.mp hM
  have hv31 := (Option.some.inj hv31).symm
  have q32 : Steps p.tables e below (s₁.setTop (entryFrame m #[(.int p0), (.int p1), (.int p2)] maxLocals)) (s₁.setTop (mkF m 140 #[.val (.int p0), .val (.int p1), .val (.int p2), .val (.int r0), .val (.int r1), .val (.int r2), .val (.int r3), .val (.int v10), .val (.int v17), .val (.int v24), .unset, .unset, .unset, .unset, .unset, .unset, .unset, .unset, .unset, .unset, .unset, .unset, .unset, .unset, .unset, .unset, .unset] [(.int v31)])) := by
    refine q26.trans ?_
    show Steps p.tables e below (s₁.setTop (mkF m 114 #[.val (.int p0), .val (.int p1), .val (.int p2), .val (.int r0), .val (.int r1), .val (.int r2), .val (.int r3), .val (.int v10), .val (.int v17), .val (.int v24), .unset, .unset, .unset, .unset, .unset, .unset, .unset, .unset, .unset, .unset, .unset, .unset, .unset, .unset, .unset, .unset, .unset] [(.int (3 : Int32)), (.int r0)])) _
    by_cases hc27 : r0 = (3 : Int32)
    · rw [if_pos hc27] at hv31
      refine XS.icmpYes X0.here hx rfl (pc0 := 114) (pc' := 135) rfl (hb hby at_114) rfl (teq hc27).1 (by decide) (by decide) ?_
      show Steps p.tables e below (s₁.setTop (mkF m 135 #[.val (.int p0), .val (.int p1), .val (.int p2), .val (.int r0), .val (.int r1), .val (.int r2), .val (.int r3), .val (.int v10), .val (.int v17), .val (.int v24), .unset, .unset, .unset, .unset, .unset, .unset, .unset, .unset, .unset, .unset, .unset, .unset, .unset, .unset, .unset, .unset, .unset] [])) _
      refine XS.iconst X0.here hx rfl (hb hby at_135) ?_
      show Steps p.tables e below (s₁.setTop (mkF m 136 #[.val (.int p0), .val (.int p1), .val (.int p2), .val (.int r0), .val (.int r1), .val (.int r2), .val (.int r3), .val (.int v10), .val (.int v17), .val (.int v24), .unset, .unset, .unset, .unset, .unset, .unset, .unset, .unset, .unset, .unset, .unset, .unset, .unset, .unset, .unset, .unset, .unset] [(.int (1 : Int32))])) _
      refine XS.goto X0.here hx rfl (pc0 := 136) (pc' := 140) rfl (hb hby at_136) (by decide) (by decide) ?_
      show Steps p.tables e below (s₁.setTop (mkF m 140 #[.val (.int p0), .val (.int p1), .val (.int p2), .val (.int r0), .val (.int r1), .val (.int r2), .val (.int r3), .val (.int v10), .val (.int v17), .val (.int v24), .unset, .unset, .unset, .unset, .unset, .unset, .unset, .unset, .unset, .unset, .unset, .unset, .unset, .unset, .unset, .unset, .unset] [(.int (1 : Int32))])) _
      rw [hv31]
      exact Steps.refl _
    · rw [if_neg hc27] at hv31
      refine XS.icmpNo X0.here hx rfl (hb hby at_114) rfl (feq hc27).1 ?_
      show Steps p.tables e below (s₁.setTop (mkF m 117 #[.val (.int p0), .val (.int p1), .val (.int p2), .val (.int r0), .val (.int r1), .val (.int r2), .val (.int r3), .val (.int v10), .val (.int v17), .val (.int v24), .unset, .unset, .unset, .unset, .unset, .unset, .unset, .unset, .unset, .unset, .unset, .unset, .unset, .unset, .unset, .unset, .unset] [])) _
      refine XS.iload X0.here hx rfl (hb hby at_117) rfl ?_
      show Steps p.tables e below (s₁.setTop (mkF m 119 #[.val (.int p0), .val (.int p1), .val (.int p2), .val (.int r0), .val (.int r1), .val (.int r2), .val (.int r3), .val (.int v10), .val (.int v17), .val (.int v24), .unset, .unset, .unset, .unset, .unset, .unset, .unset, .unset, .unset, .unset, .unset, .unset, .unset, .unset, .unset, .unset, .unset] [(.int r1)])) _
      refine XS.iconst X0.here hx rfl (hb hby at_119) ?_
      show Steps p.tables e below (s₁.setTop (mkF m 120 #[.val (.int p0), .val (.int p1), .val (.int p2), .val (.int r0), .val (.int r1), .val (.int r2), .val (.int r3), .val (.int v10), .val (.int v17), .val (.int v24), .unset, .unset, .unset, .unset, .unset, .unset, .unset, .unset, .unset, .unset, .unset, .unset, .unset, .unset, .unset, .unset, .unset] [(.int (3 : Int32)), (.int r1)])) _
      by_cases hc28 : r1 = (3 : Int32)
      · rw [if_pos hc28] at hv31
        refine XS.icmpYes X0.here hx rfl (pc0 := 120) (pc' := 135) rfl (hb hby at_120) rfl (teq hc28).1 (by decide) (by decide) ?_
        show Steps p.tables e below (s₁.setTop (mkF m 135 #[.val (.int p0), .val (.int p1), .val (.int p2), .val (.int r0), .val (.int r1), .val (.int r2), .val (.int r3), .val (.int v10), .val (.int v17), .val (.int v24), .unset, .unset, .unset, .unset, .unset, .unset, .unset, .unset, .unset, .unset, .unset, .unset, .unset, .unset, .unset, .unset, .unset] [])) _
        refine XS.iconst X0.here hx rfl (hb hby at_135) ?_
        show Steps p.tables e below (s₁.setTop (mkF m 136 #[.val (.int p0), .val (.int p1), .val (.int p2), .val (.int r0), .val (.int r1), .val (.int r2), .val (.int r3), .val (.int v10), .val (.int v17), .val (.int v24), .unset, .unset, .unset, .unset, .unset, .unset, .unset, .unset, .unset, .unset, .unset, .unset, .unset, .unset, .unset, .unset, .unset] [(.int (1 : Int32))])) _
        refine XS.goto X0.here hx rfl (pc0 := 136) (pc' := 140) rfl (hb hby at_136) (by decide) (by decide) ?_
        show Steps p.tables e below (s₁.setTop (mkF m 140 #[.val (.int p0), .val (.int p1), .val (.int p2), .val (.int r0), .val (.int r1), .val (.int r2), .val (.int r3), .val (.int v10), .val (.int v17), .val (.int v24), .unset, .unset, .unset, .unset, .unset, .unset, .unset, .unset, .unset, .unset, .unset, .unset, .unset, .unset, .unset, .unset, .unset] [(.int (1 : Int32))])) _
        rw [hv31]
        exact Steps.refl _
      · rw [if_neg hc28] at hv31
        refine XS.icmpNo X0.here hx rfl (hb hby at_120) rfl (feq hc28).1 ?_
        show Steps p.tables e below (s₁.setTop (mkF m 123 #[.val (.int p0), .val (.int p1), .val (.int p2), .val (.int r0), .val (.int r1), .val (.int r2), .val (.int r3), .val (.int v10), .val (.int v17), .val (.int v24), .unset, .unset, .unset, .unset, .unset, .unset, .unset, .unset, .unset, .unset, .unset, .unset, .unset, .unset, .unset, .unset, .unset] [])) _
        refine XS.iload X0.here hx rfl (hb hby at_123) rfl ?_
        show Steps p.tables e below (s₁.setTop (mkF m 125 #[.val (.int p0), .val (.int p1), .val (.int p2), .val (.int r0), .val (.int r1), .val (.int r2), .val (.int r3), .val (.int v10), .val (.int v17), .val (.int v24), .unset, .unset, .unset, .unset, .unset, .unset, .unset, .unset, .unset, .unset, .unset, .unset, .unset, .unset, .unset, .unset, .unset] [(.int r2)])) _
        refine XS.iconst X0.here hx rfl (hb hby at_125) ?_
        show Steps p.tables e below (s₁.setTop (mkF m 126 #[.val (.int p0), .val (.int p1), .val (.int p2), .val (.int r0), .val (.int r1), .val (.int r2), .val (.int r3), .val (.int v10), .val (.int v17), .val (.int v24), .unset, .unset, .unset, .unset, .unset, .unset, .unset, .unset, .unset, .unset, .unset, .unset, .unset, .unset, .unset, .unset, .unset] [(.int (3 : Int32)), (.int r2)])) _
        by_cases hc29 : r2 = (3 : Int32)
        · rw [if_pos hc29] at hv31
          refine XS.icmpYes X0.here hx rfl (pc0 := 126) (pc' := 135) rfl (hb hby at_126) rfl (teq hc29).1 (by decide) (by decide) ?_
          show Steps p.tables e below (s₁.setTop (mkF m 135 #[.val (.int p0), .val (.int p1), .val (.int p2), .val (.int r0), .val (.int r1), .val (.int r2), .val (.int r3), .val (.int v10), .val (.int v17), .val (.int v24), .unset, .unset, .unset, .unset, .unset, .unset, .unset, .unset, .unset, .unset, .unset, .unset, .unset, .unset, .unset, .unset, .unset] [])) _
          refine XS.iconst X0.here hx rfl (hb hby at_135) ?_
          show Steps p.tables e below (s₁.setTop (mkF m 136 #[.val (.int p0), .val (.int p1), .val (.int p2), .val (.int r0), .val (.int r1), .val (.int r2), .val (.int r3), .val (.int v10), .val (.int v17), .val (.int v24), .unset, .unset, .unset, .unset, .unset, .unset, .unset, .unset, .unset, .unset, .unset, .unset, .unset, .unset, .unset, .unset, .unset] [(.int (1 : Int32))])) _
          refine XS.goto X0.here hx rfl (pc0 := 136) (pc' := 140) rfl (hb hby at_136) (by decide) (by decide) ?_
          show Steps p.tables e below (s₁.setTop (mkF m 140 #[.val (.int p0), .val (.int p1), .val (.int p2), .val (.int r0), .val (.int r1), .val (.int r2), .val (.int r3), .val (.int v10), .val (.int v17), .val (.int v24), .unset, .unset, .unset, .unset, .unset, .unset, .unset, .unset, .unset, .unset, .unset, .unset, .unset, .unset, .unset, .unset, .unset] [(.int (1 : Int32))])) _
          rw [hv31]
          exact Steps.refl _
        · rw [if_neg hc29] at hv31
          refine XS.icmpNo X0.here hx rfl (hb hby at_126) rfl (feq hc29).1 ?_
          show Steps p.tables e below (s₁.setTop (mkF m 129 #[.val (.int p0), .val (.int p1), .val (.int p2), .val (.int r0), .val (.int r1), .val (.int r2), .val (.int r3), .val (.int v10), .val (.int v17), .val (.int v24), .unset, .unset, .unset, .unset, .unset, .unset, .unset, .unset, .unset, .unset, .unset, .unset, .unset, .unset, .unset, .unset, .unset] [])) _
          refine XS.iload X0.here hx rfl (hb hby at_129) rfl ?_
          show Steps p.tables e below (s₁.setTop (mkF m 131 #[.val (.int p0), .val (.int p1), .val (.int p2), .val (.int r0), .val (.int r1), .val (.int r2), .val (.int r3), .val (.int v10), .val (.int v17), .val (.int v24), .unset, .unset, .unset, .unset, .unset, .unset, .unset, .unset, .unset, .unset, .unset, .unset, .unset, .unset, .unset, .unset, .unset] [(.int r3)])) _
          refine XS.iconst X0.here hx rfl (hb hby at_131) ?_
          show Steps p.tables e below (s₁.setTop (mkF m 132 #[.val (.int p0), .val (.int p1), .val (.int p2), .val (.int r0), .val (.int r1), .val (.int r2), .val (.int r3), .val (.int v10), .val (.int v17), .val (.int v24), .unset, .unset, .unset, .unset, .unset, .unset, .unset, .unset, .unset, .unset, .unset, .unset, .unset, .unset, .unset, .unset, .unset] [(.int (3 : Int32)), (.int r3)])) _
          by_cases hc30 : r3 = (3 : Int32)
          · rw [if_pos hc30] at hv31
            refine XS.icmpNo X0.here hx rfl (hb hby at_132) rfl (teq hc30).2 ?_
            show Steps p.tables e below (s₁.setTop (mkF m 135 #[.val (.int p0), .val (.int p1), .val (.int p2), .val (.int r0), .val (.int r1), .val (.int r2), .val (.int r3), .val (.int v10), .val (.int v17), .val (.int v24), .unset, .unset, .unset, .unset, .unset, .unset, .unset, .unset, .unset, .unset, .unset, .unset, .unset, .unset, .unset, .unset, .unset] [])) _
            refine XS.iconst X0.here hx rfl (hb hby at_135) ?_
            show Steps p.tables e below (s₁.setTop (mkF m 136 #[.val (.int p0), .val (.int p1), .val (.int p2), .val (.int r0), .val (.int r1), .val (.int r2), .val (.int r3), .val (.int v10), .val (.int v17), .val (.int v24), .unset, .unset, .unset, .unset, .unset, .unset, .unset, .unset, .unset, .unset, .unset, .unset, .unset, .unset, .unset, .unset, .unset] [(.int (1 : Int32))])) _
            refine XS.goto X0.here hx rfl (pc0 := 136) (pc' := 140) rfl (hb hby at_136) (by decide) (by decide) ?_
            show Steps p.tables e below (s₁.setTop (mkF m 140 #[.val (.int p0), .val (.int p1), .val (.int p2), .val (.int r0), .val (.int r1), .val (.int r2), .val (.int r3), .val (.int v10), .val (.int v17), .val (.int v24), .unset, .unset, .unset, .unset, .unset, .unset, .unset, .unset, .unset, .unset, .unset, .unset, .unset, .unset, .unset, .unset, .unset] [(.int (1 : Int32))])) _
            rw [hv31]
            exact Steps.refl _
          · rw [if_neg hc30] at hv31
            refine XS.icmpYes X0.here hx rfl (pc0 := 132) (pc' := 139) rfl (hb hby at_132) rfl (feq hc30).2 (by decide) (by decide) ?_
            show Steps p.tables e below (s₁.setTop (mkF m 139 #[.val (.int p0), .val (.int p1), .val (.int p2), .val (.int r0), .val (.int r1), .val (.int r2), .val (.int r3), .val (.int v10), .val (.int v17), .val (.int v24), .unset, .unset, .unset, .unset, .unset, .unset, .unset, .unset, .unset, .unset, .unset, .unset, .unset, .unset, .unset, .unset, .unset] [])) _
            refine XS.iconst X0.here hx rfl (hb hby at_139) ?_
            show Steps p.tables e below (s₁.setTop (mkF m 140 #[.val (.int p0), .val (.int p1), .val (.int p2), .val (.int r0), .val (.int r1), .val (.int r2), .val (.int r3), .val (.int v10), .val (.int v17), .val (.int v24), .unset, .unset, .unset, .unset, .unset, .unset, .unset, .unset, .unset, .unset, .unset, .unset, .unset, .unset, .unset, .unset, .unset] [(.int (0 : Int32))])) _
            rw [hv31]
            exact Steps.refl _
  have q33 : Steps p.tables e below (s₁.setTop (entryFrame m #[(.int p0), (.int p1), (.int p2)] maxLocals)) (s₁.setTop (mkF m 142 #[.val (.int p0), .val (.int p1), .val (.int p2), .val (.int r0), .val (.int r1), .val (.int r2), .val (.int r3), .val (.int v10), .val (.int v17), .val (.int v24), .val (.int v31), .unset, .unset, .unset, .unset, .unset, .unset, .unset, .unset, .unset, .unset, .unset, .unset, .unset, .unset, .unset, .unset] [])) := q32.trans (by
      show Steps p.tables e below (s₁.setTop (mkF m 140 #[.val (.int p0), .val (.int p1), .val (.int p2), .val (.int r0), .val (.int r1), .val (.int r2), .val (.int r3), .val (.int v10), .val (.int v17), .val (.int v24), .unset, .unset, .unset, .unset, .unset, .unset, .unset, .unset, .unset, .unset, .unset, .unset, .unset, .unset, .unset, .unset, .unset] [(.int v31)])) _
      refine XS.istore X0.here hx rfl (hb hby at_140) rfl (l' := #[.val (.int p0), .val (.int p1), .val (.int p2), .val (.int r0), .val (.int r1), .val (.int r2), .val (.int r3), .val (.int v10), .val (.int v17), .val (.int v24), .val (.int v31), .unset, .unset, .unset, .unset, .unset, .unset, .unset, .unset, .unset, .unset, .unset, .unset, .unset, .unset, .unset, .unset]) rfl ?_
      show Steps p.tables e below (s₁.setTop (mkF m 142 #[.val (.int p0), .val (.int p1), .val (.int p2), .val (.int r0), .val (.int r1), .val (.int r2), .val (.int r3), .val (.int v10), .val (.int v17), .val (.int v24), .val (.int v31), .unset, .unset, .unset, .unset, .unset, .unset, .unset, .unset, .unset, .unset, .unset, .unset, .unset, .unset, .unset, .unset] [])) _
      exact Steps.refl _)
  unfold M_core2 at hM
  have q34 : Steps p.tables e below (s₁.setTop (entryFrame m #[(.int p0), (.int p1), (.int p2)] maxLocals)) (s₁.setTop (mkF m 144 #[.val (.int p0), .val (.int p1), .val (.int p2), .val (.int r0), .val (.int r1), .val (.int r2), .val (.int r3), .val (.int v10), .val (.int v17), .val (.int v24), .val (.int v31), .unset, .unset, .unset, .unset, .unset, .unset, .unset, .unset, .unset, .unset, .unset, .unset, .unset, .unset, .unset, .unset] [(.int v10)])) := q33.trans (by
      show Steps p.tables e below (s₁.setTop (mkF m 142 #[.val (.int p0), .val (.int p1), .val (.int p2), .val (.int r0), .val (.int r1), .val (.int r2), .val (.int r3), .val (.int v10), .val (.int v17), .val (.int v24), .val (.int v31), .unset, .unset, .unset, .unset, .unset, .unset, .unset, .unset, .unset, .unset, .unset, .unset, .unset, .unset, .unset, .unset] [])) _
      refine XS.iload X0.here hx rfl (hb hby at_142) rfl ?_
      show Steps p.tables e below (s₁.setTop (mkF m 144 #[.val (.int p0), .val (.int p1), .val (.int p2), .val (.int r0), .val (.int r1), .val (.int r2), .val (.int r3), .val (.int v10), .val (.int v17), .val (.int v24), .val (.int v31), .unset, .unset, .unset, .unset, .unset, .unset, .unset, .unset, .unset, .unset, .unset, .unset, .unset, .unset, .unset, .unset] [(.int v10)])) _
      exact Steps.refl _)
  obtain ⟨v36, hv36, hM⟩ := Option.bind_eq_some_iff.mp hM
  have hv36 := (Option.some.inj hv36).symm
  have q37 : Steps p.tables e below (s₁.setTop (entryFrame m #[(.int p0), (.int p1), (.int p2)] maxLocals)) (s₁.setTop (mkF m 152 #[.val (.int p0), .val (.int p1), .val (.int p2), .val (.int r0), .val (.int r1), .val (.int r2), .val (.int r3), .val (.int v10), .val (.int v17), .val (.int v24), .val (.int v31), .unset, .unset, .unset, .unset, .unset, .unset, .unset, .unset, .unset, .unset, .unset, .unset, .unset, .unset, .unset, .unset] [(.int v36)])) := by
    refine q34.trans ?_
    show Steps p.tables e below (s₁.setTop (mkF m 144 #[.val (.int p0), .val (.int p1), .val (.int p2), .val (.int r0), .val (.int r1), .val (.int r2), .val (.int r3), .val (.int v10), .val (.int v17), .val (.int v24), .val (.int v31), .unset, .unset, .unset, .unset, .unset, .unset, .unset, .unset, .unset, .unset, .unset, .unset, .unset, .unset, .unset, .unset] [(.int v10)])) _
    by_cases hc35 : v10 = (0 : Int32)
    · rw [if_pos hc35] at hv36
      refine XS.ifYes X0.here hx rfl (pc0 := 144) (pc' := 151) rfl (hb hby at_144) rfl ((if0 _ _).trans (teq hc35).1) (by decide) (by decide) ?_
      show Steps p.tables e below (s₁.setTop (mkF m 151 #[.val (.int p0), .val (.int p1), .val (.int p2), .val (.int r0), .val (.int r1), .val (.int r2), .val (.int r3), .val (.int v10), .val (.int v17), .val (.int v24), .val (.int v31), .unset, .unset, .unset, .unset, .unset, .unset, .unset, .unset, .unset, .unset, .unset, .unset, .unset, .unset, .unset, .unset] [])) _
      refine XS.iconst X0.here hx rfl (hb hby at_151) ?_
      show Steps p.tables e below (s₁.setTop (mkF m 152 #[.val (.int p0), .val (.int p1), .val (.int p2), .val (.int r0), .val (.int r1), .val (.int r2), .val (.int r3), .val (.int v10), .val (.int v17), .val (.int v24), .val (.int v31), .unset, .unset, .unset, .unset, .unset, .unset, .unset, .unset, .unset, .unset, .unset, .unset, .unset, .unset, .unset, .unset] [(.int (0 : Int32))])) _
      rw [hv36]
      exact Steps.refl _
    · rw [if_neg hc35] at hv36
      refine XS.ifNo X0.here hx rfl (hb hby at_144) rfl ((if0 _ _).trans (feq hc35).1) ?_
      show Steps p.tables e below (s₁.setTop (mkF m 147 #[.val (.int p0), .val (.int p1), .val (.int p2), .val (.int r0), .val (.int r1), .val (.int r2), .val (.int r3), .val (.int v10), .val (.int v17), .val (.int v24), .val (.int v31), .unset, .unset, .unset, .unset, .unset, .unset, .unset, .unset, .unset, .unset, .unset, .unset, .unset, .unset, .unset, .unset] [])) _
      refine XS.iconst X0.here hx rfl (hb hby at_147) ?_
      show Steps p.tables e below (s₁.setTop (mkF m 148 #[.val (.int p0), .val (.int p1), .val (.int p2), .val (.int r0), .val (.int r1), .val (.int r2), .val (.int r3), .val (.int v10), .val (.int v17), .val (.int v24), .val (.int v31), .unset, .unset, .unset, .unset, .unset, .unset, .unset, .unset, .unset, .unset, .unset, .unset, .unset, .unset, .unset, .unset] [(.int (1 : Int32))])) _
      refine XS.goto X0.here hx rfl (pc0 := 148) (pc' := 152) rfl (hb hby at_148) (by decide) (by decide) ?_
      show Steps p.tables e below (s₁.setTop (mkF m 152 #[.val (.int p0), .val (.int p1), .val (.int p2), .val (.int r0), .val (.int r1), .val (.int r2), .val (.int r3), .val (.int v10), .val (.int v17), .val (.int v24), .val (.int v31), .unset, .unset, .unset, .unset, .unset, .unset, .unset, .unset, .unset, .unset, .unset, .unset, .unset, .unset, .unset, .unset] [(.int (1 : Int32))])) _
      rw [hv36]
      exact Steps.refl _
  have q38 : Steps p.tables e below (s₁.setTop (entryFrame m #[(.int p0), (.int p1), (.int p2)] maxLocals)) (s₁.setTop (mkF m 154 #[.val (.int p0), .val (.int p1), .val (.int p2), .val (.int r0), .val (.int r1), .val (.int r2), .val (.int r3), .val (.int v10), .val (.int v17), .val (.int v24), .val (.int v31), .unset, .unset, .unset, .unset, .unset, .unset, .unset, .unset, .unset, .unset, .unset, .unset, .unset, .unset, .unset, .unset] [(.int v17), (.int v36)])) := q37.trans (by
      show Steps p.tables e below (s₁.setTop (mkF m 152 #[.val (.int p0), .val (.int p1), .val (.int p2), .val (.int r0), .val (.int r1), .val (.int r2), .val (.int r3), .val (.int v10), .val (.int v17), .val (.int v24), .val (.int v31), .unset, .unset, .unset, .unset, .unset, .unset, .unset, .unset, .unset, .unset, .unset, .unset, .unset, .unset, .unset, .unset] [(.int v36)])) _
      refine XS.iload X0.here hx rfl (hb hby at_152) rfl ?_
      show Steps p.tables e below (s₁.setTop (mkF m 154 #[.val (.int p0), .val (.int p1), .val (.int p2), .val (.int r0), .val (.int r1), .val (.int r2), .val (.int r3), .val (.int v10), .val (.int v17), .val (.int v24), .val (.int v31), .unset, .unset, .unset, .unset, .unset, .unset, .unset, .unset, .unset, .unset, .unset, .unset, .unset, .unset, .unset, .unset] [(.int v17), (.int v36)])) _
      exact Steps.refl _)
  obtain ⟨v40, hv40, hM⟩ := Option.bind_eq_some_iff.mp hM
  have hv40 := (Option.some.inj hv40).symm
  have q41 : Steps p.tables e below (s₁.setTop (entryFrame m #[(.int p0), (.int p1), (.int p2)] maxLocals)) (s₁.setTop (mkF m 162 #[.val (.int p0), .val (.int p1), .val (.int p2), .val (.int r0), .val (.int r1), .val (.int r2), .val (.int r3), .val (.int v10), .val (.int v17), .val (.int v24), .val (.int v31), .unset, .unset, .unset, .unset, .unset, .unset, .unset, .unset, .unset, .unset, .unset, .unset, .unset, .unset, .unset, .unset] [(.int v40), (.int v36)])) := by
    refine q38.trans ?_
    show Steps p.tables e below (s₁.setTop (mkF m 154 #[.val (.int p0), .val (.int p1), .val (.int p2), .val (.int r0), .val (.int r1), .val (.int r2), .val (.int r3), .val (.int v10), .val (.int v17), .val (.int v24), .val (.int v31), .unset, .unset, .unset, .unset, .unset, .unset, .unset, .unset, .unset, .unset, .unset, .unset, .unset, .unset, .unset, .unset] [(.int v17), (.int v36)])) _
    by_cases hc39 : v17 = (0 : Int32)
    · rw [if_pos hc39] at hv40
      refine XS.ifYes X0.here hx rfl (pc0 := 154) (pc' := 161) rfl (hb hby at_154) rfl ((if0 _ _).trans (teq hc39).1) (by decide) (by decide) ?_
      show Steps p.tables e below (s₁.setTop (mkF m 161 #[.val (.int p0), .val (.int p1), .val (.int p2), .val (.int r0), .val (.int r1), .val (.int r2), .val (.int r3), .val (.int v10), .val (.int v17), .val (.int v24), .val (.int v31), .unset, .unset, .unset, .unset, .unset, .unset, .unset, .unset, .unset, .unset, .unset, .unset, .unset, .unset, .unset, .unset] [(.int v36)])) _
      refine XS.iconst X0.here hx rfl (hb hby at_161) ?_
      show Steps p.tables e below (s₁.setTop (mkF m 162 #[.val (.int p0), .val (.int p1), .val (.int p2), .val (.int r0), .val (.int r1), .val (.int r2), .val (.int r3), .val (.int v10), .val (.int v17), .val (.int v24), .val (.int v31), .unset, .unset, .unset, .unset, .unset, .unset, .unset, .unset, .unset, .unset, .unset, .unset, .unset, .unset, .unset, .unset] [(.int (0 : Int32)), (.int v36)])) _
      rw [hv40]
      exact Steps.refl _
    · rw [if_neg hc39] at hv40
      refine XS.ifNo X0.here hx rfl (hb hby at_154) rfl ((if0 _ _).trans (feq hc39).1) ?_
      show Steps p.tables e below (s₁.setTop (mkF m 157 #[.val (.int p0), .val (.int p1), .val (.int p2), .val (.int r0), .val (.int r1), .val (.int r2), .val (.int r3), .val (.int v10), .val (.int v17), .val (.int v24), .val (.int v31), .unset, .unset, .unset, .unset, .unset, .unset, .unset, .unset, .unset, .unset, .unset, .unset, .unset, .unset, .unset, .unset] [(.int v36)])) _
      refine XS.iconst X0.here hx rfl (hb hby at_157) ?_
      show Steps p.tables e below (s₁.setTop (mkF m 158 #[.val (.int p0), .val (.int p1), .val (.int p2), .val (.int r0), .val (.int r1), .val (.int r2), .val (.int r3), .val (.int v10), .val (.int v17), .val (.int v24), .val (.int v31), .unset, .unset, .unset, .unset, .unset, .unset, .unset, .unset, .unset, .unset, .unset, .unset, .unset, .unset, .unset, .unset] [(.int (1 : Int32)), (.int v36)])) _
      refine XS.goto X0.here hx rfl (pc0 := 158) (pc' := 162) rfl (hb hby at_158) (by decide) (by decide) ?_
      show Steps p.tables e below (s₁.setTop (mkF m 162 #[.val (.int p0), .val (.int p1), .val (.int p2), .val (.int r0), .val (.int r1), .val (.int r2), .val (.int r3), .val (.int v10), .val (.int v17), .val (.int v24), .val (.int v31), .unset, .unset, .unset, .unset, .unset, .unset, .unset, .unset, .unset, .unset, .unset, .unset, .unset, .unset, .unset, .unset] [(.int (1 : Int32)), (.int v36)])) _
      rw [hv40]
      exact Steps.refl _
  have q42 : Steps p.tables e below (s₁.setTop (entryFrame m #[(.int p0), (.int p1), (.int p2)] maxLocals)) (s₁.setTop (mkF m 165 #[.val (.int p0), .val (.int p1), .val (.int p2), .val (.int r0), .val (.int r1), .val (.int r2), .val (.int r3), .val (.int v10), .val (.int v17), .val (.int v24), .val (.int v31), .unset, .unset, .unset, .unset, .unset, .unset, .unset, .unset, .unset, .unset, .unset, .unset, .unset, .unset, .unset, .unset] [(.int v24), (.int (v36 + v40))])) := q41.trans (by
      show Steps p.tables e below (s₁.setTop (mkF m 162 #[.val (.int p0), .val (.int p1), .val (.int p2), .val (.int r0), .val (.int r1), .val (.int r2), .val (.int r3), .val (.int v10), .val (.int v17), .val (.int v24), .val (.int v31), .unset, .unset, .unset, .unset, .unset, .unset, .unset, .unset, .unset, .unset, .unset, .unset, .unset, .unset, .unset, .unset] [(.int v40), (.int v36)])) _
      refine XS.iadd X0.here hx rfl (hb hby at_162) rfl ?_
      show Steps p.tables e below (s₁.setTop (mkF m 163 #[.val (.int p0), .val (.int p1), .val (.int p2), .val (.int r0), .val (.int r1), .val (.int r2), .val (.int r3), .val (.int v10), .val (.int v17), .val (.int v24), .val (.int v31), .unset, .unset, .unset, .unset, .unset, .unset, .unset, .unset, .unset, .unset, .unset, .unset, .unset, .unset, .unset, .unset] [(.int (v36 + v40))])) _
      refine XS.iload X0.here hx rfl (hb hby at_163) rfl ?_
      show Steps p.tables e below (s₁.setTop (mkF m 165 #[.val (.int p0), .val (.int p1), .val (.int p2), .val (.int r0), .val (.int r1), .val (.int r2), .val (.int r3), .val (.int v10), .val (.int v17), .val (.int v24), .val (.int v31), .unset, .unset, .unset, .unset, .unset, .unset, .unset, .unset, .unset, .unset, .unset, .unset, .unset, .unset, .unset, .unset] [(.int v24), (.int (v36 + v40))])) _
      exact Steps.refl _)
  obtain ⟨v44, hv44, hM⟩ := Option.bind_eq_some_iff.mp hM
  have hv44 := (Option.some.inj hv44).symm
  have q45 : Steps p.tables e below (s₁.setTop (entryFrame m #[(.int p0), (.int p1), (.int p2)] maxLocals)) (s₁.setTop (mkF m 173 #[.val (.int p0), .val (.int p1), .val (.int p2), .val (.int r0), .val (.int r1), .val (.int r2), .val (.int r3), .val (.int v10), .val (.int v17), .val (.int v24), .val (.int v31), .unset, .unset, .unset, .unset, .unset, .unset, .unset, .unset, .unset, .unset, .unset, .unset, .unset, .unset, .unset, .unset] [(.int v44), (.int (v36 + v40))])) := by
    refine q42.trans ?_
    show Steps p.tables e below (s₁.setTop (mkF m 165 #[.val (.int p0), .val (.int p1), .val (.int p2), .val (.int r0), .val (.int r1), .val (.int r2), .val (.int r3), .val (.int v10), .val (.int v17), .val (.int v24), .val (.int v31), .unset, .unset, .unset, .unset, .unset, .unset, .unset, .unset, .unset, .unset, .unset, .unset, .unset, .unset, .unset, .unset] [(.int v24), (.int (v36 + v40))])) _
    by_cases hc43 : v24 = (0 : Int32)
    · rw [if_pos hc43] at hv44
      refine XS.ifYes X0.here hx rfl (pc0 := 165) (pc' := 172) rfl (hb hby at_165) rfl ((if0 _ _).trans (teq hc43).1) (by decide) (by decide) ?_
      show Steps p.tables e below (s₁.setTop (mkF m 172 #[.val (.int p0), .val (.int p1), .val (.int p2), .val (.int r0), .val (.int r1), .val (.int r2), .val (.int r3), .val (.int v10), .val (.int v17), .val (.int v24), .val (.int v31), .unset, .unset, .unset, .unset, .unset, .unset, .unset, .unset, .unset, .unset, .unset, .unset, .unset, .unset, .unset, .unset] [(.int (v36 + v40))])) _
      refine XS.iconst X0.here hx rfl (hb hby at_172) ?_
      show Steps p.tables e below (s₁.setTop (mkF m 173 #[.val (.int p0), .val (.int p1), .val (.int p2), .val (.int r0), .val (.int r1), .val (.int r2), .val (.int r3), .val (.int v10), .val (.int v17), .val (.int v24), .val (.int v31), .unset, .unset, .unset, .unset, .unset, .unset, .unset, .unset, .unset, .unset, .unset, .unset, .unset, .unset, .unset, .unset] [(.int (0 : Int32)), (.int (v36 + v40))])) _
      rw [hv44]
      exact Steps.refl _
    · rw [if_neg hc43] at hv44
      refine XS.ifNo X0.here hx rfl (hb hby at_165) rfl ((if0 _ _).trans (feq hc43).1) ?_
      show Steps p.tables e below (s₁.setTop (mkF m 168 #[.val (.int p0), .val (.int p1), .val (.int p2), .val (.int r0), .val (.int r1), .val (.int r2), .val (.int r3), .val (.int v10), .val (.int v17), .val (.int v24), .val (.int v31), .unset, .unset, .unset, .unset, .unset, .unset, .unset, .unset, .unset, .unset, .unset, .unset, .unset, .unset, .unset, .unset] [(.int (v36 + v40))])) _
      refine XS.iconst X0.here hx rfl (hb hby at_168) ?_
      show Steps p.tables e below (s₁.setTop (mkF m 169 #[.val (.int p0), .val (.int p1), .val (.int p2), .val (.int r0), .val (.int r1), .val (.int r2), .val (.int r3), .val (.int v10), .val (.int v17), .val (.int v24), .val (.int v31), .unset, .unset, .unset, .unset, .unset, .unset, .unset, .unset, .unset, .unset, .unset, .unset, .unset, .unset, .unset, .unset] [(.int (1 : Int32)), (.int (v36 + v40))])) _
      refine XS.goto X0.here hx rfl (pc0 := 169) (pc' := 173) rfl (hb hby at_169) (by decide) (by decide) ?_
      show Steps p.tables e below (s₁.setTop (mkF m 173 #[.val (.int p0), .val (.int p1), .val (.int p2), .val (.int r0), .val (.int r1), .val (.int r2), .val (.int r3), .val (.int v10), .val (.int v17), .val (.int v24), .val (.int v31), .unset, .unset, .unset, .unset, .unset, .unset, .unset, .unset, .unset, .unset, .unset, .unset, .unset, .unset, .unset, .unset] [(.int (1 : Int32)), (.int (v36 + v40))])) _
      rw [hv44]
      exact Steps.refl _
  have q46 : Steps p.tables e below (s₁.setTop (entryFrame m #[(.int p0), (.int p1), (.int p2)] maxLocals)) (s₁.setTop (mkF m 176 #[.val (.int p0), .val (.int p1), .val (.int p2), .val (.int r0), .val (.int r1), .val (.int r2), .val (.int r3), .val (.int v10), .val (.int v17), .val (.int v24), .val (.int v31), .unset, .unset, .unset, .unset, .unset, .unset, .unset, .unset, .unset, .unset, .unset, .unset, .unset, .unset, .unset, .unset] [(.int v31), (.int ((v36 + v40) + v44))])) := q45.trans (by
      show Steps p.tables e below (s₁.setTop (mkF m 173 #[.val (.int p0), .val (.int p1), .val (.int p2), .val (.int r0), .val (.int r1), .val (.int r2), .val (.int r3), .val (.int v10), .val (.int v17), .val (.int v24), .val (.int v31), .unset, .unset, .unset, .unset, .unset, .unset, .unset, .unset, .unset, .unset, .unset, .unset, .unset, .unset, .unset, .unset] [(.int v44), (.int (v36 + v40))])) _
      refine XS.iadd X0.here hx rfl (hb hby at_173) rfl ?_
      show Steps p.tables e below (s₁.setTop (mkF m 174 #[.val (.int p0), .val (.int p1), .val (.int p2), .val (.int r0), .val (.int r1), .val (.int r2), .val (.int r3), .val (.int v10), .val (.int v17), .val (.int v24), .val (.int v31), .unset, .unset, .unset, .unset, .unset, .unset, .unset, .unset, .unset, .unset, .unset, .unset, .unset, .unset, .unset, .unset] [(.int ((v36 + v40) + v44))])) _
      refine XS.iload X0.here hx rfl (hb hby at_174) rfl ?_
      show Steps p.tables e below (s₁.setTop (mkF m 176 #[.val (.int p0), .val (.int p1), .val (.int p2), .val (.int r0), .val (.int r1), .val (.int r2), .val (.int r3), .val (.int v10), .val (.int v17), .val (.int v24), .val (.int v31), .unset, .unset, .unset, .unset, .unset, .unset, .unset, .unset, .unset, .unset, .unset, .unset, .unset, .unset, .unset, .unset] [(.int v31), (.int ((v36 + v40) + v44))])) _
      exact Steps.refl _)
  obtain ⟨v48, hv48, hM⟩ := Option.bind_eq_some_iff.mp hM
  have hv48 := (Option.some.inj hv48).symm
  have q49 : Steps p.tables e below (s₁.setTop (entryFrame m #[(.int p0), (.int p1), (.int p2)] maxLocals)) (s₁.setTop (mkF m 184 #[.val (.int p0), .val (.int p1), .val (.int p2), .val (.int r0), .val (.int r1), .val (.int r2), .val (.int r3), .val (.int v10), .val (.int v17), .val (.int v24), .val (.int v31), .unset, .unset, .unset, .unset, .unset, .unset, .unset, .unset, .unset, .unset, .unset, .unset, .unset, .unset, .unset, .unset] [(.int v48), (.int ((v36 + v40) + v44))])) := by
    refine q46.trans ?_
    show Steps p.tables e below (s₁.setTop (mkF m 176 #[.val (.int p0), .val (.int p1), .val (.int p2), .val (.int r0), .val (.int r1), .val (.int r2), .val (.int r3), .val (.int v10), .val (.int v17), .val (.int v24), .val (.int v31), .unset, .unset, .unset, .unset, .unset, .unset, .unset, .unset, .unset, .unset, .unset, .unset, .unset, .unset, .unset, .unset] [(.int v31), (.int ((v36 + v40) + v44))])) _
    by_cases hc47 : v31 = (0 : Int32)
    · rw [if_pos hc47] at hv48
      refine XS.ifYes X0.here hx rfl (pc0 := 176) (pc' := 183) rfl (hb hby at_176) rfl ((if0 _ _).trans (teq hc47).1) (by decide) (by decide) ?_
      show Steps p.tables e below (s₁.setTop (mkF m 183 #[.val (.int p0), .val (.int p1), .val (.int p2), .val (.int r0), .val (.int r1), .val (.int r2), .val (.int r3), .val (.int v10), .val (.int v17), .val (.int v24), .val (.int v31), .unset, .unset, .unset, .unset, .unset, .unset, .unset, .unset, .unset, .unset, .unset, .unset, .unset, .unset, .unset, .unset] [(.int ((v36 + v40) + v44))])) _
      refine XS.iconst X0.here hx rfl (hb hby at_183) ?_
      show Steps p.tables e below (s₁.setTop (mkF m 184 #[.val (.int p0), .val (.int p1), .val (.int p2), .val (.int r0), .val (.int r1), .val (.int r2), .val (.int r3), .val (.int v10), .val (.int v17), .val (.int v24), .val (.int v31), .unset, .unset, .unset, .unset, .unset, .unset, .unset, .unset, .unset, .unset, .unset, .unset, .unset, .unset, .unset, .unset] [(.int (0 : Int32)), (.int ((v36 + v40) + v44))])) _
      rw [hv48]
      exact Steps.refl _
    · rw [if_neg hc47] at hv48
      refine XS.ifNo X0.here hx rfl (hb hby at_176) rfl ((if0 _ _).trans (feq hc47).1) ?_
      show Steps p.tables e below (s₁.setTop (mkF m 179 #[.val (.int p0), .val (.int p1), .val (.int p2), .val (.int r0), .val (.int r1), .val (.int r2), .val (.int r3), .val (.int v10), .val (.int v17), .val (.int v24), .val (.int v31), .unset, .unset, .unset, .unset, .unset, .unset, .unset, .unset, .unset, .unset, .unset, .unset, .unset, .unset, .unset, .unset] [(.int ((v36 + v40) + v44))])) _
      refine XS.iconst X0.here hx rfl (hb hby at_179) ?_
      show Steps p.tables e below (s₁.setTop (mkF m 180 #[.val (.int p0), .val (.int p1), .val (.int p2), .val (.int r0), .val (.int r1), .val (.int r2), .val (.int r3), .val (.int v10), .val (.int v17), .val (.int v24), .val (.int v31), .unset, .unset, .unset, .unset, .unset, .unset, .unset, .unset, .unset, .unset, .unset, .unset, .unset, .unset, .unset, .unset] [(.int (1 : Int32)), (.int ((v36 + v40) + v44))])) _
      refine XS.goto X0.here hx rfl (pc0 := 180) (pc' := 184) rfl (hb hby at_180) (by decide) (by decide) ?_
      show Steps p.tables e below (s₁.setTop (mkF m 184 #[.val (.int p0), .val (.int p1), .val (.int p2), .val (.int r0), .val (.int r1), .val (.int r2), .val (.int r3), .val (.int v10), .val (.int v17), .val (.int v24), .val (.int v31), .unset, .unset, .unset, .unset, .unset, .unset, .unset, .unset, .unset, .unset, .unset, .unset, .unset, .unset, .unset, .unset] [(.int (1 : Int32)), (.int ((v36 + v40) + v44))])) _
      rw [hv48]
      exact Steps.refl _
  have q50 : Steps p.tables e below (s₁.setTop (entryFrame m #[(.int p0), (.int p1), (.int p2)] maxLocals)) (s₁.setTop (mkF m 187 #[.val (.int p0), .val (.int p1), .val (.int p2), .val (.int r0), .val (.int r1), .val (.int r2), .val (.int r3), .val (.int v10), .val (.int v17), .val (.int v24), .val (.int v31), .val (.int (((v36 + v40) + v44) + v48)), .unset, .unset, .unset, .unset, .unset, .unset, .unset, .unset, .unset, .unset, .unset, .unset, .unset, .unset, .unset] [])) := q49.trans (by
      show Steps p.tables e below (s₁.setTop (mkF m 184 #[.val (.int p0), .val (.int p1), .val (.int p2), .val (.int r0), .val (.int r1), .val (.int r2), .val (.int r3), .val (.int v10), .val (.int v17), .val (.int v24), .val (.int v31), .unset, .unset, .unset, .unset, .unset, .unset, .unset, .unset, .unset, .unset, .unset, .unset, .unset, .unset, .unset, .unset] [(.int v48), (.int ((v36 + v40) + v44))])) _
      refine XS.iadd X0.here hx rfl (hb hby at_184) rfl ?_
      show Steps p.tables e below (s₁.setTop (mkF m 185 #[.val (.int p0), .val (.int p1), .val (.int p2), .val (.int r0), .val (.int r1), .val (.int r2), .val (.int r3), .val (.int v10), .val (.int v17), .val (.int v24), .val (.int v31), .unset, .unset, .unset, .unset, .unset, .unset, .unset, .unset, .unset, .unset, .unset, .unset, .unset, .unset, .unset, .unset] [(.int (((v36 + v40) + v44) + v48))])) _
      refine XS.istore X0.here hx rfl (hb hby at_185) rfl (l' := #[.val (.int p0), .val (.int p1), .val (.int p2), .val (.int r0), .val (.int r1), .val (.int r2), .val (.int r3), .val (.int v10), .val (.int v17), .val (.int v24), .val (.int v31), .val (.int (((v36 + v40) + v44) + v48)), .unset, .unset, .unset, .unset, .unset, .unset, .unset, .unset, .unset, .unset, .unset, .unset, .unset, .unset, .unset]) rfl ?_
      show Steps p.tables e below (s₁.setTop (mkF m 187 #[.val (.int p0), .val (.int p1), .val (.int p2), .val (.int r0), .val (.int r1), .val (.int r2), .val (.int r3), .val (.int v10), .val (.int v17), .val (.int v24), .val (.int v31), .val (.int (((v36 + v40) + v44) + v48)), .unset, .unset, .unset, .unset, .unset, .unset, .unset, .unset, .unset, .unset, .unset, .unset, .unset, .unset, .unset] [])) _
      exact Steps.refl _)
  obtain ⟨kk, hkk, hM⟩ := Option.bind_eq_some_iff.mp hM
  have hkk := (Option.some.inj hkk).symm
  rw [← hkk] at q50
  have q51 : Steps p.tables e below (s₁.setTop (entryFrame m #[(.int p0), (.int p1), (.int p2)] maxLocals)) (s₁.setTop (mkF m 188 #[.val (.int p0), .val (.int p1), .val (.int p2), .val (.int r0), .val (.int r1), .val (.int r2), .val (.int r3), .val (.int v10), .val (.int v17), .val (.int v24), .val (.int v31), .val (.int kk), .unset, .unset, .unset, .unset, .unset, .unset, .unset, .unset, .unset, .unset, .unset, .unset, .unset, .unset, .unset] [(.int (4 : Int32))])) := q50.trans (by
      show Steps p.tables e below (s₁.setTop (mkF m 187 #[.val (.int p0), .val (.int p1), .val (.int p2), .val (.int r0), .val (.int r1), .val (.int r2), .val (.int r3), .val (.int v10), .val (.int v17), .val (.int v24), .val (.int v31), .val (.int kk), .unset, .unset, .unset, .unset, .unset, .unset, .unset, .unset, .unset, .unset, .unset, .unset, .unset, .unset, .unset] [])) _
      refine XS.iconst X0.here hx rfl (hb hby at_187) ?_
      show Steps p.tables e below (s₁.setTop (mkF m 188 #[.val (.int p0), .val (.int p1), .val (.int p2), .val (.int r0), .val (.int r1), .val (.int r2), .val (.int r3), .val (.int v10), .val (.int v17), .val (.int v24), .val (.int v31), .val (.int kk), .unset, .unset, .unset, .unset, .unset, .unset, .unset, .unset, .unset, .unset, .unset, .unset, .unset, .unset, .unset] [(.int (4 : Int32))])) _
      exact Steps.refl _)
  obtain ⟨y52, hy52, hM⟩ := Option.bind_eq_some_iff.mp hM
  obtain ⟨T53, h53, k53, X53, e53, E53, A53, AE53, st53⟩ := newPE X0 hx hZ (hw _ (List.mem_of_getElem? (i := 0) rfl)) e0 (g := (mkF m 188 #[.val (.int p0), .val (.int p1), .val (.int p2), .val (.int r0), .val (.int r1), .val (.int r2), .val (.int r3), .val (.int v10), .val (.int v17), .val (.int v24), .val (.int v31), .val (.int kk), .unset, .unset, .unset, .unset, .unset, .unset, .unset, .unset, .unset, .unset, .unset, .unset, .unset, .unset, .unset] [(.int (4 : Int32))])) rfl (hb hby at_188) rfl (Own.mk_some hy52).1 (cap := 4) (Own.mk_some hy52).2.1 (by decide) (by decide) (by decide) (ad := "[I") (by decide)
  obtain ⟨ca, g53⟩ : ∃ z, z = h0.size := ⟨_, rfl⟩
  rw [← g53] at A53 AE53 st53
  have ge_ca : n0 ≤ ca := Nat.le_trans Z0 (Nat.le_of_eq g53.symm)
  have Z53 : n0 ≤ h53.size := Nat.le_trans Z0 E53.1
  have I_ca : Own.IA Z h53 ca y52 := (Own.mk_some hy52).2.2 ▸ Own.IA.new A53 rfl
  have q54 : Steps p.tables e below (s₁.setTop (entryFrame m #[(.int p0), (.int p1), (.int p2)] maxLocals)) (T53.setTop (mkF m 190 #[.val (.int p0), .val (.int p1), .val (.int p2), .val (.int r0), .val (.int r1), .val (.int r2), .val (.int r3), .val (.int v10), .val (.int v17), .val (.int v24), .val (.int v31), .val (.int kk), .unset, .unset, .unset, .unset, .unset, .unset, .unset, .unset, .unset, .unset, .unset, .unset, .unset, .unset, .unset] [(.ref ca)])) := q51.trans (st53 _ (Steps.refl _))
  have q55 : Steps p.tables e below (s₁.setTop (entryFrame m #[(.int p0), (.int p1), (.int p2)] maxLocals)) (T53.setTop (mkF m 202 #[.val (.int p0), .val (.int p1), .val (.int p2), .val (.int r0), .val (.int r1), .val (.int r2), .val (.int r3), .val (.int v10), .val (.int v17), .val (.int v24), .val (.int v31), .val (.int kk), .val (.ref ca), .unset, .unset, .unset, .unset, .unset, .unset, .unset, .unset, .unset, .unset, .unset, .unset, .unset, .unset] [(.int v24), (.int v17), (.int v10), (.int r0), (.int (0 : Int32)), (.ref ca)])) := q54.trans (by
      show Steps p.tables e below (T53.setTop (mkF m 190 #[.val (.int p0), .val (.int p1), .val (.int p2), .val (.int r0), .val (.int r1), .val (.int r2), .val (.int r3), .val (.int v10), .val (.int v17), .val (.int v24), .val (.int v31), .val (.int kk), .unset, .unset, .unset, .unset, .unset, .unset, .unset, .unset, .unset, .unset, .unset, .unset, .unset, .unset, .unset] [(.ref ca)])) _
      refine XS.astore X53.here hx rfl (hb hby at_190) rfl rfl (l' := #[.val (.int p0), .val (.int p1), .val (.int p2), .val (.int r0), .val (.int r1), .val (.int r2), .val (.int r3), .val (.int v10), .val (.int v17), .val (.int v24), .val (.int v31), .val (.int kk), .val (.ref ca), .unset, .unset, .unset, .unset, .unset, .unset, .unset, .unset, .unset, .unset, .unset, .unset, .unset, .unset]) rfl ?_
      show Steps p.tables e below (T53.setTop (mkF m 192 #[.val (.int p0), .val (.int p1), .val (.int p2), .val (.int r0), .val (.int r1), .val (.int r2), .val (.int r3), .val (.int v10), .val (.int v17), .val (.int v24), .val (.int v31), .val (.int kk), .val (.ref ca), .unset, .unset, .unset, .unset, .unset, .unset, .unset, .unset, .unset, .unset, .unset, .unset, .unset, .unset] [])) _
      refine XS.aload X53.here hx rfl (hb hby at_192) rfl rfl ?_
      show Steps p.tables e below (T53.setTop (mkF m 194 #[.val (.int p0), .val (.int p1), .val (.int p2), .val (.int r0), .val (.int r1), .val (.int r2), .val (.int r3), .val (.int v10), .val (.int v17), .val (.int v24), .val (.int v31), .val (.int kk), .val (.ref ca), .unset, .unset, .unset, .unset, .unset, .unset, .unset, .unset, .unset, .unset, .unset, .unset, .unset, .unset] [(.ref ca)])) _
      refine XS.iconst X53.here hx rfl (hb hby at_194) ?_
      show Steps p.tables e below (T53.setTop (mkF m 195 #[.val (.int p0), .val (.int p1), .val (.int p2), .val (.int r0), .val (.int r1), .val (.int r2), .val (.int r3), .val (.int v10), .val (.int v17), .val (.int v24), .val (.int v31), .val (.int kk), .val (.ref ca), .unset, .unset, .unset, .unset, .unset, .unset, .unset, .unset, .unset, .unset, .unset, .unset, .unset, .unset] [(.int (0 : Int32)), (.ref ca)])) _
      refine XS.iloadN X53.here hx rfl (hb hby at_195) rfl ?_
      show Steps p.tables e below (T53.setTop (mkF m 196 #[.val (.int p0), .val (.int p1), .val (.int p2), .val (.int r0), .val (.int r1), .val (.int r2), .val (.int r3), .val (.int v10), .val (.int v17), .val (.int v24), .val (.int v31), .val (.int kk), .val (.ref ca), .unset, .unset, .unset, .unset, .unset, .unset, .unset, .unset, .unset, .unset, .unset, .unset, .unset, .unset] [(.int r0), (.int (0 : Int32)), (.ref ca)])) _
      refine XS.iload X53.here hx rfl (hb hby at_196) rfl ?_
      show Steps p.tables e below (T53.setTop (mkF m 198 #[.val (.int p0), .val (.int p1), .val (.int p2), .val (.int r0), .val (.int r1), .val (.int r2), .val (.int r3), .val (.int v10), .val (.int v17), .val (.int v24), .val (.int v31), .val (.int kk), .val (.ref ca), .unset, .unset, .unset, .unset, .unset, .unset, .unset, .unset, .unset, .unset, .unset, .unset, .unset, .unset] [(.int v10), (.int r0), (.int (0 : Int32)), (.ref ca)])) _
      refine XS.iload X53.here hx rfl (hb hby at_198) rfl ?_
      show Steps p.tables e below (T53.setTop (mkF m 200 #[.val (.int p0), .val (.int p1), .val (.int p2), .val (.int r0), .val (.int r1), .val (.int r2), .val (.int r3), .val (.int v10), .val (.int v17), .val (.int v24), .val (.int v31), .val (.int kk), .val (.ref ca), .unset, .unset, .unset, .unset, .unset, .unset, .unset, .unset, .unset, .unset, .unset, .unset, .unset, .unset] [(.int v17), (.int v10), (.int r0), (.int (0 : Int32)), (.ref ca)])) _
      refine XS.iload X53.here hx rfl (hb hby at_200) rfl ?_
      show Steps p.tables e below (T53.setTop (mkF m 202 #[.val (.int p0), .val (.int p1), .val (.int p2), .val (.int r0), .val (.int r1), .val (.int r2), .val (.int r3), .val (.int v10), .val (.int v17), .val (.int v24), .val (.int v31), .val (.int kk), .val (.ref ca), .unset, .unset, .unset, .unset, .unset, .unset, .unset, .unset, .unset, .unset, .unset, .unset, .unset, .unset] [(.int v24), (.int v17), (.int v10), (.int r0), (.int (0 : Int32)), (.ref ca)])) _
      exact Steps.refl _)
  obtain ⟨k56, hk56, hM⟩ := Option.bind_eq_some_iff.mp hM
  obtain ⟨_, _, ⟨T57, L57, k57, n57⟩, -, X57, ⟨Lc57, hQ57, l57, y57, z57⟩, st57⟩ := Jvm.LawKit.callS X53 hx (y := (⟨"com/example/libpathsum/libpathsum/BlocksMarkPinLaw", "rank", "(IZZZ)I"⟩ : MethodName)) hown (mvT hZ (hw _ (List.mem_of_getElem? (i := 1) rfl))) (mvT hZ (hw _ (List.mem_of_getElem? (i := 2) rfl))) (mvT hZ (hw _ (List.mem_of_getElem? (i := 3) rfl))) (mvT hZ (hw _ (List.mem_of_getElem? (i := 4) rfl))) (by decide) (backOf (W := 2) (rmR l Z a0 hw [] r0 v10 v17 v24 k56 h53 n0 Z53 hk56) hZ (hw _ (List.mem_of_getElem? (i := 4) rfl)) (hw _ (List.mem_of_getElem? (i := 3) rfl)) (by decide) (by decide)) (g := (mkF m 202 #[.val (.int p0), .val (.int p1), .val (.int p2), .val (.int r0), .val (.int r1), .val (.int r2), .val (.int r3), .val (.int v10), .val (.int v17), .val (.int v24), .val (.int v31), .val (.int kk), .val (.ref ca), .unset, .unset, .unset, .unset, .unset, .unset, .unset, .unset, .unset, .unset, .unset, .unset, .unset, .unset] [(.int v24), (.int v17), (.int v10), (.int r0), (.int (0 : Int32)), (.ref ca)])) rfl (by rw [hml]; rfl) (argsL := [(.int r0), (.int v10), (.int v17), (.int v24)]) (rest := [(.int (0 : Int32)), (.ref ca)]) (lenOf pd_4 rfl) rfl (by show 2 * 0 + _ ≤ _; exact Nat.le_of_eq rfl) (hb hby at_202) (fun _ _ => ⟨rfl, e53, (by decide : 1 + 0 ≤ _), (by decide : 4 + 0 ≤ _)⟩)
  dsimp only [Pt.U, Pt.locs, Pt.cells, Pt.slots] at X57 l57 y57 z57 st57 hQ57
  subst l57 y57 z57
  obtain ⟨rfl, N57q, e57⟩ := hQ57
  have N57 := Fr.app N0 N57q
  have q58 : Steps p.tables e below (s₁.setTop (entryFrame m #[(.int p0), (.int p1), (.int p2)] maxLocals)) (T57.setTop (mkF m 205 #[.val (.int p0), .val (.int p1), .val (.int p2), .val (.int r0), .val (.int r1), .val (.int r2), .val (.int r3), .val (.int v10), .val (.int v17), .val (.int v24), .val (.int v31), .val (.int kk), .val (.ref ca), .unset, .unset, .unset, .unset, .unset, .unset, .unset, .unset, .unset, .unset, .unset, .unset, .unset, .unset] [(.int k56), (.int (0 : Int32)), (.ref ca)])) := q55.trans (st57 _ (Steps.refl _))
  obtain ⟨y59, hy59, hM⟩ := Option.bind_eq_some_iff.mp hM
  obtain ⟨T60, h60, X60, e60, W60, J60, st60⟩ := Own.stO X57 hx hZ e57 I_ca hy59 (g := (mkF m 205 #[.val (.int p0), .val (.int p1), .val (.int p2), .val (.int r0), .val (.int r1), .val (.int r2), .val (.int r3), .val (.int v10), .val (.int v17), .val (.int v24), .val (.int v31), .val (.int kk), .val (.ref ca), .unset, .unset, .unset, .unset, .unset, .unset, .unset, .unset, .unset, .unset, .unset, .unset, .unset, .unset] [(.int k56), (.int (0 : Int32)), (.ref ca)])) rfl rfl (hb hby at_205)
  have N60 := Fr.snoc X60 N57 ge_ca
  have Xca_60 := AE53.wr W60
  have Z60 : n0 ≤ h60.size := Own.size_wr W60 Z53
  have q61 : Steps p.tables e below (s₁.setTop (entryFrame m #[(.int p0), (.int p1), (.int p2)] maxLocals)) (T60.setTop (mkF m 206 #[.val (.int p0), .val (.int p1), .val (.int p2), .val (.int r0), .val (.int r1), .val (.int r2), .val (.int r3), .val (.int v10), .val (.int v17), .val (.int v24), .val (.int v31), .val (.int kk), .val (.ref ca), .unset, .unset, .unset, .unset, .unset, .unset, .unset, .unset, .unset, .unset, .unset, .unset, .unset, .unset] [])) := q58.trans (st60 _ (Steps.refl _))
  have q62 : Steps p.tables e below (s₁.setTop (entryFrame m #[(.int p0), (.int p1), (.int p2)] maxLocals)) (T60.setTop (mkF m 217 #[.val (.int p0), .val (.int p1), .val (.int p2), .val (.int r0), .val (.int r1), .val (.int r2), .val (.int r3), .val (.int v10), .val (.int v17), .val (.int v24), .val (.int v31), .val (.int kk), .val (.ref ca), .unset, .unset, .unset, .unset, .unset, .unset, .unset, .unset, .unset, .unset, .unset, .unset, .unset, .unset] [(.int v24), (.int v17), (.int v10), (.int r1), (.int (1 : Int32)), (.ref ca)])) := q61.trans (by
      show Steps p.tables e below (T60.setTop (mkF m 206 #[.val (.int p0), .val (.int p1), .val (.int p2), .val (.int r0), .val (.int r1), .val (.int r2), .val (.int r3), .val (.int v10), .val (.int v17), .val (.int v24), .val (.int v31), .val (.int kk), .val (.ref ca), .unset, .unset, .unset, .unset, .unset, .unset, .unset, .unset, .unset, .unset, .unset, .unset, .unset, .unset] [])) _
      refine XS.aload X60.here hx rfl (hb hby at_206) rfl rfl ?_
      show Steps p.tables e below (T60.setTop (mkF m 208 #[.val (.int p0), .val (.int p1), .val (.int p2), .val (.int r0), .val (.int r1), .val (.int r2), .val (.int r3), .val (.int v10), .val (.int v17), .val (.int v24), .val (.int v31), .val (.int kk), .val (.ref ca), .unset, .unset, .unset, .unset, .unset, .unset, .unset, .unset, .unset, .unset, .unset, .unset, .unset, .unset] [(.ref ca)])) _
      refine XS.iconst X60.here hx rfl (hb hby at_208) ?_
      show Steps p.tables e below (T60.setTop (mkF m 209 #[.val (.int p0), .val (.int p1), .val (.int p2), .val (.int r0), .val (.int r1), .val (.int r2), .val (.int r3), .val (.int v10), .val (.int v17), .val (.int v24), .val (.int v31), .val (.int kk), .val (.ref ca), .unset, .unset, .unset, .unset, .unset, .unset, .unset, .unset, .unset, .unset, .unset, .unset, .unset, .unset] [(.int (1 : Int32)), (.ref ca)])) _
      refine XS.iload X60.here hx rfl (hb hby at_209) rfl ?_
      show Steps p.tables e below (T60.setTop (mkF m 211 #[.val (.int p0), .val (.int p1), .val (.int p2), .val (.int r0), .val (.int r1), .val (.int r2), .val (.int r3), .val (.int v10), .val (.int v17), .val (.int v24), .val (.int v31), .val (.int kk), .val (.ref ca), .unset, .unset, .unset, .unset, .unset, .unset, .unset, .unset, .unset, .unset, .unset, .unset, .unset, .unset] [(.int r1), (.int (1 : Int32)), (.ref ca)])) _
      refine XS.iload X60.here hx rfl (hb hby at_211) rfl ?_
      show Steps p.tables e below (T60.setTop (mkF m 213 #[.val (.int p0), .val (.int p1), .val (.int p2), .val (.int r0), .val (.int r1), .val (.int r2), .val (.int r3), .val (.int v10), .val (.int v17), .val (.int v24), .val (.int v31), .val (.int kk), .val (.ref ca), .unset, .unset, .unset, .unset, .unset, .unset, .unset, .unset, .unset, .unset, .unset, .unset, .unset, .unset] [(.int v10), (.int r1), (.int (1 : Int32)), (.ref ca)])) _
      refine XS.iload X60.here hx rfl (hb hby at_213) rfl ?_
      show Steps p.tables e below (T60.setTop (mkF m 215 #[.val (.int p0), .val (.int p1), .val (.int p2), .val (.int r0), .val (.int r1), .val (.int r2), .val (.int r3), .val (.int v10), .val (.int v17), .val (.int v24), .val (.int v31), .val (.int kk), .val (.ref ca), .unset, .unset, .unset, .unset, .unset, .unset, .unset, .unset, .unset, .unset, .unset, .unset, .unset, .unset] [(.int v17), (.int v10), (.int r1), (.int (1 : Int32)), (.ref ca)])) _
      refine XS.iload X60.here hx rfl (hb hby at_215) rfl ?_
      show Steps p.tables e below (T60.setTop (mkF m 217 #[.val (.int p0), .val (.int p1), .val (.int p2), .val (.int r0), .val (.int r1), .val (.int r2), .val (.int r3), .val (.int v10), .val (.int v17), .val (.int v24), .val (.int v31), .val (.int kk), .val (.ref ca), .unset, .unset, .unset, .unset, .unset, .unset, .unset, .unset, .unset, .unset, .unset, .unset, .unset, .unset] [(.int v24), (.int v17), (.int v10), (.int r1), (.int (1 : Int32)), (.ref ca)])) _
      exact Steps.refl _)
  obtain ⟨k63, hk63, hM⟩ := Option.bind_eq_some_iff.mp hM
  obtain ⟨_, _, ⟨T64, L64, k64, n64⟩, -, X64, ⟨Lc64, hQ64, l64, y64, z64⟩, st64⟩ := Jvm.LawKit.callS X60 hx (y := (⟨"com/example/libpathsum/libpathsum/BlocksMarkPinLaw", "rank", "(IZZZ)I"⟩ : MethodName)) hown (mvT hZ (hw _ (List.mem_of_getElem? (i := 1) rfl))) (mvT hZ (hw _ (List.mem_of_getElem? (i := 2) rfl))) (mvT hZ (hw _ (List.mem_of_getElem? (i := 3) rfl))) (mvT hZ (hw _ (List.mem_of_getElem? (i := 4) rfl))) (by decide) (backOf (W := 2) (rmR l Z a0 hw [] r1 v10 v17 v24 k63 h60 n0 Z60 hk63) hZ (hw _ (List.mem_of_getElem? (i := 4) rfl)) (hw _ (List.mem_of_getElem? (i := 3) rfl)) (by decide) (by decide)) (g := (mkF m 217 #[.val (.int p0), .val (.int p1), .val (.int p2), .val (.int r0), .val (.int r1), .val (.int r2), .val (.int r3), .val (.int v10), .val (.int v17), .val (.int v24), .val (.int v31), .val (.int kk), .val (.ref ca), .unset, .unset, .unset, .unset, .unset, .unset, .unset, .unset, .unset, .unset, .unset, .unset, .unset, .unset] [(.int v24), (.int v17), (.int v10), (.int r1), (.int (1 : Int32)), (.ref ca)])) rfl (by rw [hml]; rfl) (argsL := [(.int r1), (.int v10), (.int v17), (.int v24)]) (rest := [(.int (1 : Int32)), (.ref ca)]) (lenOf pd_4 rfl) rfl (by show 2 * 0 + _ ≤ _; exact Nat.le_of_eq rfl) (hb hby at_217) (fun _ _ => ⟨rfl, e60, (by decide : 1 + 0 ≤ _), (by decide : 4 + 0 ≤ _)⟩)
  dsimp only [Pt.U, Pt.locs, Pt.cells, Pt.slots] at X64 l64 y64 z64 st64 hQ64
  subst l64 y64 z64
  obtain ⟨rfl, N64q, e64⟩ := hQ64
  have N64 := Fr.app N60 N64q
  have q65 : Steps p.tables e below (s₁.setTop (entryFrame m #[(.int p0), (.int p1), (.int p2)] maxLocals)) (T64.setTop (mkF m 220 #[.val (.int p0), .val (.int p1), .val (.int p2), .val (.int r0), .val (.int r1), .val (.int r2), .val (.int r3), .val (.int v10), .val (.int v17), .val (.int v24), .val (.int v31), .val (.int kk), .val (.ref ca), .unset, .unset, .unset, .unset, .unset, .unset, .unset, .unset, .unset, .unset, .unset, .unset, .unset, .unset] [(.int k63), (.int (1 : Int32)), (.ref ca)])) := q62.trans (st64 _ (Steps.refl _))
  obtain ⟨y66, hy66, hM⟩ := Option.bind_eq_some_iff.mp hM
  obtain ⟨T67, h67, X67, e67, W67, J67, st67⟩ := Own.stO X64 hx hZ e64 J60 hy66 (g := (mkF m 220 #[.val (.int p0), .val (.int p1), .val (.int p2), .val (.int r0), .val (.int r1), .val (.int r2), .val (.int r3), .val (.int v10), .val (.int v17), .val (.int v24), .val (.int v31), .val (.int kk), .val (.ref ca), .unset, .unset, .unset, .unset, .unset, .unset, .unset, .unset, .unset, .unset, .unset, .unset, .unset, .unset] [(.int k63), (.int (1 : Int32)), (.ref ca)])) rfl rfl (hb hby at_220)
  have N67 := Fr.snoc X67 N64 ge_ca
  have Xca_67 := Xca_60.wr W67
  have Z67 : n0 ≤ h67.size := Own.size_wr W67 Z60
  have q68 : Steps p.tables e below (s₁.setTop (entryFrame m #[(.int p0), (.int p1), (.int p2)] maxLocals)) (T67.setTop (mkF m 221 #[.val (.int p0), .val (.int p1), .val (.int p2), .val (.int r0), .val (.int r1), .val (.int r2), .val (.int r3), .val (.int v10), .val (.int v17), .val (.int v24), .val (.int v31), .val (.int kk), .val (.ref ca), .unset, .unset, .unset, .unset, .unset, .unset, .unset, .unset, .unset, .unset, .unset, .unset, .unset, .unset] [])) := q65.trans (st67 _ (Steps.refl _))
  have q69 : Steps p.tables e below (s₁.setTop (entryFrame m #[(.int p0), (.int p1), (.int p2)] maxLocals)) (T67.setTop (mkF m 232 #[.val (.int p0), .val (.int p1), .val (.int p2), .val (.int r0), .val (.int r1), .val (.int r2), .val (.int r3), .val (.int v10), .val (.int v17), .val (.int v24), .val (.int v31), .val (.int kk), .val (.ref ca), .unset, .unset, .unset, .unset, .unset, .unset, .unset, .unset, .unset, .unset, .unset, .unset, .unset, .unset] [(.int v24), (.int v17), (.int v10), (.int r2), (.int (2 : Int32)), (.ref ca)])) := q68.trans (by
      show Steps p.tables e below (T67.setTop (mkF m 221 #[.val (.int p0), .val (.int p1), .val (.int p2), .val (.int r0), .val (.int r1), .val (.int r2), .val (.int r3), .val (.int v10), .val (.int v17), .val (.int v24), .val (.int v31), .val (.int kk), .val (.ref ca), .unset, .unset, .unset, .unset, .unset, .unset, .unset, .unset, .unset, .unset, .unset, .unset, .unset, .unset] [])) _
      refine XS.aload X67.here hx rfl (hb hby at_221) rfl rfl ?_
      show Steps p.tables e below (T67.setTop (mkF m 223 #[.val (.int p0), .val (.int p1), .val (.int p2), .val (.int r0), .val (.int r1), .val (.int r2), .val (.int r3), .val (.int v10), .val (.int v17), .val (.int v24), .val (.int v31), .val (.int kk), .val (.ref ca), .unset, .unset, .unset, .unset, .unset, .unset, .unset, .unset, .unset, .unset, .unset, .unset, .unset, .unset] [(.ref ca)])) _
      refine XS.iconst X67.here hx rfl (hb hby at_223) ?_
      show Steps p.tables e below (T67.setTop (mkF m 224 #[.val (.int p0), .val (.int p1), .val (.int p2), .val (.int r0), .val (.int r1), .val (.int r2), .val (.int r3), .val (.int v10), .val (.int v17), .val (.int v24), .val (.int v31), .val (.int kk), .val (.ref ca), .unset, .unset, .unset, .unset, .unset, .unset, .unset, .unset, .unset, .unset, .unset, .unset, .unset, .unset] [(.int (2 : Int32)), (.ref ca)])) _
      refine XS.iload X67.here hx rfl (hb hby at_224) rfl ?_
      show Steps p.tables e below (T67.setTop (mkF m 226 #[.val (.int p0), .val (.int p1), .val (.int p2), .val (.int r0), .val (.int r1), .val (.int r2), .val (.int r3), .val (.int v10), .val (.int v17), .val (.int v24), .val (.int v31), .val (.int kk), .val (.ref ca), .unset, .unset, .unset, .unset, .unset, .unset, .unset, .unset, .unset, .unset, .unset, .unset, .unset, .unset] [(.int r2), (.int (2 : Int32)), (.ref ca)])) _
      refine XS.iload X67.here hx rfl (hb hby at_226) rfl ?_
      show Steps p.tables e below (T67.setTop (mkF m 228 #[.val (.int p0), .val (.int p1), .val (.int p2), .val (.int r0), .val (.int r1), .val (.int r2), .val (.int r3), .val (.int v10), .val (.int v17), .val (.int v24), .val (.int v31), .val (.int kk), .val (.ref ca), .unset, .unset, .unset, .unset, .unset, .unset, .unset, .unset, .unset, .unset, .unset, .unset, .unset, .unset] [(.int v10), (.int r2), (.int (2 : Int32)), (.ref ca)])) _
      refine XS.iload X67.here hx rfl (hb hby at_228) rfl ?_
      show Steps p.tables e below (T67.setTop (mkF m 230 #[.val (.int p0), .val (.int p1), .val (.int p2), .val (.int r0), .val (.int r1), .val (.int r2), .val (.int r3), .val (.int v10), .val (.int v17), .val (.int v24), .val (.int v31), .val (.int kk), .val (.ref ca), .unset, .unset, .unset, .unset, .unset, .unset, .unset, .unset, .unset, .unset, .unset, .unset, .unset, .unset] [(.int v17), (.int v10), (.int r2), (.int (2 : Int32)), (.ref ca)])) _
      refine XS.iload X67.here hx rfl (hb hby at_230) rfl ?_
      show Steps p.tables e below (T67.setTop (mkF m 232 #[.val (.int p0), .val (.int p1), .val (.int p2), .val (.int r0), .val (.int r1), .val (.int r2), .val (.int r3), .val (.int v10), .val (.int v17), .val (.int v24), .val (.int v31), .val (.int kk), .val (.ref ca), .unset, .unset, .unset, .unset, .unset, .unset, .unset, .unset, .unset, .unset, .unset, .unset, .unset, .unset] [(.int v24), (.int v17), (.int v10), (.int r2), (.int (2 : Int32)), (.ref ca)])) _
      exact Steps.refl _)
  obtain ⟨k70, hk70, hM⟩ := Option.bind_eq_some_iff.mp hM
  obtain ⟨_, _, ⟨T71, L71, k71, n71⟩, -, X71, ⟨Lc71, hQ71, l71, y71, z71⟩, st71⟩ := Jvm.LawKit.callS X67 hx (y := (⟨"com/example/libpathsum/libpathsum/BlocksMarkPinLaw", "rank", "(IZZZ)I"⟩ : MethodName)) hown (mvT hZ (hw _ (List.mem_of_getElem? (i := 1) rfl))) (mvT hZ (hw _ (List.mem_of_getElem? (i := 2) rfl))) (mvT hZ (hw _ (List.mem_of_getElem? (i := 3) rfl))) (mvT hZ (hw _ (List.mem_of_getElem? (i := 4) rfl))) (by decide) (backOf (W := 2) (rmR l Z a0 hw [] r2 v10 v17 v24 k70 h67 n0 Z67 hk70) hZ (hw _ (List.mem_of_getElem? (i := 4) rfl)) (hw _ (List.mem_of_getElem? (i := 3) rfl)) (by decide) (by decide)) (g := (mkF m 232 #[.val (.int p0), .val (.int p1), .val (.int p2), .val (.int r0), .val (.int r1), .val (.int r2), .val (.int r3), .val (.int v10), .val (.int v17), .val (.int v24), .val (.int v31), .val (.int kk), .val (.ref ca), .unset, .unset, .unset, .unset, .unset, .unset, .unset, .unset, .unset, .unset, .unset, .unset, .unset, .unset] [(.int v24), (.int v17), (.int v10), (.int r2), (.int (2 : Int32)), (.ref ca)])) rfl (by rw [hml]; rfl) (argsL := [(.int r2), (.int v10), (.int v17), (.int v24)]) (rest := [(.int (2 : Int32)), (.ref ca)]) (lenOf pd_4 rfl) rfl (by show 2 * 0 + _ ≤ _; exact Nat.le_of_eq rfl) (hb hby at_232) (fun _ _ => ⟨rfl, e67, (by decide : 1 + 0 ≤ _), (by decide : 4 + 0 ≤ _)⟩)
  dsimp only [Pt.U, Pt.locs, Pt.cells, Pt.slots] at X71 l71 y71 z71 st71 hQ71
  subst l71 y71 z71
  obtain ⟨rfl, N71q, e71⟩ := hQ71
  have N71 := Fr.app N67 N71q
  have q72 : Steps p.tables e below (s₁.setTop (entryFrame m #[(.int p0), (.int p1), (.int p2)] maxLocals)) (T71.setTop (mkF m 235 #[.val (.int p0), .val (.int p1), .val (.int p2), .val (.int r0), .val (.int r1), .val (.int r2), .val (.int r3), .val (.int v10), .val (.int v17), .val (.int v24), .val (.int v31), .val (.int kk), .val (.ref ca), .unset, .unset, .unset, .unset, .unset, .unset, .unset, .unset, .unset, .unset, .unset, .unset, .unset, .unset] [(.int k70), (.int (2 : Int32)), (.ref ca)])) := q69.trans (st71 _ (Steps.refl _))
  obtain ⟨y73, hy73, hM⟩ := Option.bind_eq_some_iff.mp hM
  obtain ⟨T74, h74, X74, e74, W74, J74, st74⟩ := Own.stO X71 hx hZ e71 J67 hy73 (g := (mkF m 235 #[.val (.int p0), .val (.int p1), .val (.int p2), .val (.int r0), .val (.int r1), .val (.int r2), .val (.int r3), .val (.int v10), .val (.int v17), .val (.int v24), .val (.int v31), .val (.int kk), .val (.ref ca), .unset, .unset, .unset, .unset, .unset, .unset, .unset, .unset, .unset, .unset, .unset, .unset, .unset, .unset] [(.int k70), (.int (2 : Int32)), (.ref ca)])) rfl rfl (hb hby at_235)
  have N74 := Fr.snoc X74 N71 ge_ca
  have Xca_74 := Xca_67.wr W74
  have Z74 : n0 ≤ h74.size := Own.size_wr W74 Z67
  have q75 : Steps p.tables e below (s₁.setTop (entryFrame m #[(.int p0), (.int p1), (.int p2)] maxLocals)) (T74.setTop (mkF m 236 #[.val (.int p0), .val (.int p1), .val (.int p2), .val (.int r0), .val (.int r1), .val (.int r2), .val (.int r3), .val (.int v10), .val (.int v17), .val (.int v24), .val (.int v31), .val (.int kk), .val (.ref ca), .unset, .unset, .unset, .unset, .unset, .unset, .unset, .unset, .unset, .unset, .unset, .unset, .unset, .unset] [])) := q72.trans (st74 _ (Steps.refl _))
  have q76 : Steps p.tables e below (s₁.setTop (entryFrame m #[(.int p0), (.int p1), (.int p2)] maxLocals)) (T74.setTop (mkF m 247 #[.val (.int p0), .val (.int p1), .val (.int p2), .val (.int r0), .val (.int r1), .val (.int r2), .val (.int r3), .val (.int v10), .val (.int v17), .val (.int v24), .val (.int v31), .val (.int kk), .val (.ref ca), .unset, .unset, .unset, .unset, .unset, .unset, .unset, .unset, .unset, .unset, .unset, .unset, .unset, .unset] [(.int v24), (.int v17), (.int v10), (.int r3), (.int (3 : Int32)), (.ref ca)])) := q75.trans (by
      show Steps p.tables e below (T74.setTop (mkF m 236 #[.val (.int p0), .val (.int p1), .val (.int p2), .val (.int r0), .val (.int r1), .val (.int r2), .val (.int r3), .val (.int v10), .val (.int v17), .val (.int v24), .val (.int v31), .val (.int kk), .val (.ref ca), .unset, .unset, .unset, .unset, .unset, .unset, .unset, .unset, .unset, .unset, .unset, .unset, .unset, .unset] [])) _
      refine XS.aload X74.here hx rfl (hb hby at_236) rfl rfl ?_
      show Steps p.tables e below (T74.setTop (mkF m 238 #[.val (.int p0), .val (.int p1), .val (.int p2), .val (.int r0), .val (.int r1), .val (.int r2), .val (.int r3), .val (.int v10), .val (.int v17), .val (.int v24), .val (.int v31), .val (.int kk), .val (.ref ca), .unset, .unset, .unset, .unset, .unset, .unset, .unset, .unset, .unset, .unset, .unset, .unset, .unset, .unset] [(.ref ca)])) _
      refine XS.iconst X74.here hx rfl (hb hby at_238) ?_
      show Steps p.tables e below (T74.setTop (mkF m 239 #[.val (.int p0), .val (.int p1), .val (.int p2), .val (.int r0), .val (.int r1), .val (.int r2), .val (.int r3), .val (.int v10), .val (.int v17), .val (.int v24), .val (.int v31), .val (.int kk), .val (.ref ca), .unset, .unset, .unset, .unset, .unset, .unset, .unset, .unset, .unset, .unset, .unset, .unset, .unset, .unset] [(.int (3 : Int32)), (.ref ca)])) _
      refine XS.iload X74.here hx rfl (hb hby at_239) rfl ?_
      show Steps p.tables e below (T74.setTop (mkF m 241 #[.val (.int p0), .val (.int p1), .val (.int p2), .val (.int r0), .val (.int r1), .val (.int r2), .val (.int r3), .val (.int v10), .val (.int v17), .val (.int v24), .val (.int v31), .val (.int kk), .val (.ref ca), .unset, .unset, .unset, .unset, .unset, .unset, .unset, .unset, .unset, .unset, .unset, .unset, .unset, .unset] [(.int r3), (.int (3 : Int32)), (.ref ca)])) _
      refine XS.iload X74.here hx rfl (hb hby at_241) rfl ?_
      show Steps p.tables e below (T74.setTop (mkF m 243 #[.val (.int p0), .val (.int p1), .val (.int p2), .val (.int r0), .val (.int r1), .val (.int r2), .val (.int r3), .val (.int v10), .val (.int v17), .val (.int v24), .val (.int v31), .val (.int kk), .val (.ref ca), .unset, .unset, .unset, .unset, .unset, .unset, .unset, .unset, .unset, .unset, .unset, .unset, .unset, .unset] [(.int v10), (.int r3), (.int (3 : Int32)), (.ref ca)])) _
      refine XS.iload X74.here hx rfl (hb hby at_243) rfl ?_
      show Steps p.tables e below (T74.setTop (mkF m 245 #[.val (.int p0), .val (.int p1), .val (.int p2), .val (.int r0), .val (.int r1), .val (.int r2), .val (.int r3), .val (.int v10), .val (.int v17), .val (.int v24), .val (.int v31), .val (.int kk), .val (.ref ca), .unset, .unset, .unset, .unset, .unset, .unset, .unset, .unset, .unset, .unset, .unset, .unset, .unset, .unset] [(.int v17), (.int v10), (.int r3), (.int (3 : Int32)), (.ref ca)])) _
      refine XS.iload X74.here hx rfl (hb hby at_245) rfl ?_
      show Steps p.tables e below (T74.setTop (mkF m 247 #[.val (.int p0), .val (.int p1), .val (.int p2), .val (.int r0), .val (.int r1), .val (.int r2), .val (.int r3), .val (.int v10), .val (.int v17), .val (.int v24), .val (.int v31), .val (.int kk), .val (.ref ca), .unset, .unset, .unset, .unset, .unset, .unset, .unset, .unset, .unset, .unset, .unset, .unset, .unset, .unset] [(.int v24), (.int v17), (.int v10), (.int r3), (.int (3 : Int32)), (.ref ca)])) _
      exact Steps.refl _)
  obtain ⟨k77, hk77, hM⟩ := Option.bind_eq_some_iff.mp hM
  obtain ⟨_, _, ⟨T78, L78, k78, n78⟩, -, X78, ⟨Lc78, hQ78, l78, y78, z78⟩, st78⟩ := Jvm.LawKit.callS X74 hx (y := (⟨"com/example/libpathsum/libpathsum/BlocksMarkPinLaw", "rank", "(IZZZ)I"⟩ : MethodName)) hown (mvT hZ (hw _ (List.mem_of_getElem? (i := 1) rfl))) (mvT hZ (hw _ (List.mem_of_getElem? (i := 2) rfl))) (mvT hZ (hw _ (List.mem_of_getElem? (i := 3) rfl))) (mvT hZ (hw _ (List.mem_of_getElem? (i := 4) rfl))) (by decide) (backOf (W := 2) (rmR l Z a0 hw [] r3 v10 v17 v24 k77 h74 n0 Z74 hk77) hZ (hw _ (List.mem_of_getElem? (i := 4) rfl)) (hw _ (List.mem_of_getElem? (i := 3) rfl)) (by decide) (by decide)) (g := (mkF m 247 #[.val (.int p0), .val (.int p1), .val (.int p2), .val (.int r0), .val (.int r1), .val (.int r2), .val (.int r3), .val (.int v10), .val (.int v17), .val (.int v24), .val (.int v31), .val (.int kk), .val (.ref ca), .unset, .unset, .unset, .unset, .unset, .unset, .unset, .unset, .unset, .unset, .unset, .unset, .unset, .unset] [(.int v24), (.int v17), (.int v10), (.int r3), (.int (3 : Int32)), (.ref ca)])) rfl (by rw [hml]; rfl) (argsL := [(.int r3), (.int v10), (.int v17), (.int v24)]) (rest := [(.int (3 : Int32)), (.ref ca)]) (lenOf pd_4 rfl) rfl (by show 2 * 0 + _ ≤ _; exact Nat.le_of_eq rfl) (hb hby at_247) (fun _ _ => ⟨rfl, e74, (by decide : 1 + 0 ≤ _), (by decide : 4 + 0 ≤ _)⟩)
  dsimp only [Pt.U, Pt.locs, Pt.cells, Pt.slots] at X78 l78 y78 z78 st78 hQ78
  subst l78 y78 z78
  obtain ⟨rfl, N78q, e78⟩ := hQ78
  have N78 := Fr.app N74 N78q
  have q79 : Steps p.tables e below (s₁.setTop (entryFrame m #[(.int p0), (.int p1), (.int p2)] maxLocals)) (T78.setTop (mkF m 250 #[.val (.int p0), .val (.int p1), .val (.int p2), .val (.int r0), .val (.int r1), .val (.int r2), .val (.int r3), .val (.int v10), .val (.int v17), .val (.int v24), .val (.int v31), .val (.int kk), .val (.ref ca), .unset, .unset, .unset, .unset, .unset, .unset, .unset, .unset, .unset, .unset, .unset, .unset, .unset, .unset] [(.int k77), (.int (3 : Int32)), (.ref ca)])) := q76.trans (st78 _ (Steps.refl _))
  obtain ⟨y80, hy80, hM⟩ := Option.bind_eq_some_iff.mp hM
  obtain ⟨T81, h81, X81, e81, W81, J81, st81⟩ := Own.stO X78 hx hZ e78 J74 hy80 (g := (mkF m 250 #[.val (.int p0), .val (.int p1), .val (.int p2), .val (.int r0), .val (.int r1), .val (.int r2), .val (.int r3), .val (.int v10), .val (.int v17), .val (.int v24), .val (.int v31), .val (.int kk), .val (.ref ca), .unset, .unset, .unset, .unset, .unset, .unset, .unset, .unset, .unset, .unset, .unset, .unset, .unset, .unset] [(.int k77), (.int (3 : Int32)), (.ref ca)])) rfl rfl (hb hby at_250)
  have N81 := Fr.snoc X81 N78 ge_ca
  have Xca_81 := Xca_74.wr W81
  have Z81 : n0 ≤ h81.size := Own.size_wr W81 Z74
  have q82 : Steps p.tables e below (s₁.setTop (entryFrame m #[(.int p0), (.int p1), (.int p2)] maxLocals)) (T81.setTop (mkF m 251 #[.val (.int p0), .val (.int p1), .val (.int p2), .val (.int r0), .val (.int r1), .val (.int r2), .val (.int r3), .val (.int v10), .val (.int v17), .val (.int v24), .val (.int v31), .val (.int kk), .val (.ref ca), .unset, .unset, .unset, .unset, .unset, .unset, .unset, .unset, .unset, .unset, .unset, .unset, .unset, .unset] [])) := q79.trans (st81 _ (Steps.refl _))
  unfold M_mid at hM
  obtain ⟨T83, h83, X83, e83, E83, A83, D83, -, st83⟩ := newO X81 hx hZ hown (hw _ (List.mem_of_getElem? (i := 5) rfl)) (hw _ (List.mem_of_getElem? (i := 6) rfl)) (hw _ (List.mem_of_getElem? (i := 7) rfl)) e81 (g := (mkF m 251 #[.val (.int p0), .val (.int p1), .val (.int p2), .val (.int r0), .val (.int r1), .val (.int r2), .val (.int r3), .val (.int v10), .val (.int v17), .val (.int v24), .val (.int v31), .val (.int kk), .val (.ref ca), .unset, .unset, .unset, .unset, .unset, .unset, .unset, .unset, .unset, .unset, .unset, .unset, .unset, .unset] [])) rfl (hb hby at_251) (by decide) (by decide)
  obtain ⟨bo, g83⟩ : ∃ z, z = h81.size := ⟨_, rfl⟩
  rw [← g83] at A83 D83 st83
  have ge_bo : n0 ≤ bo := Nat.le_trans Z81 (Nat.le_of_eq g83.symm)
  have ne_ca_bo : ca ≠ bo := Nat.ne_of_lt (Nat.lt_of_lt_of_le J81.lt (Nat.le_of_eq g83.symm))
  have Ica_83 := J81.ext E83
  have Xca_83 := Xca_81.ext E83
  have Z83 : n0 ≤ h83.size := Nat.le_trans Z81 E83.1
  have F_bo_members : Fld Z h83 bo "com/example/libpathsum/libpathsum/Blocks" "members" "[I" .null := D83 (Or.inr (hw _ (List.mem_of_getElem? (i := 15) rfl))) (ty := (.array .int)) (by decide)
  have F_bo_memberIndex : Fld Z h83 bo "com/example/libpathsum/libpathsum/Blocks" "memberIndex" "[I" .null := D83 (Or.inr (hw _ (List.mem_of_getElem? (i := 17) rfl))) (ty := (.array .int)) (by decide)
  have F_bo_blockOf : Fld Z h83 bo "com/example/libpathsum/libpathsum/Blocks" "blockOf" "[I" .null := D83 (Or.inr (hw _ (List.mem_of_getElem? (i := 32) rfl))) (ty := (.array .int)) (by decide)
  have F_bo_start : Fld Z h83 bo "com/example/libpathsum/libpathsum/Blocks" "start" "[I" .null := D83 (Or.inr (hw _ (List.mem_of_getElem? (i := 34) rfl))) (ty := (.array .int)) (by decide)
  have F_bo_end : Fld Z h83 bo "com/example/libpathsum/libpathsum/Blocks" "end" "[I" .null := D83 (Or.inr (hw _ (List.mem_of_getElem? (i := 36) rfl))) (ty := (.array .int)) (by decide)
  have F_bo_splitFrom : Fld Z h83 bo "com/example/libpathsum/libpathsum/Blocks" "splitFrom" "[I" .null := D83 (Or.inr (hw _ (List.mem_of_getElem? (i := 38) rfl))) (ty := (.array .int)) (by decide)
  have F_bo_markedCount : Fld Z h83 bo "com/example/libpathsum/libpathsum/Blocks" "markedCount" "[I" .null := D83 (Or.inr (hw _ (List.mem_of_getElem? (i := 40) rfl))) (ty := (.array .int)) (by decide)
  have F_bo_markedBlocks : Fld Z h83 bo "com/example/libpathsum/libpathsum/Blocks" "markedBlocks" "[I" .null := D83 (Or.inr (hw _ (List.mem_of_getElem? (i := 42) rfl))) (ty := (.array .int)) (by decide)
  have F_bo_count : Fld Z h83 bo "com/example/libpathsum/libpathsum/Blocks" "count" "I" (.int (0 : Int32)) := D83 (Or.inl (hw _ (List.mem_of_getElem? (i := 44) rfl))) (ty := .int) (by decide)
  have F_bo_markedBlockCount : Fld Z h83 bo "com/example/libpathsum/libpathsum/Blocks" "markedBlockCount" "I" (.int (0 : Int32)) := D83 (Or.inl (hw _ (List.mem_of_getElem? (i := 57) rfl))) (ty := .int) (by decide)
  have q84 : Steps p.tables e below (s₁.setTop (entryFrame m #[(.int p0), (.int p1), (.int p2)] maxLocals)) (T83.setTop (mkF m 254 #[.val (.int p0), .val (.int p1), .val (.int p2), .val (.int r0), .val (.int r1), .val (.int r2), .val (.int r3), .val (.int v10), .val (.int v17), .val (.int v24), .val (.int v31), .val (.int kk), .val (.ref ca), .unset, .unset, .unset, .unset, .unset, .unset, .unset, .unset, .unset, .unset, .unset, .unset, .unset, .unset] [(.ref bo)])) := q82.trans (st83 _ (Steps.refl _))
  have q85 : Steps p.tables e below (s₁.setTop (entryFrame m #[(.int p0), (.int p1), (.int p2)] maxLocals)) (T83.setTop (mkF m 259 #[.val (.int p0), .val (.int p1), .val (.int p2), .val (.int r0), .val (.int r1), .val (.int r2), .val (.int r3), .val (.int v10), .val (.int v17), .val (.int v24), .val (.int v31), .val (.int kk), .val (.ref ca), .unset, .unset, .unset, .unset, .unset, .unset, .unset, .unset, .unset, .unset, .unset, .unset, .unset, .unset] [(.int kk), (.ref ca), (.ref bo), (.ref bo)])) := q84.trans (by
      show Steps p.tables e below (T83.setTop (mkF m 254 #[.val (.int p0), .val (.int p1), .val (.int p2), .val (.int r0), .val (.int r1), .val (.int r2), .val (.int r3), .val (.int v10), .val (.int v17), .val (.int v24), .val (.int v31), .val (.int kk), .val (.ref ca), .unset, .unset, .unset, .unset, .unset, .unset, .unset, .unset, .unset, .unset, .unset, .unset, .unset, .unset] [(.ref bo)])) _
      refine XS.dup X83.here hx rfl (hb hby at_254) rfl rfl ?_
      show Steps p.tables e below (T83.setTop (mkF m 255 #[.val (.int p0), .val (.int p1), .val (.int p2), .val (.int r0), .val (.int r1), .val (.int r2), .val (.int r3), .val (.int v10), .val (.int v17), .val (.int v24), .val (.int v31), .val (.int kk), .val (.ref ca), .unset, .unset, .unset, .unset, .unset, .unset, .unset, .unset, .unset, .unset, .unset, .unset, .unset, .unset] [(.ref bo), (.ref bo)])) _
      refine XS.aload X83.here hx rfl (hb hby at_255) rfl rfl ?_
      show Steps p.tables e below (T83.setTop (mkF m 257 #[.val (.int p0), .val (.int p1), .val (.int p2), .val (.int r0), .val (.int r1), .val (.int r2), .val (.int r3), .val (.int v10), .val (.int v17), .val (.int v24), .val (.int v31), .val (.int kk), .val (.ref ca), .unset, .unset, .unset, .unset, .unset, .unset, .unset, .unset, .unset, .unset, .unset, .unset, .unset, .unset] [(.ref ca), (.ref bo), (.ref bo)])) _
      refine XS.iload X83.here hx rfl (hb hby at_257) rfl ?_
      show Steps p.tables e below (T83.setTop (mkF m 259 #[.val (.int p0), .val (.int p1), .val (.int p2), .val (.int r0), .val (.int r1), .val (.int r2), .val (.int r3), .val (.int v10), .val (.int v17), .val (.int v24), .val (.int v31), .val (.int kk), .val (.ref ca), .unset, .unset, .unset, .unset, .unset, .unset, .unset, .unset, .unset, .unset, .unset, .unset, .unset, .unset] [(.int kk), (.ref ca), (.ref bo), (.ref bo)])) _
      exact Steps.refl _)
  obtain ⟨r86, hr86, hM⟩ := Option.bind_eq_some_iff.mp hM
  obtain ⟨_, _, ⟨T87, L87, k87, n87⟩, -, X87, ⟨Lc87, hQ87, l87, y87, z87⟩, st87⟩ := X83.specialBack hx (y := (⟨"com/example/libpathsum/libpathsum/Blocks", "<init>", "([II)V"⟩ : MethodName)) rfl hown (mvT hZ (hw _ (List.mem_of_getElem? (i := 8) rfl))) (mvT hZ (hw _ (List.mem_of_getElem? (i := 9) rfl))) (mvT hZ (hw _ (List.mem_of_getElem? (i := 10) rfl))) (by decide) (backOf (W := 1) (rmC l Z a0 hw [] bo ca kk y80 r86 h83 n0 Z83 F_bo_members F_bo_memberIndex F_bo_blockOf F_bo_start F_bo_end F_bo_splitFrom F_bo_markedCount F_bo_markedBlocks F_bo_count F_bo_markedBlockCount A83 ge_bo Ica_83 Xca_83 (Ne.symm ne_ca_bo) hr86) hZ (hw _ (List.mem_of_getElem? (i := 10) rfl)) (hw _ (List.mem_of_getElem? (i := 7) rfl)) (by decide) (by decide)) (g := (mkF m 259 #[.val (.int p0), .val (.int p1), .val (.int p2), .val (.int r0), .val (.int r1), .val (.int r2), .val (.int r3), .val (.int v10), .val (.int v17), .val (.int v24), .val (.int v31), .val (.int kk), .val (.ref ca), .unset, .unset, .unset, .unset, .unset, .unset, .unset, .unset, .unset, .unset, .unset, .unset, .unset, .unset] [(.int kk), (.ref ca), (.ref bo), (.ref bo)])) rfl (by rw [hml]; rfl) (Steps.refl _) (a := bo) (argsL := [(.ref ca), (.int kk)]) (rest := [(.ref bo)]) (lenOf pd_3 rfl) rfl (by show 2 * 0 + _ ≤ _; exact Nat.le_of_eq rfl) (hb hby at_259) (fun _ _ => ⟨rfl, e83, (by decide : 2 + 8 ≤ _), (by decide : 14 + 32 ≤ _)⟩)
  dsimp only [Pt.U, Pt.locs, Pt.cells, Pt.slots] at X87 l87 y87 z87 st87 hQ87
  subst l87 y87 z87
  obtain ⟨aM, aI, aB, aS, aE, aF, aC, aK, rfl, N87q, K87, E87, F87_members, F87_memberIndex, F87_blockOf, F87_start, F87_end, F87_splitFrom, F87_markedCount, F87_markedBlocks, F87_count, F87_markedBlockCount, J87_aM, J87_aI, J87_aB, J87_aS, J87_aE, J87_aF, J87_aC, J87_aK, od87_aM, od87_aI, od87_aB, od87_aS, od87_aE, od87_aF, od87_aC, od87_aK, ne_aM_aI, ne_aM_aB, ne_aM_aS, ne_aM_aE, ne_aM_aF, ne_aM_aC, ne_aM_aK, ne_aI_aB, ne_aI_aS, ne_aI_aE, ne_aI_aF, ne_aI_aC, ne_aI_aK, ne_aB_aS, ne_aB_aE, ne_aB_aF, ne_aB_aC, ne_aB_aK, ne_aS_aE, ne_aS_aF, ne_aS_aC, ne_aS_aK, ne_aE_aF, ne_aE_aC, ne_aE_aK, ne_aF_aC, ne_aF_aK, ne_aC_aK⟩ := hQ87
  have N87 := Fr.app N81 N87q
  have ge_aM : n0 ≤ aM := Nat.le_trans Z83 od87_aM
  have ne_ca_aM : ca ≠ aM := Nat.ne_of_lt (Nat.lt_of_lt_of_le Ica_83.lt od87_aM)
  have ne_bo_aM : bo ≠ aM := Nat.ne_of_lt (Nat.lt_of_lt_of_le A83.lt od87_aM)
  have ge_aI : n0 ≤ aI := Nat.le_trans Z83 od87_aI
  have ne_ca_aI : ca ≠ aI := Nat.ne_of_lt (Nat.lt_of_lt_of_le Ica_83.lt od87_aI)
  have ne_bo_aI : bo ≠ aI := Nat.ne_of_lt (Nat.lt_of_lt_of_le A83.lt od87_aI)
  have ge_aB : n0 ≤ aB := Nat.le_trans Z83 od87_aB
  have ne_ca_aB : ca ≠ aB := Nat.ne_of_lt (Nat.lt_of_lt_of_le Ica_83.lt od87_aB)
  have ne_bo_aB : bo ≠ aB := Nat.ne_of_lt (Nat.lt_of_lt_of_le A83.lt od87_aB)
  have ge_aS : n0 ≤ aS := Nat.le_trans Z83 od87_aS
  have ne_ca_aS : ca ≠ aS := Nat.ne_of_lt (Nat.lt_of_lt_of_le Ica_83.lt od87_aS)
  have ne_bo_aS : bo ≠ aS := Nat.ne_of_lt (Nat.lt_of_lt_of_le A83.lt od87_aS)
  have ge_aE : n0 ≤ aE := Nat.le_trans Z83 od87_aE
  have ne_ca_aE : ca ≠ aE := Nat.ne_of_lt (Nat.lt_of_lt_of_le Ica_83.lt od87_aE)
  have ne_bo_aE : bo ≠ aE := Nat.ne_of_lt (Nat.lt_of_lt_of_le A83.lt od87_aE)
  have ge_aF : n0 ≤ aF := Nat.le_trans Z83 od87_aF
  have ne_ca_aF : ca ≠ aF := Nat.ne_of_lt (Nat.lt_of_lt_of_le Ica_83.lt od87_aF)
  have ne_bo_aF : bo ≠ aF := Nat.ne_of_lt (Nat.lt_of_lt_of_le A83.lt od87_aF)
  have ge_aC : n0 ≤ aC := Nat.le_trans Z83 od87_aC
  have ne_ca_aC : ca ≠ aC := Nat.ne_of_lt (Nat.lt_of_lt_of_le Ica_83.lt od87_aC)
  have ne_bo_aC : bo ≠ aC := Nat.ne_of_lt (Nat.lt_of_lt_of_le A83.lt od87_aC)
  have ge_aK : n0 ≤ aK := Nat.le_trans Z83 od87_aK
  have ne_ca_aK : ca ≠ aK := Nat.ne_of_lt (Nat.lt_of_lt_of_le Ica_83.lt od87_aK)
  have ne_bo_aK : bo ≠ aK := Nat.ne_of_lt (Nat.lt_of_lt_of_le A83.lt od87_aK)
  have Ica_87 := Ica_83.keep K87 (ninS ne_ca_bo nin0)
  have Xca_87 := Xca_83.keep K87
  have Z87 : n0 ≤ T87.heap.size := Nat.le_trans Z83 K87.1
  have q88 : Steps p.tables e below (s₁.setTop (entryFrame m #[(.int p0), (.int p1), (.int p2)] maxLocals)) (T87.setTop (mkF m 262 #[.val (.int p0), .val (.int p1), .val (.int p2), .val (.int r0), .val (.int r1), .val (.int r2), .val (.int r3), .val (.int v10), .val (.int v17), .val (.int v24), .val (.int v31), .val (.int kk), .val (.ref ca), .unset, .unset, .unset, .unset, .unset, .unset, .unset, .unset, .unset, .unset, .unset, .unset, .unset, .unset] [(.ref bo)])) := q85.trans (st87)
  have q89 : Steps p.tables e below (s₁.setTop (entryFrame m #[(.int p0), (.int p1), (.int p2)] maxLocals)) (T87.setTop (mkF m 264 #[.val (.int p0), .val (.int p1), .val (.int p2), .val (.int r0), .val (.int r1), .val (.int r2), .val (.int r3), .val (.int v10), .val (.int v17), .val (.int v24), .val (.int v31), .val (.int kk), .val (.ref ca), .val (.ref bo), .unset, .unset, .unset, .unset, .unset, .unset, .unset, .unset, .unset, .unset, .unset, .unset, .unset] [])) := q88.trans (by
      show Steps p.tables e below (T87.setTop (mkF m 262 #[.val (.int p0), .val (.int p1), .val (.int p2), .val (.int r0), .val (.int r1), .val (.int r2), .val (.int r3), .val (.int v10), .val (.int v17), .val (.int v24), .val (.int v31), .val (.int kk), .val (.ref ca), .unset, .unset, .unset, .unset, .unset, .unset, .unset, .unset, .unset, .unset, .unset, .unset, .unset, .unset] [(.ref bo)])) _
      refine XS.astore X87.here hx rfl (hb hby at_262) rfl rfl (l' := #[.val (.int p0), .val (.int p1), .val (.int p2), .val (.int r0), .val (.int r1), .val (.int r2), .val (.int r3), .val (.int v10), .val (.int v17), .val (.int v24), .val (.int v31), .val (.int kk), .val (.ref ca), .val (.ref bo), .unset, .unset, .unset, .unset, .unset, .unset, .unset, .unset, .unset, .unset, .unset, .unset, .unset]) rfl ?_
      show Steps p.tables e below (T87.setTop (mkF m 264 #[.val (.int p0), .val (.int p1), .val (.int p2), .val (.int r0), .val (.int r1), .val (.int r2), .val (.int r3), .val (.int v10), .val (.int v17), .val (.int v24), .val (.int v31), .val (.int kk), .val (.ref ca), .val (.ref bo), .unset, .unset, .unset, .unset, .unset, .unset, .unset, .unset, .unset, .unset, .unset, .unset, .unset] [])) _
      exact Steps.refl _)
  unfold M_rest at hM
  have q90 : Steps p.tables e below (s₁.setTop (entryFrame m #[(.int p0), (.int p1), (.int p2)] maxLocals)) (T87.setTop (mkF m 270 #[.val (.int p0), .val (.int p1), .val (.int p2), .val (.int r0), .val (.int r1), .val (.int r2), .val (.int r3), .val (.int v10), .val (.int v17), .val (.int v24), .val (.int v31), .val (.int kk), .val (.ref ca), .val (.ref bo), .val (.int (p1 &&& (15 : Int32))), .unset, .unset, .unset, .unset, .unset, .unset, .unset, .unset, .unset, .unset, .unset, .unset] [])) := q89.trans (by
      show Steps p.tables e below (T87.setTop (mkF m 264 #[.val (.int p0), .val (.int p1), .val (.int p2), .val (.int r0), .val (.int r1), .val (.int r2), .val (.int r3), .val (.int v10), .val (.int v17), .val (.int v24), .val (.int v31), .val (.int kk), .val (.ref ca), .val (.ref bo), .unset, .unset, .unset, .unset, .unset, .unset, .unset, .unset, .unset, .unset, .unset, .unset, .unset] [])) _
      refine XS.iloadN X87.here hx rfl (hb hby at_264) rfl ?_
      show Steps p.tables e below (T87.setTop (mkF m 265 #[.val (.int p0), .val (.int p1), .val (.int p2), .val (.int r0), .val (.int r1), .val (.int r2), .val (.int r3), .val (.int v10), .val (.int v17), .val (.int v24), .val (.int v31), .val (.int kk), .val (.ref ca), .val (.ref bo), .unset, .unset, .unset, .unset, .unset, .unset, .unset, .unset, .unset, .unset, .unset, .unset, .unset] [(.int p1)])) _
      refine XS.bipush X87.here hx rfl (hb hby at_265) ?_
      show Steps p.tables e below (T87.setTop (mkF m 267 #[.val (.int p0), .val (.int p1), .val (.int p2), .val (.int r0), .val (.int r1), .val (.int r2), .val (.int r3), .val (.int v10), .val (.int v17), .val (.int v24), .val (.int v31), .val (.int kk), .val (.ref ca), .val (.ref bo), .unset, .unset, .unset, .unset, .unset, .unset, .unset, .unset, .unset, .unset, .unset, .unset, .unset] [(.int (15 : Int32)), (.int p1)])) _
      refine XS.iand X87.here hx rfl (hb hby at_267) rfl ?_
      show Steps p.tables e below (T87.setTop (mkF m 268 #[.val (.int p0), .val (.int p1), .val (.int p2), .val (.int r0), .val (.int r1), .val (.int r2), .val (.int r3), .val (.int v10), .val (.int v17), .val (.int v24), .val (.int v31), .val (.int kk), .val (.ref ca), .val (.ref bo), .unset, .unset, .unset, .unset, .unset, .unset, .unset, .unset, .unset, .unset, .unset, .unset, .unset] [(.int (p1 &&& (15 : Int32)))])) _
      refine XS.istore X87.here hx rfl (hb hby at_268) rfl (l' := #[.val (.int p0), .val (.int p1), .val (.int p2), .val (.int r0), .val (.int r1), .val (.int r2), .val (.int r3), .val (.int v10), .val (.int v17), .val (.int v24), .val (.int v31), .val (.int kk), .val (.ref ca), .val (.ref bo), .val (.int (p1 &&& (15 : Int32))), .unset, .unset, .unset, .unset, .unset, .unset, .unset, .unset, .unset, .unset, .unset, .unset]) rfl ?_
      show Steps p.tables e below (T87.setTop (mkF m 270 #[.val (.int p0), .val (.int p1), .val (.int p2), .val (.int r0), .val (.int r1), .val (.int r2), .val (.int r3), .val (.int v10), .val (.int v17), .val (.int v24), .val (.int v31), .val (.int kk), .val (.ref ca), .val (.ref bo), .val (.int (p1 &&& (15 : Int32))), .unset, .unset, .unset, .unset, .unset, .unset, .unset, .unset, .unset, .unset, .unset, .unset] [])) _
      exact Steps.refl _)
  obtain ⟨mm, hmm, hM⟩ := Option.bind_eq_some_iff.mp hM
  have hmm := (Option.some.inj hmm).symm
  rw [← hmm] at q90
  have q91 : Steps p.tables e below (s₁.setTop (entryFrame m #[(.int p0), (.int p1), (.int p2)] maxLocals)) (T87.setTop (mkF m 275 #[.val (.int p0), .val (.int p1), .val (.int p2), .val (.int r0), .val (.int r1), .val (.int r2), .val (.int r3), .val (.int v10), .val (.int v17), .val (.int v24), .val (.int v31), .val (.int kk), .val (.ref ca), .val (.ref bo), .val (.int mm), .val (.int (p2 &&& (3 : Int32))), .unset, .unset, .unset, .unset, .unset, .unset, .unset, .unset, .unset, .unset, .unset] [])) := q90.trans (by
      show Steps p.tables e below (T87.setTop (mkF m 270 #[.val (.int p0), .val (.int p1), .val (.int p2), .val (.int r0), .val (.int r1), .val (.int r2), .val (.int r3), .val (.int v10), .val (.int v17), .val (.int v24), .val (.int v31), .val (.int kk), .val (.ref ca), .val (.ref bo), .val (.int mm), .unset, .unset, .unset, .unset, .unset, .unset, .unset, .unset, .unset, .unset, .unset, .unset] [])) _
      refine XS.iloadN X87.here hx rfl (hb hby at_270) rfl ?_
      show Steps p.tables e below (T87.setTop (mkF m 271 #[.val (.int p0), .val (.int p1), .val (.int p2), .val (.int r0), .val (.int r1), .val (.int r2), .val (.int r3), .val (.int v10), .val (.int v17), .val (.int v24), .val (.int v31), .val (.int kk), .val (.ref ca), .val (.ref bo), .val (.int mm), .unset, .unset, .unset, .unset, .unset, .unset, .unset, .unset, .unset, .unset, .unset, .unset] [(.int p2)])) _
      refine XS.iconst X87.here hx rfl (hb hby at_271) ?_
      show Steps p.tables e below (T87.setTop (mkF m 272 #[.val (.int p0), .val (.int p1), .val (.int p2), .val (.int r0), .val (.int r1), .val (.int r2), .val (.int r3), .val (.int v10), .val (.int v17), .val (.int v24), .val (.int v31), .val (.int kk), .val (.ref ca), .val (.ref bo), .val (.int mm), .unset, .unset, .unset, .unset, .unset, .unset, .unset, .unset, .unset, .unset, .unset, .unset] [(.int (3 : Int32)), (.int p2)])) _
      refine XS.iand X87.here hx rfl (hb hby at_272) rfl ?_
      show Steps p.tables e below (T87.setTop (mkF m 273 #[.val (.int p0), .val (.int p1), .val (.int p2), .val (.int r0), .val (.int r1), .val (.int r2), .val (.int r3), .val (.int v10), .val (.int v17), .val (.int v24), .val (.int v31), .val (.int kk), .val (.ref ca), .val (.ref bo), .val (.int mm), .unset, .unset, .unset, .unset, .unset, .unset, .unset, .unset, .unset, .unset, .unset, .unset] [(.int (p2 &&& (3 : Int32)))])) _
      refine XS.istore X87.here hx rfl (hb hby at_273) rfl (l' := #[.val (.int p0), .val (.int p1), .val (.int p2), .val (.int r0), .val (.int r1), .val (.int r2), .val (.int r3), .val (.int v10), .val (.int v17), .val (.int v24), .val (.int v31), .val (.int kk), .val (.ref ca), .val (.ref bo), .val (.int mm), .val (.int (p2 &&& (3 : Int32))), .unset, .unset, .unset, .unset, .unset, .unset, .unset, .unset, .unset, .unset, .unset]) rfl ?_
      show Steps p.tables e below (T87.setTop (mkF m 275 #[.val (.int p0), .val (.int p1), .val (.int p2), .val (.int r0), .val (.int r1), .val (.int r2), .val (.int r3), .val (.int v10), .val (.int v17), .val (.int v24), .val (.int v31), .val (.int kk), .val (.ref ca), .val (.ref bo), .val (.int mm), .val (.int (p2 &&& (3 : Int32))), .unset, .unset, .unset, .unset, .unset, .unset, .unset, .unset, .unset, .unset, .unset] [])) _
      exact Steps.refl _)
  obtain ⟨rot, hrot, hM⟩ := Option.bind_eq_some_iff.mp hM
  have hrot := (Option.some.inj hrot).symm
  rw [← hrot] at q91
  have q92 : Steps p.tables e below (s₁.setTop (entryFrame m #[(.int p0), (.int p1), (.int p2)] maxLocals)) (T87.setTop (mkF m 278 #[.val (.int p0), .val (.int p1), .val (.int p2), .val (.int r0), .val (.int r1), .val (.int r2), .val (.int r3), .val (.int v10), .val (.int v17), .val (.int v24), .val (.int v31), .val (.int kk), .val (.ref ca), .val (.ref bo), .val (.int mm), .val (.int rot), .unset, .unset, .unset, .unset, .unset, .unset, .unset, .unset, .unset, .unset, .unset] [(.int (p2 &&& (4 : Int32)))])) := q91.trans (by
      show Steps p.tables e below (T87.setTop (mkF m 275 #[.val (.int p0), .val (.int p1), .val (.int p2), .val (.int r0), .val (.int r1), .val (.int r2), .val (.int r3), .val (.int v10), .val (.int v17), .val (.int v24), .val (.int v31), .val (.int kk), .val (.ref ca), .val (.ref bo), .val (.int mm), .val (.int rot), .unset, .unset, .unset, .unset, .unset, .unset, .unset, .unset, .unset, .unset, .unset] [])) _
      refine XS.iloadN X87.here hx rfl (hb hby at_275) rfl ?_
      show Steps p.tables e below (T87.setTop (mkF m 276 #[.val (.int p0), .val (.int p1), .val (.int p2), .val (.int r0), .val (.int r1), .val (.int r2), .val (.int r3), .val (.int v10), .val (.int v17), .val (.int v24), .val (.int v31), .val (.int kk), .val (.ref ca), .val (.ref bo), .val (.int mm), .val (.int rot), .unset, .unset, .unset, .unset, .unset, .unset, .unset, .unset, .unset, .unset, .unset] [(.int p2)])) _
      refine XS.iconst X87.here hx rfl (hb hby at_276) ?_
      show Steps p.tables e below (T87.setTop (mkF m 277 #[.val (.int p0), .val (.int p1), .val (.int p2), .val (.int r0), .val (.int r1), .val (.int r2), .val (.int r3), .val (.int v10), .val (.int v17), .val (.int v24), .val (.int v31), .val (.int kk), .val (.ref ca), .val (.ref bo), .val (.int mm), .val (.int rot), .unset, .unset, .unset, .unset, .unset, .unset, .unset, .unset, .unset, .unset, .unset] [(.int (4 : Int32)), (.int p2)])) _
      refine XS.iand X87.here hx rfl (hb hby at_277) rfl ?_
      show Steps p.tables e below (T87.setTop (mkF m 278 #[.val (.int p0), .val (.int p1), .val (.int p2), .val (.int r0), .val (.int r1), .val (.int r2), .val (.int r3), .val (.int v10), .val (.int v17), .val (.int v24), .val (.int v31), .val (.int kk), .val (.ref ca), .val (.ref bo), .val (.int mm), .val (.int rot), .unset, .unset, .unset, .unset, .unset, .unset, .unset, .unset, .unset, .unset, .unset] [(.int (p2 &&& (4 : Int32)))])) _
      exact Steps.refl _)
  obtain ⟨v94, hv94, hM⟩ := Option.bind_eq_some_iff.mp hM
  have hv94 := (Option.some.inj hv94).symm
  have q95 : Steps p.tables e below (s₁.setTop (entryFrame m #[(.int p0), (.int p1), (.int p2)] maxLocals)) (T87.setTop (mkF m 286 #[.val (.int p0), .val (.int p1), .val (.int p2), .val (.int r0), .val (.int r1), .val (.int r2), .val (.int r3), .val (.int v10), .val (.int v17), .val (.int v24), .val (.int v31), .val (.int kk), .val (.ref ca), .val (.ref bo), .val (.int mm), .val (.int rot), .unset, .unset, .unset, .unset, .unset, .unset, .unset, .unset, .unset, .unset, .unset] [(.int v94)])) := by
    refine q92.trans ?_
    show Steps p.tables e below (T87.setTop (mkF m 278 #[.val (.int p0), .val (.int p1), .val (.int p2), .val (.int r0), .val (.int r1), .val (.int r2), .val (.int r3), .val (.int v10), .val (.int v17), .val (.int v24), .val (.int v31), .val (.int kk), .val (.ref ca), .val (.ref bo), .val (.int mm), .val (.int rot), .unset, .unset, .unset, .unset, .unset, .unset, .unset, .unset, .unset, .unset, .unset] [(.int (p2 &&& (4 : Int32)))])) _
    by_cases hc93 : (p2 &&& (4 : Int32)) = (0 : Int32)
    · rw [if_pos hc93] at hv94
      refine XS.ifYes X87.here hx rfl (pc0 := 278) (pc' := 285) rfl (hb hby at_278) rfl ((if0 _ _).trans (teq hc93).1) (by decide) (by decide) ?_
      show Steps p.tables e below (T87.setTop (mkF m 285 #[.val (.int p0), .val (.int p1), .val (.int p2), .val (.int r0), .val (.int r1), .val (.int r2), .val (.int r3), .val (.int v10), .val (.int v17), .val (.int v24), .val (.int v31), .val (.int kk), .val (.ref ca), .val (.ref bo), .val (.int mm), .val (.int rot), .unset, .unset, .unset, .unset, .unset, .unset, .unset, .unset, .unset, .unset, .unset] [])) _
      refine XS.iconst X87.here hx rfl (hb hby at_285) ?_
      show Steps p.tables e below (T87.setTop (mkF m 286 #[.val (.int p0), .val (.int p1), .val (.int p2), .val (.int r0), .val (.int r1), .val (.int r2), .val (.int r3), .val (.int v10), .val (.int v17), .val (.int v24), .val (.int v31), .val (.int kk), .val (.ref ca), .val (.ref bo), .val (.int mm), .val (.int rot), .unset, .unset, .unset, .unset, .unset, .unset, .unset, .unset, .unset, .unset, .unset] [(.int (0 : Int32))])) _
      rw [hv94]
      exact Steps.refl _
    · rw [if_neg hc93] at hv94
      refine XS.ifNo X87.here hx rfl (hb hby at_278) rfl ((if0 _ _).trans (feq hc93).1) ?_
      show Steps p.tables e below (T87.setTop (mkF m 281 #[.val (.int p0), .val (.int p1), .val (.int p2), .val (.int r0), .val (.int r1), .val (.int r2), .val (.int r3), .val (.int v10), .val (.int v17), .val (.int v24), .val (.int v31), .val (.int kk), .val (.ref ca), .val (.ref bo), .val (.int mm), .val (.int rot), .unset, .unset, .unset, .unset, .unset, .unset, .unset, .unset, .unset, .unset, .unset] [])) _
      refine XS.iconst X87.here hx rfl (hb hby at_281) ?_
      show Steps p.tables e below (T87.setTop (mkF m 282 #[.val (.int p0), .val (.int p1), .val (.int p2), .val (.int r0), .val (.int r1), .val (.int r2), .val (.int r3), .val (.int v10), .val (.int v17), .val (.int v24), .val (.int v31), .val (.int kk), .val (.ref ca), .val (.ref bo), .val (.int mm), .val (.int rot), .unset, .unset, .unset, .unset, .unset, .unset, .unset, .unset, .unset, .unset, .unset] [(.int (1 : Int32))])) _
      refine XS.goto X87.here hx rfl (pc0 := 282) (pc' := 286) rfl (hb hby at_282) (by decide) (by decide) ?_
      show Steps p.tables e below (T87.setTop (mkF m 286 #[.val (.int p0), .val (.int p1), .val (.int p2), .val (.int r0), .val (.int r1), .val (.int r2), .val (.int r3), .val (.int v10), .val (.int v17), .val (.int v24), .val (.int v31), .val (.int kk), .val (.ref ca), .val (.ref bo), .val (.int mm), .val (.int rot), .unset, .unset, .unset, .unset, .unset, .unset, .unset, .unset, .unset, .unset, .unset] [(.int (1 : Int32))])) _
      rw [hv94]
      exact Steps.refl _
  have q96 : Steps p.tables e below (s₁.setTop (entryFrame m #[(.int p0), (.int p1), (.int p2)] maxLocals)) (T87.setTop (mkF m 297 #[.val (.int p0), .val (.int p1), .val (.int p2), .val (.int r0), .val (.int r1), .val (.int r2), .val (.int r3), .val (.int v10), .val (.int v17), .val (.int v24), .val (.int v31), .val (.int kk), .val (.ref ca), .val (.ref bo), .val (.int mm), .val (.int rot), .val (.int v94), .unset, .unset, .unset, .unset, .unset, .unset, .unset, .unset, .unset, .unset] [(.int (0 : Int32)), (.int v94), (.int rot), (.int mm), (.ref bo)])) := q95.trans (by
      show Steps p.tables e below (T87.setTop (mkF m 286 #[.val (.int p0), .val (.int p1), .val (.int p2), .val (.int r0), .val (.int r1), .val (.int r2), .val (.int r3), .val (.int v10), .val (.int v17), .val (.int v24), .val (.int v31), .val (.int kk), .val (.ref ca), .val (.ref bo), .val (.int mm), .val (.int rot), .unset, .unset, .unset, .unset, .unset, .unset, .unset, .unset, .unset, .unset, .unset] [(.int v94)])) _
      refine XS.istore X87.here hx rfl (hb hby at_286) rfl (l' := #[.val (.int p0), .val (.int p1), .val (.int p2), .val (.int r0), .val (.int r1), .val (.int r2), .val (.int r3), .val (.int v10), .val (.int v17), .val (.int v24), .val (.int v31), .val (.int kk), .val (.ref ca), .val (.ref bo), .val (.int mm), .val (.int rot), .val (.int v94), .unset, .unset, .unset, .unset, .unset, .unset, .unset, .unset, .unset, .unset]) rfl ?_
      show Steps p.tables e below (T87.setTop (mkF m 288 #[.val (.int p0), .val (.int p1), .val (.int p2), .val (.int r0), .val (.int r1), .val (.int r2), .val (.int r3), .val (.int v10), .val (.int v17), .val (.int v24), .val (.int v31), .val (.int kk), .val (.ref ca), .val (.ref bo), .val (.int mm), .val (.int rot), .val (.int v94), .unset, .unset, .unset, .unset, .unset, .unset, .unset, .unset, .unset, .unset] [])) _
      refine XS.aload X87.here hx rfl (hb hby at_288) rfl rfl ?_
      show Steps p.tables e below (T87.setTop (mkF m 290 #[.val (.int p0), .val (.int p1), .val (.int p2), .val (.int r0), .val (.int r1), .val (.int r2), .val (.int r3), .val (.int v10), .val (.int v17), .val (.int v24), .val (.int v31), .val (.int kk), .val (.ref ca), .val (.ref bo), .val (.int mm), .val (.int rot), .val (.int v94), .unset, .unset, .unset, .unset, .unset, .unset, .unset, .unset, .unset, .unset] [(.ref bo)])) _
      refine XS.iload X87.here hx rfl (hb hby at_290) rfl ?_
      show Steps p.tables e below (T87.setTop (mkF m 292 #[.val (.int p0), .val (.int p1), .val (.int p2), .val (.int r0), .val (.int r1), .val (.int r2), .val (.int r3), .val (.int v10), .val (.int v17), .val (.int v24), .val (.int v31), .val (.int kk), .val (.ref ca), .val (.ref bo), .val (.int mm), .val (.int rot), .val (.int v94), .unset, .unset, .unset, .unset, .unset, .unset, .unset, .unset, .unset, .unset] [(.int mm), (.ref bo)])) _
      refine XS.iload X87.here hx rfl (hb hby at_292) rfl ?_
      show Steps p.tables e below (T87.setTop (mkF m 294 #[.val (.int p0), .val (.int p1), .val (.int p2), .val (.int r0), .val (.int r1), .val (.int r2), .val (.int r3), .val (.int v10), .val (.int v17), .val (.int v24), .val (.int v31), .val (.int kk), .val (.ref ca), .val (.ref bo), .val (.int mm), .val (.int rot), .val (.int v94), .unset, .unset, .unset, .unset, .unset, .unset, .unset, .unset, .unset, .unset] [(.int rot), (.int mm), (.ref bo)])) _
      refine XS.iload X87.here hx rfl (hb hby at_294) rfl ?_
      show Steps p.tables e below (T87.setTop (mkF m 296 #[.val (.int p0), .val (.int p1), .val (.int p2), .val (.int r0), .val (.int r1), .val (.int r2), .val (.int r3), .val (.int v10), .val (.int v17), .val (.int v24), .val (.int v31), .val (.int kk), .val (.ref ca), .val (.ref bo), .val (.int mm), .val (.int rot), .val (.int v94), .unset, .unset, .unset, .unset, .unset, .unset, .unset, .unset, .unset, .unset] [(.int v94), (.int rot), (.int mm), (.ref bo)])) _
      refine XS.iconst X87.here hx rfl (hb hby at_296) ?_
      show Steps p.tables e below (T87.setTop (mkF m 297 #[.val (.int p0), .val (.int p1), .val (.int p2), .val (.int r0), .val (.int r1), .val (.int r2), .val (.int r3), .val (.int v10), .val (.int v17), .val (.int v24), .val (.int v31), .val (.int kk), .val (.ref ca), .val (.ref bo), .val (.int mm), .val (.int rot), .val (.int v94), .unset, .unset, .unset, .unset, .unset, .unset, .unset, .unset, .unset, .unset] [(.int (0 : Int32)), (.int v94), (.int rot), (.int mm), (.ref bo)])) _
      exact Steps.refl _)
  obtain ⟨_, _, ⟨T97, L97, k97, n97⟩, -, X97, ⟨Lc97, hQ97, l97, y97, z97⟩, st97⟩ := Jvm.LawKit.callS X87 hx (y := (⟨"com/example/libpathsum/libpathsum/BlocksMarkPinLaw", "pos", "(IZI)I"⟩ : MethodName)) hown (mvT hZ (hw _ (List.mem_of_getElem? (i := 45) rfl))) (mvT hZ (hw _ (List.mem_of_getElem? (i := 46) rfl))) (mvT hZ (hw _ (List.mem_of_getElem? (i := 3) rfl))) (mvT hZ (hw _ (List.mem_of_getElem? (i := 47) rfl))) (by decide) (backOf (W := 2) (rmPos l Z a0 hw [] rot v94 (0 : Int32) T87.heap n0 Z87) hZ (hw _ (List.mem_of_getElem? (i := 47) rfl)) (hw _ (List.mem_of_getElem? (i := 3) rfl)) (by decide) (by decide)) (g := (mkF m 297 #[.val (.int p0), .val (.int p1), .val (.int p2), .val (.int r0), .val (.int r1), .val (.int r2), .val (.int r3), .val (.int v10), .val (.int v17), .val (.int v24), .val (.int v31), .val (.int kk), .val (.ref ca), .val (.ref bo), .val (.int mm), .val (.int rot), .val (.int v94), .unset, .unset, .unset, .unset, .unset, .unset, .unset, .unset, .unset, .unset] [(.int (0 : Int32)), (.int v94), (.int rot), (.int mm), (.ref bo)])) rfl (by rw [hml]; rfl) (argsL := [(.int rot), (.int v94), (.int (0 : Int32))]) (rest := [(.int mm), (.ref bo)]) (lenOf pd_5 rfl) rfl (by show 2 * 0 + _ ≤ _; exact Nat.le_of_eq rfl) (hb hby at_297) (fun _ _ => ⟨rfl, rfl, (by decide : 10 + 0 ≤ _), (by decide : 46 + 0 ≤ _)⟩)
  dsimp only [Pt.U, Pt.locs, Pt.cells, Pt.slots] at X97 l97 y97 z97 st97 hQ97
  subst l97 y97 z97
  obtain ⟨rfl, N97q, e97⟩ := hQ97
  have N97 := Fr.app N87 N97q
  have q98 : Steps p.tables e below (s₁.setTop (entryFrame m #[(.int p0), (.int p1), (.int p2)] maxLocals)) (T97.setTop (mkF m 300 #[.val (.int p0), .val (.int p1), .val (.int p2), .val (.int r0), .val (.int r1), .val (.int r2), .val (.int r3), .val (.int v10), .val (.int v17), .val (.int v24), .val (.int v31), .val (.int kk), .val (.ref ca), .val (.ref bo), .val (.int mm), .val (.int rot), .val (.int v94), .unset, .unset, .unset, .unset, .unset, .unset, .unset, .unset, .unset, .unset] [(.int (Fpos rot v94 (0 : Int32))), (.int mm), (.ref bo)])) := q96.trans (st97 _ (Steps.refl _))
  obtain ⟨r99, hr99, hM⟩ := Option.bind_eq_some_iff.mp hM
  obtain ⟨_, _, ⟨T100, L100, k100, n100⟩, -, X100, ⟨Lc100, hQ100, l100, y100, z100⟩, st100⟩ := Jvm.LawKit.callS X97 hx (y := (⟨"com/example/libpathsum/libpathsum/BlocksMarkPinLaw", "markIf", "(Lcom/example/libpathsum/libpathsum/Blocks;II)V"⟩ : MethodName)) hown (mvT hZ (hw _ (List.mem_of_getElem? (i := 48) rfl))) (mvT hZ (hw _ (List.mem_of_getElem? (i := 49) rfl))) (mvT hZ (hw _ (List.mem_of_getElem? (i := 3) rfl))) (mvT hZ (hw _ (List.mem_of_getElem? (i := 50) rfl))) (by decide) (backOf (W := 0) (rmI l Z a0 hw [] bo mm (Fpos rot v94 (0 : Int32)) aM aI aB aS aE aF aC aK r86.1 r86.2.1 r86.2.2.1 r86.2.2.2.1 r86.2.2.2.2.1 r86.2.2.2.2.2.1 r86.2.2.2.2.2.2.1 r86.2.2.2.2.2.2.2 kk (0 : Int32) r99 T87.heap n0 Z87 E87 F87_members F87_memberIndex F87_blockOf F87_start F87_end F87_splitFrom F87_markedCount F87_markedBlocks F87_count F87_markedBlockCount J87_aM J87_aI J87_aB J87_aS J87_aE J87_aF J87_aC J87_aK ge_aM ge_aI ge_aB ge_aS ge_aE ge_aF ge_aC ge_aK ge_bo ne_aM_aI ne_aM_aB ne_aM_aS ne_aM_aE ne_aM_aF ne_aM_aC ne_aM_aK ne_aI_aB ne_aI_aS ne_aI_aE ne_aI_aF ne_aI_aC ne_aI_aK ne_aB_aS ne_aB_aE ne_aB_aF ne_aB_aC ne_aB_aK ne_aS_aE ne_aS_aF ne_aS_aC ne_aS_aK ne_aE_aF ne_aE_aC ne_aE_aK ne_aF_aC ne_aF_aK ne_aC_aK ne_bo_aM ne_bo_aI ne_bo_aB ne_bo_aS ne_bo_aE ne_bo_aF ne_bo_aC ne_bo_aK hr99) hZ (hw _ (List.mem_of_getElem? (i := 50) rfl)) (hw _ (List.mem_of_getElem? (i := 3) rfl)) (by decide) (by decide)) (g := (mkF m 300 #[.val (.int p0), .val (.int p1), .val (.int p2), .val (.int r0), .val (.int r1), .val (.int r2), .val (.int r3), .val (.int v10), .val (.int v17), .val (.int v24), .val (.int v31), .val (.int kk), .val (.ref ca), .val (.ref bo), .val (.int mm), .val (.int rot), .val (.int v94), .unset, .unset, .unset, .unset, .unset, .unset, .unset, .unset, .unset, .unset] [(.int (Fpos rot v94 (0 : Int32))), (.int mm), (.ref bo)])) rfl (by rw [hml]; rfl) (argsL := [(.ref bo), (.int mm), (.int (Fpos rot v94 (0 : Int32)))]) (rest := []) (lenOf pd_6 rfl) rfl (by show 2 * 0 + _ ≤ _; exact Nat.le_of_eq rfl) (hb hby at_300) (fun _ _ => ⟨rfl, e97, (by decide : 10 + 0 ≤ _), (by decide : 46 + 0 ≤ _)⟩)
  dsimp only [Pt.U, Pt.locs, Pt.cells, Pt.slots] at X100 l100 y100 z100 st100 hQ100
  subst l100 y100 z100
  obtain ⟨rfl, N100q, K100, J100_0, J100_1, J100_2, J100_3, G100_0, G100_1, G100_2, G100_3, G100_4, G100_5, G100_6, G100_7, G100_8, G100_9⟩ := hQ100
  have N100 := Fr.app N97 N100q
  have Ica_100 := Ica_87.keep K100 (ninS ne_ca_aM (ninS ne_ca_aI (ninS ne_ca_aC (ninS ne_ca_aK (ninS ne_ca_bo nin0)))))
  have IaB_100 := J87_aB.keep K100 (ninS (Ne.symm ne_aM_aB) (ninS (Ne.symm ne_aI_aB) (ninS ne_aB_aC (ninS ne_aB_aK (ninS (Ne.symm ne_bo_aB) nin0)))))
  have IaS_100 := J87_aS.keep K100 (ninS (Ne.symm ne_aM_aS) (ninS (Ne.symm ne_aI_aS) (ninS ne_aS_aC (ninS ne_aS_aK (ninS (Ne.symm ne_bo_aS) nin0)))))
  have IaE_100 := J87_aE.keep K100 (ninS (Ne.symm ne_aM_aE) (ninS (Ne.symm ne_aI_aE) (ninS ne_aE_aC (ninS ne_aE_aK (ninS (Ne.symm ne_bo_aE) nin0)))))
  have IaF_100 := J87_aF.keep K100 (ninS (Ne.symm ne_aM_aF) (ninS (Ne.symm ne_aI_aF) (ninS ne_aF_aC (ninS ne_aF_aK (ninS (Ne.symm ne_bo_aF) nin0)))))
  have Xbo_100 := E87.keep K100
  have Z100 : n0 ≤ T100.heap.size := Nat.le_trans Z87 K100.1
  have q101 : Steps p.tables e below (s₁.setTop (entryFrame m #[(.int p0), (.int p1), (.int p2)] maxLocals)) (T100.setTop (mkF m 303 #[.val (.int p0), .val (.int p1), .val (.int p2), .val (.int r0), .val (.int r1), .val (.int r2), .val (.int r3), .val (.int v10), .val (.int v17), .val (.int v24), .val (.int v31), .val (.int kk), .val (.ref ca), .val (.ref bo), .val (.int mm), .val (.int rot), .val (.int v94), .unset, .unset, .unset, .unset, .unset, .unset, .unset, .unset, .unset, .unset] [])) := q98.trans (st100 _ (Steps.refl _))
  have q102 : Steps p.tables e below (s₁.setTop (entryFrame m #[(.int p0), (.int p1), (.int p2)] maxLocals)) (T100.setTop (mkF m 312 #[.val (.int p0), .val (.int p1), .val (.int p2), .val (.int r0), .val (.int r1), .val (.int r2), .val (.int r3), .val (.int v10), .val (.int v17), .val (.int v24), .val (.int v31), .val (.int kk), .val (.ref ca), .val (.ref bo), .val (.int mm), .val (.int rot), .val (.int v94), .unset, .unset, .unset, .unset, .unset, .unset, .unset, .unset, .unset, .unset] [(.int (1 : Int32)), (.int v94), (.int rot), (.int mm), (.ref bo)])) := q101.trans (by
      show Steps p.tables e below (T100.setTop (mkF m 303 #[.val (.int p0), .val (.int p1), .val (.int p2), .val (.int r0), .val (.int r1), .val (.int r2), .val (.int r3), .val (.int v10), .val (.int v17), .val (.int v24), .val (.int v31), .val (.int kk), .val (.ref ca), .val (.ref bo), .val (.int mm), .val (.int rot), .val (.int v94), .unset, .unset, .unset, .unset, .unset, .unset, .unset, .unset, .unset, .unset] [])) _
      refine XS.aload X100.here hx rfl (hb hby at_303) rfl rfl ?_
      show Steps p.tables e below (T100.setTop (mkF m 305 #[.val (.int p0), .val (.int p1), .val (.int p2), .val (.int r0), .val (.int r1), .val (.int r2), .val (.int r3), .val (.int v10), .val (.int v17), .val (.int v24), .val (.int v31), .val (.int kk), .val (.ref ca), .val (.ref bo), .val (.int mm), .val (.int rot), .val (.int v94), .unset, .unset, .unset, .unset, .unset, .unset, .unset, .unset, .unset, .unset] [(.ref bo)])) _
      refine XS.iload X100.here hx rfl (hb hby at_305) rfl ?_
      show Steps p.tables e below (T100.setTop (mkF m 307 #[.val (.int p0), .val (.int p1), .val (.int p2), .val (.int r0), .val (.int r1), .val (.int r2), .val (.int r3), .val (.int v10), .val (.int v17), .val (.int v24), .val (.int v31), .val (.int kk), .val (.ref ca), .val (.ref bo), .val (.int mm), .val (.int rot), .val (.int v94), .unset, .unset, .unset, .unset, .unset, .unset, .unset, .unset, .unset, .unset] [(.int mm), (.ref bo)])) _
      refine XS.iload X100.here hx rfl (hb hby at_307) rfl ?_
      show Steps p.tables e below (T100.setTop (mkF m 309 #[.val (.int p0), .val (.int p1), .val (.int p2), .val (.int r0), .val (.int r1), .val (.int r2), .val (.int r3), .val (.int v10), .val (.int v17), .val (.int v24), .val (.int v31), .val (.int kk), .val (.ref ca), .val (.ref bo), .val (.int mm), .val (.int rot), .val (.int v94), .unset, .unset, .unset, .unset, .unset, .unset, .unset, .unset, .unset, .unset] [(.int rot), (.int mm), (.ref bo)])) _
      refine XS.iload X100.here hx rfl (hb hby at_309) rfl ?_
      show Steps p.tables e below (T100.setTop (mkF m 311 #[.val (.int p0), .val (.int p1), .val (.int p2), .val (.int r0), .val (.int r1), .val (.int r2), .val (.int r3), .val (.int v10), .val (.int v17), .val (.int v24), .val (.int v31), .val (.int kk), .val (.ref ca), .val (.ref bo), .val (.int mm), .val (.int rot), .val (.int v94), .unset, .unset, .unset, .unset, .unset, .unset, .unset, .unset, .unset, .unset] [(.int v94), (.int rot), (.int mm), (.ref bo)])) _
      refine XS.iconst X100.here hx rfl (hb hby at_311) ?_
      show Steps p.tables e below (T100.setTop (mkF m 312 #[.val (.int p0), .val (.int p1), .val (.int p2), .val (.int r0), .val (.int r1), .val (.int r2), .val (.int r3), .val (.int v10), .val (.int v17), .val (.int v24), .val (.int v31), .val (.int kk), .val (.ref ca), .val (.ref bo), .val (.int mm), .val (.int rot), .val (.int v94), .unset, .unset, .unset, .unset, .unset, .unset, .unset, .unset, .unset, .unset] [(.int (1 : Int32)), (.int v94), (.int rot), (.int mm), (.ref bo)])) _
      exact Steps.refl _)
  obtain ⟨_, _, ⟨T103, L103, k103, n103⟩, -, X103, ⟨Lc103, hQ103, l103, y103, z103⟩, st103⟩ := Jvm.LawKit.callS X100 hx (y := (⟨"com/example/libpathsum/libpathsum/BlocksMarkPinLaw", "pos", "(IZI)I"⟩ : MethodName)) hown (mvT hZ (hw _ (List.mem_of_getElem? (i := 45) rfl))) (mvT hZ (hw _ (List.mem_of_getElem? (i := 46) rfl))) (mvT hZ (hw _ (List.mem_of_getElem? (i := 3) rfl))) (mvT hZ (hw _ (List.mem_of_getElem? (i := 47) rfl))) (by decide) (backOf (W := 2) (rmPos l Z a0 hw [] rot v94 (1 : Int32) T100.heap n0 Z100) hZ (hw _ (List.mem_of_getElem? (i := 47) rfl)) (hw _ (List.mem_of_getElem? (i := 3) rfl)) (by decide) (by decide)) (g := (mkF m 312 #[.val (.int p0), .val (.int p1), .val (.int p2), .val (.int r0), .val (.int r1), .val (.int r2), .val (.int r3), .val (.int v10), .val (.int v17), .val (.int v24), .val (.int v31), .val (.int kk), .val (.ref ca), .val (.ref bo), .val (.int mm), .val (.int rot), .val (.int v94), .unset, .unset, .unset, .unset, .unset, .unset, .unset, .unset, .unset, .unset] [(.int (1 : Int32)), (.int v94), (.int rot), (.int mm), (.ref bo)])) rfl (by rw [hml]; rfl) (argsL := [(.int rot), (.int v94), (.int (1 : Int32))]) (rest := [(.int mm), (.ref bo)]) (lenOf pd_5 rfl) rfl (by show 2 * 0 + _ ≤ _; exact Nat.le_of_eq rfl) (hb hby at_312) (fun _ _ => ⟨rfl, rfl, (by decide : 10 + 0 ≤ _), (by decide : 46 + 0 ≤ _)⟩)
  dsimp only [Pt.U, Pt.locs, Pt.cells, Pt.slots] at X103 l103 y103 z103 st103 hQ103
  subst l103 y103 z103
  obtain ⟨rfl, N103q, e103⟩ := hQ103
  have N103 := Fr.app N100 N103q
  have q104 : Steps p.tables e below (s₁.setTop (entryFrame m #[(.int p0), (.int p1), (.int p2)] maxLocals)) (T103.setTop (mkF m 315 #[.val (.int p0), .val (.int p1), .val (.int p2), .val (.int r0), .val (.int r1), .val (.int r2), .val (.int r3), .val (.int v10), .val (.int v17), .val (.int v24), .val (.int v31), .val (.int kk), .val (.ref ca), .val (.ref bo), .val (.int mm), .val (.int rot), .val (.int v94), .unset, .unset, .unset, .unset, .unset, .unset, .unset, .unset, .unset, .unset] [(.int (Fpos rot v94 (1 : Int32))), (.int mm), (.ref bo)])) := q102.trans (st103 _ (Steps.refl _))
  obtain ⟨r105, hr105, hM⟩ := Option.bind_eq_some_iff.mp hM
  obtain ⟨_, _, ⟨T106, L106, k106, n106⟩, -, X106, ⟨Lc106, hQ106, l106, y106, z106⟩, st106⟩ := Jvm.LawKit.callS X103 hx (y := (⟨"com/example/libpathsum/libpathsum/BlocksMarkPinLaw", "markIf", "(Lcom/example/libpathsum/libpathsum/Blocks;II)V"⟩ : MethodName)) hown (mvT hZ (hw _ (List.mem_of_getElem? (i := 48) rfl))) (mvT hZ (hw _ (List.mem_of_getElem? (i := 49) rfl))) (mvT hZ (hw _ (List.mem_of_getElem? (i := 3) rfl))) (mvT hZ (hw _ (List.mem_of_getElem? (i := 50) rfl))) (by decide) (backOf (W := 0) (rmI l Z a0 hw [] bo mm (Fpos rot v94 (1 : Int32)) aM aI aB aS aE aF aC aK r99.1 r99.2.1 r86.2.2.1 r86.2.2.2.1 r86.2.2.2.2.1 r86.2.2.2.2.2.1 r99.2.2.1 r99.2.2.2.1 kk r99.2.2.2.2 r105 T100.heap n0 Z100 Xbo_100 G100_0 G100_1 G100_2 G100_3 G100_4 G100_5 G100_6 G100_7 G100_8 G100_9 J100_0 J100_1 IaB_100 IaS_100 IaE_100 IaF_100 J100_2 J100_3 ge_aM ge_aI ge_aB ge_aS ge_aE ge_aF ge_aC ge_aK ge_bo ne_aM_aI ne_aM_aB ne_aM_aS ne_aM_aE ne_aM_aF ne_aM_aC ne_aM_aK ne_aI_aB ne_aI_aS ne_aI_aE ne_aI_aF ne_aI_aC ne_aI_aK ne_aB_aS ne_aB_aE ne_aB_aF ne_aB_aC ne_aB_aK ne_aS_aE ne_aS_aF ne_aS_aC ne_aS_aK ne_aE_aF ne_aE_aC ne_aE_aK ne_aF_aC ne_aF_aK ne_aC_aK ne_bo_aM ne_bo_aI ne_bo_aB ne_bo_aS ne_bo_aE ne_bo_aF ne_bo_aC ne_bo_aK hr105) hZ (hw _ (List.mem_of_getElem? (i := 50) rfl)) (hw _ (List.mem_of_getElem? (i := 3) rfl)) (by decide) (by decide)) (g := (mkF m 315 #[.val (.int p0), .val (.int p1), .val (.int p2), .val (.int r0), .val (.int r1), .val (.int r2), .val (.int r3), .val (.int v10), .val (.int v17), .val (.int v24), .val (.int v31), .val (.int kk), .val (.ref ca), .val (.ref bo), .val (.int mm), .val (.int rot), .val (.int v94), .unset, .unset, .unset, .unset, .unset, .unset, .unset, .unset, .unset, .unset] [(.int (Fpos rot v94 (1 : Int32))), (.int mm), (.ref bo)])) rfl (by rw [hml]; rfl) (argsL := [(.ref bo), (.int mm), (.int (Fpos rot v94 (1 : Int32)))]) (rest := []) (lenOf pd_6 rfl) rfl (by show 2 * 0 + _ ≤ _; exact Nat.le_of_eq rfl) (hb hby at_315) (fun _ _ => ⟨rfl, e103, (by decide : 10 + 0 ≤ _), (by decide : 46 + 0 ≤ _)⟩)
  dsimp only [Pt.U, Pt.locs, Pt.cells, Pt.slots] at X106 l106 y106 z106 st106 hQ106
  subst l106 y106 z106
  obtain ⟨rfl, N106q, K106, J106_0, J106_1, J106_2, J106_3, G106_0, G106_1, G106_2, G106_3, G106_4, G106_5, G106_6, G106_7, G106_8, G106_9⟩ := hQ106
  have N106 := Fr.app N103 N106q
  have Ica_106 := Ica_100.keep K106 (ninS ne_ca_aM (ninS ne_ca_aI (ninS ne_ca_aC (ninS ne_ca_aK (ninS ne_ca_bo nin0)))))
  have IaB_106 := IaB_100.keep K106 (ninS (Ne.symm ne_aM_aB) (ninS (Ne.symm ne_aI_aB) (ninS ne_aB_aC (ninS ne_aB_aK (ninS (Ne.symm ne_bo_aB) nin0)))))
  have IaS_106 := IaS_100.keep K106 (ninS (Ne.symm ne_aM_aS) (ninS (Ne.symm ne_aI_aS) (ninS ne_aS_aC (ninS ne_aS_aK (ninS (Ne.symm ne_bo_aS) nin0)))))
  have IaE_106 := IaE_100.keep K106 (ninS (Ne.symm ne_aM_aE) (ninS (Ne.symm ne_aI_aE) (ninS ne_aE_aC (ninS ne_aE_aK (ninS (Ne.symm ne_bo_aE) nin0)))))
  have IaF_106 := IaF_100.keep K106 (ninS (Ne.symm ne_aM_aF) (ninS (Ne.symm ne_aI_aF) (ninS ne_aF_aC (ninS ne_aF_aK (ninS (Ne.symm ne_bo_aF) nin0)))))
  have Xbo_106 := Xbo_100.keep K106
  have Z106 : n0 ≤ T106.heap.size := Nat.le_trans Z100 K106.1
  have q107 : Steps p.tables e below (s₁.setTop (entryFrame m #[(.int p0), (.int p1), (.int p2)] maxLocals)) (T106.setTop (mkF m 318 #[.val (.int p0), .val (.int p1), .val (.int p2), .val (.int r0), .val (.int r1), .val (.int r2), .val (.int r3), .val (.int v10), .val (.int v17), .val (.int v24), .val (.int v31), .val (.int kk), .val (.ref ca), .val (.ref bo), .val (.int mm), .val (.int rot), .val (.int v94), .unset, .unset, .unset, .unset, .unset, .unset, .unset, .unset, .unset, .unset] [])) := q104.trans (st106 _ (Steps.refl _))
  have q108 : Steps p.tables e below (s₁.setTop (entryFrame m #[(.int p0), (.int p1), (.int p2)] maxLocals)) (T106.setTop (mkF m 327 #[.val (.int p0), .val (.int p1), .val (.int p2), .val (.int r0), .val (.int r1), .val (.int r2), .val (.int r3), .val (.int v10), .val (.int v17), .val (.int v24), .val (.int v31), .val (.int kk), .val (.ref ca), .val (.ref bo), .val (.int mm), .val (.int rot), .val (.int v94), .unset, .unset, .unset, .unset, .unset, .unset, .unset, .unset, .unset, .unset] [(.int (2 : Int32)), (.int v94), (.int rot), (.int mm), (.ref bo)])) := q107.trans (by
      show Steps p.tables e below (T106.setTop (mkF m 318 #[.val (.int p0), .val (.int p1), .val (.int p2), .val (.int r0), .val (.int r1), .val (.int r2), .val (.int r3), .val (.int v10), .val (.int v17), .val (.int v24), .val (.int v31), .val (.int kk), .val (.ref ca), .val (.ref bo), .val (.int mm), .val (.int rot), .val (.int v94), .unset, .unset, .unset, .unset, .unset, .unset, .unset, .unset, .unset, .unset] [])) _
      refine XS.aload X106.here hx rfl (hb hby at_318) rfl rfl ?_
      show Steps p.tables e below (T106.setTop (mkF m 320 #[.val (.int p0), .val (.int p1), .val (.int p2), .val (.int r0), .val (.int r1), .val (.int r2), .val (.int r3), .val (.int v10), .val (.int v17), .val (.int v24), .val (.int v31), .val (.int kk), .val (.ref ca), .val (.ref bo), .val (.int mm), .val (.int rot), .val (.int v94), .unset, .unset, .unset, .unset, .unset, .unset, .unset, .unset, .unset, .unset] [(.ref bo)])) _
      refine XS.iload X106.here hx rfl (hb hby at_320) rfl ?_
      show Steps p.tables e below (T106.setTop (mkF m 322 #[.val (.int p0), .val (.int p1), .val (.int p2), .val (.int r0), .val (.int r1), .val (.int r2), .val (.int r3), .val (.int v10), .val (.int v17), .val (.int v24), .val (.int v31), .val (.int kk), .val (.ref ca), .val (.ref bo), .val (.int mm), .val (.int rot), .val (.int v94), .unset, .unset, .unset, .unset, .unset, .unset, .unset, .unset, .unset, .unset] [(.int mm), (.ref bo)])) _
      refine XS.iload X106.here hx rfl (hb hby at_322) rfl ?_
      show Steps p.tables e below (T106.setTop (mkF m 324 #[.val (.int p0), .val (.int p1), .val (.int p2), .val (.int r0), .val (.int r1), .val (.int r2), .val (.int r3), .val (.int v10), .val (.int v17), .val (.int v24), .val (.int v31), .val (.int kk), .val (.ref ca), .val (.ref bo), .val (.int mm), .val (.int rot), .val (.int v94), .unset, .unset, .unset, .unset, .unset, .unset, .unset, .unset, .unset, .unset] [(.int rot), (.int mm), (.ref bo)])) _
      refine XS.iload X106.here hx rfl (hb hby at_324) rfl ?_
      show Steps p.tables e below (T106.setTop (mkF m 326 #[.val (.int p0), .val (.int p1), .val (.int p2), .val (.int r0), .val (.int r1), .val (.int r2), .val (.int r3), .val (.int v10), .val (.int v17), .val (.int v24), .val (.int v31), .val (.int kk), .val (.ref ca), .val (.ref bo), .val (.int mm), .val (.int rot), .val (.int v94), .unset, .unset, .unset, .unset, .unset, .unset, .unset, .unset, .unset, .unset] [(.int v94), (.int rot), (.int mm), (.ref bo)])) _
      refine XS.iconst X106.here hx rfl (hb hby at_326) ?_
      show Steps p.tables e below (T106.setTop (mkF m 327 #[.val (.int p0), .val (.int p1), .val (.int p2), .val (.int r0), .val (.int r1), .val (.int r2), .val (.int r3), .val (.int v10), .val (.int v17), .val (.int v24), .val (.int v31), .val (.int kk), .val (.ref ca), .val (.ref bo), .val (.int mm), .val (.int rot), .val (.int v94), .unset, .unset, .unset, .unset, .unset, .unset, .unset, .unset, .unset, .unset] [(.int (2 : Int32)), (.int v94), (.int rot), (.int mm), (.ref bo)])) _
      exact Steps.refl _)
  obtain ⟨_, _, ⟨T109, L109, k109, n109⟩, -, X109, ⟨Lc109, hQ109, l109, y109, z109⟩, st109⟩ := Jvm.LawKit.callS X106 hx (y := (⟨"com/example/libpathsum/libpathsum/BlocksMarkPinLaw", "pos", "(IZI)I"⟩ : MethodName)) hown (mvT hZ (hw _ (List.mem_of_getElem? (i := 45) rfl))) (mvT hZ (hw _ (List.mem_of_getElem? (i := 46) rfl))) (mvT hZ (hw _ (List.mem_of_getElem? (i := 3) rfl))) (mvT hZ (hw _ (List.mem_of_getElem? (i := 47) rfl))) (by decide) (backOf (W := 2) (rmPos l Z a0 hw [] rot v94 (2 : Int32) T106.heap n0 Z106) hZ (hw _ (List.mem_of_getElem? (i := 47) rfl)) (hw _ (List.mem_of_getElem? (i := 3) rfl)) (by decide) (by decide)) (g := (mkF m 327 #[.val (.int p0), .val (.int p1), .val (.int p2), .val (.int r0), .val (.int r1), .val (.int r2), .val (.int r3), .val (.int v10), .val (.int v17), .val (.int v24), .val (.int v31), .val (.int kk), .val (.ref ca), .val (.ref bo), .val (.int mm), .val (.int rot), .val (.int v94), .unset, .unset, .unset, .unset, .unset, .unset, .unset, .unset, .unset, .unset] [(.int (2 : Int32)), (.int v94), (.int rot), (.int mm), (.ref bo)])) rfl (by rw [hml]; rfl) (argsL := [(.int rot), (.int v94), (.int (2 : Int32))]) (rest := [(.int mm), (.ref bo)]) (lenOf pd_5 rfl) rfl (by show 2 * 0 + _ ≤ _; exact Nat.le_of_eq rfl) (hb hby at_327) (fun _ _ => ⟨rfl, rfl, (by decide : 10 + 0 ≤ _), (by decide : 46 + 0 ≤ _)⟩)
  dsimp only [Pt.U, Pt.locs, Pt.cells, Pt.slots] at X109 l109 y109 z109 st109 hQ109
  subst l109 y109 z109
  obtain ⟨rfl, N109q, e109⟩ := hQ109
  have N109 := Fr.app N106 N109q
  have q110 : Steps p.tables e below (s₁.setTop (entryFrame m #[(.int p0), (.int p1), (.int p2)] maxLocals)) (T109.setTop (mkF m 330 #[.val (.int p0), .val (.int p1), .val (.int p2), .val (.int r0), .val (.int r1), .val (.int r2), .val (.int r3), .val (.int v10), .val (.int v17), .val (.int v24), .val (.int v31), .val (.int kk), .val (.ref ca), .val (.ref bo), .val (.int mm), .val (.int rot), .val (.int v94), .unset, .unset, .unset, .unset, .unset, .unset, .unset, .unset, .unset, .unset] [(.int (Fpos rot v94 (2 : Int32))), (.int mm), (.ref bo)])) := q108.trans (st109 _ (Steps.refl _))
  obtain ⟨r111, hr111, hM⟩ := Option.bind_eq_some_iff.mp hM
  obtain ⟨_, _, ⟨T112, L112, k112, n112⟩, -, X112, ⟨Lc112, hQ112, l112, y112, z112⟩, st112⟩ := Jvm.LawKit.callS X109 hx (y := (⟨"com/example/libpathsum/libpathsum/BlocksMarkPinLaw", "markIf", "(Lcom/example/libpathsum/libpathsum/Blocks;II)V"⟩ : MethodName)) hown (mvT hZ (hw _ (List.mem_of_getElem? (i := 48) rfl))) (mvT hZ (hw _ (List.mem_of_getElem? (i := 49) rfl))) (mvT hZ (hw _ (List.mem_of_getElem? (i := 3) rfl))) (mvT hZ (hw _ (List.mem_of_getElem? (i := 50) rfl))) (by decide) (backOf (W := 0) (rmI l Z a0 hw [] bo mm (Fpos rot v94 (2 : Int32)) aM aI aB aS aE aF aC aK r105.1 r105.2.1 r86.2.2.1 r86.2.2.2.1 r86.2.2.2.2.1 r86.2.2.2.2.2.1 r105.2.2.1 r105.2.2.2.1 kk r105.2.2.2.2 r111 T106.heap n0 Z106 Xbo_106 G106_0 G106_1 G106_2 G106_3 G106_4 G106_5 G106_6 G106_7 G106_8 G106_9 J106_0 J106_1 IaB_106 IaS_106 IaE_106 IaF_106 J106_2 J106_3 ge_aM ge_aI ge_aB ge_aS ge_aE ge_aF ge_aC ge_aK ge_bo ne_aM_aI ne_aM_aB ne_aM_aS ne_aM_aE ne_aM_aF ne_aM_aC ne_aM_aK ne_aI_aB ne_aI_aS ne_aI_aE ne_aI_aF ne_aI_aC ne_aI_aK ne_aB_aS ne_aB_aE ne_aB_aF ne_aB_aC ne_aB_aK ne_aS_aE ne_aS_aF ne_aS_aC ne_aS_aK ne_aE_aF ne_aE_aC ne_aE_aK ne_aF_aC ne_aF_aK ne_aC_aK ne_bo_aM ne_bo_aI ne_bo_aB ne_bo_aS ne_bo_aE ne_bo_aF ne_bo_aC ne_bo_aK hr111) hZ (hw _ (List.mem_of_getElem? (i := 50) rfl)) (hw _ (List.mem_of_getElem? (i := 3) rfl)) (by decide) (by decide)) (g := (mkF m 330 #[.val (.int p0), .val (.int p1), .val (.int p2), .val (.int r0), .val (.int r1), .val (.int r2), .val (.int r3), .val (.int v10), .val (.int v17), .val (.int v24), .val (.int v31), .val (.int kk), .val (.ref ca), .val (.ref bo), .val (.int mm), .val (.int rot), .val (.int v94), .unset, .unset, .unset, .unset, .unset, .unset, .unset, .unset, .unset, .unset] [(.int (Fpos rot v94 (2 : Int32))), (.int mm), (.ref bo)])) rfl (by rw [hml]; rfl) (argsL := [(.ref bo), (.int mm), (.int (Fpos rot v94 (2 : Int32)))]) (rest := []) (lenOf pd_6 rfl) rfl (by show 2 * 0 + _ ≤ _; exact Nat.le_of_eq rfl) (hb hby at_330) (fun _ _ => ⟨rfl, e109, (by decide : 10 + 0 ≤ _), (by decide : 46 + 0 ≤ _)⟩)
  dsimp only [Pt.U, Pt.locs, Pt.cells, Pt.slots] at X112 l112 y112 z112 st112 hQ112
  subst l112 y112 z112
  obtain ⟨rfl, N112q, K112, J112_0, J112_1, J112_2, J112_3, G112_0, G112_1, G112_2, G112_3, G112_4, G112_5, G112_6, G112_7, G112_8, G112_9⟩ := hQ112
  have N112 := Fr.app N109 N112q
  have Ica_112 := Ica_106.keep K112 (ninS ne_ca_aM (ninS ne_ca_aI (ninS ne_ca_aC (ninS ne_ca_aK (ninS ne_ca_bo nin0)))))
  have IaB_112 := IaB_106.keep K112 (ninS (Ne.symm ne_aM_aB) (ninS (Ne.symm ne_aI_aB) (ninS ne_aB_aC (ninS ne_aB_aK (ninS (Ne.symm ne_bo_aB) nin0)))))
  have IaS_112 := IaS_106.keep K112 (ninS (Ne.symm ne_aM_aS) (ninS (Ne.symm ne_aI_aS) (ninS ne_aS_aC (ninS ne_aS_aK (ninS (Ne.symm ne_bo_aS) nin0)))))
  have IaE_112 := IaE_106.keep K112 (ninS (Ne.symm ne_aM_aE) (ninS (Ne.symm ne_aI_aE) (ninS ne_aE_aC (ninS ne_aE_aK (ninS (Ne.symm ne_bo_aE) nin0)))))
  have IaF_112 := IaF_106.keep K112 (ninS (Ne.symm ne_aM_aF) (ninS (Ne.symm ne_aI_aF) (ninS ne_aF_aC (ninS ne_aF_aK (ninS (Ne.symm ne_bo_aF) nin0)))))
  have Xbo_112 := Xbo_106.keep K112
  have Z112 : n0 ≤ T112.heap.size := Nat.le_trans Z106 K112.1
  have q113 : Steps p.tables e below (s₁.setTop (entryFrame m #[(.int p0), (.int p1), (.int p2)] maxLocals)) (T112.setTop (mkF m 333 #[.val (.int p0), .val (.int p1), .val (.int p2), .val (.int r0), .val (.int r1), .val (.int r2), .val (.int r3), .val (.int v10), .val (.int v17), .val (.int v24), .val (.int v31), .val (.int kk), .val (.ref ca), .val (.ref bo), .val (.int mm), .val (.int rot), .val (.int v94), .unset, .unset, .unset, .unset, .unset, .unset, .unset, .unset, .unset, .unset] [])) := q110.trans (st112 _ (Steps.refl _))
  have q114 : Steps p.tables e below (s₁.setTop (entryFrame m #[(.int p0), (.int p1), (.int p2)] maxLocals)) (T112.setTop (mkF m 342 #[.val (.int p0), .val (.int p1), .val (.int p2), .val (.int r0), .val (.int r1), .val (.int r2), .val (.int r3), .val (.int v10), .val (.int v17), .val (.int v24), .val (.int v31), .val (.int kk), .val (.ref ca), .val (.ref bo), .val (.int mm), .val (.int rot), .val (.int v94), .unset, .unset, .unset, .unset, .unset, .unset, .unset, .unset, .unset, .unset] [(.int (3 : Int32)), (.int v94), (.int rot), (.int mm), (.ref bo)])) := q113.trans (by
      show Steps p.tables e below (T112.setTop (mkF m 333 #[.val (.int p0), .val (.int p1), .val (.int p2), .val (.int r0), .val (.int r1), .val (.int r2), .val (.int r3), .val (.int v10), .val (.int v17), .val (.int v24), .val (.int v31), .val (.int kk), .val (.ref ca), .val (.ref bo), .val (.int mm), .val (.int rot), .val (.int v94), .unset, .unset, .unset, .unset, .unset, .unset, .unset, .unset, .unset, .unset] [])) _
      refine XS.aload X112.here hx rfl (hb hby at_333) rfl rfl ?_
      show Steps p.tables e below (T112.setTop (mkF m 335 #[.val (.int p0), .val (.int p1), .val (.int p2), .val (.int r0), .val (.int r1), .val (.int r2), .val (.int r3), .val (.int v10), .val (.int v17), .val (.int v24), .val (.int v31), .val (.int kk), .val (.ref ca), .val (.ref bo), .val (.int mm), .val (.int rot), .val (.int v94), .unset, .unset, .unset, .unset, .unset, .unset, .unset, .unset, .unset, .unset] [(.ref bo)])) _
      refine XS.iload X112.here hx rfl (hb hby at_335) rfl ?_
      show Steps p.tables e below (T112.setTop (mkF m 337 #[.val (.int p0), .val (.int p1), .val (.int p2), .val (.int r0), .val (.int r1), .val (.int r2), .val (.int r3), .val (.int v10), .val (.int v17), .val (.int v24), .val (.int v31), .val (.int kk), .val (.ref ca), .val (.ref bo), .val (.int mm), .val (.int rot), .val (.int v94), .unset, .unset, .unset, .unset, .unset, .unset, .unset, .unset, .unset, .unset] [(.int mm), (.ref bo)])) _
      refine XS.iload X112.here hx rfl (hb hby at_337) rfl ?_
      show Steps p.tables e below (T112.setTop (mkF m 339 #[.val (.int p0), .val (.int p1), .val (.int p2), .val (.int r0), .val (.int r1), .val (.int r2), .val (.int r3), .val (.int v10), .val (.int v17), .val (.int v24), .val (.int v31), .val (.int kk), .val (.ref ca), .val (.ref bo), .val (.int mm), .val (.int rot), .val (.int v94), .unset, .unset, .unset, .unset, .unset, .unset, .unset, .unset, .unset, .unset] [(.int rot), (.int mm), (.ref bo)])) _
      refine XS.iload X112.here hx rfl (hb hby at_339) rfl ?_
      show Steps p.tables e below (T112.setTop (mkF m 341 #[.val (.int p0), .val (.int p1), .val (.int p2), .val (.int r0), .val (.int r1), .val (.int r2), .val (.int r3), .val (.int v10), .val (.int v17), .val (.int v24), .val (.int v31), .val (.int kk), .val (.ref ca), .val (.ref bo), .val (.int mm), .val (.int rot), .val (.int v94), .unset, .unset, .unset, .unset, .unset, .unset, .unset, .unset, .unset, .unset] [(.int v94), (.int rot), (.int mm), (.ref bo)])) _
      refine XS.iconst X112.here hx rfl (hb hby at_341) ?_
      show Steps p.tables e below (T112.setTop (mkF m 342 #[.val (.int p0), .val (.int p1), .val (.int p2), .val (.int r0), .val (.int r1), .val (.int r2), .val (.int r3), .val (.int v10), .val (.int v17), .val (.int v24), .val (.int v31), .val (.int kk), .val (.ref ca), .val (.ref bo), .val (.int mm), .val (.int rot), .val (.int v94), .unset, .unset, .unset, .unset, .unset, .unset, .unset, .unset, .unset, .unset] [(.int (3 : Int32)), (.int v94), (.int rot), (.int mm), (.ref bo)])) _
      exact Steps.refl _)
  obtain ⟨_, _, ⟨T115, L115, k115, n115⟩, -, X115, ⟨Lc115, hQ115, l115, y115, z115⟩, st115⟩ := Jvm.LawKit.callS X112 hx (y := (⟨"com/example/libpathsum/libpathsum/BlocksMarkPinLaw", "pos", "(IZI)I"⟩ : MethodName)) hown (mvT hZ (hw _ (List.mem_of_getElem? (i := 45) rfl))) (mvT hZ (hw _ (List.mem_of_getElem? (i := 46) rfl))) (mvT hZ (hw _ (List.mem_of_getElem? (i := 3) rfl))) (mvT hZ (hw _ (List.mem_of_getElem? (i := 47) rfl))) (by decide) (backOf (W := 2) (rmPos l Z a0 hw [] rot v94 (3 : Int32) T112.heap n0 Z112) hZ (hw _ (List.mem_of_getElem? (i := 47) rfl)) (hw _ (List.mem_of_getElem? (i := 3) rfl)) (by decide) (by decide)) (g := (mkF m 342 #[.val (.int p0), .val (.int p1), .val (.int p2), .val (.int r0), .val (.int r1), .val (.int r2), .val (.int r3), .val (.int v10), .val (.int v17), .val (.int v24), .val (.int v31), .val (.int kk), .val (.ref ca), .val (.ref bo), .val (.int mm), .val (.int rot), .val (.int v94), .unset, .unset, .unset, .unset, .unset, .unset, .unset, .unset, .unset, .unset] [(.int (3 : Int32)), (.int v94), (.int rot), (.int mm), (.ref bo)])) rfl (by rw [hml]; rfl) (argsL := [(.int rot), (.int v94), (.int (3 : Int32))]) (rest := [(.int mm), (.ref bo)]) (lenOf pd_5 rfl) rfl (by show 2 * 0 + _ ≤ _; exact Nat.le_of_eq rfl) (hb hby at_342) (fun _ _ => ⟨rfl, rfl, (by decide : 10 + 0 ≤ _), (by decide : 46 + 0 ≤ _)⟩)
  dsimp only [Pt.U, Pt.locs, Pt.cells, Pt.slots] at X115 l115 y115 z115 st115 hQ115
  subst l115 y115 z115
  obtain ⟨rfl, N115q, e115⟩ := hQ115
  have N115 := Fr.app N112 N115q
  have q116 : Steps p.tables e below (s₁.setTop (entryFrame m #[(.int p0), (.int p1), (.int p2)] maxLocals)) (T115.setTop (mkF m 345 #[.val (.int p0), .val (.int p1), .val (.int p2), .val (.int r0), .val (.int r1), .val (.int r2), .val (.int r3), .val (.int v10), .val (.int v17), .val (.int v24), .val (.int v31), .val (.int kk), .val (.ref ca), .val (.ref bo), .val (.int mm), .val (.int rot), .val (.int v94), .unset, .unset, .unset, .unset, .unset, .unset, .unset, .unset, .unset, .unset] [(.int (Fpos rot v94 (3 : Int32))), (.int mm), (.ref bo)])) := q114.trans (st115 _ (Steps.refl _))
  obtain ⟨r117, hr117, hM⟩ := Option.bind_eq_some_iff.mp hM
  obtain ⟨_, _, ⟨T118, L118, k118, n118⟩, -, X118, ⟨Lc118, hQ118, l118, y118, z118⟩, st118⟩ := Jvm.LawKit.callS X115 hx (y := (⟨"com/example/libpathsum/libpathsum/BlocksMarkPinLaw", "markIf", "(Lcom/example/libpathsum/libpathsum/Blocks;II)V"⟩ : MethodName)) hown (mvT hZ (hw _ (List.mem_of_getElem? (i := 48) rfl))) (mvT hZ (hw _ (List.mem_of_getElem? (i := 49) rfl))) (mvT hZ (hw _ (List.mem_of_getElem? (i := 3) rfl))) (mvT hZ (hw _ (List.mem_of_getElem? (i := 50) rfl))) (by decide) (backOf (W := 0) (rmI l Z a0 hw [] bo mm (Fpos rot v94 (3 : Int32)) aM aI aB aS aE aF aC aK r111.1 r111.2.1 r86.2.2.1 r86.2.2.2.1 r86.2.2.2.2.1 r86.2.2.2.2.2.1 r111.2.2.1 r111.2.2.2.1 kk r111.2.2.2.2 r117 T112.heap n0 Z112 Xbo_112 G112_0 G112_1 G112_2 G112_3 G112_4 G112_5 G112_6 G112_7 G112_8 G112_9 J112_0 J112_1 IaB_112 IaS_112 IaE_112 IaF_112 J112_2 J112_3 ge_aM ge_aI ge_aB ge_aS ge_aE ge_aF ge_aC ge_aK ge_bo ne_aM_aI ne_aM_aB ne_aM_aS ne_aM_aE ne_aM_aF ne_aM_aC ne_aM_aK ne_aI_aB ne_aI_aS ne_aI_aE ne_aI_aF ne_aI_aC ne_aI_aK ne_aB_aS ne_aB_aE ne_aB_aF ne_aB_aC ne_aB_aK ne_aS_aE ne_aS_aF ne_aS_aC ne_aS_aK ne_aE_aF ne_aE_aC ne_aE_aK ne_aF_aC ne_aF_aK ne_aC_aK ne_bo_aM ne_bo_aI ne_bo_aB ne_bo_aS ne_bo_aE ne_bo_aF ne_bo_aC ne_bo_aK hr117) hZ (hw _ (List.mem_of_getElem? (i := 50) rfl)) (hw _ (List.mem_of_getElem? (i := 3) rfl)) (by decide) (by decide)) (g := (mkF m 345 #[.val (.int p0), .val (.int p1), .val (.int p2), .val (.int r0), .val (.int r1), .val (.int r2), .val (.int r3), .val (.int v10), .val (.int v17), .val (.int v24), .val (.int v31), .val (.int kk), .val (.ref ca), .val (.ref bo), .val (.int mm), .val (.int rot), .val (.int v94), .unset, .unset, .unset, .unset, .unset, .unset, .unset, .unset, .unset, .unset] [(.int (Fpos rot v94 (3 : Int32))), (.int mm), (.ref bo)])) rfl (by rw [hml]; rfl) (argsL := [(.ref bo), (.int mm), (.int (Fpos rot v94 (3 : Int32)))]) (rest := []) (lenOf pd_6 rfl) rfl (by show 2 * 0 + _ ≤ _; exact Nat.le_of_eq rfl) (hb hby at_345) (fun _ _ => ⟨rfl, e115, (by decide : 10 + 0 ≤ _), (by decide : 46 + 0 ≤ _)⟩)
  dsimp only [Pt.U, Pt.locs, Pt.cells, Pt.slots] at X118 l118 y118 z118 st118 hQ118
  subst l118 y118 z118
  obtain ⟨rfl, N118q, K118, J118_0, J118_1, J118_2, J118_3, G118_0, G118_1, G118_2, G118_3, G118_4, G118_5, G118_6, G118_7, G118_8, G118_9⟩ := hQ118
  have N118 := Fr.app N115 N118q
  have Ica_118 := Ica_112.keep K118 (ninS ne_ca_aM (ninS ne_ca_aI (ninS ne_ca_aC (ninS ne_ca_aK (ninS ne_ca_bo nin0)))))
  have IaB_118 := IaB_112.keep K118 (ninS (Ne.symm ne_aM_aB) (ninS (Ne.symm ne_aI_aB) (ninS ne_aB_aC (ninS ne_aB_aK (ninS (Ne.symm ne_bo_aB) nin0)))))
  have IaS_118 := IaS_112.keep K118 (ninS (Ne.symm ne_aM_aS) (ninS (Ne.symm ne_aI_aS) (ninS ne_aS_aC (ninS ne_aS_aK (ninS (Ne.symm ne_bo_aS) nin0)))))
  have IaE_118 := IaE_112.keep K118 (ninS (Ne.symm ne_aM_aE) (ninS (Ne.symm ne_aI_aE) (ninS ne_aE_aC (ninS ne_aE_aK (ninS (Ne.symm ne_bo_aE) nin0)))))
  have IaF_118 := IaF_112.keep K118 (ninS (Ne.symm ne_aM_aF) (ninS (Ne.symm ne_aI_aF) (ninS ne_aF_aC (ninS ne_aF_aK (ninS (Ne.symm ne_bo_aF) nin0)))))
  have Xbo_118 := Xbo_112.keep K118
  have Z118 : n0 ≤ T118.heap.size := Nat.le_trans Z112 K118.1
  have q119 : Steps p.tables e below (s₁.setTop (entryFrame m #[(.int p0), (.int p1), (.int p2)] maxLocals)) (T118.setTop (mkF m 348 #[.val (.int p0), .val (.int p1), .val (.int p2), .val (.int r0), .val (.int r1), .val (.int r2), .val (.int r3), .val (.int v10), .val (.int v17), .val (.int v24), .val (.int v31), .val (.int kk), .val (.ref ca), .val (.ref bo), .val (.int mm), .val (.int rot), .val (.int v94), .unset, .unset, .unset, .unset, .unset, .unset, .unset, .unset, .unset, .unset] [])) := q116.trans (st118 _ (Steps.refl _))
  have q120 : Steps p.tables e below (s₁.setTop (entryFrame m #[(.int p0), (.int p1), (.int p2)] maxLocals)) (T118.setTop (mkF m 350 #[.val (.int p0), .val (.int p1), .val (.int p2), .val (.int r0), .val (.int r1), .val (.int r2), .val (.int r3), .val (.int v10), .val (.int v17), .val (.int v24), .val (.int v31), .val (.int kk), .val (.ref ca), .val (.ref bo), .val (.int mm), .val (.int rot), .val (.int v94), .unset, .unset, .unset, .unset, .unset, .unset, .unset, .unset, .unset, .unset] [(.ref bo)])) := q119.trans (by
      show Steps p.tables e below (T118.setTop (mkF m 348 #[.val (.int p0), .val (.int p1), .val (.int p2), .val (.int r0), .val (.int r1), .val (.int r2), .val (.int r3), .val (.int v10), .val (.int v17), .val (.int v24), .val (.int v31), .val (.int kk), .val (.ref ca), .val (.ref bo), .val (.int mm), .val (.int rot), .val (.int v94), .unset, .unset, .unset, .unset, .unset, .unset, .unset, .unset, .unset, .unset] [])) _
      refine XS.aload X118.here hx rfl (hb hby at_348) rfl rfl ?_
      show Steps p.tables e below (T118.setTop (mkF m 350 #[.val (.int p0), .val (.int p1), .val (.int p2), .val (.int r0), .val (.int r1), .val (.int r2), .val (.int r3), .val (.int v10), .val (.int v17), .val (.int v24), .val (.int v31), .val (.int kk), .val (.ref ca), .val (.ref bo), .val (.int mm), .val (.int rot), .val (.int v94), .unset, .unset, .unset, .unset, .unset, .unset, .unset, .unset, .unset, .unset] [(.ref bo)])) _
      exact Steps.refl _)
  obtain ⟨r121, hr121, hM⟩ := Option.bind_eq_some_iff.mp hM
  obtain ⟨cq122, kq122, q122a, q122b, q122c⟩ := isOf hZ rfl Xbo_118
  obtain ⟨_, _, ⟨T122, L122, k122, n122⟩, -, X122, ⟨Lc122, hQ122, l122, y122, z122⟩, st122⟩ := X118.virtualBack hx (y := (⟨"com/example/libpathsum/libpathsum/Blocks", "splitMarked", "()V"⟩ : MethodName)) (z := (⟨"com/example/libpathsum/libpathsum/Blocks", "splitMarked", "()V"⟩ : MethodName)) hown (mvT hZ (hw _ (List.mem_of_getElem? (i := 58) rfl))) (mvT hZ (hw _ (List.mem_of_getElem? (i := 59) rfl))) (notFace_of_selects (args := #[]) (mvT hZ (hw _ (List.mem_of_getElem? (i := 61) rfl)))) (mvT hZ (hw _ (List.mem_of_getElem? (i := 61) rfl))) (mvT hZ (hw _ (List.mem_of_getElem? (i := 60) rfl))) (by decide) (backOf (W := 0) (rmS l Z a0 hw [] bo aM aI aB aS aE aF aC aK r117.1 r117.2.1 r86.2.2.1 r86.2.2.2.1 r86.2.2.2.2.1 r86.2.2.2.2.2.1 r117.2.2.1 r117.2.2.2.1 kk r117.2.2.2.2 r121 T118.heap n0 Z118 Xbo_118 G118_0 G118_1 G118_2 G118_3 G118_4 G118_5 G118_6 G118_7 G118_8 G118_9 J118_0 J118_1 IaB_118 IaS_118 IaE_118 IaF_118 J118_2 J118_3 ge_aM ge_aI ge_aB ge_aS ge_aE ge_aF ge_aC ge_aK ge_bo ne_aM_aI ne_aM_aB ne_aM_aS ne_aM_aE ne_aM_aF ne_aM_aC ne_aM_aK ne_aI_aB ne_aI_aS ne_aI_aE ne_aI_aF ne_aI_aC ne_aI_aK ne_aB_aS ne_aB_aE ne_aB_aF ne_aB_aC ne_aB_aK ne_aS_aE ne_aS_aF ne_aS_aC ne_aS_aK ne_aE_aF ne_aE_aC ne_aE_aK ne_aF_aC ne_aF_aK ne_aC_aK ne_bo_aM ne_bo_aI ne_bo_aB ne_bo_aS ne_bo_aE ne_bo_aF ne_bo_aC ne_bo_aK hr121) hZ (hw _ (List.mem_of_getElem? (i := 62) rfl)) (hw _ (List.mem_of_getElem? (i := 7) rfl)) (by decide) (by decide)) q122a q122c (g := (mkF m 350 #[.val (.int p0), .val (.int p1), .val (.int p2), .val (.int r0), .val (.int r1), .val (.int r2), .val (.int r3), .val (.int v10), .val (.int v17), .val (.int v24), .val (.int v31), .val (.int kk), .val (.ref ca), .val (.ref bo), .val (.int mm), .val (.int rot), .val (.int v94), .unset, .unset, .unset, .unset, .unset, .unset, .unset, .unset, .unset, .unset] [(.ref bo)])) rfl (by rw [hml]; rfl) (Steps.refl _) (argsL := []) (rest := []) (lenOf pd_7 rfl) rfl (by show 2 * 0 + _ ≤ _; exact Nat.le_of_eq rfl) (hb hby at_350) (fun _ _ => ⟨rfl, rfl, (by decide : 10 + 0 ≤ _), (by decide : 46 + 0 ≤ _)⟩)
  dsimp only [Pt.U, Pt.locs, Pt.cells, Pt.slots] at X122 l122 y122 z122 st122 hQ122
  subst l122 y122 z122
  obtain ⟨rfl, N122q, K122, J122_0, J122_1, J122_2, J122_3, J122_4, G122_0, G122_1, G122_2, G122_3, G122_4, G122_5, G122_6, G122_7, G122_8, G122_9⟩ := hQ122
  have N122 := Fr.app N118 N122q
  have Ica_122 := Ica_118.keep K122 (ninS ne_ca_aB (ninS ne_ca_aS (ninS ne_ca_aE (ninS ne_ca_aF (ninS ne_ca_aC (ninS ne_ca_bo nin0))))))
  have IaM_122 := J118_0.keep K122 (ninS ne_aM_aB (ninS ne_aM_aS (ninS ne_aM_aE (ninS ne_aM_aF (ninS ne_aM_aC (ninS (Ne.symm ne_bo_aM) nin0))))))
  have IaI_122 := J118_1.keep K122 (ninS ne_aI_aB (ninS ne_aI_aS (ninS ne_aI_aE (ninS ne_aI_aF (ninS ne_aI_aC (ninS (Ne.symm ne_bo_aI) nin0))))))
  have IaK_122 := J118_3.keep K122 (ninS (Ne.symm ne_aB_aK) (ninS (Ne.symm ne_aS_aK) (ninS (Ne.symm ne_aE_aK) (ninS (Ne.symm ne_aF_aK) (ninS (Ne.symm ne_aC_aK) (ninS (Ne.symm ne_bo_aK) nin0))))))
  have Xbo_122 := Xbo_118.keep K122
  have Z122 : n0 ≤ T122.heap.size := Nat.le_trans Z118 K122.1
  have q123 : Steps p.tables e below (s₁.setTop (entryFrame m #[(.int p0), (.int p1), (.int p2)] maxLocals)) (T122.setTop (mkF m 353 #[.val (.int p0), .val (.int p1), .val (.int p2), .val (.int r0), .val (.int r1), .val (.int r2), .val (.int r3), .val (.int v10), .val (.int v17), .val (.int v24), .val (.int v31), .val (.int kk), .val (.ref ca), .val (.ref bo), .val (.int mm), .val (.int rot), .val (.int v94), .unset, .unset, .unset, .unset, .unset, .unset, .unset, .unset, .unset, .unset] [])) := q120.trans (st122)
  have q124 : Steps p.tables e below (s₁.setTop (entryFrame m #[(.int p0), (.int p1), (.int p2)] maxLocals)) (T122.setTop (mkF m 355 #[.val (.int p0), .val (.int p1), .val (.int p2), .val (.int r0), .val (.int r1), .val (.int r2), .val (.int r3), .val (.int v10), .val (.int v17), .val (.int v24), .val (.int v31), .val (.int kk), .val (.ref ca), .val (.ref bo), .val (.int mm), .val (.int rot), .val (.int v94), .unset, .unset, .unset, .unset, .unset, .unset, .unset, .unset, .unset, .unset] [(.ref bo)])) := q123.trans (by
      show Steps p.tables e below (T122.setTop (mkF m 353 #[.val (.int p0), .val (.int p1), .val (.int p2), .val (.int r0), .val (.int r1), .val (.int r2), .val (.int r3), .val (.int v10), .val (.int v17), .val (.int v24), .val (.int v31), .val (.int kk), .val (.ref ca), .val (.ref bo), .val (.int mm), .val (.int rot), .val (.int v94), .unset, .unset, .unset, .unset, .unset, .unset, .unset, .unset, .unset, .unset] [])) _
      refine XS.aload X122.here hx rfl (hb hby at_353) rfl rfl ?_
      show Steps p.tables e below (T122.setTop (mkF m 355 #[.val (.int p0), .val (.int p1), .val (.int p2), .val (.int r0), .val (.int r1), .val (.int r2), .val (.int r3), .val (.int v10), .val (.int v17), .val (.int v24), .val (.int v31), .val (.int kk), .val (.ref ca), .val (.ref bo), .val (.int mm), .val (.int rot), .val (.int v94), .unset, .unset, .unset, .unset, .unset, .unset, .unset, .unset, .unset, .unset] [(.ref bo)])) _
      exact Steps.refl _)
  obtain ⟨r125, hr125, hM⟩ := Option.bind_eq_some_iff.mp hM
  obtain ⟨cq126, kq126, q126a, q126b, q126c⟩ := isOf hZ rfl Xbo_122
  obtain ⟨_, _, ⟨T126, L126, k126, n126⟩, -, X126, ⟨Lc126, hQ126, l126, y126, z126⟩, st126⟩ := X122.virtualBack hx (y := (⟨"com/example/libpathsum/libpathsum/Blocks", "classes", "()[I"⟩ : MethodName)) (z := (⟨"com/example/libpathsum/libpathsum/Blocks", "classes", "()[I"⟩ : MethodName)) hown (mvT hZ (hw _ (List.mem_of_getElem? (i := 68) rfl))) (mvT hZ (hw _ (List.mem_of_getElem? (i := 69) rfl))) (notFace_of_selects (args := #[]) (mvT hZ (hw _ (List.mem_of_getElem? (i := 71) rfl)))) (mvT hZ (hw _ (List.mem_of_getElem? (i := 71) rfl))) (mvT hZ (hw _ (List.mem_of_getElem? (i := 70) rfl))) (by decide) (backOf (W := 0) (rmL l Z a0 hw [] bo aM aI aB aS aE aF aC aK r117.1 r117.2.1 r121.1 r121.2.1 r121.2.2.1 r121.2.2.2.1 r121.2.2.2.2.1 r117.2.2.2.1 r121.2.2.2.2.2 (0 : Int32) r125 T122.heap n0 Z122 Xbo_122 G122_0 G122_1 G122_2 G122_3 G122_4 G122_5 G122_6 G122_7 G122_8 G122_9 IaM_122 IaI_122 J122_0 J122_1 J122_2 J122_3 J122_4 IaK_122 ge_aM ge_aI ge_aB ge_aS ge_aE ge_aF ge_aC ge_aK ge_bo ne_aM_aI ne_aM_aB ne_aM_aS ne_aM_aE ne_aM_aF ne_aM_aC ne_aM_aK ne_aI_aB ne_aI_aS ne_aI_aE ne_aI_aF ne_aI_aC ne_aI_aK ne_aB_aS ne_aB_aE ne_aB_aF ne_aB_aC ne_aB_aK ne_aS_aE ne_aS_aF ne_aS_aC ne_aS_aK ne_aE_aF ne_aE_aC ne_aE_aK ne_aF_aC ne_aF_aK ne_aC_aK ne_bo_aM ne_bo_aI ne_bo_aB ne_bo_aS ne_bo_aE ne_bo_aF ne_bo_aC ne_bo_aK hr125) hZ (hw _ (List.mem_of_getElem? (i := 72) rfl)) (hw _ (List.mem_of_getElem? (i := 7) rfl)) (by decide) (by decide)) q126a q126c (g := (mkF m 355 #[.val (.int p0), .val (.int p1), .val (.int p2), .val (.int r0), .val (.int r1), .val (.int r2), .val (.int r3), .val (.int v10), .val (.int v17), .val (.int v24), .val (.int v31), .val (.int kk), .val (.ref ca), .val (.ref bo), .val (.int mm), .val (.int rot), .val (.int v94), .unset, .unset, .unset, .unset, .unset, .unset, .unset, .unset, .unset, .unset] [(.ref bo)])) rfl (by rw [hml]; rfl) (Steps.refl _) (argsL := []) (rest := []) (lenOf pd_8 rfl) rfl (by show 2 * 0 + _ ≤ _; exact Nat.le_of_eq rfl) (hb hby at_355) (fun _ _ => ⟨rfl, rfl, (by decide : 10 + 2 ≤ _), (by decide : 46 + 8 ≤ _)⟩)
  dsimp only [Pt.U, Pt.locs, Pt.cells, Pt.slots] at X126 l126 y126 z126 st126 hQ126
  subst l126 y126 z126
  obtain ⟨rb, rfl, N126q, K126, ob126, J126⟩ := hQ126
  have N126 := Fr.app N122 N126q
  have ge_rb : n0 ≤ rb := Nat.le_trans Z122 ob126
  have ne_ca_rb : ca ≠ rb := Nat.ne_of_lt (Nat.lt_of_lt_of_le Ica_122.lt ob126)
  have ne_aM_rb : aM ≠ rb := Nat.ne_of_lt (Nat.lt_of_lt_of_le IaM_122.lt ob126)
  have ne_aI_rb : aI ≠ rb := Nat.ne_of_lt (Nat.lt_of_lt_of_le IaI_122.lt ob126)
  have ne_aB_rb : aB ≠ rb := Nat.ne_of_lt (Nat.lt_of_lt_of_le J122_0.lt ob126)
  have ne_aS_rb : aS ≠ rb := Nat.ne_of_lt (Nat.lt_of_lt_of_le J122_1.lt ob126)
  have ne_aE_rb : aE ≠ rb := Nat.ne_of_lt (Nat.lt_of_lt_of_le J122_2.lt ob126)
  have ne_aF_rb : aF ≠ rb := Nat.ne_of_lt (Nat.lt_of_lt_of_le J122_3.lt ob126)
  have ne_aC_rb : aC ≠ rb := Nat.ne_of_lt (Nat.lt_of_lt_of_le J122_4.lt ob126)
  have ne_aK_rb : aK ≠ rb := Nat.ne_of_lt (Nat.lt_of_lt_of_le IaK_122.lt ob126)
  have ne_bo_rb : bo ≠ rb := Nat.ne_of_lt (Nat.lt_of_lt_of_le Xbo_122.lt ob126)
  have Ica_126 := Ica_122.keep K126 nin0
  have IaM_126 := IaM_122.keep K126 nin0
  have IaI_126 := IaI_122.keep K126 nin0
  have IaB_126 := J122_0.keep K126 nin0
  have IaS_126 := J122_1.keep K126 nin0
  have IaE_126 := J122_2.keep K126 nin0
  have IaF_126 := J122_3.keep K126 nin0
  have IaC_126 := J122_4.keep K126 nin0
  have IaK_126 := IaK_122.keep K126 nin0
  have Xbo_126 := Xbo_122.keep K126
  have Fbo_members_126 := G122_0.keep K126 nin0
  have Fbo_memberIndex_126 := G122_1.keep K126 nin0
  have Fbo_blockOf_126 := G122_2.keep K126 nin0
  have Fbo_start_126 := G122_3.keep K126 nin0
  have Fbo_end_126 := G122_4.keep K126 nin0
  have Fbo_splitFrom_126 := G122_5.keep K126 nin0
  have Fbo_markedCount_126 := G122_6.keep K126 nin0
  have Fbo_markedBlocks_126 := G122_7.keep K126 nin0
  have Fbo_count_126 := G122_8.keep K126 nin0
  have Fbo_markedBlockCount_126 := G122_9.keep K126 nin0
  have Z126 : n0 ≤ T126.heap.size := Nat.le_trans Z122 K126.1
  have q127 : Steps p.tables e below (s₁.setTop (entryFrame m #[(.int p0), (.int p1), (.int p2)] maxLocals)) (T126.setTop (mkF m 358 #[.val (.int p0), .val (.int p1), .val (.int p2), .val (.int r0), .val (.int r1), .val (.int r2), .val (.int r3), .val (.int v10), .val (.int v17), .val (.int v24), .val (.int v31), .val (.int kk), .val (.ref ca), .val (.ref bo), .val (.int mm), .val (.int rot), .val (.int v94), .unset, .unset, .unset, .unset, .unset, .unset, .unset, .unset, .unset, .unset] [(.ref rb)])) := q124.trans (st126)
  have q128 : Steps p.tables e below (s₁.setTop (entryFrame m #[(.int p0), (.int p1), (.int p2)] maxLocals)) (T126.setTop (mkF m 363 #[.val (.int p0), .val (.int p1), .val (.int p2), .val (.int r0), .val (.int r1), .val (.int r2), .val (.int r3), .val (.int v10), .val (.int v17), .val (.int v24), .val (.int v31), .val (.int kk), .val (.ref ca), .val (.ref bo), .val (.int mm), .val (.int rot), .val (.int v94), .val (.ref rb), .unset, .unset, .unset, .unset, .unset, .unset, .unset, .unset, .unset] [(.int (0 : Int32)), (.ref ca)])) := q127.trans (by
      show Steps p.tables e below (T126.setTop (mkF m 358 #[.val (.int p0), .val (.int p1), .val (.int p2), .val (.int r0), .val (.int r1), .val (.int r2), .val (.int r3), .val (.int v10), .val (.int v17), .val (.int v24), .val (.int v31), .val (.int kk), .val (.ref ca), .val (.ref bo), .val (.int mm), .val (.int rot), .val (.int v94), .unset, .unset, .unset, .unset, .unset, .unset, .unset, .unset, .unset, .unset] [(.ref rb)])) _
      refine XS.astore X126.here hx rfl (hb hby at_358) rfl rfl (l' := #[.val (.int p0), .val (.int p1), .val (.int p2), .val (.int r0), .val (.int r1), .val (.int r2), .val (.int r3), .val (.int v10), .val (.int v17), .val (.int v24), .val (.int v31), .val (.int kk), .val (.ref ca), .val (.ref bo), .val (.int mm), .val (.int rot), .val (.int v94), .val (.ref rb), .unset, .unset, .unset, .unset, .unset, .unset, .unset, .unset, .unset]) rfl ?_
      show Steps p.tables e below (T126.setTop (mkF m 360 #[.val (.int p0), .val (.int p1), .val (.int p2), .val (.int r0), .val (.int r1), .val (.int r2), .val (.int r3), .val (.int v10), .val (.int v17), .val (.int v24), .val (.int v31), .val (.int kk), .val (.ref ca), .val (.ref bo), .val (.int mm), .val (.int rot), .val (.int v94), .val (.ref rb), .unset, .unset, .unset, .unset, .unset, .unset, .unset, .unset, .unset] [])) _
      refine XS.aload X126.here hx rfl (hb hby at_360) rfl rfl ?_
      show Steps p.tables e below (T126.setTop (mkF m 362 #[.val (.int p0), .val (.int p1), .val (.int p2), .val (.int r0), .val (.int r1), .val (.int r2), .val (.int r3), .val (.int v10), .val (.int v17), .val (.int v24), .val (.int v31), .val (.int kk), .val (.ref ca), .val (.ref bo), .val (.int mm), .val (.int rot), .val (.int v94), .val (.ref rb), .unset, .unset, .unset, .unset, .unset, .unset, .unset, .unset, .unset] [(.ref ca)])) _
      refine XS.iconst X126.here hx rfl (hb hby at_362) ?_
      show Steps p.tables e below (T126.setTop (mkF m 363 #[.val (.int p0), .val (.int p1), .val (.int p2), .val (.int r0), .val (.int r1), .val (.int r2), .val (.int r3), .val (.int v10), .val (.int v17), .val (.int v24), .val (.int v31), .val (.int kk), .val (.ref ca), .val (.ref bo), .val (.int mm), .val (.int rot), .val (.int v94), .val (.ref rb), .unset, .unset, .unset, .unset, .unset, .unset, .unset, .unset, .unset] [(.int (0 : Int32)), (.ref ca)])) _
      exact Steps.refl _)
  obtain ⟨v129, hv129, hM⟩ := Option.bind_eq_some_iff.mp hM
  have q130 : Steps p.tables e below (s₁.setTop (entryFrame m #[(.int p0), (.int p1), (.int p2)] maxLocals)) (T126.setTop (mkF m 364 #[.val (.int p0), .val (.int p1), .val (.int p2), .val (.int r0), .val (.int r1), .val (.int r2), .val (.int r3), .val (.int v10), .val (.int v17), .val (.int v24), .val (.int v31), .val (.int kk), .val (.ref ca), .val (.ref bo), .val (.int mm), .val (.int rot), .val (.int v94), .val (.ref rb), .unset, .unset, .unset, .unset, .unset, .unset, .unset, .unset, .unset] [(.int v129)])) := q128.trans (Own.ldO X126 hx hZ rfl Ica_126 hv129 (g := (mkF m 363 #[.val (.int p0), .val (.int p1), .val (.int p2), .val (.int r0), .val (.int r1), .val (.int r2), .val (.int r3), .val (.int v10), .val (.int v17), .val (.int v24), .val (.int v31), .val (.int kk), .val (.ref ca), .val (.ref bo), .val (.int mm), .val (.int rot), .val (.int v94), .val (.ref rb), .unset, .unset, .unset, .unset, .unset, .unset, .unset, .unset, .unset] [(.int (0 : Int32)), (.ref ca)])) rfl rfl (hb hby at_363) _ (Steps.refl _))
  have q131 : Steps p.tables e below (s₁.setTop (entryFrame m #[(.int p0), (.int p1), (.int p2)] maxLocals)) (T126.setTop (mkF m 376 #[.val (.int p0), .val (.int p1), .val (.int p2), .val (.int r0), .val (.int r1), .val (.int r2), .val (.int r3), .val (.int v10), .val (.int v17), .val (.int v24), .val (.int v31), .val (.int kk), .val (.ref ca), .val (.ref bo), .val (.int mm), .val (.int rot), .val (.int v94), .val (.ref rb), .val (.int ((v129 * (2 : Int32)) + (mm &&& (1 : Int32)))), .unset, .unset, .unset, .unset, .unset, .unset, .unset, .unset] [(.int (1 : Int32)), (.ref ca)])) := q130.trans (by
      show Steps p.tables e below (T126.setTop (mkF m 364 #[.val (.int p0), .val (.int p1), .val (.int p2), .val (.int r0), .val (.int r1), .val (.int r2), .val (.int r3), .val (.int v10), .val (.int v17), .val (.int v24), .val (.int v31), .val (.int kk), .val (.ref ca), .val (.ref bo), .val (.int mm), .val (.int rot), .val (.int v94), .val (.ref rb), .unset, .unset, .unset, .unset, .unset, .unset, .unset, .unset, .unset] [(.int v129)])) _
      refine XS.iconst X126.here hx rfl (hb hby at_364) ?_
      show Steps p.tables e below (T126.setTop (mkF m 365 #[.val (.int p0), .val (.int p1), .val (.int p2), .val (.int r0), .val (.int r1), .val (.int r2), .val (.int r3), .val (.int v10), .val (.int v17), .val (.int v24), .val (.int v31), .val (.int kk), .val (.ref ca), .val (.ref bo), .val (.int mm), .val (.int rot), .val (.int v94), .val (.ref rb), .unset, .unset, .unset, .unset, .unset, .unset, .unset, .unset, .unset] [(.int (2 : Int32)), (.int v129)])) _
      refine XS.imul X126.here hx rfl (hb hby at_365) rfl ?_
      show Steps p.tables e below (T126.setTop (mkF m 366 #[.val (.int p0), .val (.int p1), .val (.int p2), .val (.int r0), .val (.int r1), .val (.int r2), .val (.int r3), .val (.int v10), .val (.int v17), .val (.int v24), .val (.int v31), .val (.int kk), .val (.ref ca), .val (.ref bo), .val (.int mm), .val (.int rot), .val (.int v94), .val (.ref rb), .unset, .unset, .unset, .unset, .unset, .unset, .unset, .unset, .unset] [(.int (v129 * (2 : Int32)))])) _
      refine XS.iload X126.here hx rfl (hb hby at_366) rfl ?_
      show Steps p.tables e below (T126.setTop (mkF m 368 #[.val (.int p0), .val (.int p1), .val (.int p2), .val (.int r0), .val (.int r1), .val (.int r2), .val (.int r3), .val (.int v10), .val (.int v17), .val (.int v24), .val (.int v31), .val (.int kk), .val (.ref ca), .val (.ref bo), .val (.int mm), .val (.int rot), .val (.int v94), .val (.ref rb), .unset, .unset, .unset, .unset, .unset, .unset, .unset, .unset, .unset] [(.int mm), (.int (v129 * (2 : Int32)))])) _
      refine XS.iconst X126.here hx rfl (hb hby at_368) ?_
      show Steps p.tables e below (T126.setTop (mkF m 369 #[.val (.int p0), .val (.int p1), .val (.int p2), .val (.int r0), .val (.int r1), .val (.int r2), .val (.int r3), .val (.int v10), .val (.int v17), .val (.int v24), .val (.int v31), .val (.int kk), .val (.ref ca), .val (.ref bo), .val (.int mm), .val (.int rot), .val (.int v94), .val (.ref rb), .unset, .unset, .unset, .unset, .unset, .unset, .unset, .unset, .unset] [(.int (1 : Int32)), (.int mm), (.int (v129 * (2 : Int32)))])) _
      refine XS.iand X126.here hx rfl (hb hby at_369) rfl ?_
      show Steps p.tables e below (T126.setTop (mkF m 370 #[.val (.int p0), .val (.int p1), .val (.int p2), .val (.int r0), .val (.int r1), .val (.int r2), .val (.int r3), .val (.int v10), .val (.int v17), .val (.int v24), .val (.int v31), .val (.int kk), .val (.ref ca), .val (.ref bo), .val (.int mm), .val (.int rot), .val (.int v94), .val (.ref rb), .unset, .unset, .unset, .unset, .unset, .unset, .unset, .unset, .unset] [(.int (mm &&& (1 : Int32))), (.int (v129 * (2 : Int32)))])) _
      refine XS.iadd X126.here hx rfl (hb hby at_370) rfl ?_
      show Steps p.tables e below (T126.setTop (mkF m 371 #[.val (.int p0), .val (.int p1), .val (.int p2), .val (.int r0), .val (.int r1), .val (.int r2), .val (.int r3), .val (.int v10), .val (.int v17), .val (.int v24), .val (.int v31), .val (.int kk), .val (.ref ca), .val (.ref bo), .val (.int mm), .val (.int rot), .val (.int v94), .val (.ref rb), .unset, .unset, .unset, .unset, .unset, .unset, .unset, .unset, .unset] [(.int ((v129 * (2 : Int32)) + (mm &&& (1 : Int32))))])) _
      refine XS.istore X126.here hx rfl (hb hby at_371) rfl (l' := #[.val (.int p0), .val (.int p1), .val (.int p2), .val (.int r0), .val (.int r1), .val (.int r2), .val (.int r3), .val (.int v10), .val (.int v17), .val (.int v24), .val (.int v31), .val (.int kk), .val (.ref ca), .val (.ref bo), .val (.int mm), .val (.int rot), .val (.int v94), .val (.ref rb), .val (.int ((v129 * (2 : Int32)) + (mm &&& (1 : Int32)))), .unset, .unset, .unset, .unset, .unset, .unset, .unset, .unset]) rfl ?_
      show Steps p.tables e below (T126.setTop (mkF m 373 #[.val (.int p0), .val (.int p1), .val (.int p2), .val (.int r0), .val (.int r1), .val (.int r2), .val (.int r3), .val (.int v10), .val (.int v17), .val (.int v24), .val (.int v31), .val (.int kk), .val (.ref ca), .val (.ref bo), .val (.int mm), .val (.int rot), .val (.int v94), .val (.ref rb), .val (.int ((v129 * (2 : Int32)) + (mm &&& (1 : Int32)))), .unset, .unset, .unset, .unset, .unset, .unset, .unset, .unset] [])) _
      refine XS.aload X126.here hx rfl (hb hby at_373) rfl rfl ?_
      show Steps p.tables e below (T126.setTop (mkF m 375 #[.val (.int p0), .val (.int p1), .val (.int p2), .val (.int r0), .val (.int r1), .val (.int r2), .val (.int r3), .val (.int v10), .val (.int v17), .val (.int v24), .val (.int v31), .val (.int kk), .val (.ref ca), .val (.ref bo), .val (.int mm), .val (.int rot), .val (.int v94), .val (.ref rb), .val (.int ((v129 * (2 : Int32)) + (mm &&& (1 : Int32)))), .unset, .unset, .unset, .unset, .unset, .unset, .unset, .unset] [(.ref ca)])) _
      refine XS.iconst X126.here hx rfl (hb hby at_375) ?_
      show Steps p.tables e below (T126.setTop (mkF m 376 #[.val (.int p0), .val (.int p1), .val (.int p2), .val (.int r0), .val (.int r1), .val (.int r2), .val (.int r3), .val (.int v10), .val (.int v17), .val (.int v24), .val (.int v31), .val (.int kk), .val (.ref ca), .val (.ref bo), .val (.int mm), .val (.int rot), .val (.int v94), .val (.ref rb), .val (.int ((v129 * (2 : Int32)) + (mm &&& (1 : Int32)))), .unset, .unset, .unset, .unset, .unset, .unset, .unset, .unset] [(.int (1 : Int32)), (.ref ca)])) _
      exact Steps.refl _)
  obtain ⟨v132, hv132, hM⟩ := Option.bind_eq_some_iff.mp hM
  have q133 : Steps p.tables e below (s₁.setTop (entryFrame m #[(.int p0), (.int p1), (.int p2)] maxLocals)) (T126.setTop (mkF m 377 #[.val (.int p0), .val (.int p1), .val (.int p2), .val (.int r0), .val (.int r1), .val (.int r2), .val (.int r3), .val (.int v10), .val (.int v17), .val (.int v24), .val (.int v31), .val (.int kk), .val (.ref ca), .val (.ref bo), .val (.int mm), .val (.int rot), .val (.int v94), .val (.ref rb), .val (.int ((v129 * (2 : Int32)) + (mm &&& (1 : Int32)))), .unset, .unset, .unset, .unset, .unset, .unset, .unset, .unset] [(.int v132)])) := q131.trans (Own.ldO X126 hx hZ rfl Ica_126 hv132 (g := (mkF m 376 #[.val (.int p0), .val (.int p1), .val (.int p2), .val (.int r0), .val (.int r1), .val (.int r2), .val (.int r3), .val (.int v10), .val (.int v17), .val (.int v24), .val (.int v31), .val (.int kk), .val (.ref ca), .val (.ref bo), .val (.int mm), .val (.int rot), .val (.int v94), .val (.ref rb), .val (.int ((v129 * (2 : Int32)) + (mm &&& (1 : Int32)))), .unset, .unset, .unset, .unset, .unset, .unset, .unset, .unset] [(.int (1 : Int32)), (.ref ca)])) rfl rfl (hb hby at_376) _ (Steps.refl _))
  have q134 : Steps p.tables e below (s₁.setTop (entryFrame m #[(.int p0), (.int p1), (.int p2)] maxLocals)) (T126.setTop (mkF m 391 #[.val (.int p0), .val (.int p1), .val (.int p2), .val (.int r0), .val (.int r1), .val (.int r2), .val (.int r3), .val (.int v10), .val (.int v17), .val (.int v24), .val (.int v31), .val (.int kk), .val (.ref ca), .val (.ref bo), .val (.int mm), .val (.int rot), .val (.int v94), .val (.ref rb), .val (.int ((v129 * (2 : Int32)) + (mm &&& (1 : Int32)))), .val (.int ((v132 * (2 : Int32)) + (((mm.toUInt32 >>> ((1 : Int32) &&& 31).toUInt32).toInt32) &&& (1 : Int32)))), .unset, .unset, .unset, .unset, .unset, .unset, .unset] [(.int (2 : Int32)), (.ref ca)])) := q133.trans (by
      show Steps p.tables e below (T126.setTop (mkF m 377 #[.val (.int p0), .val (.int p1), .val (.int p2), .val (.int r0), .val (.int r1), .val (.int r2), .val (.int r3), .val (.int v10), .val (.int v17), .val (.int v24), .val (.int v31), .val (.int kk), .val (.ref ca), .val (.ref bo), .val (.int mm), .val (.int rot), .val (.int v94), .val (.ref rb), .val (.int ((v129 * (2 : Int32)) + (mm &&& (1 : Int32)))), .unset, .unset, .unset, .unset, .unset, .unset, .unset, .unset] [(.int v132)])) _
      refine XS.iconst X126.here hx rfl (hb hby at_377) ?_
      show Steps p.tables e below (T126.setTop (mkF m 378 #[.val (.int p0), .val (.int p1), .val (.int p2), .val (.int r0), .val (.int r1), .val (.int r2), .val (.int r3), .val (.int v10), .val (.int v17), .val (.int v24), .val (.int v31), .val (.int kk), .val (.ref ca), .val (.ref bo), .val (.int mm), .val (.int rot), .val (.int v94), .val (.ref rb), .val (.int ((v129 * (2 : Int32)) + (mm &&& (1 : Int32)))), .unset, .unset, .unset, .unset, .unset, .unset, .unset, .unset] [(.int (2 : Int32)), (.int v132)])) _
      refine XS.imul X126.here hx rfl (hb hby at_378) rfl ?_
      show Steps p.tables e below (T126.setTop (mkF m 379 #[.val (.int p0), .val (.int p1), .val (.int p2), .val (.int r0), .val (.int r1), .val (.int r2), .val (.int r3), .val (.int v10), .val (.int v17), .val (.int v24), .val (.int v31), .val (.int kk), .val (.ref ca), .val (.ref bo), .val (.int mm), .val (.int rot), .val (.int v94), .val (.ref rb), .val (.int ((v129 * (2 : Int32)) + (mm &&& (1 : Int32)))), .unset, .unset, .unset, .unset, .unset, .unset, .unset, .unset] [(.int (v132 * (2 : Int32)))])) _
      refine XS.iload X126.here hx rfl (hb hby at_379) rfl ?_
      show Steps p.tables e below (T126.setTop (mkF m 381 #[.val (.int p0), .val (.int p1), .val (.int p2), .val (.int r0), .val (.int r1), .val (.int r2), .val (.int r3), .val (.int v10), .val (.int v17), .val (.int v24), .val (.int v31), .val (.int kk), .val (.ref ca), .val (.ref bo), .val (.int mm), .val (.int rot), .val (.int v94), .val (.ref rb), .val (.int ((v129 * (2 : Int32)) + (mm &&& (1 : Int32)))), .unset, .unset, .unset, .unset, .unset, .unset, .unset, .unset] [(.int mm), (.int (v132 * (2 : Int32)))])) _
      refine XS.iconst X126.here hx rfl (hb hby at_381) ?_
      show Steps p.tables e below (T126.setTop (mkF m 382 #[.val (.int p0), .val (.int p1), .val (.int p2), .val (.int r0), .val (.int r1), .val (.int r2), .val (.int r3), .val (.int v10), .val (.int v17), .val (.int v24), .val (.int v31), .val (.int kk), .val (.ref ca), .val (.ref bo), .val (.int mm), .val (.int rot), .val (.int v94), .val (.ref rb), .val (.int ((v129 * (2 : Int32)) + (mm &&& (1 : Int32)))), .unset, .unset, .unset, .unset, .unset, .unset, .unset, .unset] [(.int (1 : Int32)), (.int mm), (.int (v132 * (2 : Int32)))])) _
      refine XS.iushr X126.here hx rfl (hb hby at_382) rfl ?_
      show Steps p.tables e below (T126.setTop (mkF m 383 #[.val (.int p0), .val (.int p1), .val (.int p2), .val (.int r0), .val (.int r1), .val (.int r2), .val (.int r3), .val (.int v10), .val (.int v17), .val (.int v24), .val (.int v31), .val (.int kk), .val (.ref ca), .val (.ref bo), .val (.int mm), .val (.int rot), .val (.int v94), .val (.ref rb), .val (.int ((v129 * (2 : Int32)) + (mm &&& (1 : Int32)))), .unset, .unset, .unset, .unset, .unset, .unset, .unset, .unset] [(.int ((mm.toUInt32 >>> ((1 : Int32) &&& 31).toUInt32).toInt32)), (.int (v132 * (2 : Int32)))])) _
      refine XS.iconst X126.here hx rfl (hb hby at_383) ?_
      show Steps p.tables e below (T126.setTop (mkF m 384 #[.val (.int p0), .val (.int p1), .val (.int p2), .val (.int r0), .val (.int r1), .val (.int r2), .val (.int r3), .val (.int v10), .val (.int v17), .val (.int v24), .val (.int v31), .val (.int kk), .val (.ref ca), .val (.ref bo), .val (.int mm), .val (.int rot), .val (.int v94), .val (.ref rb), .val (.int ((v129 * (2 : Int32)) + (mm &&& (1 : Int32)))), .unset, .unset, .unset, .unset, .unset, .unset, .unset, .unset] [(.int (1 : Int32)), (.int ((mm.toUInt32 >>> ((1 : Int32) &&& 31).toUInt32).toInt32)), (.int (v132 * (2 : Int32)))])) _
      refine XS.iand X126.here hx rfl (hb hby at_384) rfl ?_
      show Steps p.tables e below (T126.setTop (mkF m 385 #[.val (.int p0), .val (.int p1), .val (.int p2), .val (.int r0), .val (.int r1), .val (.int r2), .val (.int r3), .val (.int v10), .val (.int v17), .val (.int v24), .val (.int v31), .val (.int kk), .val (.ref ca), .val (.ref bo), .val (.int mm), .val (.int rot), .val (.int v94), .val (.ref rb), .val (.int ((v129 * (2 : Int32)) + (mm &&& (1 : Int32)))), .unset, .unset, .unset, .unset, .unset, .unset, .unset, .unset] [(.int (((mm.toUInt32 >>> ((1 : Int32) &&& 31).toUInt32).toInt32) &&& (1 : Int32))), (.int (v132 * (2 : Int32)))])) _
      refine XS.iadd X126.here hx rfl (hb hby at_385) rfl ?_
      show Steps p.tables e below (T126.setTop (mkF m 386 #[.val (.int p0), .val (.int p1), .val (.int p2), .val (.int r0), .val (.int r1), .val (.int r2), .val (.int r3), .val (.int v10), .val (.int v17), .val (.int v24), .val (.int v31), .val (.int kk), .val (.ref ca), .val (.ref bo), .val (.int mm), .val (.int rot), .val (.int v94), .val (.ref rb), .val (.int ((v129 * (2 : Int32)) + (mm &&& (1 : Int32)))), .unset, .unset, .unset, .unset, .unset, .unset, .unset, .unset] [(.int ((v132 * (2 : Int32)) + (((mm.toUInt32 >>> ((1 : Int32) &&& 31).toUInt32).toInt32) &&& (1 : Int32))))])) _
      refine XS.istore X126.here hx rfl (hb hby at_386) rfl (l' := #[.val (.int p0), .val (.int p1), .val (.int p2), .val (.int r0), .val (.int r1), .val (.int r2), .val (.int r3), .val (.int v10), .val (.int v17), .val (.int v24), .val (.int v31), .val (.int kk), .val (.ref ca), .val (.ref bo), .val (.int mm), .val (.int rot), .val (.int v94), .val (.ref rb), .val (.int ((v129 * (2 : Int32)) + (mm &&& (1 : Int32)))), .val (.int ((v132 * (2 : Int32)) + (((mm.toUInt32 >>> ((1 : Int32) &&& 31).toUInt32).toInt32) &&& (1 : Int32)))), .unset, .unset, .unset, .unset, .unset, .unset, .unset]) rfl ?_
      show Steps p.tables e below (T126.setTop (mkF m 388 #[.val (.int p0), .val (.int p1), .val (.int p2), .val (.int r0), .val (.int r1), .val (.int r2), .val (.int r3), .val (.int v10), .val (.int v17), .val (.int v24), .val (.int v31), .val (.int kk), .val (.ref ca), .val (.ref bo), .val (.int mm), .val (.int rot), .val (.int v94), .val (.ref rb), .val (.int ((v129 * (2 : Int32)) + (mm &&& (1 : Int32)))), .val (.int ((v132 * (2 : Int32)) + (((mm.toUInt32 >>> ((1 : Int32) &&& 31).toUInt32).toInt32) &&& (1 : Int32)))), .unset, .unset, .unset, .unset, .unset, .unset, .unset] [])) _
      refine XS.aload X126.here hx rfl (hb hby at_388) rfl rfl ?_
      show Steps p.tables e below (T126.setTop (mkF m 390 #[.val (.int p0), .val (.int p1), .val (.int p2), .val (.int r0), .val (.int r1), .val (.int r2), .val (.int r3), .val (.int v10), .val (.int v17), .val (.int v24), .val (.int v31), .val (.int kk), .val (.ref ca), .val (.ref bo), .val (.int mm), .val (.int rot), .val (.int v94), .val (.ref rb), .val (.int ((v129 * (2 : Int32)) + (mm &&& (1 : Int32)))), .val (.int ((v132 * (2 : Int32)) + (((mm.toUInt32 >>> ((1 : Int32) &&& 31).toUInt32).toInt32) &&& (1 : Int32)))), .unset, .unset, .unset, .unset, .unset, .unset, .unset] [(.ref ca)])) _
      refine XS.iconst X126.here hx rfl (hb hby at_390) ?_
      show Steps p.tables e below (T126.setTop (mkF m 391 #[.val (.int p0), .val (.int p1), .val (.int p2), .val (.int r0), .val (.int r1), .val (.int r2), .val (.int r3), .val (.int v10), .val (.int v17), .val (.int v24), .val (.int v31), .val (.int kk), .val (.ref ca), .val (.ref bo), .val (.int mm), .val (.int rot), .val (.int v94), .val (.ref rb), .val (.int ((v129 * (2 : Int32)) + (mm &&& (1 : Int32)))), .val (.int ((v132 * (2 : Int32)) + (((mm.toUInt32 >>> ((1 : Int32) &&& 31).toUInt32).toInt32) &&& (1 : Int32)))), .unset, .unset, .unset, .unset, .unset, .unset, .unset] [(.int (2 : Int32)), (.ref ca)])) _
      exact Steps.refl _)
  obtain ⟨v135, hv135, hM⟩ := Option.bind_eq_some_iff.mp hM
  have q136 : Steps p.tables e below (s₁.setTop (entryFrame m #[(.int p0), (.int p1), (.int p2)] maxLocals)) (T126.setTop (mkF m 392 #[.val (.int p0), .val (.int p1), .val (.int p2), .val (.int r0), .val (.int r1), .val (.int r2), .val (.int r3), .val (.int v10), .val (.int v17), .val (.int v24), .val (.int v31), .val (.int kk), .val (.ref ca), .val (.ref bo), .val (.int mm), .val (.int rot), .val (.int v94), .val (.ref rb), .val (.int ((v129 * (2 : Int32)) + (mm &&& (1 : Int32)))), .val (.int ((v132 * (2 : Int32)) + (((mm.toUInt32 >>> ((1 : Int32) &&& 31).toUInt32).toInt32) &&& (1 : Int32)))), .unset, .unset, .unset, .unset, .unset, .unset, .unset] [(.int v135)])) := q134.trans (Own.ldO X126 hx hZ rfl Ica_126 hv135 (g := (mkF m 391 #[.val (.int p0), .val (.int p1), .val (.int p2), .val (.int r0), .val (.int r1), .val (.int r2), .val (.int r3), .val (.int v10), .val (.int v17), .val (.int v24), .val (.int v31), .val (.int kk), .val (.ref ca), .val (.ref bo), .val (.int mm), .val (.int rot), .val (.int v94), .val (.ref rb), .val (.int ((v129 * (2 : Int32)) + (mm &&& (1 : Int32)))), .val (.int ((v132 * (2 : Int32)) + (((mm.toUInt32 >>> ((1 : Int32) &&& 31).toUInt32).toInt32) &&& (1 : Int32)))), .unset, .unset, .unset, .unset, .unset, .unset, .unset] [(.int (2 : Int32)), (.ref ca)])) rfl rfl (hb hby at_391) _ (Steps.refl _))
  have q137 : Steps p.tables e below (s₁.setTop (entryFrame m #[(.int p0), (.int p1), (.int p2)] maxLocals)) (T126.setTop (mkF m 406 #[.val (.int p0), .val (.int p1), .val (.int p2), .val (.int r0), .val (.int r1), .val (.int r2), .val (.int r3), .val (.int v10), .val (.int v17), .val (.int v24), .val (.int v31), .val (.int kk), .val (.ref ca), .val (.ref bo), .val (.int mm), .val (.int rot), .val (.int v94), .val (.ref rb), .val (.int ((v129 * (2 : Int32)) + (mm &&& (1 : Int32)))), .val (.int ((v132 * (2 : Int32)) + (((mm.toUInt32 >>> ((1 : Int32) &&& 31).toUInt32).toInt32) &&& (1 : Int32)))), .val (.int ((v135 * (2 : Int32)) + (((mm.toUInt32 >>> ((2 : Int32) &&& 31).toUInt32).toInt32) &&& (1 : Int32)))), .unset, .unset, .unset, .unset, .unset, .unset] [(.int (3 : Int32)), (.ref ca)])) := q136.trans (by
      show Steps p.tables e below (T126.setTop (mkF m 392 #[.val (.int p0), .val (.int p1), .val (.int p2), .val (.int r0), .val (.int r1), .val (.int r2), .val (.int r3), .val (.int v10), .val (.int v17), .val (.int v24), .val (.int v31), .val (.int kk), .val (.ref ca), .val (.ref bo), .val (.int mm), .val (.int rot), .val (.int v94), .val (.ref rb), .val (.int ((v129 * (2 : Int32)) + (mm &&& (1 : Int32)))), .val (.int ((v132 * (2 : Int32)) + (((mm.toUInt32 >>> ((1 : Int32) &&& 31).toUInt32).toInt32) &&& (1 : Int32)))), .unset, .unset, .unset, .unset, .unset, .unset, .unset] [(.int v135)])) _
      refine XS.iconst X126.here hx rfl (hb hby at_392) ?_
      show Steps p.tables e below (T126.setTop (mkF m 393 #[.val (.int p0), .val (.int p1), .val (.int p2), .val (.int r0), .val (.int r1), .val (.int r2), .val (.int r3), .val (.int v10), .val (.int v17), .val (.int v24), .val (.int v31), .val (.int kk), .val (.ref ca), .val (.ref bo), .val (.int mm), .val (.int rot), .val (.int v94), .val (.ref rb), .val (.int ((v129 * (2 : Int32)) + (mm &&& (1 : Int32)))), .val (.int ((v132 * (2 : Int32)) + (((mm.toUInt32 >>> ((1 : Int32) &&& 31).toUInt32).toInt32) &&& (1 : Int32)))), .unset, .unset, .unset, .unset, .unset, .unset, .unset] [(.int (2 : Int32)), (.int v135)])) _
      refine XS.imul X126.here hx rfl (hb hby at_393) rfl ?_
      show Steps p.tables e below (T126.setTop (mkF m 394 #[.val (.int p0), .val (.int p1), .val (.int p2), .val (.int r0), .val (.int r1), .val (.int r2), .val (.int r3), .val (.int v10), .val (.int v17), .val (.int v24), .val (.int v31), .val (.int kk), .val (.ref ca), .val (.ref bo), .val (.int mm), .val (.int rot), .val (.int v94), .val (.ref rb), .val (.int ((v129 * (2 : Int32)) + (mm &&& (1 : Int32)))), .val (.int ((v132 * (2 : Int32)) + (((mm.toUInt32 >>> ((1 : Int32) &&& 31).toUInt32).toInt32) &&& (1 : Int32)))), .unset, .unset, .unset, .unset, .unset, .unset, .unset] [(.int (v135 * (2 : Int32)))])) _
      refine XS.iload X126.here hx rfl (hb hby at_394) rfl ?_
      show Steps p.tables e below (T126.setTop (mkF m 396 #[.val (.int p0), .val (.int p1), .val (.int p2), .val (.int r0), .val (.int r1), .val (.int r2), .val (.int r3), .val (.int v10), .val (.int v17), .val (.int v24), .val (.int v31), .val (.int kk), .val (.ref ca), .val (.ref bo), .val (.int mm), .val (.int rot), .val (.int v94), .val (.ref rb), .val (.int ((v129 * (2 : Int32)) + (mm &&& (1 : Int32)))), .val (.int ((v132 * (2 : Int32)) + (((mm.toUInt32 >>> ((1 : Int32) &&& 31).toUInt32).toInt32) &&& (1 : Int32)))), .unset, .unset, .unset, .unset, .unset, .unset, .unset] [(.int mm), (.int (v135 * (2 : Int32)))])) _
      refine XS.iconst X126.here hx rfl (hb hby at_396) ?_
      show Steps p.tables e below (T126.setTop (mkF m 397 #[.val (.int p0), .val (.int p1), .val (.int p2), .val (.int r0), .val (.int r1), .val (.int r2), .val (.int r3), .val (.int v10), .val (.int v17), .val (.int v24), .val (.int v31), .val (.int kk), .val (.ref ca), .val (.ref bo), .val (.int mm), .val (.int rot), .val (.int v94), .val (.ref rb), .val (.int ((v129 * (2 : Int32)) + (mm &&& (1 : Int32)))), .val (.int ((v132 * (2 : Int32)) + (((mm.toUInt32 >>> ((1 : Int32) &&& 31).toUInt32).toInt32) &&& (1 : Int32)))), .unset, .unset, .unset, .unset, .unset, .unset, .unset] [(.int (2 : Int32)), (.int mm), (.int (v135 * (2 : Int32)))])) _
      refine XS.iushr X126.here hx rfl (hb hby at_397) rfl ?_
      show Steps p.tables e below (T126.setTop (mkF m 398 #[.val (.int p0), .val (.int p1), .val (.int p2), .val (.int r0), .val (.int r1), .val (.int r2), .val (.int r3), .val (.int v10), .val (.int v17), .val (.int v24), .val (.int v31), .val (.int kk), .val (.ref ca), .val (.ref bo), .val (.int mm), .val (.int rot), .val (.int v94), .val (.ref rb), .val (.int ((v129 * (2 : Int32)) + (mm &&& (1 : Int32)))), .val (.int ((v132 * (2 : Int32)) + (((mm.toUInt32 >>> ((1 : Int32) &&& 31).toUInt32).toInt32) &&& (1 : Int32)))), .unset, .unset, .unset, .unset, .unset, .unset, .unset] [(.int ((mm.toUInt32 >>> ((2 : Int32) &&& 31).toUInt32).toInt32)), (.int (v135 * (2 : Int32)))])) _
      refine XS.iconst X126.here hx rfl (hb hby at_398) ?_
      show Steps p.tables e below (T126.setTop (mkF m 399 #[.val (.int p0), .val (.int p1), .val (.int p2), .val (.int r0), .val (.int r1), .val (.int r2), .val (.int r3), .val (.int v10), .val (.int v17), .val (.int v24), .val (.int v31), .val (.int kk), .val (.ref ca), .val (.ref bo), .val (.int mm), .val (.int rot), .val (.int v94), .val (.ref rb), .val (.int ((v129 * (2 : Int32)) + (mm &&& (1 : Int32)))), .val (.int ((v132 * (2 : Int32)) + (((mm.toUInt32 >>> ((1 : Int32) &&& 31).toUInt32).toInt32) &&& (1 : Int32)))), .unset, .unset, .unset, .unset, .unset, .unset, .unset] [(.int (1 : Int32)), (.int ((mm.toUInt32 >>> ((2 : Int32) &&& 31).toUInt32).toInt32)), (.int (v135 * (2 : Int32)))])) _
      refine XS.iand X126.here hx rfl (hb hby at_399) rfl ?_
      show Steps p.tables e below (T126.setTop (mkF m 400 #[.val (.int p0), .val (.int p1), .val (.int p2), .val (.int r0), .val (.int r1), .val (.int r2), .val (.int r3), .val (.int v10), .val (.int v17), .val (.int v24), .val (.int v31), .val (.int kk), .val (.ref ca), .val (.ref bo), .val (.int mm), .val (.int rot), .val (.int v94), .val (.ref rb), .val (.int ((v129 * (2 : Int32)) + (mm &&& (1 : Int32)))), .val (.int ((v132 * (2 : Int32)) + (((mm.toUInt32 >>> ((1 : Int32) &&& 31).toUInt32).toInt32) &&& (1 : Int32)))), .unset, .unset, .unset, .unset, .unset, .unset, .unset] [(.int (((mm.toUInt32 >>> ((2 : Int32) &&& 31).toUInt32).toInt32) &&& (1 : Int32))), (.int (v135 * (2 : Int32)))])) _
      refine XS.iadd X126.here hx rfl (hb hby at_400) rfl ?_
      show Steps p.tables e below (T126.setTop (mkF m 401 #[.val (.int p0), .val (.int p1), .val (.int p2), .val (.int r0), .val (.int r1), .val (.int r2), .val (.int r3), .val (.int v10), .val (.int v17), .val (.int v24), .val (.int v31), .val (.int kk), .val (.ref ca), .val (.ref bo), .val (.int mm), .val (.int rot), .val (.int v94), .val (.ref rb), .val (.int ((v129 * (2 : Int32)) + (mm &&& (1 : Int32)))), .val (.int ((v132 * (2 : Int32)) + (((mm.toUInt32 >>> ((1 : Int32) &&& 31).toUInt32).toInt32) &&& (1 : Int32)))), .unset, .unset, .unset, .unset, .unset, .unset, .unset] [(.int ((v135 * (2 : Int32)) + (((mm.toUInt32 >>> ((2 : Int32) &&& 31).toUInt32).toInt32) &&& (1 : Int32))))])) _
      refine XS.istore X126.here hx rfl (hb hby at_401) rfl (l' := #[.val (.int p0), .val (.int p1), .val (.int p2), .val (.int r0), .val (.int r1), .val (.int r2), .val (.int r3), .val (.int v10), .val (.int v17), .val (.int v24), .val (.int v31), .val (.int kk), .val (.ref ca), .val (.ref bo), .val (.int mm), .val (.int rot), .val (.int v94), .val (.ref rb), .val (.int ((v129 * (2 : Int32)) + (mm &&& (1 : Int32)))), .val (.int ((v132 * (2 : Int32)) + (((mm.toUInt32 >>> ((1 : Int32) &&& 31).toUInt32).toInt32) &&& (1 : Int32)))), .val (.int ((v135 * (2 : Int32)) + (((mm.toUInt32 >>> ((2 : Int32) &&& 31).toUInt32).toInt32) &&& (1 : Int32)))), .unset, .unset, .unset, .unset, .unset, .unset]) rfl ?_
      show Steps p.tables e below (T126.setTop (mkF m 403 #[.val (.int p0), .val (.int p1), .val (.int p2), .val (.int r0), .val (.int r1), .val (.int r2), .val (.int r3), .val (.int v10), .val (.int v17), .val (.int v24), .val (.int v31), .val (.int kk), .val (.ref ca), .val (.ref bo), .val (.int mm), .val (.int rot), .val (.int v94), .val (.ref rb), .val (.int ((v129 * (2 : Int32)) + (mm &&& (1 : Int32)))), .val (.int ((v132 * (2 : Int32)) + (((mm.toUInt32 >>> ((1 : Int32) &&& 31).toUInt32).toInt32) &&& (1 : Int32)))), .val (.int ((v135 * (2 : Int32)) + (((mm.toUInt32 >>> ((2 : Int32) &&& 31).toUInt32).toInt32) &&& (1 : Int32)))), .unset, .unset, .unset, .unset, .unset, .unset] [])) _
      refine XS.aload X126.here hx rfl (hb hby at_403) rfl rfl ?_
      show Steps p.tables e below (T126.setTop (mkF m 405 #[.val (.int p0), .val (.int p1), .val (.int p2), .val (.int r0), .val (.int r1), .val (.int r2), .val (.int r3), .val (.int v10), .val (.int v17), .val (.int v24), .val (.int v31), .val (.int kk), .val (.ref ca), .val (.ref bo), .val (.int mm), .val (.int rot), .val (.int v94), .val (.ref rb), .val (.int ((v129 * (2 : Int32)) + (mm &&& (1 : Int32)))), .val (.int ((v132 * (2 : Int32)) + (((mm.toUInt32 >>> ((1 : Int32) &&& 31).toUInt32).toInt32) &&& (1 : Int32)))), .val (.int ((v135 * (2 : Int32)) + (((mm.toUInt32 >>> ((2 : Int32) &&& 31).toUInt32).toInt32) &&& (1 : Int32)))), .unset, .unset, .unset, .unset, .unset, .unset] [(.ref ca)])) _
      refine XS.iconst X126.here hx rfl (hb hby at_405) ?_
      show Steps p.tables e below (T126.setTop (mkF m 406 #[.val (.int p0), .val (.int p1), .val (.int p2), .val (.int r0), .val (.int r1), .val (.int r2), .val (.int r3), .val (.int v10), .val (.int v17), .val (.int v24), .val (.int v31), .val (.int kk), .val (.ref ca), .val (.ref bo), .val (.int mm), .val (.int rot), .val (.int v94), .val (.ref rb), .val (.int ((v129 * (2 : Int32)) + (mm &&& (1 : Int32)))), .val (.int ((v132 * (2 : Int32)) + (((mm.toUInt32 >>> ((1 : Int32) &&& 31).toUInt32).toInt32) &&& (1 : Int32)))), .val (.int ((v135 * (2 : Int32)) + (((mm.toUInt32 >>> ((2 : Int32) &&& 31).toUInt32).toInt32) &&& (1 : Int32)))), .unset, .unset, .unset, .unset, .unset, .unset] [(.int (3 : Int32)), (.ref ca)])) _
      exact Steps.refl _)
  obtain ⟨v138, hv138, hM⟩ := Option.bind_eq_some_iff.mp hM
  have q139 : Steps p.tables e below (s₁.setTop (entryFrame m #[(.int p0), (.int p1), (.int p2)] maxLocals)) (T126.setTop (mkF m 407 #[.val (.int p0), .val (.int p1), .val (.int p2), .val (.int r0), .val (.int r1), .val (.int r2), .val (.int r3), .val (.int v10), .val (.int v17), .val (.int v24), .val (.int v31), .val (.int kk), .val (.ref ca), .val (.ref bo), .val (.int mm), .val (.int rot), .val (.int v94), .val (.ref rb), .val (.int ((v129 * (2 : Int32)) + (mm &&& (1 : Int32)))), .val (.int ((v132 * (2 : Int32)) + (((mm.toUInt32 >>> ((1 : Int32) &&& 31).toUInt32).toInt32) &&& (1 : Int32)))), .val (.int ((v135 * (2 : Int32)) + (((mm.toUInt32 >>> ((2 : Int32) &&& 31).toUInt32).toInt32) &&& (1 : Int32)))), .unset, .unset, .unset, .unset, .unset, .unset] [(.int v138)])) := q137.trans (Own.ldO X126 hx hZ rfl Ica_126 hv138 (g := (mkF m 406 #[.val (.int p0), .val (.int p1), .val (.int p2), .val (.int r0), .val (.int r1), .val (.int r2), .val (.int r3), .val (.int v10), .val (.int v17), .val (.int v24), .val (.int v31), .val (.int kk), .val (.ref ca), .val (.ref bo), .val (.int mm), .val (.int rot), .val (.int v94), .val (.ref rb), .val (.int ((v129 * (2 : Int32)) + (mm &&& (1 : Int32)))), .val (.int ((v132 * (2 : Int32)) + (((mm.toUInt32 >>> ((1 : Int32) &&& 31).toUInt32).toInt32) &&& (1 : Int32)))), .val (.int ((v135 * (2 : Int32)) + (((mm.toUInt32 >>> ((2 : Int32) &&& 31).toUInt32).toInt32) &&& (1 : Int32)))), .unset, .unset, .unset, .unset, .unset, .unset] [(.int (3 : Int32)), (.ref ca)])) rfl rfl (hb hby at_406) _ (Steps.refl _))
  have q140 : Steps p.tables e below (s₁.setTop (entryFrame m #[(.int p0), (.int p1), (.int p2)] maxLocals)) (T126.setTop (mkF m 428 #[.val (.int p0), .val (.int p1), .val (.int p2), .val (.int r0), .val (.int r1), .val (.int r2), .val (.int r3), .val (.int v10), .val (.int v17), .val (.int v24), .val (.int v31), .val (.int kk), .val (.ref ca), .val (.ref bo), .val (.int mm), .val (.int rot), .val (.int v94), .val (.ref rb), .val (.int ((v129 * (2 : Int32)) + (mm &&& (1 : Int32)))), .val (.int ((v132 * (2 : Int32)) + (((mm.toUInt32 >>> ((1 : Int32) &&& 31).toUInt32).toInt32) &&& (1 : Int32)))), .val (.int ((v135 * (2 : Int32)) + (((mm.toUInt32 >>> ((2 : Int32) &&& 31).toUInt32).toInt32) &&& (1 : Int32)))), .val (.int ((v138 * (2 : Int32)) + (((mm.toUInt32 >>> ((3 : Int32) &&& 31).toUInt32).toInt32) &&& (1 : Int32)))), .val (.int (1 : Int32)), .val (.int (0 : Int32)), .unset, .unset, .unset] [(.int ((v129 * (2 : Int32)) + (mm &&& (1 : Int32)))), (.int ((v132 * (2 : Int32)) + (((mm.toUInt32 >>> ((1 : Int32) &&& 31).toUInt32).toInt32) &&& (1 : Int32))))])) := q139.trans (by
      show Steps p.tables e below (T126.setTop (mkF m 407 #[.val (.int p0), .val (.int p1), .val (.int p2), .val (.int r0), .val (.int r1), .val (.int r2), .val (.int r3), .val (.int v10), .val (.int v17), .val (.int v24), .val (.int v31), .val (.int kk), .val (.ref ca), .val (.ref bo), .val (.int mm), .val (.int rot), .val (.int v94), .val (.ref rb), .val (.int ((v129 * (2 : Int32)) + (mm &&& (1 : Int32)))), .val (.int ((v132 * (2 : Int32)) + (((mm.toUInt32 >>> ((1 : Int32) &&& 31).toUInt32).toInt32) &&& (1 : Int32)))), .val (.int ((v135 * (2 : Int32)) + (((mm.toUInt32 >>> ((2 : Int32) &&& 31).toUInt32).toInt32) &&& (1 : Int32)))), .unset, .unset, .unset, .unset, .unset, .unset] [(.int v138)])) _
      refine XS.iconst X126.here hx rfl (hb hby at_407) ?_
      show Steps p.tables e below (T126.setTop (mkF m 408 #[.val (.int p0), .val (.int p1), .val (.int p2), .val (.int r0), .val (.int r1), .val (.int r2), .val (.int r3), .val (.int v10), .val (.int v17), .val (.int v24), .val (.int v31), .val (.int kk), .val (.ref ca), .val (.ref bo), .val (.int mm), .val (.int rot), .val (.int v94), .val (.ref rb), .val (.int ((v129 * (2 : Int32)) + (mm &&& (1 : Int32)))), .val (.int ((v132 * (2 : Int32)) + (((mm.toUInt32 >>> ((1 : Int32) &&& 31).toUInt32).toInt32) &&& (1 : Int32)))), .val (.int ((v135 * (2 : Int32)) + (((mm.toUInt32 >>> ((2 : Int32) &&& 31).toUInt32).toInt32) &&& (1 : Int32)))), .unset, .unset, .unset, .unset, .unset, .unset] [(.int (2 : Int32)), (.int v138)])) _
      refine XS.imul X126.here hx rfl (hb hby at_408) rfl ?_
      show Steps p.tables e below (T126.setTop (mkF m 409 #[.val (.int p0), .val (.int p1), .val (.int p2), .val (.int r0), .val (.int r1), .val (.int r2), .val (.int r3), .val (.int v10), .val (.int v17), .val (.int v24), .val (.int v31), .val (.int kk), .val (.ref ca), .val (.ref bo), .val (.int mm), .val (.int rot), .val (.int v94), .val (.ref rb), .val (.int ((v129 * (2 : Int32)) + (mm &&& (1 : Int32)))), .val (.int ((v132 * (2 : Int32)) + (((mm.toUInt32 >>> ((1 : Int32) &&& 31).toUInt32).toInt32) &&& (1 : Int32)))), .val (.int ((v135 * (2 : Int32)) + (((mm.toUInt32 >>> ((2 : Int32) &&& 31).toUInt32).toInt32) &&& (1 : Int32)))), .unset, .unset, .unset, .unset, .unset, .unset] [(.int (v138 * (2 : Int32)))])) _
      refine XS.iload X126.here hx rfl (hb hby at_409) rfl ?_
      show Steps p.tables e below (T126.setTop (mkF m 411 #[.val (.int p0), .val (.int p1), .val (.int p2), .val (.int r0), .val (.int r1), .val (.int r2), .val (.int r3), .val (.int v10), .val (.int v17), .val (.int v24), .val (.int v31), .val (.int kk), .val (.ref ca), .val (.ref bo), .val (.int mm), .val (.int rot), .val (.int v94), .val (.ref rb), .val (.int ((v129 * (2 : Int32)) + (mm &&& (1 : Int32)))), .val (.int ((v132 * (2 : Int32)) + (((mm.toUInt32 >>> ((1 : Int32) &&& 31).toUInt32).toInt32) &&& (1 : Int32)))), .val (.int ((v135 * (2 : Int32)) + (((mm.toUInt32 >>> ((2 : Int32) &&& 31).toUInt32).toInt32) &&& (1 : Int32)))), .unset, .unset, .unset, .unset, .unset, .unset] [(.int mm), (.int (v138 * (2 : Int32)))])) _
      refine XS.iconst X126.here hx rfl (hb hby at_411) ?_
      show Steps p.tables e below (T126.setTop (mkF m 412 #[.val (.int p0), .val (.int p1), .val (.int p2), .val (.int r0), .val (.int r1), .val (.int r2), .val (.int r3), .val (.int v10), .val (.int v17), .val (.int v24), .val (.int v31), .val (.int kk), .val (.ref ca), .val (.ref bo), .val (.int mm), .val (.int rot), .val (.int v94), .val (.ref rb), .val (.int ((v129 * (2 : Int32)) + (mm &&& (1 : Int32)))), .val (.int ((v132 * (2 : Int32)) + (((mm.toUInt32 >>> ((1 : Int32) &&& 31).toUInt32).toInt32) &&& (1 : Int32)))), .val (.int ((v135 * (2 : Int32)) + (((mm.toUInt32 >>> ((2 : Int32) &&& 31).toUInt32).toInt32) &&& (1 : Int32)))), .unset, .unset, .unset, .unset, .unset, .unset] [(.int (3 : Int32)), (.int mm), (.int (v138 * (2 : Int32)))])) _
      refine XS.iushr X126.here hx rfl (hb hby at_412) rfl ?_
      show Steps p.tables e below (T126.setTop (mkF m 413 #[.val (.int p0), .val (.int p1), .val (.int p2), .val (.int r0), .val (.int r1), .val (.int r2), .val (.int r3), .val (.int v10), .val (.int v17), .val (.int v24), .val (.int v31), .val (.int kk), .val (.ref ca), .val (.ref bo), .val (.int mm), .val (.int rot), .val (.int v94), .val (.ref rb), .val (.int ((v129 * (2 : Int32)) + (mm &&& (1 : Int32)))), .val (.int ((v132 * (2 : Int32)) + (((mm.toUInt32 >>> ((1 : Int32) &&& 31).toUInt32).toInt32) &&& (1 : Int32)))), .val (.int ((v135 * (2 : Int32)) + (((mm.toUInt32 >>> ((2 : Int32) &&& 31).toUInt32).toInt32) &&& (1 : Int32)))), .unset, .unset, .unset, .unset, .unset, .unset] [(.int ((mm.toUInt32 >>> ((3 : Int32) &&& 31).toUInt32).toInt32)), (.int (v138 * (2 : Int32)))])) _
      refine XS.iconst X126.here hx rfl (hb hby at_413) ?_
      show Steps p.tables e below (T126.setTop (mkF m 414 #[.val (.int p0), .val (.int p1), .val (.int p2), .val (.int r0), .val (.int r1), .val (.int r2), .val (.int r3), .val (.int v10), .val (.int v17), .val (.int v24), .val (.int v31), .val (.int kk), .val (.ref ca), .val (.ref bo), .val (.int mm), .val (.int rot), .val (.int v94), .val (.ref rb), .val (.int ((v129 * (2 : Int32)) + (mm &&& (1 : Int32)))), .val (.int ((v132 * (2 : Int32)) + (((mm.toUInt32 >>> ((1 : Int32) &&& 31).toUInt32).toInt32) &&& (1 : Int32)))), .val (.int ((v135 * (2 : Int32)) + (((mm.toUInt32 >>> ((2 : Int32) &&& 31).toUInt32).toInt32) &&& (1 : Int32)))), .unset, .unset, .unset, .unset, .unset, .unset] [(.int (1 : Int32)), (.int ((mm.toUInt32 >>> ((3 : Int32) &&& 31).toUInt32).toInt32)), (.int (v138 * (2 : Int32)))])) _
      refine XS.iand X126.here hx rfl (hb hby at_414) rfl ?_
      show Steps p.tables e below (T126.setTop (mkF m 415 #[.val (.int p0), .val (.int p1), .val (.int p2), .val (.int r0), .val (.int r1), .val (.int r2), .val (.int r3), .val (.int v10), .val (.int v17), .val (.int v24), .val (.int v31), .val (.int kk), .val (.ref ca), .val (.ref bo), .val (.int mm), .val (.int rot), .val (.int v94), .val (.ref rb), .val (.int ((v129 * (2 : Int32)) + (mm &&& (1 : Int32)))), .val (.int ((v132 * (2 : Int32)) + (((mm.toUInt32 >>> ((1 : Int32) &&& 31).toUInt32).toInt32) &&& (1 : Int32)))), .val (.int ((v135 * (2 : Int32)) + (((mm.toUInt32 >>> ((2 : Int32) &&& 31).toUInt32).toInt32) &&& (1 : Int32)))), .unset, .unset, .unset, .unset, .unset, .unset] [(.int (((mm.toUInt32 >>> ((3 : Int32) &&& 31).toUInt32).toInt32) &&& (1 : Int32))), (.int (v138 * (2 : Int32)))])) _
      refine XS.iadd X126.here hx rfl (hb hby at_415) rfl ?_
      show Steps p.tables e below (T126.setTop (mkF m 416 #[.val (.int p0), .val (.int p1), .val (.int p2), .val (.int r0), .val (.int r1), .val (.int r2), .val (.int r3), .val (.int v10), .val (.int v17), .val (.int v24), .val (.int v31), .val (.int kk), .val (.ref ca), .val (.ref bo), .val (.int mm), .val (.int rot), .val (.int v94), .val (.ref rb), .val (.int ((v129 * (2 : Int32)) + (mm &&& (1 : Int32)))), .val (.int ((v132 * (2 : Int32)) + (((mm.toUInt32 >>> ((1 : Int32) &&& 31).toUInt32).toInt32) &&& (1 : Int32)))), .val (.int ((v135 * (2 : Int32)) + (((mm.toUInt32 >>> ((2 : Int32) &&& 31).toUInt32).toInt32) &&& (1 : Int32)))), .unset, .unset, .unset, .unset, .unset, .unset] [(.int ((v138 * (2 : Int32)) + (((mm.toUInt32 >>> ((3 : Int32) &&& 31).toUInt32).toInt32) &&& (1 : Int32))))])) _
      refine XS.istore X126.here hx rfl (hb hby at_416) rfl (l' := #[.val (.int p0), .val (.int p1), .val (.int p2), .val (.int r0), .val (.int r1), .val (.int r2), .val (.int r3), .val (.int v10), .val (.int v17), .val (.int v24), .val (.int v31), .val (.int kk), .val (.ref ca), .val (.ref bo), .val (.int mm), .val (.int rot), .val (.int v94), .val (.ref rb), .val (.int ((v129 * (2 : Int32)) + (mm &&& (1 : Int32)))), .val (.int ((v132 * (2 : Int32)) + (((mm.toUInt32 >>> ((1 : Int32) &&& 31).toUInt32).toInt32) &&& (1 : Int32)))), .val (.int ((v135 * (2 : Int32)) + (((mm.toUInt32 >>> ((2 : Int32) &&& 31).toUInt32).toInt32) &&& (1 : Int32)))), .val (.int ((v138 * (2 : Int32)) + (((mm.toUInt32 >>> ((3 : Int32) &&& 31).toUInt32).toInt32) &&& (1 : Int32)))), .unset, .unset, .unset, .unset, .unset]) rfl ?_
      show Steps p.tables e below (T126.setTop (mkF m 418 #[.val (.int p0), .val (.int p1), .val (.int p2), .val (.int r0), .val (.int r1), .val (.int r2), .val (.int r3), .val (.int v10), .val (.int v17), .val (.int v24), .val (.int v31), .val (.int kk), .val (.ref ca), .val (.ref bo), .val (.int mm), .val (.int rot), .val (.int v94), .val (.ref rb), .val (.int ((v129 * (2 : Int32)) + (mm &&& (1 : Int32)))), .val (.int ((v132 * (2 : Int32)) + (((mm.toUInt32 >>> ((1 : Int32) &&& 31).toUInt32).toInt32) &&& (1 : Int32)))), .val (.int ((v135 * (2 : Int32)) + (((mm.toUInt32 >>> ((2 : Int32) &&& 31).toUInt32).toInt32) &&& (1 : Int32)))), .val (.int ((v138 * (2 : Int32)) + (((mm.toUInt32 >>> ((3 : Int32) &&& 31).toUInt32).toInt32) &&& (1 : Int32)))), .unset, .unset, .unset, .unset, .unset] [])) _
      refine XS.iconst X126.here hx rfl (hb hby at_418) ?_
      show Steps p.tables e below (T126.setTop (mkF m 419 #[.val (.int p0), .val (.int p1), .val (.int p2), .val (.int r0), .val (.int r1), .val (.int r2), .val (.int r3), .val (.int v10), .val (.int v17), .val (.int v24), .val (.int v31), .val (.int kk), .val (.ref ca), .val (.ref bo), .val (.int mm), .val (.int rot), .val (.int v94), .val (.ref rb), .val (.int ((v129 * (2 : Int32)) + (mm &&& (1 : Int32)))), .val (.int ((v132 * (2 : Int32)) + (((mm.toUInt32 >>> ((1 : Int32) &&& 31).toUInt32).toInt32) &&& (1 : Int32)))), .val (.int ((v135 * (2 : Int32)) + (((mm.toUInt32 >>> ((2 : Int32) &&& 31).toUInt32).toInt32) &&& (1 : Int32)))), .val (.int ((v138 * (2 : Int32)) + (((mm.toUInt32 >>> ((3 : Int32) &&& 31).toUInt32).toInt32) &&& (1 : Int32)))), .unset, .unset, .unset, .unset, .unset] [(.int (1 : Int32))])) _
      refine XS.istore X126.here hx rfl (hb hby at_419) rfl (l' := #[.val (.int p0), .val (.int p1), .val (.int p2), .val (.int r0), .val (.int r1), .val (.int r2), .val (.int r3), .val (.int v10), .val (.int v17), .val (.int v24), .val (.int v31), .val (.int kk), .val (.ref ca), .val (.ref bo), .val (.int mm), .val (.int rot), .val (.int v94), .val (.ref rb), .val (.int ((v129 * (2 : Int32)) + (mm &&& (1 : Int32)))), .val (.int ((v132 * (2 : Int32)) + (((mm.toUInt32 >>> ((1 : Int32) &&& 31).toUInt32).toInt32) &&& (1 : Int32)))), .val (.int ((v135 * (2 : Int32)) + (((mm.toUInt32 >>> ((2 : Int32) &&& 31).toUInt32).toInt32) &&& (1 : Int32)))), .val (.int ((v138 * (2 : Int32)) + (((mm.toUInt32 >>> ((3 : Int32) &&& 31).toUInt32).toInt32) &&& (1 : Int32)))), .val (.int (1 : Int32)), .unset, .unset, .unset, .unset]) rfl ?_
      show Steps p.tables e below (T126.setTop (mkF m 421 #[.val (.int p0), .val (.int p1), .val (.int p2), .val (.int r0), .val (.int r1), .val (.int r2), .val (.int r3), .val (.int v10), .val (.int v17), .val (.int v24), .val (.int v31), .val (.int kk), .val (.ref ca), .val (.ref bo), .val (.int mm), .val (.int rot), .val (.int v94), .val (.ref rb), .val (.int ((v129 * (2 : Int32)) + (mm &&& (1 : Int32)))), .val (.int ((v132 * (2 : Int32)) + (((mm.toUInt32 >>> ((1 : Int32) &&& 31).toUInt32).toInt32) &&& (1 : Int32)))), .val (.int ((v135 * (2 : Int32)) + (((mm.toUInt32 >>> ((2 : Int32) &&& 31).toUInt32).toInt32) &&& (1 : Int32)))), .val (.int ((v138 * (2 : Int32)) + (((mm.toUInt32 >>> ((3 : Int32) &&& 31).toUInt32).toInt32) &&& (1 : Int32)))), .val (.int (1 : Int32)), .unset, .unset, .unset, .unset] [])) _
      refine XS.iconst X126.here hx rfl (hb hby at_421) ?_
      show Steps p.tables e below (T126.setTop (mkF m 422 #[.val (.int p0), .val (.int p1), .val (.int p2), .val (.int r0), .val (.int r1), .val (.int r2), .val (.int r3), .val (.int v10), .val (.int v17), .val (.int v24), .val (.int v31), .val (.int kk), .val (.ref ca), .val (.ref bo), .val (.int mm), .val (.int rot), .val (.int v94), .val (.ref rb), .val (.int ((v129 * (2 : Int32)) + (mm &&& (1 : Int32)))), .val (.int ((v132 * (2 : Int32)) + (((mm.toUInt32 >>> ((1 : Int32) &&& 31).toUInt32).toInt32) &&& (1 : Int32)))), .val (.int ((v135 * (2 : Int32)) + (((mm.toUInt32 >>> ((2 : Int32) &&& 31).toUInt32).toInt32) &&& (1 : Int32)))), .val (.int ((v138 * (2 : Int32)) + (((mm.toUInt32 >>> ((3 : Int32) &&& 31).toUInt32).toInt32) &&& (1 : Int32)))), .val (.int (1 : Int32)), .unset, .unset, .unset, .unset] [(.int (0 : Int32))])) _
      refine XS.istore X126.here hx rfl (hb hby at_422) rfl (l' := #[.val (.int p0), .val (.int p1), .val (.int p2), .val (.int r0), .val (.int r1), .val (.int r2), .val (.int r3), .val (.int v10), .val (.int v17), .val (.int v24), .val (.int v31), .val (.int kk), .val (.ref ca), .val (.ref bo), .val (.int mm), .val (.int rot), .val (.int v94), .val (.ref rb), .val (.int ((v129 * (2 : Int32)) + (mm &&& (1 : Int32)))), .val (.int ((v132 * (2 : Int32)) + (((mm.toUInt32 >>> ((1 : Int32) &&& 31).toUInt32).toInt32) &&& (1 : Int32)))), .val (.int ((v135 * (2 : Int32)) + (((mm.toUInt32 >>> ((2 : Int32) &&& 31).toUInt32).toInt32) &&& (1 : Int32)))), .val (.int ((v138 * (2 : Int32)) + (((mm.toUInt32 >>> ((3 : Int32) &&& 31).toUInt32).toInt32) &&& (1 : Int32)))), .val (.int (1 : Int32)), .val (.int (0 : Int32)), .unset, .unset, .unset]) rfl ?_
      show Steps p.tables e below (T126.setTop (mkF m 424 #[.val (.int p0), .val (.int p1), .val (.int p2), .val (.int r0), .val (.int r1), .val (.int r2), .val (.int r3), .val (.int v10), .val (.int v17), .val (.int v24), .val (.int v31), .val (.int kk), .val (.ref ca), .val (.ref bo), .val (.int mm), .val (.int rot), .val (.int v94), .val (.ref rb), .val (.int ((v129 * (2 : Int32)) + (mm &&& (1 : Int32)))), .val (.int ((v132 * (2 : Int32)) + (((mm.toUInt32 >>> ((1 : Int32) &&& 31).toUInt32).toInt32) &&& (1 : Int32)))), .val (.int ((v135 * (2 : Int32)) + (((mm.toUInt32 >>> ((2 : Int32) &&& 31).toUInt32).toInt32) &&& (1 : Int32)))), .val (.int ((v138 * (2 : Int32)) + (((mm.toUInt32 >>> ((3 : Int32) &&& 31).toUInt32).toInt32) &&& (1 : Int32)))), .val (.int (1 : Int32)), .val (.int (0 : Int32)), .unset, .unset, .unset] [])) _
      refine XS.iload X126.here hx rfl (hb hby at_424) rfl ?_
      show Steps p.tables e below (T126.setTop (mkF m 426 #[.val (.int p0), .val (.int p1), .val (.int p2), .val (.int r0), .val (.int r1), .val (.int r2), .val (.int r3), .val (.int v10), .val (.int v17), .val (.int v24), .val (.int v31), .val (.int kk), .val (.ref ca), .val (.ref bo), .val (.int mm), .val (.int rot), .val (.int v94), .val (.ref rb), .val (.int ((v129 * (2 : Int32)) + (mm &&& (1 : Int32)))), .val (.int ((v132 * (2 : Int32)) + (((mm.toUInt32 >>> ((1 : Int32) &&& 31).toUInt32).toInt32) &&& (1 : Int32)))), .val (.int ((v135 * (2 : Int32)) + (((mm.toUInt32 >>> ((2 : Int32) &&& 31).toUInt32).toInt32) &&& (1 : Int32)))), .val (.int ((v138 * (2 : Int32)) + (((mm.toUInt32 >>> ((3 : Int32) &&& 31).toUInt32).toInt32) &&& (1 : Int32)))), .val (.int (1 : Int32)), .val (.int (0 : Int32)), .unset, .unset, .unset] [(.int ((v132 * (2 : Int32)) + (((mm.toUInt32 >>> ((1 : Int32) &&& 31).toUInt32).toInt32) &&& (1 : Int32))))])) _
      refine XS.iload X126.here hx rfl (hb hby at_426) rfl ?_
      show Steps p.tables e below (T126.setTop (mkF m 428 #[.val (.int p0), .val (.int p1), .val (.int p2), .val (.int r0), .val (.int r1), .val (.int r2), .val (.int r3), .val (.int v10), .val (.int v17), .val (.int v24), .val (.int v31), .val (.int kk), .val (.ref ca), .val (.ref bo), .val (.int mm), .val (.int rot), .val (.int v94), .val (.ref rb), .val (.int ((v129 * (2 : Int32)) + (mm &&& (1 : Int32)))), .val (.int ((v132 * (2 : Int32)) + (((mm.toUInt32 >>> ((1 : Int32) &&& 31).toUInt32).toInt32) &&& (1 : Int32)))), .val (.int ((v135 * (2 : Int32)) + (((mm.toUInt32 >>> ((2 : Int32) &&& 31).toUInt32).toInt32) &&& (1 : Int32)))), .val (.int ((v138 * (2 : Int32)) + (((mm.toUInt32 >>> ((3 : Int32) &&& 31).toUInt32).toInt32) &&& (1 : Int32)))), .val (.int (1 : Int32)), .val (.int (0 : Int32)), .unset, .unset, .unset] [(.int ((v129 * (2 : Int32)) + (mm &&& (1 : Int32)))), (.int ((v132 * (2 : Int32)) + (((mm.toUInt32 >>> ((1 : Int32) &&& 31).toUInt32).toInt32) &&& (1 : Int32))))])) _
      exact Steps.refl _)
  obtain ⟨v142, hv142, hM⟩ := Option.bind_eq_some_iff.mp hM
  have hv142 := (Option.some.inj hv142).symm
  obtain ⟨v143, hv143, hM⟩ := Option.bind_eq_some_iff.mp hM
  have hv143 := (Option.some.inj hv143).symm
  have q144 : Steps p.tables e below (s₁.setTop (entryFrame m #[(.int p0), (.int p1), (.int p2)] maxLocals)) (T126.setTop (mkF m 445 #[.val (.int p0), .val (.int p1), .val (.int p2), .val (.int r0), .val (.int r1), .val (.int r2), .val (.int r3), .val (.int v10), .val (.int v17), .val (.int v24), .val (.int v31), .val (.int kk), .val (.ref ca), .val (.ref bo), .val (.int mm), .val (.int rot), .val (.int v94), .val (.ref rb), .val (.int ((v129 * (2 : Int32)) + (mm &&& (1 : Int32)))), .val (.int ((v132 * (2 : Int32)) + (((mm.toUInt32 >>> ((1 : Int32) &&& 31).toUInt32).toInt32) &&& (1 : Int32)))), .val (.int ((v135 * (2 : Int32)) + (((mm.toUInt32 >>> ((2 : Int32) &&& 31).toUInt32).toInt32) &&& (1 : Int32)))), .val (.int ((v138 * (2 : Int32)) + (((mm.toUInt32 >>> ((3 : Int32) &&& 31).toUInt32).toInt32) &&& (1 : Int32)))), .val (.int v142), .val (.int (0 : Int32)), .val (.int v143), .unset, .unset] [])) := by
    refine q140.trans ?_
    show Steps p.tables e below (T126.setTop (mkF m 428 #[.val (.int p0), .val (.int p1), .val (.int p2), .val (.int r0), .val (.int r1), .val (.int r2), .val (.int r3), .val (.int v10), .val (.int v17), .val (.int v24), .val (.int v31), .val (.int kk), .val (.ref ca), .val (.ref bo), .val (.int mm), .val (.int rot), .val (.int v94), .val (.ref rb), .val (.int ((v129 * (2 : Int32)) + (mm &&& (1 : Int32)))), .val (.int ((v132 * (2 : Int32)) + (((mm.toUInt32 >>> ((1 : Int32) &&& 31).toUInt32).toInt32) &&& (1 : Int32)))), .val (.int ((v135 * (2 : Int32)) + (((mm.toUInt32 >>> ((2 : Int32) &&& 31).toUInt32).toInt32) &&& (1 : Int32)))), .val (.int ((v138 * (2 : Int32)) + (((mm.toUInt32 >>> ((3 : Int32) &&& 31).toUInt32).toInt32) &&& (1 : Int32)))), .val (.int (1 : Int32)), .val (.int (0 : Int32)), .unset, .unset, .unset] [(.int ((v129 * (2 : Int32)) + (mm &&& (1 : Int32)))), (.int ((v132 * (2 : Int32)) + (((mm.toUInt32 >>> ((1 : Int32) &&& 31).toUInt32).toInt32) &&& (1 : Int32))))])) _
    by_cases hc141 : ((v132 * (2 : Int32)) + (((mm.toUInt32 >>> ((1 : Int32) &&& 31).toUInt32).toInt32) &&& (1 : Int32))) = ((v129 * (2 : Int32)) + (mm &&& (1 : Int32)))
    · rw [if_pos hc141] at hv142 hv143
      refine XS.icmpNo X126.here hx rfl (hb hby at_428) rfl (teq hc141).2 ?_
      show Steps p.tables e below (T126.setTop (mkF m 431 #[.val (.int p0), .val (.int p1), .val (.int p2), .val (.int r0), .val (.int r1), .val (.int r2), .val (.int r3), .val (.int v10), .val (.int v17), .val (.int v24), .val (.int v31), .val (.int kk), .val (.ref ca), .val (.ref bo), .val (.int mm), .val (.int rot), .val (.int v94), .val (.ref rb), .val (.int ((v129 * (2 : Int32)) + (mm &&& (1 : Int32)))), .val (.int ((v132 * (2 : Int32)) + (((mm.toUInt32 >>> ((1 : Int32) &&& 31).toUInt32).toInt32) &&& (1 : Int32)))), .val (.int ((v135 * (2 : Int32)) + (((mm.toUInt32 >>> ((2 : Int32) &&& 31).toUInt32).toInt32) &&& (1 : Int32)))), .val (.int ((v138 * (2 : Int32)) + (((mm.toUInt32 >>> ((3 : Int32) &&& 31).toUInt32).toInt32) &&& (1 : Int32)))), .val (.int (1 : Int32)), .val (.int (0 : Int32)), .unset, .unset, .unset] [])) _
      refine XS.iload X126.here hx rfl (hb hby at_431) rfl ?_
      show Steps p.tables e below (T126.setTop (mkF m 433 #[.val (.int p0), .val (.int p1), .val (.int p2), .val (.int r0), .val (.int r1), .val (.int r2), .val (.int r3), .val (.int v10), .val (.int v17), .val (.int v24), .val (.int v31), .val (.int kk), .val (.ref ca), .val (.ref bo), .val (.int mm), .val (.int rot), .val (.int v94), .val (.ref rb), .val (.int ((v129 * (2 : Int32)) + (mm &&& (1 : Int32)))), .val (.int ((v132 * (2 : Int32)) + (((mm.toUInt32 >>> ((1 : Int32) &&& 31).toUInt32).toInt32) &&& (1 : Int32)))), .val (.int ((v135 * (2 : Int32)) + (((mm.toUInt32 >>> ((2 : Int32) &&& 31).toUInt32).toInt32) &&& (1 : Int32)))), .val (.int ((v138 * (2 : Int32)) + (((mm.toUInt32 >>> ((3 : Int32) &&& 31).toUInt32).toInt32) &&& (1 : Int32)))), .val (.int (1 : Int32)), .val (.int (0 : Int32)), .unset, .unset, .unset] [(.int (0 : Int32))])) _
      refine XS.istore X126.here hx rfl (hb hby at_433) rfl (l' := #[.val (.int p0), .val (.int p1), .val (.int p2), .val (.int r0), .val (.int r1), .val (.int r2), .val (.int r3), .val (.int v10), .val (.int v17), .val (.int v24), .val (.int v31), .val (.int kk), .val (.ref ca), .val (.ref bo), .val (.int mm), .val (.int rot), .val (.int v94), .val (.ref rb), .val (.int ((v129 * (2 : Int32)) + (mm &&& (1 : Int32)))), .val (.int ((v132 * (2 : Int32)) + (((mm.toUInt32 >>> ((1 : Int32) &&& 31).toUInt32).toInt32) &&& (1 : Int32)))), .val (.int ((v135 * (2 : Int32)) + (((mm.toUInt32 >>> ((2 : Int32) &&& 31).toUInt32).toInt32) &&& (1 : Int32)))), .val (.int ((v138 * (2 : Int32)) + (((mm.toUInt32 >>> ((3 : Int32) &&& 31).toUInt32).toInt32) &&& (1 : Int32)))), .val (.int (1 : Int32)), .val (.int (0 : Int32)), .val (.int (0 : Int32)), .unset, .unset]) rfl ?_
      show Steps p.tables e below (T126.setTop (mkF m 435 #[.val (.int p0), .val (.int p1), .val (.int p2), .val (.int r0), .val (.int r1), .val (.int r2), .val (.int r3), .val (.int v10), .val (.int v17), .val (.int v24), .val (.int v31), .val (.int kk), .val (.ref ca), .val (.ref bo), .val (.int mm), .val (.int rot), .val (.int v94), .val (.ref rb), .val (.int ((v129 * (2 : Int32)) + (mm &&& (1 : Int32)))), .val (.int ((v132 * (2 : Int32)) + (((mm.toUInt32 >>> ((1 : Int32) &&& 31).toUInt32).toInt32) &&& (1 : Int32)))), .val (.int ((v135 * (2 : Int32)) + (((mm.toUInt32 >>> ((2 : Int32) &&& 31).toUInt32).toInt32) &&& (1 : Int32)))), .val (.int ((v138 * (2 : Int32)) + (((mm.toUInt32 >>> ((3 : Int32) &&& 31).toUInt32).toInt32) &&& (1 : Int32)))), .val (.int (1 : Int32)), .val (.int (0 : Int32)), .val (.int (0 : Int32)), .unset, .unset] [])) _
      refine XS.goto X126.here hx rfl (pc0 := 435) (pc' := 445) rfl (hb hby at_435) (by decide) (by decide) ?_
      show Steps p.tables e below (T126.setTop (mkF m 445 #[.val (.int p0), .val (.int p1), .val (.int p2), .val (.int r0), .val (.int r1), .val (.int r2), .val (.int r3), .val (.int v10), .val (.int v17), .val (.int v24), .val (.int v31), .val (.int kk), .val (.ref ca), .val (.ref bo), .val (.int mm), .val (.int rot), .val (.int v94), .val (.ref rb), .val (.int ((v129 * (2 : Int32)) + (mm &&& (1 : Int32)))), .val (.int ((v132 * (2 : Int32)) + (((mm.toUInt32 >>> ((1 : Int32) &&& 31).toUInt32).toInt32) &&& (1 : Int32)))), .val (.int ((v135 * (2 : Int32)) + (((mm.toUInt32 >>> ((2 : Int32) &&& 31).toUInt32).toInt32) &&& (1 : Int32)))), .val (.int ((v138 * (2 : Int32)) + (((mm.toUInt32 >>> ((3 : Int32) &&& 31).toUInt32).toInt32) &&& (1 : Int32)))), .val (.int (1 : Int32)), .val (.int (0 : Int32)), .val (.int (0 : Int32)), .unset, .unset] [])) _
      rw [hv142, hv143]
      exact Steps.refl _
    · rw [if_neg hc141] at hv142 hv143
      refine XS.icmpYes X126.here hx rfl (pc0 := 428) (pc' := 438) rfl (hb hby at_428) rfl (feq hc141).2 (by decide) (by decide) ?_
      show Steps p.tables e below (T126.setTop (mkF m 438 #[.val (.int p0), .val (.int p1), .val (.int p2), .val (.int r0), .val (.int r1), .val (.int r2), .val (.int r3), .val (.int v10), .val (.int v17), .val (.int v24), .val (.int v31), .val (.int kk), .val (.ref ca), .val (.ref bo), .val (.int mm), .val (.int rot), .val (.int v94), .val (.ref rb), .val (.int ((v129 * (2 : Int32)) + (mm &&& (1 : Int32)))), .val (.int ((v132 * (2 : Int32)) + (((mm.toUInt32 >>> ((1 : Int32) &&& 31).toUInt32).toInt32) &&& (1 : Int32)))), .val (.int ((v135 * (2 : Int32)) + (((mm.toUInt32 >>> ((2 : Int32) &&& 31).toUInt32).toInt32) &&& (1 : Int32)))), .val (.int ((v138 * (2 : Int32)) + (((mm.toUInt32 >>> ((3 : Int32) &&& 31).toUInt32).toInt32) &&& (1 : Int32)))), .val (.int (1 : Int32)), .val (.int (0 : Int32)), .unset, .unset, .unset] [])) _
      refine XS.iload X126.here hx rfl (hb hby at_438) rfl ?_
      show Steps p.tables e below (T126.setTop (mkF m 440 #[.val (.int p0), .val (.int p1), .val (.int p2), .val (.int r0), .val (.int r1), .val (.int r2), .val (.int r3), .val (.int v10), .val (.int v17), .val (.int v24), .val (.int v31), .val (.int kk), .val (.ref ca), .val (.ref bo), .val (.int mm), .val (.int rot), .val (.int v94), .val (.ref rb), .val (.int ((v129 * (2 : Int32)) + (mm &&& (1 : Int32)))), .val (.int ((v132 * (2 : Int32)) + (((mm.toUInt32 >>> ((1 : Int32) &&& 31).toUInt32).toInt32) &&& (1 : Int32)))), .val (.int ((v135 * (2 : Int32)) + (((mm.toUInt32 >>> ((2 : Int32) &&& 31).toUInt32).toInt32) &&& (1 : Int32)))), .val (.int ((v138 * (2 : Int32)) + (((mm.toUInt32 >>> ((3 : Int32) &&& 31).toUInt32).toInt32) &&& (1 : Int32)))), .val (.int (1 : Int32)), .val (.int (0 : Int32)), .unset, .unset, .unset] [(.int (1 : Int32))])) _
      refine XS.istore X126.here hx rfl (hb hby at_440) rfl (l' := #[.val (.int p0), .val (.int p1), .val (.int p2), .val (.int r0), .val (.int r1), .val (.int r2), .val (.int r3), .val (.int v10), .val (.int v17), .val (.int v24), .val (.int v31), .val (.int kk), .val (.ref ca), .val (.ref bo), .val (.int mm), .val (.int rot), .val (.int v94), .val (.ref rb), .val (.int ((v129 * (2 : Int32)) + (mm &&& (1 : Int32)))), .val (.int ((v132 * (2 : Int32)) + (((mm.toUInt32 >>> ((1 : Int32) &&& 31).toUInt32).toInt32) &&& (1 : Int32)))), .val (.int ((v135 * (2 : Int32)) + (((mm.toUInt32 >>> ((2 : Int32) &&& 31).toUInt32).toInt32) &&& (1 : Int32)))), .val (.int ((v138 * (2 : Int32)) + (((mm.toUInt32 >>> ((3 : Int32) &&& 31).toUInt32).toInt32) &&& (1 : Int32)))), .val (.int (1 : Int32)), .val (.int (0 : Int32)), .val (.int (1 : Int32)), .unset, .unset]) rfl ?_
      show Steps p.tables e below (T126.setTop (mkF m 442 #[.val (.int p0), .val (.int p1), .val (.int p2), .val (.int r0), .val (.int r1), .val (.int r2), .val (.int r3), .val (.int v10), .val (.int v17), .val (.int v24), .val (.int v31), .val (.int kk), .val (.ref ca), .val (.ref bo), .val (.int mm), .val (.int rot), .val (.int v94), .val (.ref rb), .val (.int ((v129 * (2 : Int32)) + (mm &&& (1 : Int32)))), .val (.int ((v132 * (2 : Int32)) + (((mm.toUInt32 >>> ((1 : Int32) &&& 31).toUInt32).toInt32) &&& (1 : Int32)))), .val (.int ((v135 * (2 : Int32)) + (((mm.toUInt32 >>> ((2 : Int32) &&& 31).toUInt32).toInt32) &&& (1 : Int32)))), .val (.int ((v138 * (2 : Int32)) + (((mm.toUInt32 >>> ((3 : Int32) &&& 31).toUInt32).toInt32) &&& (1 : Int32)))), .val (.int (1 : Int32)), .val (.int (0 : Int32)), .val (.int (1 : Int32)), .unset, .unset] [])) _
      refine XS.iinc X126.here hx rfl (hb hby at_442) rfl (l' := #[.val (.int p0), .val (.int p1), .val (.int p2), .val (.int r0), .val (.int r1), .val (.int r2), .val (.int r3), .val (.int v10), .val (.int v17), .val (.int v24), .val (.int v31), .val (.int kk), .val (.ref ca), .val (.ref bo), .val (.int mm), .val (.int rot), .val (.int v94), .val (.ref rb), .val (.int ((v129 * (2 : Int32)) + (mm &&& (1 : Int32)))), .val (.int ((v132 * (2 : Int32)) + (((mm.toUInt32 >>> ((1 : Int32) &&& 31).toUInt32).toInt32) &&& (1 : Int32)))), .val (.int ((v135 * (2 : Int32)) + (((mm.toUInt32 >>> ((2 : Int32) &&& 31).toUInt32).toInt32) &&& (1 : Int32)))), .val (.int ((v138 * (2 : Int32)) + (((mm.toUInt32 >>> ((3 : Int32) &&& 31).toUInt32).toInt32) &&& (1 : Int32)))), .val (.int (2 : Int32)), .val (.int (0 : Int32)), .val (.int (1 : Int32)), .unset, .unset]) rfl ?_
      show Steps p.tables e below (T126.setTop (mkF m 445 #[.val (.int p0), .val (.int p1), .val (.int p2), .val (.int r0), .val (.int r1), .val (.int r2), .val (.int r3), .val (.int v10), .val (.int v17), .val (.int v24), .val (.int v31), .val (.int kk), .val (.ref ca), .val (.ref bo), .val (.int mm), .val (.int rot), .val (.int v94), .val (.ref rb), .val (.int ((v129 * (2 : Int32)) + (mm &&& (1 : Int32)))), .val (.int ((v132 * (2 : Int32)) + (((mm.toUInt32 >>> ((1 : Int32) &&& 31).toUInt32).toInt32) &&& (1 : Int32)))), .val (.int ((v135 * (2 : Int32)) + (((mm.toUInt32 >>> ((2 : Int32) &&& 31).toUInt32).toInt32) &&& (1 : Int32)))), .val (.int ((v138 * (2 : Int32)) + (((mm.toUInt32 >>> ((3 : Int32) &&& 31).toUInt32).toInt32) &&& (1 : Int32)))), .val (.int (2 : Int32)), .val (.int (0 : Int32)), .val (.int (1 : Int32)), .unset, .unset] [])) _
      rw [hv142, hv143]
      exact Steps.refl _
  have q145 : Steps p.tables e below (s₁.setTop (entryFrame m #[(.int p0), (.int p1), (.int p2)] maxLocals)) (T126.setTop (mkF m 449 #[.val (.int p0), .val (.int p1), .val (.int p2), .val (.int r0), .val (.int r1), .val (.int r2), .val (.int r3), .val (.int v10), .val (.int v17), .val (.int v24), .val (.int v31), .val (.int kk), .val (.ref ca), .val (.ref bo), .val (.int mm), .val (.int rot), .val (.int v94), .val (.ref rb), .val (.int ((v129 * (2 : Int32)) + (mm &&& (1 : Int32)))), .val (.int ((v132 * (2 : Int32)) + (((mm.toUInt32 >>> ((1 : Int32) &&& 31).toUInt32).toInt32) &&& (1 : Int32)))), .val (.int ((v135 * (2 : Int32)) + (((mm.toUInt32 >>> ((2 : Int32) &&& 31).toUInt32).toInt32) &&& (1 : Int32)))), .val (.int ((v138 * (2 : Int32)) + (((mm.toUInt32 >>> ((3 : Int32) &&& 31).toUInt32).toInt32) &&& (1 : Int32)))), .val (.int v142), .val (.int (0 : Int32)), .val (.int v143), .unset, .unset] [(.int ((v129 * (2 : Int32)) + (mm &&& (1 : Int32)))), (.int ((v135 * (2 : Int32)) + (((mm.toUInt32 >>> ((2 : Int32) &&& 31).toUInt32).toInt32) &&& (1 : Int32))))])) := q144.trans (by
      show Steps p.tables e below (T126.setTop (mkF m 445 #[.val (.int p0), .val (.int p1), .val (.int p2), .val (.int r0), .val (.int r1), .val (.int r2), .val (.int r3), .val (.int v10), .val (.int v17), .val (.int v24), .val (.int v31), .val (.int kk), .val (.ref ca), .val (.ref bo), .val (.int mm), .val (.int rot), .val (.int v94), .val (.ref rb), .val (.int ((v129 * (2 : Int32)) + (mm &&& (1 : Int32)))), .val (.int ((v132 * (2 : Int32)) + (((mm.toUInt32 >>> ((1 : Int32) &&& 31).toUInt32).toInt32) &&& (1 : Int32)))), .val (.int ((v135 * (2 : Int32)) + (((mm.toUInt32 >>> ((2 : Int32) &&& 31).toUInt32).toInt32) &&& (1 : Int32)))), .val (.int ((v138 * (2 : Int32)) + (((mm.toUInt32 >>> ((3 : Int32) &&& 31).toUInt32).toInt32) &&& (1 : Int32)))), .val (.int v142), .val (.int (0 : Int32)), .val (.int v143), .unset, .unset] [])) _
      refine XS.iload X126.here hx rfl (hb hby at_445) rfl ?_
      show Steps p.tables e below (T126.setTop (mkF m 447 #[.val (.int p0), .val (.int p1), .val (.int p2), .val (.int r0), .val (.int r1), .val (.int r2), .val (.int r3), .val (.int v10), .val (.int v17), .val (.int v24), .val (.int v31), .val (.int kk), .val (.ref ca), .val (.ref bo), .val (.int mm), .val (.int rot), .val (.int v94), .val (.ref rb), .val (.int ((v129 * (2 : Int32)) + (mm &&& (1 : Int32)))), .val (.int ((v132 * (2 : Int32)) + (((mm.toUInt32 >>> ((1 : Int32) &&& 31).toUInt32).toInt32) &&& (1 : Int32)))), .val (.int ((v135 * (2 : Int32)) + (((mm.toUInt32 >>> ((2 : Int32) &&& 31).toUInt32).toInt32) &&& (1 : Int32)))), .val (.int ((v138 * (2 : Int32)) + (((mm.toUInt32 >>> ((3 : Int32) &&& 31).toUInt32).toInt32) &&& (1 : Int32)))), .val (.int v142), .val (.int (0 : Int32)), .val (.int v143), .unset, .unset] [(.int ((v135 * (2 : Int32)) + (((mm.toUInt32 >>> ((2 : Int32) &&& 31).toUInt32).toInt32) &&& (1 : Int32))))])) _
      refine XS.iload X126.here hx rfl (hb hby at_447) rfl ?_
      show Steps p.tables e below (T126.setTop (mkF m 449 #[.val (.int p0), .val (.int p1), .val (.int p2), .val (.int r0), .val (.int r1), .val (.int r2), .val (.int r3), .val (.int v10), .val (.int v17), .val (.int v24), .val (.int v31), .val (.int kk), .val (.ref ca), .val (.ref bo), .val (.int mm), .val (.int rot), .val (.int v94), .val (.ref rb), .val (.int ((v129 * (2 : Int32)) + (mm &&& (1 : Int32)))), .val (.int ((v132 * (2 : Int32)) + (((mm.toUInt32 >>> ((1 : Int32) &&& 31).toUInt32).toInt32) &&& (1 : Int32)))), .val (.int ((v135 * (2 : Int32)) + (((mm.toUInt32 >>> ((2 : Int32) &&& 31).toUInt32).toInt32) &&& (1 : Int32)))), .val (.int ((v138 * (2 : Int32)) + (((mm.toUInt32 >>> ((3 : Int32) &&& 31).toUInt32).toInt32) &&& (1 : Int32)))), .val (.int v142), .val (.int (0 : Int32)), .val (.int v143), .unset, .unset] [(.int ((v129 * (2 : Int32)) + (mm &&& (1 : Int32)))), (.int ((v135 * (2 : Int32)) + (((mm.toUInt32 >>> ((2 : Int32) &&& 31).toUInt32).toInt32) &&& (1 : Int32))))])) _
      exact Steps.refl _)
  obtain ⟨v148, hv148, hM⟩ := Option.bind_eq_some_iff.mp hM
  have hv148 := (Option.some.inj hv148).symm
  obtain ⟨v149, hv149, hM⟩ := Option.bind_eq_some_iff.mp hM
  have hv149 := (Option.some.inj hv149).symm
  have q150 : Steps p.tables e below (s₁.setTop (entryFrame m #[(.int p0), (.int p1), (.int p2)] maxLocals)) (T126.setTop (mkF m 480 #[.val (.int p0), .val (.int p1), .val (.int p2), .val (.int r0), .val (.int r1), .val (.int r2), .val (.int r3), .val (.int v10), .val (.int v17), .val (.int v24), .val (.int v31), .val (.int kk), .val (.ref ca), .val (.ref bo), .val (.int mm), .val (.int rot), .val (.int v94), .val (.ref rb), .val (.int ((v129 * (2 : Int32)) + (mm &&& (1 : Int32)))), .val (.int ((v132 * (2 : Int32)) + (((mm.toUInt32 >>> ((1 : Int32) &&& 31).toUInt32).toInt32) &&& (1 : Int32)))), .val (.int ((v135 * (2 : Int32)) + (((mm.toUInt32 >>> ((2 : Int32) &&& 31).toUInt32).toInt32) &&& (1 : Int32)))), .val (.int ((v138 * (2 : Int32)) + (((mm.toUInt32 >>> ((3 : Int32) &&& 31).toUInt32).toInt32) &&& (1 : Int32)))), .val (.int v148), .val (.int (0 : Int32)), .val (.int v143), .val (.int v149), .unset] [])) := by
    refine q145.trans ?_
    show Steps p.tables e below (T126.setTop (mkF m 449 #[.val (.int p0), .val (.int p1), .val (.int p2), .val (.int r0), .val (.int r1), .val (.int r2), .val (.int r3), .val (.int v10), .val (.int v17), .val (.int v24), .val (.int v31), .val (.int kk), .val (.ref ca), .val (.ref bo), .val (.int mm), .val (.int rot), .val (.int v94), .val (.ref rb), .val (.int ((v129 * (2 : Int32)) + (mm &&& (1 : Int32)))), .val (.int ((v132 * (2 : Int32)) + (((mm.toUInt32 >>> ((1 : Int32) &&& 31).toUInt32).toInt32) &&& (1 : Int32)))), .val (.int ((v135 * (2 : Int32)) + (((mm.toUInt32 >>> ((2 : Int32) &&& 31).toUInt32).toInt32) &&& (1 : Int32)))), .val (.int ((v138 * (2 : Int32)) + (((mm.toUInt32 >>> ((3 : Int32) &&& 31).toUInt32).toInt32) &&& (1 : Int32)))), .val (.int v142), .val (.int (0 : Int32)), .val (.int v143), .unset, .unset] [(.int ((v129 * (2 : Int32)) + (mm &&& (1 : Int32)))), (.int ((v135 * (2 : Int32)) + (((mm.toUInt32 >>> ((2 : Int32) &&& 31).toUInt32).toInt32) &&& (1 : Int32))))])) _
    by_cases hc146 : ((v135 * (2 : Int32)) + (((mm.toUInt32 >>> ((2 : Int32) &&& 31).toUInt32).toInt32) &&& (1 : Int32))) = ((v129 * (2 : Int32)) + (mm &&& (1 : Int32)))
    · rw [if_pos hc146] at hv148 hv149
      refine XS.icmpNo X126.here hx rfl (hb hby at_449) rfl (teq hc146).2 ?_
      show Steps p.tables e below (T126.setTop (mkF m 452 #[.val (.int p0), .val (.int p1), .val (.int p2), .val (.int r0), .val (.int r1), .val (.int r2), .val (.int r3), .val (.int v10), .val (.int v17), .val (.int v24), .val (.int v31), .val (.int kk), .val (.ref ca), .val (.ref bo), .val (.int mm), .val (.int rot), .val (.int v94), .val (.ref rb), .val (.int ((v129 * (2 : Int32)) + (mm &&& (1 : Int32)))), .val (.int ((v132 * (2 : Int32)) + (((mm.toUInt32 >>> ((1 : Int32) &&& 31).toUInt32).toInt32) &&& (1 : Int32)))), .val (.int ((v135 * (2 : Int32)) + (((mm.toUInt32 >>> ((2 : Int32) &&& 31).toUInt32).toInt32) &&& (1 : Int32)))), .val (.int ((v138 * (2 : Int32)) + (((mm.toUInt32 >>> ((3 : Int32) &&& 31).toUInt32).toInt32) &&& (1 : Int32)))), .val (.int v142), .val (.int (0 : Int32)), .val (.int v143), .unset, .unset] [])) _
      refine XS.iload X126.here hx rfl (hb hby at_452) rfl ?_
      show Steps p.tables e below (T126.setTop (mkF m 454 #[.val (.int p0), .val (.int p1), .val (.int p2), .val (.int r0), .val (.int r1), .val (.int r2), .val (.int r3), .val (.int v10), .val (.int v17), .val (.int v24), .val (.int v31), .val (.int kk), .val (.ref ca), .val (.ref bo), .val (.int mm), .val (.int rot), .val (.int v94), .val (.ref rb), .val (.int ((v129 * (2 : Int32)) + (mm &&& (1 : Int32)))), .val (.int ((v132 * (2 : Int32)) + (((mm.toUInt32 >>> ((1 : Int32) &&& 31).toUInt32).toInt32) &&& (1 : Int32)))), .val (.int ((v135 * (2 : Int32)) + (((mm.toUInt32 >>> ((2 : Int32) &&& 31).toUInt32).toInt32) &&& (1 : Int32)))), .val (.int ((v138 * (2 : Int32)) + (((mm.toUInt32 >>> ((3 : Int32) &&& 31).toUInt32).toInt32) &&& (1 : Int32)))), .val (.int v142), .val (.int (0 : Int32)), .val (.int v143), .unset, .unset] [(.int (0 : Int32))])) _
      refine XS.istore X126.here hx rfl (hb hby at_454) rfl (l' := #[.val (.int p0), .val (.int p1), .val (.int p2), .val (.int r0), .val (.int r1), .val (.int r2), .val (.int r3), .val (.int v10), .val (.int v17), .val (.int v24), .val (.int v31), .val (.int kk), .val (.ref ca), .val (.ref bo), .val (.int mm), .val (.int rot), .val (.int v94), .val (.ref rb), .val (.int ((v129 * (2 : Int32)) + (mm &&& (1 : Int32)))), .val (.int ((v132 * (2 : Int32)) + (((mm.toUInt32 >>> ((1 : Int32) &&& 31).toUInt32).toInt32) &&& (1 : Int32)))), .val (.int ((v135 * (2 : Int32)) + (((mm.toUInt32 >>> ((2 : Int32) &&& 31).toUInt32).toInt32) &&& (1 : Int32)))), .val (.int ((v138 * (2 : Int32)) + (((mm.toUInt32 >>> ((3 : Int32) &&& 31).toUInt32).toInt32) &&& (1 : Int32)))), .val (.int v142), .val (.int (0 : Int32)), .val (.int v143), .val (.int (0 : Int32)), .unset]) rfl ?_
      show Steps p.tables e below (T126.setTop (mkF m 456 #[.val (.int p0), .val (.int p1), .val (.int p2), .val (.int r0), .val (.int r1), .val (.int r2), .val (.int r3), .val (.int v10), .val (.int v17), .val (.int v24), .val (.int v31), .val (.int kk), .val (.ref ca), .val (.ref bo), .val (.int mm), .val (.int rot), .val (.int v94), .val (.ref rb), .val (.int ((v129 * (2 : Int32)) + (mm &&& (1 : Int32)))), .val (.int ((v132 * (2 : Int32)) + (((mm.toUInt32 >>> ((1 : Int32) &&& 31).toUInt32).toInt32) &&& (1 : Int32)))), .val (.int ((v135 * (2 : Int32)) + (((mm.toUInt32 >>> ((2 : Int32) &&& 31).toUInt32).toInt32) &&& (1 : Int32)))), .val (.int ((v138 * (2 : Int32)) + (((mm.toUInt32 >>> ((3 : Int32) &&& 31).toUInt32).toInt32) &&& (1 : Int32)))), .val (.int v142), .val (.int (0 : Int32)), .val (.int v143), .val (.int (0 : Int32)), .unset] [])) _
      refine XS.goto X126.here hx rfl (pc0 := 456) (pc' := 480) rfl (hb hby at_456) (by decide) (by decide) ?_
      show Steps p.tables e below (T126.setTop (mkF m 480 #[.val (.int p0), .val (.int p1), .val (.int p2), .val (.int r0), .val (.int r1), .val (.int r2), .val (.int r3), .val (.int v10), .val (.int v17), .val (.int v24), .val (.int v31), .val (.int kk), .val (.ref ca), .val (.ref bo), .val (.int mm), .val (.int rot), .val (.int v94), .val (.ref rb), .val (.int ((v129 * (2 : Int32)) + (mm &&& (1 : Int32)))), .val (.int ((v132 * (2 : Int32)) + (((mm.toUInt32 >>> ((1 : Int32) &&& 31).toUInt32).toInt32) &&& (1 : Int32)))), .val (.int ((v135 * (2 : Int32)) + (((mm.toUInt32 >>> ((2 : Int32) &&& 31).toUInt32).toInt32) &&& (1 : Int32)))), .val (.int ((v138 * (2 : Int32)) + (((mm.toUInt32 >>> ((3 : Int32) &&& 31).toUInt32).toInt32) &&& (1 : Int32)))), .val (.int v142), .val (.int (0 : Int32)), .val (.int v143), .val (.int (0 : Int32)), .unset] [])) _
      rw [hv148, hv149]
      exact Steps.refl _
    · rw [if_neg hc146] at hv148 hv149
      refine XS.icmpYes X126.here hx rfl (pc0 := 449) (pc' := 459) rfl (hb hby at_449) rfl (feq hc146).2 (by decide) (by decide) ?_
      show Steps p.tables e below (T126.setTop (mkF m 459 #[.val (.int p0), .val (.int p1), .val (.int p2), .val (.int r0), .val (.int r1), .val (.int r2), .val (.int r3), .val (.int v10), .val (.int v17), .val (.int v24), .val (.int v31), .val (.int kk), .val (.ref ca), .val (.ref bo), .val (.int mm), .val (.int rot), .val (.int v94), .val (.ref rb), .val (.int ((v129 * (2 : Int32)) + (mm &&& (1 : Int32)))), .val (.int ((v132 * (2 : Int32)) + (((mm.toUInt32 >>> ((1 : Int32) &&& 31).toUInt32).toInt32) &&& (1 : Int32)))), .val (.int ((v135 * (2 : Int32)) + (((mm.toUInt32 >>> ((2 : Int32) &&& 31).toUInt32).toInt32) &&& (1 : Int32)))), .val (.int ((v138 * (2 : Int32)) + (((mm.toUInt32 >>> ((3 : Int32) &&& 31).toUInt32).toInt32) &&& (1 : Int32)))), .val (.int v142), .val (.int (0 : Int32)), .val (.int v143), .unset, .unset] [])) _
      refine XS.iload X126.here hx rfl (hb hby at_459) rfl ?_
      show Steps p.tables e below (T126.setTop (mkF m 461 #[.val (.int p0), .val (.int p1), .val (.int p2), .val (.int r0), .val (.int r1), .val (.int r2), .val (.int r3), .val (.int v10), .val (.int v17), .val (.int v24), .val (.int v31), .val (.int kk), .val (.ref ca), .val (.ref bo), .val (.int mm), .val (.int rot), .val (.int v94), .val (.ref rb), .val (.int ((v129 * (2 : Int32)) + (mm &&& (1 : Int32)))), .val (.int ((v132 * (2 : Int32)) + (((mm.toUInt32 >>> ((1 : Int32) &&& 31).toUInt32).toInt32) &&& (1 : Int32)))), .val (.int ((v135 * (2 : Int32)) + (((mm.toUInt32 >>> ((2 : Int32) &&& 31).toUInt32).toInt32) &&& (1 : Int32)))), .val (.int ((v138 * (2 : Int32)) + (((mm.toUInt32 >>> ((3 : Int32) &&& 31).toUInt32).toInt32) &&& (1 : Int32)))), .val (.int v142), .val (.int (0 : Int32)), .val (.int v143), .unset, .unset] [(.int ((v135 * (2 : Int32)) + (((mm.toUInt32 >>> ((2 : Int32) &&& 31).toUInt32).toInt32) &&& (1 : Int32))))])) _
      refine XS.iload X126.here hx rfl (hb hby at_461) rfl ?_
      show Steps p.tables e below (T126.setTop (mkF m 463 #[.val (.int p0), .val (.int p1), .val (.int p2), .val (.int r0), .val (.int r1), .val (.int r2), .val (.int r3), .val (.int v10), .val (.int v17), .val (.int v24), .val (.int v31), .val (.int kk), .val (.ref ca), .val (.ref bo), .val (.int mm), .val (.int rot), .val (.int v94), .val (.ref rb), .val (.int ((v129 * (2 : Int32)) + (mm &&& (1 : Int32)))), .val (.int ((v132 * (2 : Int32)) + (((mm.toUInt32 >>> ((1 : Int32) &&& 31).toUInt32).toInt32) &&& (1 : Int32)))), .val (.int ((v135 * (2 : Int32)) + (((mm.toUInt32 >>> ((2 : Int32) &&& 31).toUInt32).toInt32) &&& (1 : Int32)))), .val (.int ((v138 * (2 : Int32)) + (((mm.toUInt32 >>> ((3 : Int32) &&& 31).toUInt32).toInt32) &&& (1 : Int32)))), .val (.int v142), .val (.int (0 : Int32)), .val (.int v143), .unset, .unset] [(.int ((v132 * (2 : Int32)) + (((mm.toUInt32 >>> ((1 : Int32) &&& 31).toUInt32).toInt32) &&& (1 : Int32)))), (.int ((v135 * (2 : Int32)) + (((mm.toUInt32 >>> ((2 : Int32) &&& 31).toUInt32).toInt32) &&& (1 : Int32))))])) _
      by_cases hc147 : ((v135 * (2 : Int32)) + (((mm.toUInt32 >>> ((2 : Int32) &&& 31).toUInt32).toInt32) &&& (1 : Int32))) = ((v132 * (2 : Int32)) + (((mm.toUInt32 >>> ((1 : Int32) &&& 31).toUInt32).toInt32) &&& (1 : Int32)))
      · rw [if_pos hc147] at hv148 hv149
        refine XS.icmpNo X126.here hx rfl (hb hby at_463) rfl (teq hc147).2 ?_
        show Steps p.tables e below (T126.setTop (mkF m 466 #[.val (.int p0), .val (.int p1), .val (.int p2), .val (.int r0), .val (.int r1), .val (.int r2), .val (.int r3), .val (.int v10), .val (.int v17), .val (.int v24), .val (.int v31), .val (.int kk), .val (.ref ca), .val (.ref bo), .val (.int mm), .val (.int rot), .val (.int v94), .val (.ref rb), .val (.int ((v129 * (2 : Int32)) + (mm &&& (1 : Int32)))), .val (.int ((v132 * (2 : Int32)) + (((mm.toUInt32 >>> ((1 : Int32) &&& 31).toUInt32).toInt32) &&& (1 : Int32)))), .val (.int ((v135 * (2 : Int32)) + (((mm.toUInt32 >>> ((2 : Int32) &&& 31).toUInt32).toInt32) &&& (1 : Int32)))), .val (.int ((v138 * (2 : Int32)) + (((mm.toUInt32 >>> ((3 : Int32) &&& 31).toUInt32).toInt32) &&& (1 : Int32)))), .val (.int v142), .val (.int (0 : Int32)), .val (.int v143), .unset, .unset] [])) _
        refine XS.iload X126.here hx rfl (hb hby at_466) rfl ?_
        show Steps p.tables e below (T126.setTop (mkF m 468 #[.val (.int p0), .val (.int p1), .val (.int p2), .val (.int r0), .val (.int r1), .val (.int r2), .val (.int r3), .val (.int v10), .val (.int v17), .val (.int v24), .val (.int v31), .val (.int kk), .val (.ref ca), .val (.ref bo), .val (.int mm), .val (.int rot), .val (.int v94), .val (.ref rb), .val (.int ((v129 * (2 : Int32)) + (mm &&& (1 : Int32)))), .val (.int ((v132 * (2 : Int32)) + (((mm.toUInt32 >>> ((1 : Int32) &&& 31).toUInt32).toInt32) &&& (1 : Int32)))), .val (.int ((v135 * (2 : Int32)) + (((mm.toUInt32 >>> ((2 : Int32) &&& 31).toUInt32).toInt32) &&& (1 : Int32)))), .val (.int ((v138 * (2 : Int32)) + (((mm.toUInt32 >>> ((3 : Int32) &&& 31).toUInt32).toInt32) &&& (1 : Int32)))), .val (.int v142), .val (.int (0 : Int32)), .val (.int v143), .unset, .unset] [(.int v143)])) _
        refine XS.istore X126.here hx rfl (hb hby at_468) rfl (l' := #[.val (.int p0), .val (.int p1), .val (.int p2), .val (.int r0), .val (.int r1), .val (.int r2), .val (.int r3), .val (.int v10), .val (.int v17), .val (.int v24), .val (.int v31), .val (.int kk), .val (.ref ca), .val (.ref bo), .val (.int mm), .val (.int rot), .val (.int v94), .val (.ref rb), .val (.int ((v129 * (2 : Int32)) + (mm &&& (1 : Int32)))), .val (.int ((v132 * (2 : Int32)) + (((mm.toUInt32 >>> ((1 : Int32) &&& 31).toUInt32).toInt32) &&& (1 : Int32)))), .val (.int ((v135 * (2 : Int32)) + (((mm.toUInt32 >>> ((2 : Int32) &&& 31).toUInt32).toInt32) &&& (1 : Int32)))), .val (.int ((v138 * (2 : Int32)) + (((mm.toUInt32 >>> ((3 : Int32) &&& 31).toUInt32).toInt32) &&& (1 : Int32)))), .val (.int v142), .val (.int (0 : Int32)), .val (.int v143), .val (.int v143), .unset]) rfl ?_
        show Steps p.tables e below (T126.setTop (mkF m 470 #[.val (.int p0), .val (.int p1), .val (.int p2), .val (.int r0), .val (.int r1), .val (.int r2), .val (.int r3), .val (.int v10), .val (.int v17), .val (.int v24), .val (.int v31), .val (.int kk), .val (.ref ca), .val (.ref bo), .val (.int mm), .val (.int rot), .val (.int v94), .val (.ref rb), .val (.int ((v129 * (2 : Int32)) + (mm &&& (1 : Int32)))), .val (.int ((v132 * (2 : Int32)) + (((mm.toUInt32 >>> ((1 : Int32) &&& 31).toUInt32).toInt32) &&& (1 : Int32)))), .val (.int ((v135 * (2 : Int32)) + (((mm.toUInt32 >>> ((2 : Int32) &&& 31).toUInt32).toInt32) &&& (1 : Int32)))), .val (.int ((v138 * (2 : Int32)) + (((mm.toUInt32 >>> ((3 : Int32) &&& 31).toUInt32).toInt32) &&& (1 : Int32)))), .val (.int v142), .val (.int (0 : Int32)), .val (.int v143), .val (.int v143), .unset] [])) _
        refine XS.goto X126.here hx rfl (pc0 := 470) (pc' := 480) rfl (hb hby at_470) (by decide) (by decide) ?_
        show Steps p.tables e below (T126.setTop (mkF m 480 #[.val (.int p0), .val (.int p1), .val (.int p2), .val (.int r0), .val (.int r1), .val (.int r2), .val (.int r3), .val (.int v10), .val (.int v17), .val (.int v24), .val (.int v31), .val (.int kk), .val (.ref ca), .val (.ref bo), .val (.int mm), .val (.int rot), .val (.int v94), .val (.ref rb), .val (.int ((v129 * (2 : Int32)) + (mm &&& (1 : Int32)))), .val (.int ((v132 * (2 : Int32)) + (((mm.toUInt32 >>> ((1 : Int32) &&& 31).toUInt32).toInt32) &&& (1 : Int32)))), .val (.int ((v135 * (2 : Int32)) + (((mm.toUInt32 >>> ((2 : Int32) &&& 31).toUInt32).toInt32) &&& (1 : Int32)))), .val (.int ((v138 * (2 : Int32)) + (((mm.toUInt32 >>> ((3 : Int32) &&& 31).toUInt32).toInt32) &&& (1 : Int32)))), .val (.int v142), .val (.int (0 : Int32)), .val (.int v143), .val (.int v143), .unset] [])) _
        rw [hv148, hv149]
        exact Steps.refl _
      · rw [if_neg hc147] at hv148 hv149
        refine XS.icmpYes X126.here hx rfl (pc0 := 463) (pc' := 473) rfl (hb hby at_463) rfl (feq hc147).2 (by decide) (by decide) ?_
        show Steps p.tables e below (T126.setTop (mkF m 473 #[.val (.int p0), .val (.int p1), .val (.int p2), .val (.int r0), .val (.int r1), .val (.int r2), .val (.int r3), .val (.int v10), .val (.int v17), .val (.int v24), .val (.int v31), .val (.int kk), .val (.ref ca), .val (.ref bo), .val (.int mm), .val (.int rot), .val (.int v94), .val (.ref rb), .val (.int ((v129 * (2 : Int32)) + (mm &&& (1 : Int32)))), .val (.int ((v132 * (2 : Int32)) + (((mm.toUInt32 >>> ((1 : Int32) &&& 31).toUInt32).toInt32) &&& (1 : Int32)))), .val (.int ((v135 * (2 : Int32)) + (((mm.toUInt32 >>> ((2 : Int32) &&& 31).toUInt32).toInt32) &&& (1 : Int32)))), .val (.int ((v138 * (2 : Int32)) + (((mm.toUInt32 >>> ((3 : Int32) &&& 31).toUInt32).toInt32) &&& (1 : Int32)))), .val (.int v142), .val (.int (0 : Int32)), .val (.int v143), .unset, .unset] [])) _
        refine XS.iload X126.here hx rfl (hb hby at_473) rfl ?_
        show Steps p.tables e below (T126.setTop (mkF m 475 #[.val (.int p0), .val (.int p1), .val (.int p2), .val (.int r0), .val (.int r1), .val (.int r2), .val (.int r3), .val (.int v10), .val (.int v17), .val (.int v24), .val (.int v31), .val (.int kk), .val (.ref ca), .val (.ref bo), .val (.int mm), .val (.int rot), .val (.int v94), .val (.ref rb), .val (.int ((v129 * (2 : Int32)) + (mm &&& (1 : Int32)))), .val (.int ((v132 * (2 : Int32)) + (((mm.toUInt32 >>> ((1 : Int32) &&& 31).toUInt32).toInt32) &&& (1 : Int32)))), .val (.int ((v135 * (2 : Int32)) + (((mm.toUInt32 >>> ((2 : Int32) &&& 31).toUInt32).toInt32) &&& (1 : Int32)))), .val (.int ((v138 * (2 : Int32)) + (((mm.toUInt32 >>> ((3 : Int32) &&& 31).toUInt32).toInt32) &&& (1 : Int32)))), .val (.int v142), .val (.int (0 : Int32)), .val (.int v143), .unset, .unset] [(.int v142)])) _
        refine XS.istore X126.here hx rfl (hb hby at_475) rfl (l' := #[.val (.int p0), .val (.int p1), .val (.int p2), .val (.int r0), .val (.int r1), .val (.int r2), .val (.int r3), .val (.int v10), .val (.int v17), .val (.int v24), .val (.int v31), .val (.int kk), .val (.ref ca), .val (.ref bo), .val (.int mm), .val (.int rot), .val (.int v94), .val (.ref rb), .val (.int ((v129 * (2 : Int32)) + (mm &&& (1 : Int32)))), .val (.int ((v132 * (2 : Int32)) + (((mm.toUInt32 >>> ((1 : Int32) &&& 31).toUInt32).toInt32) &&& (1 : Int32)))), .val (.int ((v135 * (2 : Int32)) + (((mm.toUInt32 >>> ((2 : Int32) &&& 31).toUInt32).toInt32) &&& (1 : Int32)))), .val (.int ((v138 * (2 : Int32)) + (((mm.toUInt32 >>> ((3 : Int32) &&& 31).toUInt32).toInt32) &&& (1 : Int32)))), .val (.int v142), .val (.int (0 : Int32)), .val (.int v143), .val (.int v142), .unset]) rfl ?_
        show Steps p.tables e below (T126.setTop (mkF m 477 #[.val (.int p0), .val (.int p1), .val (.int p2), .val (.int r0), .val (.int r1), .val (.int r2), .val (.int r3), .val (.int v10), .val (.int v17), .val (.int v24), .val (.int v31), .val (.int kk), .val (.ref ca), .val (.ref bo), .val (.int mm), .val (.int rot), .val (.int v94), .val (.ref rb), .val (.int ((v129 * (2 : Int32)) + (mm &&& (1 : Int32)))), .val (.int ((v132 * (2 : Int32)) + (((mm.toUInt32 >>> ((1 : Int32) &&& 31).toUInt32).toInt32) &&& (1 : Int32)))), .val (.int ((v135 * (2 : Int32)) + (((mm.toUInt32 >>> ((2 : Int32) &&& 31).toUInt32).toInt32) &&& (1 : Int32)))), .val (.int ((v138 * (2 : Int32)) + (((mm.toUInt32 >>> ((3 : Int32) &&& 31).toUInt32).toInt32) &&& (1 : Int32)))), .val (.int v142), .val (.int (0 : Int32)), .val (.int v143), .val (.int v142), .unset] [])) _
        refine XS.iinc X126.here hx rfl (hb hby at_477) rfl (l' := #[.val (.int p0), .val (.int p1), .val (.int p2), .val (.int r0), .val (.int r1), .val (.int r2), .val (.int r3), .val (.int v10), .val (.int v17), .val (.int v24), .val (.int v31), .val (.int kk), .val (.ref ca), .val (.ref bo), .val (.int mm), .val (.int rot), .val (.int v94), .val (.ref rb), .val (.int ((v129 * (2 : Int32)) + (mm &&& (1 : Int32)))), .val (.int ((v132 * (2 : Int32)) + (((mm.toUInt32 >>> ((1 : Int32) &&& 31).toUInt32).toInt32) &&& (1 : Int32)))), .val (.int ((v135 * (2 : Int32)) + (((mm.toUInt32 >>> ((2 : Int32) &&& 31).toUInt32).toInt32) &&& (1 : Int32)))), .val (.int ((v138 * (2 : Int32)) + (((mm.toUInt32 >>> ((3 : Int32) &&& 31).toUInt32).toInt32) &&& (1 : Int32)))), .val (.int (v142 + (1 : Int32))), .val (.int (0 : Int32)), .val (.int v143), .val (.int v142), .unset]) rfl ?_
        show Steps p.tables e below (T126.setTop (mkF m 480 #[.val (.int p0), .val (.int p1), .val (.int p2), .val (.int r0), .val (.int r1), .val (.int r2), .val (.int r3), .val (.int v10), .val (.int v17), .val (.int v24), .val (.int v31), .val (.int kk), .val (.ref ca), .val (.ref bo), .val (.int mm), .val (.int rot), .val (.int v94), .val (.ref rb), .val (.int ((v129 * (2 : Int32)) + (mm &&& (1 : Int32)))), .val (.int ((v132 * (2 : Int32)) + (((mm.toUInt32 >>> ((1 : Int32) &&& 31).toUInt32).toInt32) &&& (1 : Int32)))), .val (.int ((v135 * (2 : Int32)) + (((mm.toUInt32 >>> ((2 : Int32) &&& 31).toUInt32).toInt32) &&& (1 : Int32)))), .val (.int ((v138 * (2 : Int32)) + (((mm.toUInt32 >>> ((3 : Int32) &&& 31).toUInt32).toInt32) &&& (1 : Int32)))), .val (.int (v142 + (1 : Int32))), .val (.int (0 : Int32)), .val (.int v143), .val (.int v142), .unset] [])) _
        rw [hv148, hv149]
        exact Steps.refl _
  have q151 : Steps p.tables e below (s₁.setTop (entryFrame m #[(.int p0), (.int p1), (.int p2)] maxLocals)) (T126.setTop (mkF m 484 #[.val (.int p0), .val (.int p1), .val (.int p2), .val (.int r0), .val (.int r1), .val (.int r2), .val (.int r3), .val (.int v10), .val (.int v17), .val (.int v24), .val (.int v31), .val (.int kk), .val (.ref ca), .val (.ref bo), .val (.int mm), .val (.int rot), .val (.int v94), .val (.ref rb), .val (.int ((v129 * (2 : Int32)) + (mm &&& (1 : Int32)))), .val (.int ((v132 * (2 : Int32)) + (((mm.toUInt32 >>> ((1 : Int32) &&& 31).toUInt32).toInt32) &&& (1 : Int32)))), .val (.int ((v135 * (2 : Int32)) + (((mm.toUInt32 >>> ((2 : Int32) &&& 31).toUInt32).toInt32) &&& (1 : Int32)))), .val (.int ((v138 * (2 : Int32)) + (((mm.toUInt32 >>> ((3 : Int32) &&& 31).toUInt32).toInt32) &&& (1 : Int32)))), .val (.int v148), .val (.int (0 : Int32)), .val (.int v143), .val (.int v149), .unset] [(.int ((v129 * (2 : Int32)) + (mm &&& (1 : Int32)))), (.int ((v138 * (2 : Int32)) + (((mm.toUInt32 >>> ((3 : Int32) &&& 31).toUInt32).toInt32) &&& (1 : Int32))))])) := q150.trans (by
      show Steps p.tables e below (T126.setTop (mkF m 480 #[.val (.int p0), .val (.int p1), .val (.int p2), .val (.int r0), .val (.int r1), .val (.int r2), .val (.int r3), .val (.int v10), .val (.int v17), .val (.int v24), .val (.int v31), .val (.int kk), .val (.ref ca), .val (.ref bo), .val (.int mm), .val (.int rot), .val (.int v94), .val (.ref rb), .val (.int ((v129 * (2 : Int32)) + (mm &&& (1 : Int32)))), .val (.int ((v132 * (2 : Int32)) + (((mm.toUInt32 >>> ((1 : Int32) &&& 31).toUInt32).toInt32) &&& (1 : Int32)))), .val (.int ((v135 * (2 : Int32)) + (((mm.toUInt32 >>> ((2 : Int32) &&& 31).toUInt32).toInt32) &&& (1 : Int32)))), .val (.int ((v138 * (2 : Int32)) + (((mm.toUInt32 >>> ((3 : Int32) &&& 31).toUInt32).toInt32) &&& (1 : Int32)))), .val (.int v148), .val (.int (0 : Int32)), .val (.int v143), .val (.int v149), .unset] [])) _
      refine XS.iload X126.here hx rfl (hb hby at_480) rfl ?_
      show Steps p.tables e below (T126.setTop (mkF m 482 #[.val (.int p0), .val (.int p1), .val (.int p2), .val (.int r0), .val (.int r1), .val (.int r2), .val (.int r3), .val (.int v10), .val (.int v17), .val (.int v24), .val (.int v31), .val (.int kk), .val (.ref ca), .val (.ref bo), .val (.int mm), .val (.int rot), .val (.int v94), .val (.ref rb), .val (.int ((v129 * (2 : Int32)) + (mm &&& (1 : Int32)))), .val (.int ((v132 * (2 : Int32)) + (((mm.toUInt32 >>> ((1 : Int32) &&& 31).toUInt32).toInt32) &&& (1 : Int32)))), .val (.int ((v135 * (2 : Int32)) + (((mm.toUInt32 >>> ((2 : Int32) &&& 31).toUInt32).toInt32) &&& (1 : Int32)))), .val (.int ((v138 * (2 : Int32)) + (((mm.toUInt32 >>> ((3 : Int32) &&& 31).toUInt32).toInt32) &&& (1 : Int32)))), .val (.int v148), .val (.int (0 : Int32)), .val (.int v143), .val (.int v149), .unset] [(.int ((v138 * (2 : Int32)) + (((mm.toUInt32 >>> ((3 : Int32) &&& 31).toUInt32).toInt32) &&& (1 : Int32))))])) _
      refine XS.iload X126.here hx rfl (hb hby at_482) rfl ?_
      show Steps p.tables e below (T126.setTop (mkF m 484 #[.val (.int p0), .val (.int p1), .val (.int p2), .val (.int r0), .val (.int r1), .val (.int r2), .val (.int r3), .val (.int v10), .val (.int v17), .val (.int v24), .val (.int v31), .val (.int kk), .val (.ref ca), .val (.ref bo), .val (.int mm), .val (.int rot), .val (.int v94), .val (.ref rb), .val (.int ((v129 * (2 : Int32)) + (mm &&& (1 : Int32)))), .val (.int ((v132 * (2 : Int32)) + (((mm.toUInt32 >>> ((1 : Int32) &&& 31).toUInt32).toInt32) &&& (1 : Int32)))), .val (.int ((v135 * (2 : Int32)) + (((mm.toUInt32 >>> ((2 : Int32) &&& 31).toUInt32).toInt32) &&& (1 : Int32)))), .val (.int ((v138 * (2 : Int32)) + (((mm.toUInt32 >>> ((3 : Int32) &&& 31).toUInt32).toInt32) &&& (1 : Int32)))), .val (.int v148), .val (.int (0 : Int32)), .val (.int v143), .val (.int v149), .unset] [(.int ((v129 * (2 : Int32)) + (mm &&& (1 : Int32)))), (.int ((v138 * (2 : Int32)) + (((mm.toUInt32 >>> ((3 : Int32) &&& 31).toUInt32).toInt32) &&& (1 : Int32))))])) _
      exact Steps.refl _)
  obtain ⟨v155, hv155, hM⟩ := Option.bind_eq_some_iff.mp hM
  have hv155 := (Option.some.inj hv155).symm
  obtain ⟨v156, hv156, hM⟩ := Option.bind_eq_some_iff.mp hM
  have hv156 := (Option.some.inj hv156).symm
  have q157 : Steps p.tables e below (s₁.setTop (entryFrame m #[(.int p0), (.int p1), (.int p2)] maxLocals)) (T126.setTop (mkF m 529 #[.val (.int p0), .val (.int p1), .val (.int p2), .val (.int r0), .val (.int r1), .val (.int r2), .val (.int r3), .val (.int v10), .val (.int v17), .val (.int v24), .val (.int v31), .val (.int kk), .val (.ref ca), .val (.ref bo), .val (.int mm), .val (.int rot), .val (.int v94), .val (.ref rb), .val (.int ((v129 * (2 : Int32)) + (mm &&& (1 : Int32)))), .val (.int ((v132 * (2 : Int32)) + (((mm.toUInt32 >>> ((1 : Int32) &&& 31).toUInt32).toInt32) &&& (1 : Int32)))), .val (.int ((v135 * (2 : Int32)) + (((mm.toUInt32 >>> ((2 : Int32) &&& 31).toUInt32).toInt32) &&& (1 : Int32)))), .val (.int ((v138 * (2 : Int32)) + (((mm.toUInt32 >>> ((3 : Int32) &&& 31).toUInt32).toInt32) &&& (1 : Int32)))), .val (.int v155), .val (.int (0 : Int32)), .val (.int v143), .val (.int v149), .val (.int v156)] [])) := by
    refine q151.trans ?_
    show Steps p.tables e below (T126.setTop (mkF m 484 #[.val (.int p0), .val (.int p1), .val (.int p2), .val (.int r0), .val (.int r1), .val (.int r2), .val (.int r3), .val (.int v10), .val (.int v17), .val (.int v24), .val (.int v31), .val (.int kk), .val (.ref ca), .val (.ref bo), .val (.int mm), .val (.int rot), .val (.int v94), .val (.ref rb), .val (.int ((v129 * (2 : Int32)) + (mm &&& (1 : Int32)))), .val (.int ((v132 * (2 : Int32)) + (((mm.toUInt32 >>> ((1 : Int32) &&& 31).toUInt32).toInt32) &&& (1 : Int32)))), .val (.int ((v135 * (2 : Int32)) + (((mm.toUInt32 >>> ((2 : Int32) &&& 31).toUInt32).toInt32) &&& (1 : Int32)))), .val (.int ((v138 * (2 : Int32)) + (((mm.toUInt32 >>> ((3 : Int32) &&& 31).toUInt32).toInt32) &&& (1 : Int32)))), .val (.int v148), .val (.int (0 : Int32)), .val (.int v143), .val (.int v149), .unset] [(.int ((v129 * (2 : Int32)) + (mm &&& (1 : Int32)))), (.int ((v138 * (2 : Int32)) + (((mm.toUInt32 >>> ((3 : Int32) &&& 31).toUInt32).toInt32) &&& (1 : Int32))))])) _
    by_cases hc152 : ((v138 * (2 : Int32)) + (((mm.toUInt32 >>> ((3 : Int32) &&& 31).toUInt32).toInt32) &&& (1 : Int32))) = ((v129 * (2 : Int32)) + (mm &&& (1 : Int32)))
    · rw [if_pos hc152] at hv155 hv156
      refine XS.icmpNo X126.here hx rfl (hb hby at_484) rfl (teq hc152).2 ?_
      show Steps p.tables e below (T126.setTop (mkF m 487 #[.val (.int p0), .val (.int p1), .val (.int p2), .val (.int r0), .val (.int r1), .val (.int r2), .val (.int r3), .val (.int v10), .val (.int v17), .val (.int v24), .val (.int v31), .val (.int kk), .val (.ref ca), .val (.ref bo), .val (.int mm), .val (.int rot), .val (.int v94), .val (.ref rb), .val (.int ((v129 * (2 : Int32)) + (mm &&& (1 : Int32)))), .val (.int ((v132 * (2 : Int32)) + (((mm.toUInt32 >>> ((1 : Int32) &&& 31).toUInt32).toInt32) &&& (1 : Int32)))), .val (.int ((v135 * (2 : Int32)) + (((mm.toUInt32 >>> ((2 : Int32) &&& 31).toUInt32).toInt32) &&& (1 : Int32)))), .val (.int ((v138 * (2 : Int32)) + (((mm.toUInt32 >>> ((3 : Int32) &&& 31).toUInt32).toInt32) &&& (1 : Int32)))), .val (.int v148), .val (.int (0 : Int32)), .val (.int v143), .val (.int v149), .unset] [])) _
      refine XS.iload X126.here hx rfl (hb hby at_487) rfl ?_
      show Steps p.tables e below (T126.setTop (mkF m 489 #[.val (.int p0), .val (.int p1), .val (.int p2), .val (.int r0), .val (.int r1), .val (.int r2), .val (.int r3), .val (.int v10), .val (.int v17), .val (.int v24), .val (.int v31), .val (.int kk), .val (.ref ca), .val (.ref bo), .val (.int mm), .val (.int rot), .val (.int v94), .val (.ref rb), .val (.int ((v129 * (2 : Int32)) + (mm &&& (1 : Int32)))), .val (.int ((v132 * (2 : Int32)) + (((mm.toUInt32 >>> ((1 : Int32) &&& 31).toUInt32).toInt32) &&& (1 : Int32)))), .val (.int ((v135 * (2 : Int32)) + (((mm.toUInt32 >>> ((2 : Int32) &&& 31).toUInt32).toInt32) &&& (1 : Int32)))), .val (.int ((v138 * (2 : Int32)) + (((mm.toUInt32 >>> ((3 : Int32) &&& 31).toUInt32).toInt32) &&& (1 : Int32)))), .val (.int v148), .val (.int (0 : Int32)), .val (.int v143), .val (.int v149), .unset] [(.int (0 : Int32))])) _
      refine XS.istore X126.here hx rfl (hb hby at_489) rfl (l' := #[.val (.int p0), .val (.int p1), .val (.int p2), .val (.int r0), .val (.int r1), .val (.int r2), .val (.int r3), .val (.int v10), .val (.int v17), .val (.int v24), .val (.int v31), .val (.int kk), .val (.ref ca), .val (.ref bo), .val (.int mm), .val (.int rot), .val (.int v94), .val (.ref rb), .val (.int ((v129 * (2 : Int32)) + (mm &&& (1 : Int32)))), .val (.int ((v132 * (2 : Int32)) + (((mm.toUInt32 >>> ((1 : Int32) &&& 31).toUInt32).toInt32) &&& (1 : Int32)))), .val (.int ((v135 * (2 : Int32)) + (((mm.toUInt32 >>> ((2 : Int32) &&& 31).toUInt32).toInt32) &&& (1 : Int32)))), .val (.int ((v138 * (2 : Int32)) + (((mm.toUInt32 >>> ((3 : Int32) &&& 31).toUInt32).toInt32) &&& (1 : Int32)))), .val (.int v148), .val (.int (0 : Int32)), .val (.int v143), .val (.int v149), .val (.int (0 : Int32))]) rfl ?_
      show Steps p.tables e below (T126.setTop (mkF m 491 #[.val (.int p0), .val (.int p1), .val (.int p2), .val (.int r0), .val (.int r1), .val (.int r2), .val (.int r3), .val (.int v10), .val (.int v17), .val (.int v24), .val (.int v31), .val (.int kk), .val (.ref ca), .val (.ref bo), .val (.int mm), .val (.int rot), .val (.int v94), .val (.ref rb), .val (.int ((v129 * (2 : Int32)) + (mm &&& (1 : Int32)))), .val (.int ((v132 * (2 : Int32)) + (((mm.toUInt32 >>> ((1 : Int32) &&& 31).toUInt32).toInt32) &&& (1 : Int32)))), .val (.int ((v135 * (2 : Int32)) + (((mm.toUInt32 >>> ((2 : Int32) &&& 31).toUInt32).toInt32) &&& (1 : Int32)))), .val (.int ((v138 * (2 : Int32)) + (((mm.toUInt32 >>> ((3 : Int32) &&& 31).toUInt32).toInt32) &&& (1 : Int32)))), .val (.int v148), .val (.int (0 : Int32)), .val (.int v143), .val (.int v149), .val (.int (0 : Int32))] [])) _
      refine XS.goto X126.here hx rfl (pc0 := 491) (pc' := 529) rfl (hb hby at_491) (by decide) (by decide) ?_
      show Steps p.tables e below (T126.setTop (mkF m 529 #[.val (.int p0), .val (.int p1), .val (.int p2), .val (.int r0), .val (.int r1), .val (.int r2), .val (.int r3), .val (.int v10), .val (.int v17), .val (.int v24), .val (.int v31), .val (.int kk), .val (.ref ca), .val (.ref bo), .val (.int mm), .val (.int rot), .val (.int v94), .val (.ref rb), .val (.int ((v129 * (2 : Int32)) + (mm &&& (1 : Int32)))), .val (.int ((v132 * (2 : Int32)) + (((mm.toUInt32 >>> ((1 : Int32) &&& 31).toUInt32).toInt32) &&& (1 : Int32)))), .val (.int ((v135 * (2 : Int32)) + (((mm.toUInt32 >>> ((2 : Int32) &&& 31).toUInt32).toInt32) &&& (1 : Int32)))), .val (.int ((v138 * (2 : Int32)) + (((mm.toUInt32 >>> ((3 : Int32) &&& 31).toUInt32).toInt32) &&& (1 : Int32)))), .val (.int v148), .val (.int (0 : Int32)), .val (.int v143), .val (.int v149), .val (.int (0 : Int32))] [])) _
      rw [hv155, hv156]
      exact Steps.refl _
    · rw [if_neg hc152] at hv155 hv156
      refine XS.icmpYes X126.here hx rfl (pc0 := 484) (pc' := 494) rfl (hb hby at_484) rfl (feq hc152).2 (by decide) (by decide) ?_
      show Steps p.tables e below (T126.setTop (mkF m 494 #[.val (.int p0), .val (.int p1), .val (.int p2), .val (.int r0), .val (.int r1), .val (.int r2), .val (.int r3), .val (.int v10), .val (.int v17), .val (.int v24), .val (.int v31), .val (.int kk), .val (.ref ca), .val (.ref bo), .val (.int mm), .val (.int rot), .val (.int v94), .val (.ref rb), .val (.int ((v129 * (2 : Int32)) + (mm &&& (1 : Int32)))), .val (.int ((v132 * (2 : Int32)) + (((mm.toUInt32 >>> ((1 : Int32) &&& 31).toUInt32).toInt32) &&& (1 : Int32)))), .val (.int ((v135 * (2 : Int32)) + (((mm.toUInt32 >>> ((2 : Int32) &&& 31).toUInt32).toInt32) &&& (1 : Int32)))), .val (.int ((v138 * (2 : Int32)) + (((mm.toUInt32 >>> ((3 : Int32) &&& 31).toUInt32).toInt32) &&& (1 : Int32)))), .val (.int v148), .val (.int (0 : Int32)), .val (.int v143), .val (.int v149), .unset] [])) _
      refine XS.iload X126.here hx rfl (hb hby at_494) rfl ?_
      show Steps p.tables e below (T126.setTop (mkF m 496 #[.val (.int p0), .val (.int p1), .val (.int p2), .val (.int r0), .val (.int r1), .val (.int r2), .val (.int r3), .val (.int v10), .val (.int v17), .val (.int v24), .val (.int v31), .val (.int kk), .val (.ref ca), .val (.ref bo), .val (.int mm), .val (.int rot), .val (.int v94), .val (.ref rb), .val (.int ((v129 * (2 : Int32)) + (mm &&& (1 : Int32)))), .val (.int ((v132 * (2 : Int32)) + (((mm.toUInt32 >>> ((1 : Int32) &&& 31).toUInt32).toInt32) &&& (1 : Int32)))), .val (.int ((v135 * (2 : Int32)) + (((mm.toUInt32 >>> ((2 : Int32) &&& 31).toUInt32).toInt32) &&& (1 : Int32)))), .val (.int ((v138 * (2 : Int32)) + (((mm.toUInt32 >>> ((3 : Int32) &&& 31).toUInt32).toInt32) &&& (1 : Int32)))), .val (.int v148), .val (.int (0 : Int32)), .val (.int v143), .val (.int v149), .unset] [(.int ((v138 * (2 : Int32)) + (((mm.toUInt32 >>> ((3 : Int32) &&& 31).toUInt32).toInt32) &&& (1 : Int32))))])) _
      refine XS.iload X126.here hx rfl (hb hby at_496) rfl ?_
      show Steps p.tables e below (T126.setTop (mkF m 498 #[.val (.int p0), .val (.int p1), .val (.int p2), .val (.int r0), .val (.int r1), .val (.int r2), .val (.int r3), .val (.int v10), .val (.int v17), .val (.int v24), .val (.int v31), .val (.int kk), .val (.ref ca), .val (.ref bo), .val (.int mm), .val (.int rot), .val (.int v94), .val (.ref rb), .val (.int ((v129 * (2 : Int32)) + (mm &&& (1 : Int32)))), .val (.int ((v132 * (2 : Int32)) + (((mm.toUInt32 >>> ((1 : Int32) &&& 31).toUInt32).toInt32) &&& (1 : Int32)))), .val (.int ((v135 * (2 : Int32)) + (((mm.toUInt32 >>> ((2 : Int32) &&& 31).toUInt32).toInt32) &&& (1 : Int32)))), .val (.int ((v138 * (2 : Int32)) + (((mm.toUInt32 >>> ((3 : Int32) &&& 31).toUInt32).toInt32) &&& (1 : Int32)))), .val (.int v148), .val (.int (0 : Int32)), .val (.int v143), .val (.int v149), .unset] [(.int ((v132 * (2 : Int32)) + (((mm.toUInt32 >>> ((1 : Int32) &&& 31).toUInt32).toInt32) &&& (1 : Int32)))), (.int ((v138 * (2 : Int32)) + (((mm.toUInt32 >>> ((3 : Int32) &&& 31).toUInt32).toInt32) &&& (1 : Int32))))])) _
      by_cases hc153 : ((v138 * (2 : Int32)) + (((mm.toUInt32 >>> ((3 : Int32) &&& 31).toUInt32).toInt32) &&& (1 : Int32))) = ((v132 * (2 : Int32)) + (((mm.toUInt32 >>> ((1 : Int32) &&& 31).toUInt32).toInt32) &&& (1 : Int32)))
      · rw [if_pos hc153] at hv155 hv156
        refine XS.icmpNo X126.here hx rfl (hb hby at_498) rfl (teq hc153).2 ?_
        show Steps p.tables e below (T126.setTop (mkF m 501 #[.val (.int p0), .val (.int p1), .val (.int p2), .val (.int r0), .val (.int r1), .val (.int r2), .val (.int r3), .val (.int v10), .val (.int v17), .val (.int v24), .val (.int v31), .val (.int kk), .val (.ref ca), .val (.ref bo), .val (.int mm), .val (.int rot), .val (.int v94), .val (.ref rb), .val (.int ((v129 * (2 : Int32)) + (mm &&& (1 : Int32)))), .val (.int ((v132 * (2 : Int32)) + (((mm.toUInt32 >>> ((1 : Int32) &&& 31).toUInt32).toInt32) &&& (1 : Int32)))), .val (.int ((v135 * (2 : Int32)) + (((mm.toUInt32 >>> ((2 : Int32) &&& 31).toUInt32).toInt32) &&& (1 : Int32)))), .val (.int ((v138 * (2 : Int32)) + (((mm.toUInt32 >>> ((3 : Int32) &&& 31).toUInt32).toInt32) &&& (1 : Int32)))), .val (.int v148), .val (.int (0 : Int32)), .val (.int v143), .val (.int v149), .unset] [])) _
        refine XS.iload X126.here hx rfl (hb hby at_501) rfl ?_
        show Steps p.tables e below (T126.setTop (mkF m 503 #[.val (.int p0), .val (.int p1), .val (.int p2), .val (.int r0), .val (.int r1), .val (.int r2), .val (.int r3), .val (.int v10), .val (.int v17), .val (.int v24), .val (.int v31), .val (.int kk), .val (.ref ca), .val (.ref bo), .val (.int mm), .val (.int rot), .val (.int v94), .val (.ref rb), .val (.int ((v129 * (2 : Int32)) + (mm &&& (1 : Int32)))), .val (.int ((v132 * (2 : Int32)) + (((mm.toUInt32 >>> ((1 : Int32) &&& 31).toUInt32).toInt32) &&& (1 : Int32)))), .val (.int ((v135 * (2 : Int32)) + (((mm.toUInt32 >>> ((2 : Int32) &&& 31).toUInt32).toInt32) &&& (1 : Int32)))), .val (.int ((v138 * (2 : Int32)) + (((mm.toUInt32 >>> ((3 : Int32) &&& 31).toUInt32).toInt32) &&& (1 : Int32)))), .val (.int v148), .val (.int (0 : Int32)), .val (.int v143), .val (.int v149), .unset] [(.int v143)])) _
        refine XS.istore X126.here hx rfl (hb hby at_503) rfl (l' := #[.val (.int p0), .val (.int p1), .val (.int p2), .val (.int r0), .val (.int r1), .val (.int r2), .val (.int r3), .val (.int v10), .val (.int v17), .val (.int v24), .val (.int v31), .val (.int kk), .val (.ref ca), .val (.ref bo), .val (.int mm), .val (.int rot), .val (.int v94), .val (.ref rb), .val (.int ((v129 * (2 : Int32)) + (mm &&& (1 : Int32)))), .val (.int ((v132 * (2 : Int32)) + (((mm.toUInt32 >>> ((1 : Int32) &&& 31).toUInt32).toInt32) &&& (1 : Int32)))), .val (.int ((v135 * (2 : Int32)) + (((mm.toUInt32 >>> ((2 : Int32) &&& 31).toUInt32).toInt32) &&& (1 : Int32)))), .val (.int ((v138 * (2 : Int32)) + (((mm.toUInt32 >>> ((3 : Int32) &&& 31).toUInt32).toInt32) &&& (1 : Int32)))), .val (.int v148), .val (.int (0 : Int32)), .val (.int v143), .val (.int v149), .val (.int v143)]) rfl ?_
        show Steps p.tables e below (T126.setTop (mkF m 505 #[.val (.int p0), .val (.int p1), .val (.int p2), .val (.int r0), .val (.int r1), .val (.int r2), .val (.int r3), .val (.int v10), .val (.int v17), .val (.int v24), .val (.int v31), .val (.int kk), .val (.ref ca), .val (.ref bo), .val (.int mm), .val (.int rot), .val (.int v94), .val (.ref rb), .val (.int ((v129 * (2 : Int32)) + (mm &&& (1 : Int32)))), .val (.int ((v132 * (2 : Int32)) + (((mm.toUInt32 >>> ((1 : Int32) &&& 31).toUInt32).toInt32) &&& (1 : Int32)))), .val (.int ((v135 * (2 : Int32)) + (((mm.toUInt32 >>> ((2 : Int32) &&& 31).toUInt32).toInt32) &&& (1 : Int32)))), .val (.int ((v138 * (2 : Int32)) + (((mm.toUInt32 >>> ((3 : Int32) &&& 31).toUInt32).toInt32) &&& (1 : Int32)))), .val (.int v148), .val (.int (0 : Int32)), .val (.int v143), .val (.int v149), .val (.int v143)] [])) _
        refine XS.goto X126.here hx rfl (pc0 := 505) (pc' := 529) rfl (hb hby at_505) (by decide) (by decide) ?_
        show Steps p.tables e below (T126.setTop (mkF m 529 #[.val (.int p0), .val (.int p1), .val (.int p2), .val (.int r0), .val (.int r1), .val (.int r2), .val (.int r3), .val (.int v10), .val (.int v17), .val (.int v24), .val (.int v31), .val (.int kk), .val (.ref ca), .val (.ref bo), .val (.int mm), .val (.int rot), .val (.int v94), .val (.ref rb), .val (.int ((v129 * (2 : Int32)) + (mm &&& (1 : Int32)))), .val (.int ((v132 * (2 : Int32)) + (((mm.toUInt32 >>> ((1 : Int32) &&& 31).toUInt32).toInt32) &&& (1 : Int32)))), .val (.int ((v135 * (2 : Int32)) + (((mm.toUInt32 >>> ((2 : Int32) &&& 31).toUInt32).toInt32) &&& (1 : Int32)))), .val (.int ((v138 * (2 : Int32)) + (((mm.toUInt32 >>> ((3 : Int32) &&& 31).toUInt32).toInt32) &&& (1 : Int32)))), .val (.int v148), .val (.int (0 : Int32)), .val (.int v143), .val (.int v149), .val (.int v143)] [])) _
        rw [hv155, hv156]
        exact Steps.refl _
      · rw [if_neg hc153] at hv155 hv156
        refine XS.icmpYes X126.here hx rfl (pc0 := 498) (pc' := 508) rfl (hb hby at_498) rfl (feq hc153).2 (by decide) (by decide) ?_
        show Steps p.tables e below (T126.setTop (mkF m 508 #[.val (.int p0), .val (.int p1), .val (.int p2), .val (.int r0), .val (.int r1), .val (.int r2), .val (.int r3), .val (.int v10), .val (.int v17), .val (.int v24), .val (.int v31), .val (.int kk), .val (.ref ca), .val (.ref bo), .val (.int mm), .val (.int rot), .val (.int v94), .val (.ref rb), .val (.int ((v129 * (2 : Int32)) + (mm &&& (1 : Int32)))), .val (.int ((v132 * (2 : Int32)) + (((mm.toUInt32 >>> ((1 : Int32) &&& 31).toUInt32).toInt32) &&& (1 : Int32)))), .val (.int ((v135 * (2 : Int32)) + (((mm.toUInt32 >>> ((2 : Int32) &&& 31).toUInt32).toInt32) &&& (1 : Int32)))), .val (.int ((v138 * (2 : Int32)) + (((mm.toUInt32 >>> ((3 : Int32) &&& 31).toUInt32).toInt32) &&& (1 : Int32)))), .val (.int v148), .val (.int (0 : Int32)), .val (.int v143), .val (.int v149), .unset] [])) _
        refine XS.iload X126.here hx rfl (hb hby at_508) rfl ?_
        show Steps p.tables e below (T126.setTop (mkF m 510 #[.val (.int p0), .val (.int p1), .val (.int p2), .val (.int r0), .val (.int r1), .val (.int r2), .val (.int r3), .val (.int v10), .val (.int v17), .val (.int v24), .val (.int v31), .val (.int kk), .val (.ref ca), .val (.ref bo), .val (.int mm), .val (.int rot), .val (.int v94), .val (.ref rb), .val (.int ((v129 * (2 : Int32)) + (mm &&& (1 : Int32)))), .val (.int ((v132 * (2 : Int32)) + (((mm.toUInt32 >>> ((1 : Int32) &&& 31).toUInt32).toInt32) &&& (1 : Int32)))), .val (.int ((v135 * (2 : Int32)) + (((mm.toUInt32 >>> ((2 : Int32) &&& 31).toUInt32).toInt32) &&& (1 : Int32)))), .val (.int ((v138 * (2 : Int32)) + (((mm.toUInt32 >>> ((3 : Int32) &&& 31).toUInt32).toInt32) &&& (1 : Int32)))), .val (.int v148), .val (.int (0 : Int32)), .val (.int v143), .val (.int v149), .unset] [(.int ((v138 * (2 : Int32)) + (((mm.toUInt32 >>> ((3 : Int32) &&& 31).toUInt32).toInt32) &&& (1 : Int32))))])) _
        refine XS.iload X126.here hx rfl (hb hby at_510) rfl ?_
        show Steps p.tables e below (T126.setTop (mkF m 512 #[.val (.int p0), .val (.int p1), .val (.int p2), .val (.int r0), .val (.int r1), .val (.int r2), .val (.int r3), .val (.int v10), .val (.int v17), .val (.int v24), .val (.int v31), .val (.int kk), .val (.ref ca), .val (.ref bo), .val (.int mm), .val (.int rot), .val (.int v94), .val (.ref rb), .val (.int ((v129 * (2 : Int32)) + (mm &&& (1 : Int32)))), .val (.int ((v132 * (2 : Int32)) + (((mm.toUInt32 >>> ((1 : Int32) &&& 31).toUInt32).toInt32) &&& (1 : Int32)))), .val (.int ((v135 * (2 : Int32)) + (((mm.toUInt32 >>> ((2 : Int32) &&& 31).toUInt32).toInt32) &&& (1 : Int32)))), .val (.int ((v138 * (2 : Int32)) + (((mm.toUInt32 >>> ((3 : Int32) &&& 31).toUInt32).toInt32) &&& (1 : Int32)))), .val (.int v148), .val (.int (0 : Int32)), .val (.int v143), .val (.int v149), .unset] [(.int ((v135 * (2 : Int32)) + (((mm.toUInt32 >>> ((2 : Int32) &&& 31).toUInt32).toInt32) &&& (1 : Int32)))), (.int ((v138 * (2 : Int32)) + (((mm.toUInt32 >>> ((3 : Int32) &&& 31).toUInt32).toInt32) &&& (1 : Int32))))])) _
        by_cases hc154 : ((v138 * (2 : Int32)) + (((mm.toUInt32 >>> ((3 : Int32) &&& 31).toUInt32).toInt32) &&& (1 : Int32))) = ((v135 * (2 : Int32)) + (((mm.toUInt32 >>> ((2 : Int32) &&& 31).toUInt32).toInt32) &&& (1 : Int32)))
        · rw [if_pos hc154] at hv155 hv156
          refine XS.icmpNo X126.here hx rfl (hb hby at_512) rfl (teq hc154).2 ?_
          show Steps p.tables e below (T126.setTop (mkF m 515 #[.val (.int p0), .val (.int p1), .val (.int p2), .val (.int r0), .val (.int r1), .val (.int r2), .val (.int r3), .val (.int v10), .val (.int v17), .val (.int v24), .val (.int v31), .val (.int kk), .val (.ref ca), .val (.ref bo), .val (.int mm), .val (.int rot), .val (.int v94), .val (.ref rb), .val (.int ((v129 * (2 : Int32)) + (mm &&& (1 : Int32)))), .val (.int ((v132 * (2 : Int32)) + (((mm.toUInt32 >>> ((1 : Int32) &&& 31).toUInt32).toInt32) &&& (1 : Int32)))), .val (.int ((v135 * (2 : Int32)) + (((mm.toUInt32 >>> ((2 : Int32) &&& 31).toUInt32).toInt32) &&& (1 : Int32)))), .val (.int ((v138 * (2 : Int32)) + (((mm.toUInt32 >>> ((3 : Int32) &&& 31).toUInt32).toInt32) &&& (1 : Int32)))), .val (.int v148), .val (.int (0 : Int32)), .val (.int v143), .val (.int v149), .unset] [])) _
          refine XS.iload X126.here hx rfl (hb hby at_515) rfl ?_
          show Steps p.tables e below (T126.setTop (mkF m 517 #[.val (.int p0), .val (.int p1), .val (.int p2), .val (.int r0), .val (.int r1), .val (.int r2), .val (.int r3), .val (.int v10), .val (.int v17), .val (.int v24), .val (.int v31), .val (.int kk), .val (.ref ca), .val (.ref bo), .val (.int mm), .val (.int rot), .val (.int v94), .val (.ref rb), .val (.int ((v129 * (2 : Int32)) + (mm &&& (1 : Int32)))), .val (.int ((v132 * (2 : Int32)) + (((mm.toUInt32 >>> ((1 : Int32) &&& 31).toUInt32).toInt32) &&& (1 : Int32)))), .val (.int ((v135 * (2 : Int32)) + (((mm.toUInt32 >>> ((2 : Int32) &&& 31).toUInt32).toInt32) &&& (1 : Int32)))), .val (.int ((v138 * (2 : Int32)) + (((mm.toUInt32 >>> ((3 : Int32) &&& 31).toUInt32).toInt32) &&& (1 : Int32)))), .val (.int v148), .val (.int (0 : Int32)), .val (.int v143), .val (.int v149), .unset] [(.int v149)])) _
          refine XS.istore X126.here hx rfl (hb hby at_517) rfl (l' := #[.val (.int p0), .val (.int p1), .val (.int p2), .val (.int r0), .val (.int r1), .val (.int r2), .val (.int r3), .val (.int v10), .val (.int v17), .val (.int v24), .val (.int v31), .val (.int kk), .val (.ref ca), .val (.ref bo), .val (.int mm), .val (.int rot), .val (.int v94), .val (.ref rb), .val (.int ((v129 * (2 : Int32)) + (mm &&& (1 : Int32)))), .val (.int ((v132 * (2 : Int32)) + (((mm.toUInt32 >>> ((1 : Int32) &&& 31).toUInt32).toInt32) &&& (1 : Int32)))), .val (.int ((v135 * (2 : Int32)) + (((mm.toUInt32 >>> ((2 : Int32) &&& 31).toUInt32).toInt32) &&& (1 : Int32)))), .val (.int ((v138 * (2 : Int32)) + (((mm.toUInt32 >>> ((3 : Int32) &&& 31).toUInt32).toInt32) &&& (1 : Int32)))), .val (.int v148), .val (.int (0 : Int32)), .val (.int v143), .val (.int v149), .val (.int v149)]) rfl ?_
          show Steps p.tables e below (T126.setTop (mkF m 519 #[.val (.int p0), .val (.int p1), .val (.int p2), .val (.int r0), .val (.int r1), .val (.int r2), .val (.int r3), .val (.int v10), .val (.int v17), .val (.int v24), .val (.int v31), .val (.int kk), .val (.ref ca), .val (.ref bo), .val (.int mm), .val (.int rot), .val (.int v94), .val (.ref rb), .val (.int ((v129 * (2 : Int32)) + (mm &&& (1 : Int32)))), .val (.int ((v132 * (2 : Int32)) + (((mm.toUInt32 >>> ((1 : Int32) &&& 31).toUInt32).toInt32) &&& (1 : Int32)))), .val (.int ((v135 * (2 : Int32)) + (((mm.toUInt32 >>> ((2 : Int32) &&& 31).toUInt32).toInt32) &&& (1 : Int32)))), .val (.int ((v138 * (2 : Int32)) + (((mm.toUInt32 >>> ((3 : Int32) &&& 31).toUInt32).toInt32) &&& (1 : Int32)))), .val (.int v148), .val (.int (0 : Int32)), .val (.int v143), .val (.int v149), .val (.int v149)] [])) _
          refine XS.goto X126.here hx rfl (pc0 := 519) (pc' := 529) rfl (hb hby at_519) (by decide) (by decide) ?_
          show Steps p.tables e below (T126.setTop (mkF m 529 #[.val (.int p0), .val (.int p1), .val (.int p2), .val (.int r0), .val (.int r1), .val (.int r2), .val (.int r3), .val (.int v10), .val (.int v17), .val (.int v24), .val (.int v31), .val (.int kk), .val (.ref ca), .val (.ref bo), .val (.int mm), .val (.int rot), .val (.int v94), .val (.ref rb), .val (.int ((v129 * (2 : Int32)) + (mm &&& (1 : Int32)))), .val (.int ((v132 * (2 : Int32)) + (((mm.toUInt32 >>> ((1 : Int32) &&& 31).toUInt32).toInt32) &&& (1 : Int32)))), .val (.int ((v135 * (2 : Int32)) + (((mm.toUInt32 >>> ((2 : Int32) &&& 31).toUInt32).toInt32) &&& (1 : Int32)))), .val (.int ((v138 * (2 : Int32)) + (((mm.toUInt32 >>> ((3 : Int32) &&& 31).toUInt32).toInt32) &&& (1 : Int32)))), .val (.int v148), .val (.int (0 : Int32)), .val (.int v143), .val (.int v149), .val (.int v149)] [])) _
          rw [hv155, hv156]
          exact Steps.refl _
        · rw [if_neg hc154] at hv155 hv156
          refine XS.icmpYes X126.here hx rfl (pc0 := 512) (pc' := 522) rfl (hb hby at_512) rfl (feq hc154).2 (by decide) (by decide) ?_
          show Steps p.tables e below (T126.setTop (mkF m 522 #[.val (.int p0), .val (.int p1), .val (.int p2), .val (.int r0), .val (.int r1), .val (.int r2), .val (.int r3), .val (.int v10), .val (.int v17), .val (.int v24), .val (.int v31), .val (.int kk), .val (.ref ca), .val (.ref bo), .val (.int mm), .val (.int rot), .val (.int v94), .val (.ref rb), .val (.int ((v129 * (2 : Int32)) + (mm &&& (1 : Int32)))), .val (.int ((v132 * (2 : Int32)) + (((mm.toUInt32 >>> ((1 : Int32) &&& 31).toUInt32).toInt32) &&& (1 : Int32)))), .val (.int ((v135 * (2 : Int32)) + (((mm.toUInt32 >>> ((2 : Int32) &&& 31).toUInt32).toInt32) &&& (1 : Int32)))), .val (.int ((v138 * (2 : Int32)) + (((mm.toUInt32 >>> ((3 : Int32) &&& 31).toUInt32).toInt32) &&& (1 : Int32)))), .val (.int v148), .val (.int (0 : Int32)), .val (.int v143), .val (.int v149), .unset] [])) _
          refine XS.iload X126.here hx rfl (hb hby at_522) rfl ?_
          show Steps p.tables e below (T126.setTop (mkF m 524 #[.val (.int p0), .val (.int p1), .val (.int p2), .val (.int r0), .val (.int r1), .val (.int r2), .val (.int r3), .val (.int v10), .val (.int v17), .val (.int v24), .val (.int v31), .val (.int kk), .val (.ref ca), .val (.ref bo), .val (.int mm), .val (.int rot), .val (.int v94), .val (.ref rb), .val (.int ((v129 * (2 : Int32)) + (mm &&& (1 : Int32)))), .val (.int ((v132 * (2 : Int32)) + (((mm.toUInt32 >>> ((1 : Int32) &&& 31).toUInt32).toInt32) &&& (1 : Int32)))), .val (.int ((v135 * (2 : Int32)) + (((mm.toUInt32 >>> ((2 : Int32) &&& 31).toUInt32).toInt32) &&& (1 : Int32)))), .val (.int ((v138 * (2 : Int32)) + (((mm.toUInt32 >>> ((3 : Int32) &&& 31).toUInt32).toInt32) &&& (1 : Int32)))), .val (.int v148), .val (.int (0 : Int32)), .val (.int v143), .val (.int v149), .unset] [(.int v148)])) _
          refine XS.istore X126.here hx rfl (hb hby at_524) rfl (l' := #[.val (.int p0), .val (.int p1), .val (.int p2), .val (.int r0), .val (.int r1), .val (.int r2), .val (.int r3), .val (.int v10), .val (.int v17), .val (.int v24), .val (.int v31), .val (.int kk), .val (.ref ca), .val (.ref bo), .val (.int mm), .val (.int rot), .val (.int v94), .val (.ref rb), .val (.int ((v129 * (2 : Int32)) + (mm &&& (1 : Int32)))), .val (.int ((v132 * (2 : Int32)) + (((mm.toUInt32 >>> ((1 : Int32) &&& 31).toUInt32).toInt32) &&& (1 : Int32)))), .val (.int ((v135 * (2 : Int32)) + (((mm.toUInt32 >>> ((2 : Int32) &&& 31).toUInt32).toInt32) &&& (1 : Int32)))), .val (.int ((v138 * (2 : Int32)) + (((mm.toUInt32 >>> ((3 : Int32) &&& 31).toUInt32).toInt32) &&& (1 : Int32)))), .val (.int v148), .val (.int (0 : Int32)), .val (.int v143), .val (.int v149), .val (.int v148)]) rfl ?_
          show Steps p.tables e below (T126.setTop (mkF m 526 #[.val (.int p0), .val (.int p1), .val (.int p2), .val (.int r0), .val (.int r1), .val (.int r2), .val (.int r3), .val (.int v10), .val (.int v17), .val (.int v24), .val (.int v31), .val (.int kk), .val (.ref ca), .val (.ref bo), .val (.int mm), .val (.int rot), .val (.int v94), .val (.ref rb), .val (.int ((v129 * (2 : Int32)) + (mm &&& (1 : Int32)))), .val (.int ((v132 * (2 : Int32)) + (((mm.toUInt32 >>> ((1 : Int32) &&& 31).toUInt32).toInt32) &&& (1 : Int32)))), .val (.int ((v135 * (2 : Int32)) + (((mm.toUInt32 >>> ((2 : Int32) &&& 31).toUInt32).toInt32) &&& (1 : Int32)))), .val (.int ((v138 * (2 : Int32)) + (((mm.toUInt32 >>> ((3 : Int32) &&& 31).toUInt32).toInt32) &&& (1 : Int32)))), .val (.int v148), .val (.int (0 : Int32)), .val (.int v143), .val (.int v149), .val (.int v148)] [])) _
          refine XS.iinc X126.here hx rfl (hb hby at_526) rfl (l' := #[.val (.int p0), .val (.int p1), .val (.int p2), .val (.int r0), .val (.int r1), .val (.int r2), .val (.int r3), .val (.int v10), .val (.int v17), .val (.int v24), .val (.int v31), .val (.int kk), .val (.ref ca), .val (.ref bo), .val (.int mm), .val (.int rot), .val (.int v94), .val (.ref rb), .val (.int ((v129 * (2 : Int32)) + (mm &&& (1 : Int32)))), .val (.int ((v132 * (2 : Int32)) + (((mm.toUInt32 >>> ((1 : Int32) &&& 31).toUInt32).toInt32) &&& (1 : Int32)))), .val (.int ((v135 * (2 : Int32)) + (((mm.toUInt32 >>> ((2 : Int32) &&& 31).toUInt32).toInt32) &&& (1 : Int32)))), .val (.int ((v138 * (2 : Int32)) + (((mm.toUInt32 >>> ((3 : Int32) &&& 31).toUInt32).toInt32) &&& (1 : Int32)))), .val (.int (v148 + (1 : Int32))), .val (.int (0 : Int32)), .val (.int v143), .val (.int v149), .val (.int v148)]) rfl ?_
          show Steps p.tables e below (T126.setTop (mkF m 529 #[.val (.int p0), .val (.int p1), .val (.int p2), .val (.int r0), .val (.int r1), .val (.int r2), .val (.int r3), .val (.int v10), .val (.int v17), .val (.int v24), .val (.int v31), .val (.int kk), .val (.ref ca), .val (.ref bo), .val (.int mm), .val (.int rot), .val (.int v94), .val (.ref rb), .val (.int ((v129 * (2 : Int32)) + (mm &&& (1 : Int32)))), .val (.int ((v132 * (2 : Int32)) + (((mm.toUInt32 >>> ((1 : Int32) &&& 31).toUInt32).toInt32) &&& (1 : Int32)))), .val (.int ((v135 * (2 : Int32)) + (((mm.toUInt32 >>> ((2 : Int32) &&& 31).toUInt32).toInt32) &&& (1 : Int32)))), .val (.int ((v138 * (2 : Int32)) + (((mm.toUInt32 >>> ((3 : Int32) &&& 31).toUInt32).toInt32) &&& (1 : Int32)))), .val (.int (v148 + (1 : Int32))), .val (.int (0 : Int32)), .val (.int v143), .val (.int v149), .val (.int v148)] [])) _
          rw [hv155, hv156]
          exact Steps.refl _
  have q158 : Steps p.tables e below (s₁.setTop (entryFrame m #[(.int p0), (.int p1), (.int p2)] maxLocals)) (T126.setTop (mkF m 533 #[.val (.int p0), .val (.int p1), .val (.int p2), .val (.int r0), .val (.int r1), .val (.int r2), .val (.int r3), .val (.int v10), .val (.int v17), .val (.int v24), .val (.int v31), .val (.int kk), .val (.ref ca), .val (.ref bo), .val (.int mm), .val (.int rot), .val (.int v94), .val (.ref rb), .val (.int ((v129 * (2 : Int32)) + (mm &&& (1 : Int32)))), .val (.int ((v132 * (2 : Int32)) + (((mm.toUInt32 >>> ((1 : Int32) &&& 31).toUInt32).toInt32) &&& (1 : Int32)))), .val (.int ((v135 * (2 : Int32)) + (((mm.toUInt32 >>> ((2 : Int32) &&& 31).toUInt32).toInt32) &&& (1 : Int32)))), .val (.int ((v138 * (2 : Int32)) + (((mm.toUInt32 >>> ((3 : Int32) &&& 31).toUInt32).toInt32) &&& (1 : Int32)))), .val (.int v155), .val (.int (0 : Int32)), .val (.int v143), .val (.int v149), .val (.int v156)] [(.int (4 : Int32)), (.int (Own.ln r125))])) := q157.trans (by
      show Steps p.tables e below (T126.setTop (mkF m 529 #[.val (.int p0), .val (.int p1), .val (.int p2), .val (.int r0), .val (.int r1), .val (.int r2), .val (.int r3), .val (.int v10), .val (.int v17), .val (.int v24), .val (.int v31), .val (.int kk), .val (.ref ca), .val (.ref bo), .val (.int mm), .val (.int rot), .val (.int v94), .val (.ref rb), .val (.int ((v129 * (2 : Int32)) + (mm &&& (1 : Int32)))), .val (.int ((v132 * (2 : Int32)) + (((mm.toUInt32 >>> ((1 : Int32) &&& 31).toUInt32).toInt32) &&& (1 : Int32)))), .val (.int ((v135 * (2 : Int32)) + (((mm.toUInt32 >>> ((2 : Int32) &&& 31).toUInt32).toInt32) &&& (1 : Int32)))), .val (.int ((v138 * (2 : Int32)) + (((mm.toUInt32 >>> ((3 : Int32) &&& 31).toUInt32).toInt32) &&& (1 : Int32)))), .val (.int v155), .val (.int (0 : Int32)), .val (.int v143), .val (.int v149), .val (.int v156)] [])) _
      refine XS.aload X126.here hx rfl (hb hby at_529) rfl rfl ?_
      show Steps p.tables e below (T126.setTop (mkF m 531 #[.val (.int p0), .val (.int p1), .val (.int p2), .val (.int r0), .val (.int r1), .val (.int r2), .val (.int r3), .val (.int v10), .val (.int v17), .val (.int v24), .val (.int v31), .val (.int kk), .val (.ref ca), .val (.ref bo), .val (.int mm), .val (.int rot), .val (.int v94), .val (.ref rb), .val (.int ((v129 * (2 : Int32)) + (mm &&& (1 : Int32)))), .val (.int ((v132 * (2 : Int32)) + (((mm.toUInt32 >>> ((1 : Int32) &&& 31).toUInt32).toInt32) &&& (1 : Int32)))), .val (.int ((v135 * (2 : Int32)) + (((mm.toUInt32 >>> ((2 : Int32) &&& 31).toUInt32).toInt32) &&& (1 : Int32)))), .val (.int ((v138 * (2 : Int32)) + (((mm.toUInt32 >>> ((3 : Int32) &&& 31).toUInt32).toInt32) &&& (1 : Int32)))), .val (.int v155), .val (.int (0 : Int32)), .val (.int v143), .val (.int v149), .val (.int v156)] [(.ref rb)])) _
      refine Own.lnV X126 hx hZ rfl J126 (z := Own.ln r125) (by rw [List.length_map]; rfl) (g := (mkF m 531 #[.val (.int p0), .val (.int p1), .val (.int p2), .val (.int r0), .val (.int r1), .val (.int r2), .val (.int r3), .val (.int v10), .val (.int v17), .val (.int v24), .val (.int v31), .val (.int kk), .val (.ref ca), .val (.ref bo), .val (.int mm), .val (.int rot), .val (.int v94), .val (.ref rb), .val (.int ((v129 * (2 : Int32)) + (mm &&& (1 : Int32)))), .val (.int ((v132 * (2 : Int32)) + (((mm.toUInt32 >>> ((1 : Int32) &&& 31).toUInt32).toInt32) &&& (1 : Int32)))), .val (.int ((v135 * (2 : Int32)) + (((mm.toUInt32 >>> ((2 : Int32) &&& 31).toUInt32).toInt32) &&& (1 : Int32)))), .val (.int ((v138 * (2 : Int32)) + (((mm.toUInt32 >>> ((3 : Int32) &&& 31).toUInt32).toInt32) &&& (1 : Int32)))), .val (.int v155), .val (.int (0 : Int32)), .val (.int v143), .val (.int v149), .val (.int v156)] [(.ref rb)])) rfl rfl (hb hby at_531) _ ?_
      show Steps p.tables e below (T126.setTop (mkF m 532 #[.val (.int p0), .val (.int p1), .val (.int p2), .val (.int r0), .val (.int r1), .val (.int r2), .val (.int r3), .val (.int v10), .val (.int v17), .val (.int v24), .val (.int v31), .val (.int kk), .val (.ref ca), .val (.ref bo), .val (.int mm), .val (.int rot), .val (.int v94), .val (.ref rb), .val (.int ((v129 * (2 : Int32)) + (mm &&& (1 : Int32)))), .val (.int ((v132 * (2 : Int32)) + (((mm.toUInt32 >>> ((1 : Int32) &&& 31).toUInt32).toInt32) &&& (1 : Int32)))), .val (.int ((v135 * (2 : Int32)) + (((mm.toUInt32 >>> ((2 : Int32) &&& 31).toUInt32).toInt32) &&& (1 : Int32)))), .val (.int ((v138 * (2 : Int32)) + (((mm.toUInt32 >>> ((3 : Int32) &&& 31).toUInt32).toInt32) &&& (1 : Int32)))), .val (.int v155), .val (.int (0 : Int32)), .val (.int v143), .val (.int v149), .val (.int v156)] [(.int (Own.ln r125))])) _
      refine XS.iconst X126.here hx rfl (hb hby at_532) ?_
      show Steps p.tables e below (T126.setTop (mkF m 533 #[.val (.int p0), .val (.int p1), .val (.int p2), .val (.int r0), .val (.int r1), .val (.int r2), .val (.int r3), .val (.int v10), .val (.int v17), .val (.int v24), .val (.int v31), .val (.int kk), .val (.ref ca), .val (.ref bo), .val (.int mm), .val (.int rot), .val (.int v94), .val (.ref rb), .val (.int ((v129 * (2 : Int32)) + (mm &&& (1 : Int32)))), .val (.int ((v132 * (2 : Int32)) + (((mm.toUInt32 >>> ((1 : Int32) &&& 31).toUInt32).toInt32) &&& (1 : Int32)))), .val (.int ((v135 * (2 : Int32)) + (((mm.toUInt32 >>> ((2 : Int32) &&& 31).toUInt32).toInt32) &&& (1 : Int32)))), .val (.int ((v138 * (2 : Int32)) + (((mm.toUInt32 >>> ((3 : Int32) &&& 31).toUInt32).toInt32) &&& (1 : Int32)))), .val (.int v155), .val (.int (0 : Int32)), .val (.int v143), .val (.int v149), .val (.int v156)] [(.int (4 : Int32)), (.int (Own.ln r125))])) _
      exact Steps.refl _)
  by_cases hc159 : (Own.ln r125) = (4 : Int32)
  · rw [if_pos hc159] at hM
    have q160 : Steps p.tables e below (s₁.setTop (entryFrame m #[(.int p0), (.int p1), (.int p2)] maxLocals)) (T126.setTop (mkF m 538 #[.val (.int p0), .val (.int p1), .val (.int p2), .val (.int r0), .val (.int r1), .val (.int r2), .val (.int r3), .val (.int v10), .val (.int v17), .val (.int v24), .val (.int v31), .val (.int kk), .val (.ref ca), .val (.ref bo), .val (.int mm), .val (.int rot), .val (.int v94), .val (.ref rb), .val (.int ((v129 * (2 : Int32)) + (mm &&& (1 : Int32)))), .val (.int ((v132 * (2 : Int32)) + (((mm.toUInt32 >>> ((1 : Int32) &&& 31).toUInt32).toInt32) &&& (1 : Int32)))), .val (.int ((v135 * (2 : Int32)) + (((mm.toUInt32 >>> ((2 : Int32) &&& 31).toUInt32).toInt32) &&& (1 : Int32)))), .val (.int ((v138 * (2 : Int32)) + (((mm.toUInt32 >>> ((3 : Int32) &&& 31).toUInt32).toInt32) &&& (1 : Int32)))), .val (.int v155), .val (.int (0 : Int32)), .val (.int v143), .val (.int v149), .val (.int v156)] [])) := q158.trans (by
        show Steps p.tables e below (T126.setTop (mkF m 533 #[.val (.int p0), .val (.int p1), .val (.int p2), .val (.int r0), .val (.int r1), .val (.int r2), .val (.int r3), .val (.int v10), .val (.int v17), .val (.int v24), .val (.int v31), .val (.int kk), .val (.ref ca), .val (.ref bo), .val (.int mm), .val (.int rot), .val (.int v94), .val (.ref rb), .val (.int ((v129 * (2 : Int32)) + (mm &&& (1 : Int32)))), .val (.int ((v132 * (2 : Int32)) + (((mm.toUInt32 >>> ((1 : Int32) &&& 31).toUInt32).toInt32) &&& (1 : Int32)))), .val (.int ((v135 * (2 : Int32)) + (((mm.toUInt32 >>> ((2 : Int32) &&& 31).toUInt32).toInt32) &&& (1 : Int32)))), .val (.int ((v138 * (2 : Int32)) + (((mm.toUInt32 >>> ((3 : Int32) &&& 31).toUInt32).toInt32) &&& (1 : Int32)))), .val (.int v155), .val (.int (0 : Int32)), .val (.int v143), .val (.int v149), .val (.int v156)] [(.int (4 : Int32)), (.int (Own.ln r125))])) _
        refine XS.icmpYes X126.here hx rfl (pc0 := 533) (pc' := 538) rfl (hb hby at_533) rfl (teq hc159).1 (by decide) (by decide) ?_
        show Steps p.tables e below (T126.setTop (mkF m 538 #[.val (.int p0), .val (.int p1), .val (.int p2), .val (.int r0), .val (.int r1), .val (.int r2), .val (.int r3), .val (.int v10), .val (.int v17), .val (.int v24), .val (.int v31), .val (.int kk), .val (.ref ca), .val (.ref bo), .val (.int mm), .val (.int rot), .val (.int v94), .val (.ref rb), .val (.int ((v129 * (2 : Int32)) + (mm &&& (1 : Int32)))), .val (.int ((v132 * (2 : Int32)) + (((mm.toUInt32 >>> ((1 : Int32) &&& 31).toUInt32).toInt32) &&& (1 : Int32)))), .val (.int ((v135 * (2 : Int32)) + (((mm.toUInt32 >>> ((2 : Int32) &&& 31).toUInt32).toInt32) &&& (1 : Int32)))), .val (.int ((v138 * (2 : Int32)) + (((mm.toUInt32 >>> ((3 : Int32) &&& 31).toUInt32).toInt32) &&& (1 : Int32)))), .val (.int v155), .val (.int (0 : Int32)), .val (.int v143), .val (.int v149), .val (.int v156)] [])) _
        exact Steps.refl _)
    have q161 : Steps p.tables e below (s₁.setTop (entryFrame m #[(.int p0), (.int p1), (.int p2)] maxLocals)) (T126.setTop (mkF m 541 #[.val (.int p0), .val (.int p1), .val (.int p2), .val (.int r0), .val (.int r1), .val (.int r2), .val (.int r3), .val (.int v10), .val (.int v17), .val (.int v24), .val (.int v31), .val (.int kk), .val (.ref ca), .val (.ref bo), .val (.int mm), .val (.int rot), .val (.int v94), .val (.ref rb), .val (.int ((v129 * (2 : Int32)) + (mm &&& (1 : Int32)))), .val (.int ((v132 * (2 : Int32)) + (((mm.toUInt32 >>> ((1 : Int32) &&& 31).toUInt32).toInt32) &&& (1 : Int32)))), .val (.int ((v135 * (2 : Int32)) + (((mm.toUInt32 >>> ((2 : Int32) &&& 31).toUInt32).toInt32) &&& (1 : Int32)))), .val (.int ((v138 * (2 : Int32)) + (((mm.toUInt32 >>> ((3 : Int32) &&& 31).toUInt32).toInt32) &&& (1 : Int32)))), .val (.int v155), .val (.int (0 : Int32)), .val (.int v143), .val (.int v149), .val (.int v156)] [(.int (0 : Int32)), (.ref rb)])) := q160.trans (by
        show Steps p.tables e below (T126.setTop (mkF m 538 #[.val (.int p0), .val (.int p1), .val (.int p2), .val (.int r0), .val (.int r1), .val (.int r2), .val (.int r3), .val (.int v10), .val (.int v17), .val (.int v24), .val (.int v31), .val (.int kk), .val (.ref ca), .val (.ref bo), .val (.int mm), .val (.int rot), .val (.int v94), .val (.ref rb), .val (.int ((v129 * (2 : Int32)) + (mm &&& (1 : Int32)))), .val (.int ((v132 * (2 : Int32)) + (((mm.toUInt32 >>> ((1 : Int32) &&& 31).toUInt32).toInt32) &&& (1 : Int32)))), .val (.int ((v135 * (2 : Int32)) + (((mm.toUInt32 >>> ((2 : Int32) &&& 31).toUInt32).toInt32) &&& (1 : Int32)))), .val (.int ((v138 * (2 : Int32)) + (((mm.toUInt32 >>> ((3 : Int32) &&& 31).toUInt32).toInt32) &&& (1 : Int32)))), .val (.int v155), .val (.int (0 : Int32)), .val (.int v143), .val (.int v149), .val (.int v156)] [])) _
        refine XS.aload X126.here hx rfl (hb hby at_538) rfl rfl ?_
        show Steps p.tables e below (T126.setTop (mkF m 540 #[.val (.int p0), .val (.int p1), .val (.int p2), .val (.int r0), .val (.int r1), .val (.int r2), .val (.int r3), .val (.int v10), .val (.int v17), .val (.int v24), .val (.int v31), .val (.int kk), .val (.ref ca), .val (.ref bo), .val (.int mm), .val (.int rot), .val (.int v94), .val (.ref rb), .val (.int ((v129 * (2 : Int32)) + (mm &&& (1 : Int32)))), .val (.int ((v132 * (2 : Int32)) + (((mm.toUInt32 >>> ((1 : Int32) &&& 31).toUInt32).toInt32) &&& (1 : Int32)))), .val (.int ((v135 * (2 : Int32)) + (((mm.toUInt32 >>> ((2 : Int32) &&& 31).toUInt32).toInt32) &&& (1 : Int32)))), .val (.int ((v138 * (2 : Int32)) + (((mm.toUInt32 >>> ((3 : Int32) &&& 31).toUInt32).toInt32) &&& (1 : Int32)))), .val (.int v155), .val (.int (0 : Int32)), .val (.int v143), .val (.int v149), .val (.int v156)] [(.ref rb)])) _
        refine XS.iconst X126.here hx rfl (hb hby at_540) ?_
        show Steps p.tables e below (T126.setTop (mkF m 541 #[.val (.int p0), .val (.int p1), .val (.int p2), .val (.int r0), .val (.int r1), .val (.int r2), .val (.int r3), .val (.int v10), .val (.int v17), .val (.int v24), .val (.int v31), .val (.int kk), .val (.ref ca), .val (.ref bo), .val (.int mm), .val (.int rot), .val (.int v94), .val (.ref rb), .val (.int ((v129 * (2 : Int32)) + (mm &&& (1 : Int32)))), .val (.int ((v132 * (2 : Int32)) + (((mm.toUInt32 >>> ((1 : Int32) &&& 31).toUInt32).toInt32) &&& (1 : Int32)))), .val (.int ((v135 * (2 : Int32)) + (((mm.toUInt32 >>> ((2 : Int32) &&& 31).toUInt32).toInt32) &&& (1 : Int32)))), .val (.int ((v138 * (2 : Int32)) + (((mm.toUInt32 >>> ((3 : Int32) &&& 31).toUInt32).toInt32) &&& (1 : Int32)))), .val (.int v155), .val (.int (0 : Int32)), .val (.int v143), .val (.int v149), .val (.int v156)] [(.int (0 : Int32)), (.ref rb)])) _
        exact Steps.refl _)
    obtain ⟨v162, hv162, hM⟩ := Option.bind_eq_some_iff.mp hM
    have q163 : Steps p.tables e below (s₁.setTop (entryFrame m #[(.int p0), (.int p1), (.int p2)] maxLocals)) (T126.setTop (mkF m 542 #[.val (.int p0), .val (.int p1), .val (.int p2), .val (.int r0), .val (.int r1), .val (.int r2), .val (.int r3), .val (.int v10), .val (.int v17), .val (.int v24), .val (.int v31), .val (.int kk), .val (.ref ca), .val (.ref bo), .val (.int mm), .val (.int rot), .val (.int v94), .val (.ref rb), .val (.int ((v129 * (2 : Int32)) + (mm &&& (1 : Int32)))), .val (.int ((v132 * (2 : Int32)) + (((mm.toUInt32 >>> ((1 : Int32) &&& 31).toUInt32).toInt32) &&& (1 : Int32)))), .val (.int ((v135 * (2 : Int32)) + (((mm.toUInt32 >>> ((2 : Int32) &&& 31).toUInt32).toInt32) &&& (1 : Int32)))), .val (.int ((v138 * (2 : Int32)) + (((mm.toUInt32 >>> ((3 : Int32) &&& 31).toUInt32).toInt32) &&& (1 : Int32)))), .val (.int v155), .val (.int (0 : Int32)), .val (.int v143), .val (.int v149), .val (.int v156)] [(.int v162)])) := q161.trans (Own.ldO X126 hx hZ rfl J126 hv162 (g := (mkF m 541 #[.val (.int p0), .val (.int p1), .val (.int p2), .val (.int r0), .val (.int r1), .val (.int r2), .val (.int r3), .val (.int v10), .val (.int v17), .val (.int v24), .val (.int v31), .val (.int kk), .val (.ref ca), .val (.ref bo), .val (.int mm), .val (.int rot), .val (.int v94), .val (.ref rb), .val (.int ((v129 * (2 : Int32)) + (mm &&& (1 : Int32)))), .val (.int ((v132 * (2 : Int32)) + (((mm.toUInt32 >>> ((1 : Int32) &&& 31).toUInt32).toInt32) &&& (1 : Int32)))), .val (.int ((v135 * (2 : Int32)) + (((mm.toUInt32 >>> ((2 : Int32) &&& 31).toUInt32).toInt32) &&& (1 : Int32)))), .val (.int ((v138 * (2 : Int32)) + (((mm.toUInt32 >>> ((3 : Int32) &&& 31).toUInt32).toInt32) &&& (1 : Int32)))), .val (.int v155), .val (.int (0 : Int32)), .val (.int v143), .val (.int v149), .val (.int v156)] [(.int (0 : Int32)), (.ref rb)])) rfl rfl (hb hby at_541) _ (Steps.refl _))
    have q164 : Steps p.tables e below (s₁.setTop (entryFrame m #[(.int p0), (.int p1), (.int p2)] maxLocals)) (T126.setTop (mkF m 544 #[.val (.int p0), .val (.int p1), .val (.int p2), .val (.int r0), .val (.int r1), .val (.int r2), .val (.int r3), .val (.int v10), .val (.int v17), .val (.int v24), .val (.int v31), .val (.int kk), .val (.ref ca), .val (.ref bo), .val (.int mm), .val (.int rot), .val (.int v94), .val (.ref rb), .val (.int ((v129 * (2 : Int32)) + (mm &&& (1 : Int32)))), .val (.int ((v132 * (2 : Int32)) + (((mm.toUInt32 >>> ((1 : Int32) &&& 31).toUInt32).toInt32) &&& (1 : Int32)))), .val (.int ((v135 * (2 : Int32)) + (((mm.toUInt32 >>> ((2 : Int32) &&& 31).toUInt32).toInt32) &&& (1 : Int32)))), .val (.int ((v138 * (2 : Int32)) + (((mm.toUInt32 >>> ((3 : Int32) &&& 31).toUInt32).toInt32) &&& (1 : Int32)))), .val (.int v155), .val (.int (0 : Int32)), .val (.int v143), .val (.int v149), .val (.int v156)] [(.int (0 : Int32)), (.int v162)])) := q163.trans (by
        show Steps p.tables e below (T126.setTop (mkF m 542 #[.val (.int p0), .val (.int p1), .val (.int p2), .val (.int r0), .val (.int r1), .val (.int r2), .val (.int r3), .val (.int v10), .val (.int v17), .val (.int v24), .val (.int v31), .val (.int kk), .val (.ref ca), .val (.ref bo), .val (.int mm), .val (.int rot), .val (.int v94), .val (.ref rb), .val (.int ((v129 * (2 : Int32)) + (mm &&& (1 : Int32)))), .val (.int ((v132 * (2 : Int32)) + (((mm.toUInt32 >>> ((1 : Int32) &&& 31).toUInt32).toInt32) &&& (1 : Int32)))), .val (.int ((v135 * (2 : Int32)) + (((mm.toUInt32 >>> ((2 : Int32) &&& 31).toUInt32).toInt32) &&& (1 : Int32)))), .val (.int ((v138 * (2 : Int32)) + (((mm.toUInt32 >>> ((3 : Int32) &&& 31).toUInt32).toInt32) &&& (1 : Int32)))), .val (.int v155), .val (.int (0 : Int32)), .val (.int v143), .val (.int v149), .val (.int v156)] [(.int v162)])) _
        refine XS.iload X126.here hx rfl (hb hby at_542) rfl ?_
        show Steps p.tables e below (T126.setTop (mkF m 544 #[.val (.int p0), .val (.int p1), .val (.int p2), .val (.int r0), .val (.int r1), .val (.int r2), .val (.int r3), .val (.int v10), .val (.int v17), .val (.int v24), .val (.int v31), .val (.int kk), .val (.ref ca), .val (.ref bo), .val (.int mm), .val (.int rot), .val (.int v94), .val (.ref rb), .val (.int ((v129 * (2 : Int32)) + (mm &&& (1 : Int32)))), .val (.int ((v132 * (2 : Int32)) + (((mm.toUInt32 >>> ((1 : Int32) &&& 31).toUInt32).toInt32) &&& (1 : Int32)))), .val (.int ((v135 * (2 : Int32)) + (((mm.toUInt32 >>> ((2 : Int32) &&& 31).toUInt32).toInt32) &&& (1 : Int32)))), .val (.int ((v138 * (2 : Int32)) + (((mm.toUInt32 >>> ((3 : Int32) &&& 31).toUInt32).toInt32) &&& (1 : Int32)))), .val (.int v155), .val (.int (0 : Int32)), .val (.int v143), .val (.int v149), .val (.int v156)] [(.int (0 : Int32)), (.int v162)])) _
        exact Steps.refl _)
    by_cases hc165 : v162 = (0 : Int32)
    · rw [if_pos hc165] at hM
      have q166 : Steps p.tables e below (s₁.setTop (entryFrame m #[(.int p0), (.int p1), (.int p2)] maxLocals)) (T126.setTop (mkF m 547 #[.val (.int p0), .val (.int p1), .val (.int p2), .val (.int r0), .val (.int r1), .val (.int r2), .val (.int r3), .val (.int v10), .val (.int v17), .val (.int v24), .val (.int v31), .val (.int kk), .val (.ref ca), .val (.ref bo), .val (.int mm), .val (.int rot), .val (.int v94), .val (.ref rb), .val (.int ((v129 * (2 : Int32)) + (mm &&& (1 : Int32)))), .val (.int ((v132 * (2 : Int32)) + (((mm.toUInt32 >>> ((1 : Int32) &&& 31).toUInt32).toInt32) &&& (1 : Int32)))), .val (.int ((v135 * (2 : Int32)) + (((mm.toUInt32 >>> ((2 : Int32) &&& 31).toUInt32).toInt32) &&& (1 : Int32)))), .val (.int ((v138 * (2 : Int32)) + (((mm.toUInt32 >>> ((3 : Int32) &&& 31).toUInt32).toInt32) &&& (1 : Int32)))), .val (.int v155), .val (.int (0 : Int32)), .val (.int v143), .val (.int v149), .val (.int v156)] [])) := q164.trans (by
          show Steps p.tables e below (T126.setTop (mkF m 544 #[.val (.int p0), .val (.int p1), .val (.int p2), .val (.int r0), .val (.int r1), .val (.int r2), .val (.int r3), .val (.int v10), .val (.int v17), .val (.int v24), .val (.int v31), .val (.int kk), .val (.ref ca), .val (.ref bo), .val (.int mm), .val (.int rot), .val (.int v94), .val (.ref rb), .val (.int ((v129 * (2 : Int32)) + (mm &&& (1 : Int32)))), .val (.int ((v132 * (2 : Int32)) + (((mm.toUInt32 >>> ((1 : Int32) &&& 31).toUInt32).toInt32) &&& (1 : Int32)))), .val (.int ((v135 * (2 : Int32)) + (((mm.toUInt32 >>> ((2 : Int32) &&& 31).toUInt32).toInt32) &&& (1 : Int32)))), .val (.int ((v138 * (2 : Int32)) + (((mm.toUInt32 >>> ((3 : Int32) &&& 31).toUInt32).toInt32) &&& (1 : Int32)))), .val (.int v155), .val (.int (0 : Int32)), .val (.int v143), .val (.int v149), .val (.int v156)] [(.int (0 : Int32)), (.int v162)])) _
          refine XS.icmpNo X126.here hx rfl (hb hby at_544) rfl (teq hc165).2 ?_
          show Steps p.tables e below (T126.setTop (mkF m 547 #[.val (.int p0), .val (.int p1), .val (.int p2), .val (.int r0), .val (.int r1), .val (.int r2), .val (.int r3), .val (.int v10), .val (.int v17), .val (.int v24), .val (.int v31), .val (.int kk), .val (.ref ca), .val (.ref bo), .val (.int mm), .val (.int rot), .val (.int v94), .val (.ref rb), .val (.int ((v129 * (2 : Int32)) + (mm &&& (1 : Int32)))), .val (.int ((v132 * (2 : Int32)) + (((mm.toUInt32 >>> ((1 : Int32) &&& 31).toUInt32).toInt32) &&& (1 : Int32)))), .val (.int ((v135 * (2 : Int32)) + (((mm.toUInt32 >>> ((2 : Int32) &&& 31).toUInt32).toInt32) &&& (1 : Int32)))), .val (.int ((v138 * (2 : Int32)) + (((mm.toUInt32 >>> ((3 : Int32) &&& 31).toUInt32).toInt32) &&& (1 : Int32)))), .val (.int v155), .val (.int (0 : Int32)), .val (.int v143), .val (.int v149), .val (.int v156)] [])) _
          exact Steps.refl _)
      have q167 : Steps p.tables e below (s₁.setTop (entryFrame m #[(.int p0), (.int p1), (.int p2)] maxLocals)) (T126.setTop (mkF m 550 #[.val (.int p0), .val (.int p1), .val (.int p2), .val (.int r0), .val (.int r1), .val (.int r2), .val (.int r3), .val (.int v10), .val (.int v17), .val (.int v24), .val (.int v31), .val (.int kk), .val (.ref ca), .val (.ref bo), .val (.int mm), .val (.int rot), .val (.int v94), .val (.ref rb), .val (.int ((v129 * (2 : Int32)) + (mm &&& (1 : Int32)))), .val (.int ((v132 * (2 : Int32)) + (((mm.toUInt32 >>> ((1 : Int32) &&& 31).toUInt32).toInt32) &&& (1 : Int32)))), .val (.int ((v135 * (2 : Int32)) + (((mm.toUInt32 >>> ((2 : Int32) &&& 31).toUInt32).toInt32) &&& (1 : Int32)))), .val (.int ((v138 * (2 : Int32)) + (((mm.toUInt32 >>> ((3 : Int32) &&& 31).toUInt32).toInt32) &&& (1 : Int32)))), .val (.int v155), .val (.int (0 : Int32)), .val (.int v143), .val (.int v149), .val (.int v156)] [(.int (1 : Int32)), (.ref rb)])) := q166.trans (by
          show Steps p.tables e below (T126.setTop (mkF m 547 #[.val (.int p0), .val (.int p1), .val (.int p2), .val (.int r0), .val (.int r1), .val (.int r2), .val (.int r3), .val (.int v10), .val (.int v17), .val (.int v24), .val (.int v31), .val (.int kk), .val (.ref ca), .val (.ref bo), .val (.int mm), .val (.int rot), .val (.int v94), .val (.ref rb), .val (.int ((v129 * (2 : Int32)) + (mm &&& (1 : Int32)))), .val (.int ((v132 * (2 : Int32)) + (((mm.toUInt32 >>> ((1 : Int32) &&& 31).toUInt32).toInt32) &&& (1 : Int32)))), .val (.int ((v135 * (2 : Int32)) + (((mm.toUInt32 >>> ((2 : Int32) &&& 31).toUInt32).toInt32) &&& (1 : Int32)))), .val (.int ((v138 * (2 : Int32)) + (((mm.toUInt32 >>> ((3 : Int32) &&& 31).toUInt32).toInt32) &&& (1 : Int32)))), .val (.int v155), .val (.int (0 : Int32)), .val (.int v143), .val (.int v149), .val (.int v156)] [])) _
          refine XS.aload X126.here hx rfl (hb hby at_547) rfl rfl ?_
          show Steps p.tables e below (T126.setTop (mkF m 549 #[.val (.int p0), .val (.int p1), .val (.int p2), .val (.int r0), .val (.int r1), .val (.int r2), .val (.int r3), .val (.int v10), .val (.int v17), .val (.int v24), .val (.int v31), .val (.int kk), .val (.ref ca), .val (.ref bo), .val (.int mm), .val (.int rot), .val (.int v94), .val (.ref rb), .val (.int ((v129 * (2 : Int32)) + (mm &&& (1 : Int32)))), .val (.int ((v132 * (2 : Int32)) + (((mm.toUInt32 >>> ((1 : Int32) &&& 31).toUInt32).toInt32) &&& (1 : Int32)))), .val (.int ((v135 * (2 : Int32)) + (((mm.toUInt32 >>> ((2 : Int32) &&& 31).toUInt32).toInt32) &&& (1 : Int32)))), .val (.int ((v138 * (2 : Int32)) + (((mm.toUInt32 >>> ((3 : Int32) &&& 31).toUInt32).toInt32) &&& (1 : Int32)))), .val (.int v155), .val (.int (0 : Int32)), .val (.int v143), .val (.int v149), .val (.int v156)] [(.ref rb)])) _
          refine XS.iconst X126.here hx rfl (hb hby at_549) ?_
          show Steps p.tables e below (T126.setTop (mkF m 550 #[.val (.int p0), .val (.int p1), .val (.int p2), .val (.int r0), .val (.int r1), .val (.int r2), .val (.int r3), .val (.int v10), .val (.int v17), .val (.int v24), .val (.int v31), .val (.int kk), .val (.ref ca), .val (.ref bo), .val (.int mm), .val (.int rot), .val (.int v94), .val (.ref rb), .val (.int ((v129 * (2 : Int32)) + (mm &&& (1 : Int32)))), .val (.int ((v132 * (2 : Int32)) + (((mm.toUInt32 >>> ((1 : Int32) &&& 31).toUInt32).toInt32) &&& (1 : Int32)))), .val (.int ((v135 * (2 : Int32)) + (((mm.toUInt32 >>> ((2 : Int32) &&& 31).toUInt32).toInt32) &&& (1 : Int32)))), .val (.int ((v138 * (2 : Int32)) + (((mm.toUInt32 >>> ((3 : Int32) &&& 31).toUInt32).toInt32) &&& (1 : Int32)))), .val (.int v155), .val (.int (0 : Int32)), .val (.int v143), .val (.int v149), .val (.int v156)] [(.int (1 : Int32)), (.ref rb)])) _
          exact Steps.refl _)
      obtain ⟨v168, hv168, hM⟩ := Option.bind_eq_some_iff.mp hM
      have q169 : Steps p.tables e below (s₁.setTop (entryFrame m #[(.int p0), (.int p1), (.int p2)] maxLocals)) (T126.setTop (mkF m 551 #[.val (.int p0), .val (.int p1), .val (.int p2), .val (.int r0), .val (.int r1), .val (.int r2), .val (.int r3), .val (.int v10), .val (.int v17), .val (.int v24), .val (.int v31), .val (.int kk), .val (.ref ca), .val (.ref bo), .val (.int mm), .val (.int rot), .val (.int v94), .val (.ref rb), .val (.int ((v129 * (2 : Int32)) + (mm &&& (1 : Int32)))), .val (.int ((v132 * (2 : Int32)) + (((mm.toUInt32 >>> ((1 : Int32) &&& 31).toUInt32).toInt32) &&& (1 : Int32)))), .val (.int ((v135 * (2 : Int32)) + (((mm.toUInt32 >>> ((2 : Int32) &&& 31).toUInt32).toInt32) &&& (1 : Int32)))), .val (.int ((v138 * (2 : Int32)) + (((mm.toUInt32 >>> ((3 : Int32) &&& 31).toUInt32).toInt32) &&& (1 : Int32)))), .val (.int v155), .val (.int (0 : Int32)), .val (.int v143), .val (.int v149), .val (.int v156)] [(.int v168)])) := q167.trans (Own.ldO X126 hx hZ rfl J126 hv168 (g := (mkF m 550 #[.val (.int p0), .val (.int p1), .val (.int p2), .val (.int r0), .val (.int r1), .val (.int r2), .val (.int r3), .val (.int v10), .val (.int v17), .val (.int v24), .val (.int v31), .val (.int kk), .val (.ref ca), .val (.ref bo), .val (.int mm), .val (.int rot), .val (.int v94), .val (.ref rb), .val (.int ((v129 * (2 : Int32)) + (mm &&& (1 : Int32)))), .val (.int ((v132 * (2 : Int32)) + (((mm.toUInt32 >>> ((1 : Int32) &&& 31).toUInt32).toInt32) &&& (1 : Int32)))), .val (.int ((v135 * (2 : Int32)) + (((mm.toUInt32 >>> ((2 : Int32) &&& 31).toUInt32).toInt32) &&& (1 : Int32)))), .val (.int ((v138 * (2 : Int32)) + (((mm.toUInt32 >>> ((3 : Int32) &&& 31).toUInt32).toInt32) &&& (1 : Int32)))), .val (.int v155), .val (.int (0 : Int32)), .val (.int v143), .val (.int v149), .val (.int v156)] [(.int (1 : Int32)), (.ref rb)])) rfl rfl (hb hby at_550) _ (Steps.refl _))
      have q170 : Steps p.tables e below (s₁.setTop (entryFrame m #[(.int p0), (.int p1), (.int p2)] maxLocals)) (T126.setTop (mkF m 553 #[.val (.int p0), .val (.int p1), .val (.int p2), .val (.int r0), .val (.int r1), .val (.int r2), .val (.int r3), .val (.int v10), .val (.int v17), .val (.int v24), .val (.int v31), .val (.int kk), .val (.ref ca), .val (.ref bo), .val (.int mm), .val (.int rot), .val (.int v94), .val (.ref rb), .val (.int ((v129 * (2 : Int32)) + (mm &&& (1 : Int32)))), .val (.int ((v132 * (2 : Int32)) + (((mm.toUInt32 >>> ((1 : Int32) &&& 31).toUInt32).toInt32) &&& (1 : Int32)))), .val (.int ((v135 * (2 : Int32)) + (((mm.toUInt32 >>> ((2 : Int32) &&& 31).toUInt32).toInt32) &&& (1 : Int32)))), .val (.int ((v138 * (2 : Int32)) + (((mm.toUInt32 >>> ((3 : Int32) &&& 31).toUInt32).toInt32) &&& (1 : Int32)))), .val (.int v155), .val (.int (0 : Int32)), .val (.int v143), .val (.int v149), .val (.int v156)] [(.int v143), (.int v168)])) := q169.trans (by
          show Steps p.tables e below (T126.setTop (mkF m 551 #[.val (.int p0), .val (.int p1), .val (.int p2), .val (.int r0), .val (.int r1), .val (.int r2), .val (.int r3), .val (.int v10), .val (.int v17), .val (.int v24), .val (.int v31), .val (.int kk), .val (.ref ca), .val (.ref bo), .val (.int mm), .val (.int rot), .val (.int v94), .val (.ref rb), .val (.int ((v129 * (2 : Int32)) + (mm &&& (1 : Int32)))), .val (.int ((v132 * (2 : Int32)) + (((mm.toUInt32 >>> ((1 : Int32) &&& 31).toUInt32).toInt32) &&& (1 : Int32)))), .val (.int ((v135 * (2 : Int32)) + (((mm.toUInt32 >>> ((2 : Int32) &&& 31).toUInt32).toInt32) &&& (1 : Int32)))), .val (.int ((v138 * (2 : Int32)) + (((mm.toUInt32 >>> ((3 : Int32) &&& 31).toUInt32).toInt32) &&& (1 : Int32)))), .val (.int v155), .val (.int (0 : Int32)), .val (.int v143), .val (.int v149), .val (.int v156)] [(.int v168)])) _
          refine XS.iload X126.here hx rfl (hb hby at_551) rfl ?_
          show Steps p.tables e below (T126.setTop (mkF m 553 #[.val (.int p0), .val (.int p1), .val (.int p2), .val (.int r0), .val (.int r1), .val (.int r2), .val (.int r3), .val (.int v10), .val (.int v17), .val (.int v24), .val (.int v31), .val (.int kk), .val (.ref ca), .val (.ref bo), .val (.int mm), .val (.int rot), .val (.int v94), .val (.ref rb), .val (.int ((v129 * (2 : Int32)) + (mm &&& (1 : Int32)))), .val (.int ((v132 * (2 : Int32)) + (((mm.toUInt32 >>> ((1 : Int32) &&& 31).toUInt32).toInt32) &&& (1 : Int32)))), .val (.int ((v135 * (2 : Int32)) + (((mm.toUInt32 >>> ((2 : Int32) &&& 31).toUInt32).toInt32) &&& (1 : Int32)))), .val (.int ((v138 * (2 : Int32)) + (((mm.toUInt32 >>> ((3 : Int32) &&& 31).toUInt32).toInt32) &&& (1 : Int32)))), .val (.int v155), .val (.int (0 : Int32)), .val (.int v143), .val (.int v149), .val (.int v156)] [(.int v143), (.int v168)])) _
          exact Steps.refl _)
      by_cases hc171 : v168 = v143
      · rw [if_pos hc171] at hM
        have q172 : Steps p.tables e below (s₁.setTop (entryFrame m #[(.int p0), (.int p1), (.int p2)] maxLocals)) (T126.setTop (mkF m 556 #[.val (.int p0), .val (.int p1), .val (.int p2), .val (.int r0), .val (.int r1), .val (.int r2), .val (.int r3), .val (.int v10), .val (.int v17), .val (.int v24), .val (.int v31), .val (.int kk), .val (.ref ca), .val (.ref bo), .val (.int mm), .val (.int rot), .val (.int v94), .val (.ref rb), .val (.int ((v129 * (2 : Int32)) + (mm &&& (1 : Int32)))), .val (.int ((v132 * (2 : Int32)) + (((mm.toUInt32 >>> ((1 : Int32) &&& 31).toUInt32).toInt32) &&& (1 : Int32)))), .val (.int ((v135 * (2 : Int32)) + (((mm.toUInt32 >>> ((2 : Int32) &&& 31).toUInt32).toInt32) &&& (1 : Int32)))), .val (.int ((v138 * (2 : Int32)) + (((mm.toUInt32 >>> ((3 : Int32) &&& 31).toUInt32).toInt32) &&& (1 : Int32)))), .val (.int v155), .val (.int (0 : Int32)), .val (.int v143), .val (.int v149), .val (.int v156)] [])) := q170.trans (by
            show Steps p.tables e below (T126.setTop (mkF m 553 #[.val (.int p0), .val (.int p1), .val (.int p2), .val (.int r0), .val (.int r1), .val (.int r2), .val (.int r3), .val (.int v10), .val (.int v17), .val (.int v24), .val (.int v31), .val (.int kk), .val (.ref ca), .val (.ref bo), .val (.int mm), .val (.int rot), .val (.int v94), .val (.ref rb), .val (.int ((v129 * (2 : Int32)) + (mm &&& (1 : Int32)))), .val (.int ((v132 * (2 : Int32)) + (((mm.toUInt32 >>> ((1 : Int32) &&& 31).toUInt32).toInt32) &&& (1 : Int32)))), .val (.int ((v135 * (2 : Int32)) + (((mm.toUInt32 >>> ((2 : Int32) &&& 31).toUInt32).toInt32) &&& (1 : Int32)))), .val (.int ((v138 * (2 : Int32)) + (((mm.toUInt32 >>> ((3 : Int32) &&& 31).toUInt32).toInt32) &&& (1 : Int32)))), .val (.int v155), .val (.int (0 : Int32)), .val (.int v143), .val (.int v149), .val (.int v156)] [(.int v143), (.int v168)])) _
            refine XS.icmpNo X126.here hx rfl (hb hby at_553) rfl (teq hc171).2 ?_
            show Steps p.tables e below (T126.setTop (mkF m 556 #[.val (.int p0), .val (.int p1), .val (.int p2), .val (.int r0), .val (.int r1), .val (.int r2), .val (.int r3), .val (.int v10), .val (.int v17), .val (.int v24), .val (.int v31), .val (.int kk), .val (.ref ca), .val (.ref bo), .val (.int mm), .val (.int rot), .val (.int v94), .val (.ref rb), .val (.int ((v129 * (2 : Int32)) + (mm &&& (1 : Int32)))), .val (.int ((v132 * (2 : Int32)) + (((mm.toUInt32 >>> ((1 : Int32) &&& 31).toUInt32).toInt32) &&& (1 : Int32)))), .val (.int ((v135 * (2 : Int32)) + (((mm.toUInt32 >>> ((2 : Int32) &&& 31).toUInt32).toInt32) &&& (1 : Int32)))), .val (.int ((v138 * (2 : Int32)) + (((mm.toUInt32 >>> ((3 : Int32) &&& 31).toUInt32).toInt32) &&& (1 : Int32)))), .val (.int v155), .val (.int (0 : Int32)), .val (.int v143), .val (.int v149), .val (.int v156)] [])) _
            exact Steps.refl _)
        have q173 : Steps p.tables e below (s₁.setTop (entryFrame m #[(.int p0), (.int p1), (.int p2)] maxLocals)) (T126.setTop (mkF m 559 #[.val (.int p0), .val (.int p1), .val (.int p2), .val (.int r0), .val (.int r1), .val (.int r2), .val (.int r3), .val (.int v10), .val (.int v17), .val (.int v24), .val (.int v31), .val (.int kk), .val (.ref ca), .val (.ref bo), .val (.int mm), .val (.int rot), .val (.int v94), .val (.ref rb), .val (.int ((v129 * (2 : Int32)) + (mm &&& (1 : Int32)))), .val (.int ((v132 * (2 : Int32)) + (((mm.toUInt32 >>> ((1 : Int32) &&& 31).toUInt32).toInt32) &&& (1 : Int32)))), .val (.int ((v135 * (2 : Int32)) + (((mm.toUInt32 >>> ((2 : Int32) &&& 31).toUInt32).toInt32) &&& (1 : Int32)))), .val (.int ((v138 * (2 : Int32)) + (((mm.toUInt32 >>> ((3 : Int32) &&& 31).toUInt32).toInt32) &&& (1 : Int32)))), .val (.int v155), .val (.int (0 : Int32)), .val (.int v143), .val (.int v149), .val (.int v156)] [(.int (2 : Int32)), (.ref rb)])) := q172.trans (by
            show Steps p.tables e below (T126.setTop (mkF m 556 #[.val (.int p0), .val (.int p1), .val (.int p2), .val (.int r0), .val (.int r1), .val (.int r2), .val (.int r3), .val (.int v10), .val (.int v17), .val (.int v24), .val (.int v31), .val (.int kk), .val (.ref ca), .val (.ref bo), .val (.int mm), .val (.int rot), .val (.int v94), .val (.ref rb), .val (.int ((v129 * (2 : Int32)) + (mm &&& (1 : Int32)))), .val (.int ((v132 * (2 : Int32)) + (((mm.toUInt32 >>> ((1 : Int32) &&& 31).toUInt32).toInt32) &&& (1 : Int32)))), .val (.int ((v135 * (2 : Int32)) + (((mm.toUInt32 >>> ((2 : Int32) &&& 31).toUInt32).toInt32) &&& (1 : Int32)))), .val (.int ((v138 * (2 : Int32)) + (((mm.toUInt32 >>> ((3 : Int32) &&& 31).toUInt32).toInt32) &&& (1 : Int32)))), .val (.int v155), .val (.int (0 : Int32)), .val (.int v143), .val (.int v149), .val (.int v156)] [])) _
            refine XS.aload X126.here hx rfl (hb hby at_556) rfl rfl ?_
            show Steps p.tables e below (T126.setTop (mkF m 558 #[.val (.int p0), .val (.int p1), .val (.int p2), .val (.int r0), .val (.int r1), .val (.int r2), .val (.int r3), .val (.int v10), .val (.int v17), .val (.int v24), .val (.int v31), .val (.int kk), .val (.ref ca), .val (.ref bo), .val (.int mm), .val (.int rot), .val (.int v94), .val (.ref rb), .val (.int ((v129 * (2 : Int32)) + (mm &&& (1 : Int32)))), .val (.int ((v132 * (2 : Int32)) + (((mm.toUInt32 >>> ((1 : Int32) &&& 31).toUInt32).toInt32) &&& (1 : Int32)))), .val (.int ((v135 * (2 : Int32)) + (((mm.toUInt32 >>> ((2 : Int32) &&& 31).toUInt32).toInt32) &&& (1 : Int32)))), .val (.int ((v138 * (2 : Int32)) + (((mm.toUInt32 >>> ((3 : Int32) &&& 31).toUInt32).toInt32) &&& (1 : Int32)))), .val (.int v155), .val (.int (0 : Int32)), .val (.int v143), .val (.int v149), .val (.int v156)] [(.ref rb)])) _
            refine XS.iconst X126.here hx rfl (hb hby at_558) ?_
            show Steps p.tables e below (T126.setTop (mkF m 559 #[.val (.int p0), .val (.int p1), .val (.int p2), .val (.int r0), .val (.int r1), .val (.int r2), .val (.int r3), .val (.int v10), .val (.int v17), .val (.int v24), .val (.int v31), .val (.int kk), .val (.ref ca), .val (.ref bo), .val (.int mm), .val (.int rot), .val (.int v94), .val (.ref rb), .val (.int ((v129 * (2 : Int32)) + (mm &&& (1 : Int32)))), .val (.int ((v132 * (2 : Int32)) + (((mm.toUInt32 >>> ((1 : Int32) &&& 31).toUInt32).toInt32) &&& (1 : Int32)))), .val (.int ((v135 * (2 : Int32)) + (((mm.toUInt32 >>> ((2 : Int32) &&& 31).toUInt32).toInt32) &&& (1 : Int32)))), .val (.int ((v138 * (2 : Int32)) + (((mm.toUInt32 >>> ((3 : Int32) &&& 31).toUInt32).toInt32) &&& (1 : Int32)))), .val (.int v155), .val (.int (0 : Int32)), .val (.int v143), .val (.int v149), .val (.int v156)] [(.int (2 : Int32)), (.ref rb)])) _
            exact Steps.refl _)
        obtain ⟨v174, hv174, hM⟩ := Option.bind_eq_some_iff.mp hM
        have q175 : Steps p.tables e below (s₁.setTop (entryFrame m #[(.int p0), (.int p1), (.int p2)] maxLocals)) (T126.setTop (mkF m 560 #[.val (.int p0), .val (.int p1), .val (.int p2), .val (.int r0), .val (.int r1), .val (.int r2), .val (.int r3), .val (.int v10), .val (.int v17), .val (.int v24), .val (.int v31), .val (.int kk), .val (.ref ca), .val (.ref bo), .val (.int mm), .val (.int rot), .val (.int v94), .val (.ref rb), .val (.int ((v129 * (2 : Int32)) + (mm &&& (1 : Int32)))), .val (.int ((v132 * (2 : Int32)) + (((mm.toUInt32 >>> ((1 : Int32) &&& 31).toUInt32).toInt32) &&& (1 : Int32)))), .val (.int ((v135 * (2 : Int32)) + (((mm.toUInt32 >>> ((2 : Int32) &&& 31).toUInt32).toInt32) &&& (1 : Int32)))), .val (.int ((v138 * (2 : Int32)) + (((mm.toUInt32 >>> ((3 : Int32) &&& 31).toUInt32).toInt32) &&& (1 : Int32)))), .val (.int v155), .val (.int (0 : Int32)), .val (.int v143), .val (.int v149), .val (.int v156)] [(.int v174)])) := q173.trans (Own.ldO X126 hx hZ rfl J126 hv174 (g := (mkF m 559 #[.val (.int p0), .val (.int p1), .val (.int p2), .val (.int r0), .val (.int r1), .val (.int r2), .val (.int r3), .val (.int v10), .val (.int v17), .val (.int v24), .val (.int v31), .val (.int kk), .val (.ref ca), .val (.ref bo), .val (.int mm), .val (.int rot), .val (.int v94), .val (.ref rb), .val (.int ((v129 * (2 : Int32)) + (mm &&& (1 : Int32)))), .val (.int ((v132 * (2 : Int32)) + (((mm.toUInt32 >>> ((1 : Int32) &&& 31).toUInt32).toInt32) &&& (1 : Int32)))), .val (.int ((v135 * (2 : Int32)) + (((mm.toUInt32 >>> ((2 : Int32) &&& 31).toUInt32).toInt32) &&& (1 : Int32)))), .val (.int ((v138 * (2 : Int32)) + (((mm.toUInt32 >>> ((3 : Int32) &&& 31).toUInt32).toInt32) &&& (1 : Int32)))), .val (.int v155), .val (.int (0 : Int32)), .val (.int v143), .val (.int v149), .val (.int v156)] [(.int (2 : Int32)), (.ref rb)])) rfl rfl (hb hby at_559) _ (Steps.refl _))
        have q176 : Steps p.tables e below (s₁.setTop (entryFrame m #[(.int p0), (.int p1), (.int p2)] maxLocals)) (T126.setTop (mkF m 562 #[.val (.int p0), .val (.int p1), .val (.int p2), .val (.int r0), .val (.int r1), .val (.int r2), .val (.int r3), .val (.int v10), .val (.int v17), .val (.int v24), .val (.int v31), .val (.int kk), .val (.ref ca), .val (.ref bo), .val (.int mm), .val (.int rot), .val (.int v94), .val (.ref rb), .val (.int ((v129 * (2 : Int32)) + (mm &&& (1 : Int32)))), .val (.int ((v132 * (2 : Int32)) + (((mm.toUInt32 >>> ((1 : Int32) &&& 31).toUInt32).toInt32) &&& (1 : Int32)))), .val (.int ((v135 * (2 : Int32)) + (((mm.toUInt32 >>> ((2 : Int32) &&& 31).toUInt32).toInt32) &&& (1 : Int32)))), .val (.int ((v138 * (2 : Int32)) + (((mm.toUInt32 >>> ((3 : Int32) &&& 31).toUInt32).toInt32) &&& (1 : Int32)))), .val (.int v155), .val (.int (0 : Int32)), .val (.int v143), .val (.int v149), .val (.int v156)] [(.int v149), (.int v174)])) := q175.trans (by
            show Steps p.tables e below (T126.setTop (mkF m 560 #[.val (.int p0), .val (.int p1), .val (.int p2), .val (.int r0), .val (.int r1), .val (.int r2), .val (.int r3), .val (.int v10), .val (.int v17), .val (.int v24), .val (.int v31), .val (.int kk), .val (.ref ca), .val (.ref bo), .val (.int mm), .val (.int rot), .val (.int v94), .val (.ref rb), .val (.int ((v129 * (2 : Int32)) + (mm &&& (1 : Int32)))), .val (.int ((v132 * (2 : Int32)) + (((mm.toUInt32 >>> ((1 : Int32) &&& 31).toUInt32).toInt32) &&& (1 : Int32)))), .val (.int ((v135 * (2 : Int32)) + (((mm.toUInt32 >>> ((2 : Int32) &&& 31).toUInt32).toInt32) &&& (1 : Int32)))), .val (.int ((v138 * (2 : Int32)) + (((mm.toUInt32 >>> ((3 : Int32) &&& 31).toUInt32).toInt32) &&& (1 : Int32)))), .val (.int v155), .val (.int (0 : Int32)), .val (.int v143), .val (.int v149), .val (.int v156)] [(.int v174)])) _
            refine XS.iload X126.here hx rfl (hb hby at_560) rfl ?_
            show Steps p.tables e below (T126.setTop (mkF m 562 #[.val (.int p0), .val (.int p1), .val (.int p2), .val (.int r0), .val (.int r1), .val (.int r2), .val (.int r3), .val (.int v10), .val (.int v17), .val (.int v24), .val (.int v31), .val (.int kk), .val (.ref ca), .val (.ref bo), .val (.int mm), .val (.int rot), .val (.int v94), .val (.ref rb), .val (.int ((v129 * (2 : Int32)) + (mm &&& (1 : Int32)))), .val (.int ((v132 * (2 : Int32)) + (((mm.toUInt32 >>> ((1 : Int32) &&& 31).toUInt32).toInt32) &&& (1 : Int32)))), .val (.int ((v135 * (2 : Int32)) + (((mm.toUInt32 >>> ((2 : Int32) &&& 31).toUInt32).toInt32) &&& (1 : Int32)))), .val (.int ((v138 * (2 : Int32)) + (((mm.toUInt32 >>> ((3 : Int32) &&& 31).toUInt32).toInt32) &&& (1 : Int32)))), .val (.int v155), .val (.int (0 : Int32)), .val (.int v143), .val (.int v149), .val (.int v156)] [(.int v149), (.int v174)])) _
            exact Steps.refl _)
        by_cases hc177 : v174 = v149
        · rw [if_pos hc177] at hM
          have q178 : Steps p.tables e below (s₁.setTop (entryFrame m #[(.int p0), (.int p1), (.int p2)] maxLocals)) (T126.setTop (mkF m 565 #[.val (.int p0), .val (.int p1), .val (.int p2), .val (.int r0), .val (.int r1), .val (.int r2), .val (.int r3), .val (.int v10), .val (.int v17), .val (.int v24), .val (.int v31), .val (.int kk), .val (.ref ca), .val (.ref bo), .val (.int mm), .val (.int rot), .val (.int v94), .val (.ref rb), .val (.int ((v129 * (2 : Int32)) + (mm &&& (1 : Int32)))), .val (.int ((v132 * (2 : Int32)) + (((mm.toUInt32 >>> ((1 : Int32) &&& 31).toUInt32).toInt32) &&& (1 : Int32)))), .val (.int ((v135 * (2 : Int32)) + (((mm.toUInt32 >>> ((2 : Int32) &&& 31).toUInt32).toInt32) &&& (1 : Int32)))), .val (.int ((v138 * (2 : Int32)) + (((mm.toUInt32 >>> ((3 : Int32) &&& 31).toUInt32).toInt32) &&& (1 : Int32)))), .val (.int v155), .val (.int (0 : Int32)), .val (.int v143), .val (.int v149), .val (.int v156)] [])) := q176.trans (by
              show Steps p.tables e below (T126.setTop (mkF m 562 #[.val (.int p0), .val (.int p1), .val (.int p2), .val (.int r0), .val (.int r1), .val (.int r2), .val (.int r3), .val (.int v10), .val (.int v17), .val (.int v24), .val (.int v31), .val (.int kk), .val (.ref ca), .val (.ref bo), .val (.int mm), .val (.int rot), .val (.int v94), .val (.ref rb), .val (.int ((v129 * (2 : Int32)) + (mm &&& (1 : Int32)))), .val (.int ((v132 * (2 : Int32)) + (((mm.toUInt32 >>> ((1 : Int32) &&& 31).toUInt32).toInt32) &&& (1 : Int32)))), .val (.int ((v135 * (2 : Int32)) + (((mm.toUInt32 >>> ((2 : Int32) &&& 31).toUInt32).toInt32) &&& (1 : Int32)))), .val (.int ((v138 * (2 : Int32)) + (((mm.toUInt32 >>> ((3 : Int32) &&& 31).toUInt32).toInt32) &&& (1 : Int32)))), .val (.int v155), .val (.int (0 : Int32)), .val (.int v143), .val (.int v149), .val (.int v156)] [(.int v149), (.int v174)])) _
              refine XS.icmpNo X126.here hx rfl (hb hby at_562) rfl (teq hc177).2 ?_
              show Steps p.tables e below (T126.setTop (mkF m 565 #[.val (.int p0), .val (.int p1), .val (.int p2), .val (.int r0), .val (.int r1), .val (.int r2), .val (.int r3), .val (.int v10), .val (.int v17), .val (.int v24), .val (.int v31), .val (.int kk), .val (.ref ca), .val (.ref bo), .val (.int mm), .val (.int rot), .val (.int v94), .val (.ref rb), .val (.int ((v129 * (2 : Int32)) + (mm &&& (1 : Int32)))), .val (.int ((v132 * (2 : Int32)) + (((mm.toUInt32 >>> ((1 : Int32) &&& 31).toUInt32).toInt32) &&& (1 : Int32)))), .val (.int ((v135 * (2 : Int32)) + (((mm.toUInt32 >>> ((2 : Int32) &&& 31).toUInt32).toInt32) &&& (1 : Int32)))), .val (.int ((v138 * (2 : Int32)) + (((mm.toUInt32 >>> ((3 : Int32) &&& 31).toUInt32).toInt32) &&& (1 : Int32)))), .val (.int v155), .val (.int (0 : Int32)), .val (.int v143), .val (.int v149), .val (.int v156)] [])) _
              exact Steps.refl _)
          have q179 : Steps p.tables e below (s₁.setTop (entryFrame m #[(.int p0), (.int p1), (.int p2)] maxLocals)) (T126.setTop (mkF m 568 #[.val (.int p0), .val (.int p1), .val (.int p2), .val (.int r0), .val (.int r1), .val (.int r2), .val (.int r3), .val (.int v10), .val (.int v17), .val (.int v24), .val (.int v31), .val (.int kk), .val (.ref ca), .val (.ref bo), .val (.int mm), .val (.int rot), .val (.int v94), .val (.ref rb), .val (.int ((v129 * (2 : Int32)) + (mm &&& (1 : Int32)))), .val (.int ((v132 * (2 : Int32)) + (((mm.toUInt32 >>> ((1 : Int32) &&& 31).toUInt32).toInt32) &&& (1 : Int32)))), .val (.int ((v135 * (2 : Int32)) + (((mm.toUInt32 >>> ((2 : Int32) &&& 31).toUInt32).toInt32) &&& (1 : Int32)))), .val (.int ((v138 * (2 : Int32)) + (((mm.toUInt32 >>> ((3 : Int32) &&& 31).toUInt32).toInt32) &&& (1 : Int32)))), .val (.int v155), .val (.int (0 : Int32)), .val (.int v143), .val (.int v149), .val (.int v156)] [(.int (3 : Int32)), (.ref rb)])) := q178.trans (by
              show Steps p.tables e below (T126.setTop (mkF m 565 #[.val (.int p0), .val (.int p1), .val (.int p2), .val (.int r0), .val (.int r1), .val (.int r2), .val (.int r3), .val (.int v10), .val (.int v17), .val (.int v24), .val (.int v31), .val (.int kk), .val (.ref ca), .val (.ref bo), .val (.int mm), .val (.int rot), .val (.int v94), .val (.ref rb), .val (.int ((v129 * (2 : Int32)) + (mm &&& (1 : Int32)))), .val (.int ((v132 * (2 : Int32)) + (((mm.toUInt32 >>> ((1 : Int32) &&& 31).toUInt32).toInt32) &&& (1 : Int32)))), .val (.int ((v135 * (2 : Int32)) + (((mm.toUInt32 >>> ((2 : Int32) &&& 31).toUInt32).toInt32) &&& (1 : Int32)))), .val (.int ((v138 * (2 : Int32)) + (((mm.toUInt32 >>> ((3 : Int32) &&& 31).toUInt32).toInt32) &&& (1 : Int32)))), .val (.int v155), .val (.int (0 : Int32)), .val (.int v143), .val (.int v149), .val (.int v156)] [])) _
              refine XS.aload X126.here hx rfl (hb hby at_565) rfl rfl ?_
              show Steps p.tables e below (T126.setTop (mkF m 567 #[.val (.int p0), .val (.int p1), .val (.int p2), .val (.int r0), .val (.int r1), .val (.int r2), .val (.int r3), .val (.int v10), .val (.int v17), .val (.int v24), .val (.int v31), .val (.int kk), .val (.ref ca), .val (.ref bo), .val (.int mm), .val (.int rot), .val (.int v94), .val (.ref rb), .val (.int ((v129 * (2 : Int32)) + (mm &&& (1 : Int32)))), .val (.int ((v132 * (2 : Int32)) + (((mm.toUInt32 >>> ((1 : Int32) &&& 31).toUInt32).toInt32) &&& (1 : Int32)))), .val (.int ((v135 * (2 : Int32)) + (((mm.toUInt32 >>> ((2 : Int32) &&& 31).toUInt32).toInt32) &&& (1 : Int32)))), .val (.int ((v138 * (2 : Int32)) + (((mm.toUInt32 >>> ((3 : Int32) &&& 31).toUInt32).toInt32) &&& (1 : Int32)))), .val (.int v155), .val (.int (0 : Int32)), .val (.int v143), .val (.int v149), .val (.int v156)] [(.ref rb)])) _
              refine XS.iconst X126.here hx rfl (hb hby at_567) ?_
              show Steps p.tables e below (T126.setTop (mkF m 568 #[.val (.int p0), .val (.int p1), .val (.int p2), .val (.int r0), .val (.int r1), .val (.int r2), .val (.int r3), .val (.int v10), .val (.int v17), .val (.int v24), .val (.int v31), .val (.int kk), .val (.ref ca), .val (.ref bo), .val (.int mm), .val (.int rot), .val (.int v94), .val (.ref rb), .val (.int ((v129 * (2 : Int32)) + (mm &&& (1 : Int32)))), .val (.int ((v132 * (2 : Int32)) + (((mm.toUInt32 >>> ((1 : Int32) &&& 31).toUInt32).toInt32) &&& (1 : Int32)))), .val (.int ((v135 * (2 : Int32)) + (((mm.toUInt32 >>> ((2 : Int32) &&& 31).toUInt32).toInt32) &&& (1 : Int32)))), .val (.int ((v138 * (2 : Int32)) + (((mm.toUInt32 >>> ((3 : Int32) &&& 31).toUInt32).toInt32) &&& (1 : Int32)))), .val (.int v155), .val (.int (0 : Int32)), .val (.int v143), .val (.int v149), .val (.int v156)] [(.int (3 : Int32)), (.ref rb)])) _
              exact Steps.refl _)
          obtain ⟨v180, hv180, hM⟩ := Option.bind_eq_some_iff.mp hM
          have q181 : Steps p.tables e below (s₁.setTop (entryFrame m #[(.int p0), (.int p1), (.int p2)] maxLocals)) (T126.setTop (mkF m 569 #[.val (.int p0), .val (.int p1), .val (.int p2), .val (.int r0), .val (.int r1), .val (.int r2), .val (.int r3), .val (.int v10), .val (.int v17), .val (.int v24), .val (.int v31), .val (.int kk), .val (.ref ca), .val (.ref bo), .val (.int mm), .val (.int rot), .val (.int v94), .val (.ref rb), .val (.int ((v129 * (2 : Int32)) + (mm &&& (1 : Int32)))), .val (.int ((v132 * (2 : Int32)) + (((mm.toUInt32 >>> ((1 : Int32) &&& 31).toUInt32).toInt32) &&& (1 : Int32)))), .val (.int ((v135 * (2 : Int32)) + (((mm.toUInt32 >>> ((2 : Int32) &&& 31).toUInt32).toInt32) &&& (1 : Int32)))), .val (.int ((v138 * (2 : Int32)) + (((mm.toUInt32 >>> ((3 : Int32) &&& 31).toUInt32).toInt32) &&& (1 : Int32)))), .val (.int v155), .val (.int (0 : Int32)), .val (.int v143), .val (.int v149), .val (.int v156)] [(.int v180)])) := q179.trans (Own.ldO X126 hx hZ rfl J126 hv180 (g := (mkF m 568 #[.val (.int p0), .val (.int p1), .val (.int p2), .val (.int r0), .val (.int r1), .val (.int r2), .val (.int r3), .val (.int v10), .val (.int v17), .val (.int v24), .val (.int v31), .val (.int kk), .val (.ref ca), .val (.ref bo), .val (.int mm), .val (.int rot), .val (.int v94), .val (.ref rb), .val (.int ((v129 * (2 : Int32)) + (mm &&& (1 : Int32)))), .val (.int ((v132 * (2 : Int32)) + (((mm.toUInt32 >>> ((1 : Int32) &&& 31).toUInt32).toInt32) &&& (1 : Int32)))), .val (.int ((v135 * (2 : Int32)) + (((mm.toUInt32 >>> ((2 : Int32) &&& 31).toUInt32).toInt32) &&& (1 : Int32)))), .val (.int ((v138 * (2 : Int32)) + (((mm.toUInt32 >>> ((3 : Int32) &&& 31).toUInt32).toInt32) &&& (1 : Int32)))), .val (.int v155), .val (.int (0 : Int32)), .val (.int v143), .val (.int v149), .val (.int v156)] [(.int (3 : Int32)), (.ref rb)])) rfl rfl (hb hby at_568) _ (Steps.refl _))
          have q182 : Steps p.tables e below (s₁.setTop (entryFrame m #[(.int p0), (.int p1), (.int p2)] maxLocals)) (T126.setTop (mkF m 571 #[.val (.int p0), .val (.int p1), .val (.int p2), .val (.int r0), .val (.int r1), .val (.int r2), .val (.int r3), .val (.int v10), .val (.int v17), .val (.int v24), .val (.int v31), .val (.int kk), .val (.ref ca), .val (.ref bo), .val (.int mm), .val (.int rot), .val (.int v94), .val (.ref rb), .val (.int ((v129 * (2 : Int32)) + (mm &&& (1 : Int32)))), .val (.int ((v132 * (2 : Int32)) + (((mm.toUInt32 >>> ((1 : Int32) &&& 31).toUInt32).toInt32) &&& (1 : Int32)))), .val (.int ((v135 * (2 : Int32)) + (((mm.toUInt32 >>> ((2 : Int32) &&& 31).toUInt32).toInt32) &&& (1 : Int32)))), .val (.int ((v138 * (2 : Int32)) + (((mm.toUInt32 >>> ((3 : Int32) &&& 31).toUInt32).toInt32) &&& (1 : Int32)))), .val (.int v155), .val (.int (0 : Int32)), .val (.int v143), .val (.int v149), .val (.int v156)] [(.int v156), (.int v180)])) := q181.trans (by
              show Steps p.tables e below (T126.setTop (mkF m 569 #[.val (.int p0), .val (.int p1), .val (.int p2), .val (.int r0), .val (.int r1), .val (.int r2), .val (.int r3), .val (.int v10), .val (.int v17), .val (.int v24), .val (.int v31), .val (.int kk), .val (.ref ca), .val (.ref bo), .val (.int mm), .val (.int rot), .val (.int v94), .val (.ref rb), .val (.int ((v129 * (2 : Int32)) + (mm &&& (1 : Int32)))), .val (.int ((v132 * (2 : Int32)) + (((mm.toUInt32 >>> ((1 : Int32) &&& 31).toUInt32).toInt32) &&& (1 : Int32)))), .val (.int ((v135 * (2 : Int32)) + (((mm.toUInt32 >>> ((2 : Int32) &&& 31).toUInt32).toInt32) &&& (1 : Int32)))), .val (.int ((v138 * (2 : Int32)) + (((mm.toUInt32 >>> ((3 : Int32) &&& 31).toUInt32).toInt32) &&& (1 : Int32)))), .val (.int v155), .val (.int (0 : Int32)), .val (.int v143), .val (.int v149), .val (.int v156)] [(.int v180)])) _
              refine XS.iload X126.here hx rfl (hb hby at_569) rfl ?_
              show Steps p.tables e below (T126.setTop (mkF m 571 #[.val (.int p0), .val (.int p1), .val (.int p2), .val (.int r0), .val (.int r1), .val (.int r2), .val (.int r3), .val (.int v10), .val (.int v17), .val (.int v24), .val (.int v31), .val (.int kk), .val (.ref ca), .val (.ref bo), .val (.int mm), .val (.int rot), .val (.int v94), .val (.ref rb), .val (.int ((v129 * (2 : Int32)) + (mm &&& (1 : Int32)))), .val (.int ((v132 * (2 : Int32)) + (((mm.toUInt32 >>> ((1 : Int32) &&& 31).toUInt32).toInt32) &&& (1 : Int32)))), .val (.int ((v135 * (2 : Int32)) + (((mm.toUInt32 >>> ((2 : Int32) &&& 31).toUInt32).toInt32) &&& (1 : Int32)))), .val (.int ((v138 * (2 : Int32)) + (((mm.toUInt32 >>> ((3 : Int32) &&& 31).toUInt32).toInt32) &&& (1 : Int32)))), .val (.int v155), .val (.int (0 : Int32)), .val (.int v143), .val (.int v149), .val (.int v156)] [(.int v156), (.int v180)])) _
              exact Steps.refl _)
          by_cases hc183 : v180 = v156
          · rw [if_pos hc183] at hM
            have q184 : Steps p.tables e below (s₁.setTop (entryFrame m #[(.int p0), (.int p1), (.int p2)] maxLocals)) (T126.setTop (mkF m 574 #[.val (.int p0), .val (.int p1), .val (.int p2), .val (.int r0), .val (.int r1), .val (.int r2), .val (.int r3), .val (.int v10), .val (.int v17), .val (.int v24), .val (.int v31), .val (.int kk), .val (.ref ca), .val (.ref bo), .val (.int mm), .val (.int rot), .val (.int v94), .val (.ref rb), .val (.int ((v129 * (2 : Int32)) + (mm &&& (1 : Int32)))), .val (.int ((v132 * (2 : Int32)) + (((mm.toUInt32 >>> ((1 : Int32) &&& 31).toUInt32).toInt32) &&& (1 : Int32)))), .val (.int ((v135 * (2 : Int32)) + (((mm.toUInt32 >>> ((2 : Int32) &&& 31).toUInt32).toInt32) &&& (1 : Int32)))), .val (.int ((v138 * (2 : Int32)) + (((mm.toUInt32 >>> ((3 : Int32) &&& 31).toUInt32).toInt32) &&& (1 : Int32)))), .val (.int v155), .val (.int (0 : Int32)), .val (.int v143), .val (.int v149), .val (.int v156)] [])) := q182.trans (by
                show Steps p.tables e below (T126.setTop (mkF m 571 #[.val (.int p0), .val (.int p1), .val (.int p2), .val (.int r0), .val (.int r1), .val (.int r2), .val (.int r3), .val (.int v10), .val (.int v17), .val (.int v24), .val (.int v31), .val (.int kk), .val (.ref ca), .val (.ref bo), .val (.int mm), .val (.int rot), .val (.int v94), .val (.ref rb), .val (.int ((v129 * (2 : Int32)) + (mm &&& (1 : Int32)))), .val (.int ((v132 * (2 : Int32)) + (((mm.toUInt32 >>> ((1 : Int32) &&& 31).toUInt32).toInt32) &&& (1 : Int32)))), .val (.int ((v135 * (2 : Int32)) + (((mm.toUInt32 >>> ((2 : Int32) &&& 31).toUInt32).toInt32) &&& (1 : Int32)))), .val (.int ((v138 * (2 : Int32)) + (((mm.toUInt32 >>> ((3 : Int32) &&& 31).toUInt32).toInt32) &&& (1 : Int32)))), .val (.int v155), .val (.int (0 : Int32)), .val (.int v143), .val (.int v149), .val (.int v156)] [(.int v156), (.int v180)])) _
                refine XS.icmpNo X126.here hx rfl (hb hby at_571) rfl (teq hc183).2 ?_
                show Steps p.tables e below (T126.setTop (mkF m 574 #[.val (.int p0), .val (.int p1), .val (.int p2), .val (.int r0), .val (.int r1), .val (.int r2), .val (.int r3), .val (.int v10), .val (.int v17), .val (.int v24), .val (.int v31), .val (.int kk), .val (.ref ca), .val (.ref bo), .val (.int mm), .val (.int rot), .val (.int v94), .val (.ref rb), .val (.int ((v129 * (2 : Int32)) + (mm &&& (1 : Int32)))), .val (.int ((v132 * (2 : Int32)) + (((mm.toUInt32 >>> ((1 : Int32) &&& 31).toUInt32).toInt32) &&& (1 : Int32)))), .val (.int ((v135 * (2 : Int32)) + (((mm.toUInt32 >>> ((2 : Int32) &&& 31).toUInt32).toInt32) &&& (1 : Int32)))), .val (.int ((v138 * (2 : Int32)) + (((mm.toUInt32 >>> ((3 : Int32) &&& 31).toUInt32).toInt32) &&& (1 : Int32)))), .val (.int v155), .val (.int (0 : Int32)), .val (.int v143), .val (.int v149), .val (.int v156)] [])) _
                exact Steps.refl _)
            have q185 : Steps p.tables e below (s₁.setTop (entryFrame m #[(.int p0), (.int p1), (.int p2)] maxLocals)) (T126.setTop (mkF m 576 #[.val (.int p0), .val (.int p1), .val (.int p2), .val (.int r0), .val (.int r1), .val (.int r2), .val (.int r3), .val (.int v10), .val (.int v17), .val (.int v24), .val (.int v31), .val (.int kk), .val (.ref ca), .val (.ref bo), .val (.int mm), .val (.int rot), .val (.int v94), .val (.ref rb), .val (.int ((v129 * (2 : Int32)) + (mm &&& (1 : Int32)))), .val (.int ((v132 * (2 : Int32)) + (((mm.toUInt32 >>> ((1 : Int32) &&& 31).toUInt32).toInt32) &&& (1 : Int32)))), .val (.int ((v135 * (2 : Int32)) + (((mm.toUInt32 >>> ((2 : Int32) &&& 31).toUInt32).toInt32) &&& (1 : Int32)))), .val (.int ((v138 * (2 : Int32)) + (((mm.toUInt32 >>> ((3 : Int32) &&& 31).toUInt32).toInt32) &&& (1 : Int32)))), .val (.int v155), .val (.int (0 : Int32)), .val (.int v143), .val (.int v149), .val (.int v156)] [(.ref bo)])) := q184.trans (by
                show Steps p.tables e below (T126.setTop (mkF m 574 #[.val (.int p0), .val (.int p1), .val (.int p2), .val (.int r0), .val (.int r1), .val (.int r2), .val (.int r3), .val (.int v10), .val (.int v17), .val (.int v24), .val (.int v31), .val (.int kk), .val (.ref ca), .val (.ref bo), .val (.int mm), .val (.int rot), .val (.int v94), .val (.ref rb), .val (.int ((v129 * (2 : Int32)) + (mm &&& (1 : Int32)))), .val (.int ((v132 * (2 : Int32)) + (((mm.toUInt32 >>> ((1 : Int32) &&& 31).toUInt32).toInt32) &&& (1 : Int32)))), .val (.int ((v135 * (2 : Int32)) + (((mm.toUInt32 >>> ((2 : Int32) &&& 31).toUInt32).toInt32) &&& (1 : Int32)))), .val (.int ((v138 * (2 : Int32)) + (((mm.toUInt32 >>> ((3 : Int32) &&& 31).toUInt32).toInt32) &&& (1 : Int32)))), .val (.int v155), .val (.int (0 : Int32)), .val (.int v143), .val (.int v149), .val (.int v156)] [])) _
                refine XS.aload X126.here hx rfl (hb hby at_574) rfl rfl ?_
                show Steps p.tables e below (T126.setTop (mkF m 576 #[.val (.int p0), .val (.int p1), .val (.int p2), .val (.int r0), .val (.int r1), .val (.int r2), .val (.int r3), .val (.int v10), .val (.int v17), .val (.int v24), .val (.int v31), .val (.int kk), .val (.ref ca), .val (.ref bo), .val (.int mm), .val (.int rot), .val (.int v94), .val (.ref rb), .val (.int ((v129 * (2 : Int32)) + (mm &&& (1 : Int32)))), .val (.int ((v132 * (2 : Int32)) + (((mm.toUInt32 >>> ((1 : Int32) &&& 31).toUInt32).toInt32) &&& (1 : Int32)))), .val (.int ((v135 * (2 : Int32)) + (((mm.toUInt32 >>> ((2 : Int32) &&& 31).toUInt32).toInt32) &&& (1 : Int32)))), .val (.int ((v138 * (2 : Int32)) + (((mm.toUInt32 >>> ((3 : Int32) &&& 31).toUInt32).toInt32) &&& (1 : Int32)))), .val (.int v155), .val (.int (0 : Int32)), .val (.int v143), .val (.int v149), .val (.int v156)] [(.ref bo)])) _
                exact Steps.refl _)
            obtain ⟨cq186, kq186, q186a, q186b, q186c⟩ := isOf hZ rfl Xbo_126
            obtain ⟨_, _, ⟨T186, L186, k186, n186⟩, -, X186, ⟨Lc186, hQ186, l186, y186, z186⟩, st186⟩ := X126.virtualBack hx (y := (⟨"com/example/libpathsum/libpathsum/Blocks", "count", "()I"⟩ : MethodName)) (z := (⟨"com/example/libpathsum/libpathsum/Blocks", "count", "()I"⟩ : MethodName)) hown (mvT hZ (hw _ (List.mem_of_getElem? (i := 79) rfl))) (mvT hZ (hw _ (List.mem_of_getElem? (i := 80) rfl))) (notFace_of_selects (args := #[]) (mvT hZ (hw _ (List.mem_of_getElem? (i := 82) rfl)))) (mvT hZ (hw _ (List.mem_of_getElem? (i := 82) rfl))) (mvT hZ (hw _ (List.mem_of_getElem? (i := 81) rfl))) (by decide) (backOf (W := 0) (rmN l Z a0 hw [] bo r121.2.2.2.2.2 T126.heap n0 Z126 Fbo_count_126) hZ (hw _ (List.mem_of_getElem? (i := 83) rfl)) (hw _ (List.mem_of_getElem? (i := 7) rfl)) (by decide) (by decide)) q186a q186c (g := (mkF m 576 #[.val (.int p0), .val (.int p1), .val (.int p2), .val (.int r0), .val (.int r1), .val (.int r2), .val (.int r3), .val (.int v10), .val (.int v17), .val (.int v24), .val (.int v31), .val (.int kk), .val (.ref ca), .val (.ref bo), .val (.int mm), .val (.int rot), .val (.int v94), .val (.ref rb), .val (.int ((v129 * (2 : Int32)) + (mm &&& (1 : Int32)))), .val (.int ((v132 * (2 : Int32)) + (((mm.toUInt32 >>> ((1 : Int32) &&& 31).toUInt32).toInt32) &&& (1 : Int32)))), .val (.int ((v135 * (2 : Int32)) + (((mm.toUInt32 >>> ((2 : Int32) &&& 31).toUInt32).toInt32) &&& (1 : Int32)))), .val (.int ((v138 * (2 : Int32)) + (((mm.toUInt32 >>> ((3 : Int32) &&& 31).toUInt32).toInt32) &&& (1 : Int32)))), .val (.int v155), .val (.int (0 : Int32)), .val (.int v143), .val (.int v149), .val (.int v156)] [(.ref bo)])) rfl (by rw [hml]; rfl) (Steps.refl _) (argsL := []) (rest := []) (lenOf pd_9 rfl) rfl (by show 2 * 0 + _ ≤ _; exact Nat.le_of_eq rfl) (hb hby at_576) (fun _ _ => ⟨rfl, rfl, (by decide : 12 + 0 ≤ _), (by decide : 54 + 0 ≤ _)⟩)
            dsimp only [Pt.U, Pt.locs, Pt.cells, Pt.slots] at X186 l186 y186 z186 st186 hQ186
            subst l186 y186 z186
            obtain ⟨rfl, N186q, e186⟩ := hQ186
            have N186 := Fr.app N126 N186q
            have q187 : Steps p.tables e below (s₁.setTop (entryFrame m #[(.int p0), (.int p1), (.int p2)] maxLocals)) (T186.setTop (mkF m 579 #[.val (.int p0), .val (.int p1), .val (.int p2), .val (.int r0), .val (.int r1), .val (.int r2), .val (.int r3), .val (.int v10), .val (.int v17), .val (.int v24), .val (.int v31), .val (.int kk), .val (.ref ca), .val (.ref bo), .val (.int mm), .val (.int rot), .val (.int v94), .val (.ref rb), .val (.int ((v129 * (2 : Int32)) + (mm &&& (1 : Int32)))), .val (.int ((v132 * (2 : Int32)) + (((mm.toUInt32 >>> ((1 : Int32) &&& 31).toUInt32).toInt32) &&& (1 : Int32)))), .val (.int ((v135 * (2 : Int32)) + (((mm.toUInt32 >>> ((2 : Int32) &&& 31).toUInt32).toInt32) &&& (1 : Int32)))), .val (.int ((v138 * (2 : Int32)) + (((mm.toUInt32 >>> ((3 : Int32) &&& 31).toUInt32).toInt32) &&& (1 : Int32)))), .val (.int v155), .val (.int (0 : Int32)), .val (.int v143), .val (.int v149), .val (.int v156)] [(.int r121.2.2.2.2.2)])) := q185.trans (st186)
            have q188 : Steps p.tables e below (s₁.setTop (entryFrame m #[(.int p0), (.int p1), (.int p2)] maxLocals)) (T186.setTop (mkF m 581 #[.val (.int p0), .val (.int p1), .val (.int p2), .val (.int r0), .val (.int r1), .val (.int r2), .val (.int r3), .val (.int v10), .val (.int v17), .val (.int v24), .val (.int v31), .val (.int kk), .val (.ref ca), .val (.ref bo), .val (.int mm), .val (.int rot), .val (.int v94), .val (.ref rb), .val (.int ((v129 * (2 : Int32)) + (mm &&& (1 : Int32)))), .val (.int ((v132 * (2 : Int32)) + (((mm.toUInt32 >>> ((1 : Int32) &&& 31).toUInt32).toInt32) &&& (1 : Int32)))), .val (.int ((v135 * (2 : Int32)) + (((mm.toUInt32 >>> ((2 : Int32) &&& 31).toUInt32).toInt32) &&& (1 : Int32)))), .val (.int ((v138 * (2 : Int32)) + (((mm.toUInt32 >>> ((3 : Int32) &&& 31).toUInt32).toInt32) &&& (1 : Int32)))), .val (.int v155), .val (.int (0 : Int32)), .val (.int v143), .val (.int v149), .val (.int v156)] [(.int v155), (.int r121.2.2.2.2.2)])) := q187.trans (by
                show Steps p.tables e below (T186.setTop (mkF m 579 #[.val (.int p0), .val (.int p1), .val (.int p2), .val (.int r0), .val (.int r1), .val (.int r2), .val (.int r3), .val (.int v10), .val (.int v17), .val (.int v24), .val (.int v31), .val (.int kk), .val (.ref ca), .val (.ref bo), .val (.int mm), .val (.int rot), .val (.int v94), .val (.ref rb), .val (.int ((v129 * (2 : Int32)) + (mm &&& (1 : Int32)))), .val (.int ((v132 * (2 : Int32)) + (((mm.toUInt32 >>> ((1 : Int32) &&& 31).toUInt32).toInt32) &&& (1 : Int32)))), .val (.int ((v135 * (2 : Int32)) + (((mm.toUInt32 >>> ((2 : Int32) &&& 31).toUInt32).toInt32) &&& (1 : Int32)))), .val (.int ((v138 * (2 : Int32)) + (((mm.toUInt32 >>> ((3 : Int32) &&& 31).toUInt32).toInt32) &&& (1 : Int32)))), .val (.int v155), .val (.int (0 : Int32)), .val (.int v143), .val (.int v149), .val (.int v156)] [(.int r121.2.2.2.2.2)])) _
                refine XS.iload X186.here hx rfl (hb hby at_579) rfl ?_
                show Steps p.tables e below (T186.setTop (mkF m 581 #[.val (.int p0), .val (.int p1), .val (.int p2), .val (.int r0), .val (.int r1), .val (.int r2), .val (.int r3), .val (.int v10), .val (.int v17), .val (.int v24), .val (.int v31), .val (.int kk), .val (.ref ca), .val (.ref bo), .val (.int mm), .val (.int rot), .val (.int v94), .val (.ref rb), .val (.int ((v129 * (2 : Int32)) + (mm &&& (1 : Int32)))), .val (.int ((v132 * (2 : Int32)) + (((mm.toUInt32 >>> ((1 : Int32) &&& 31).toUInt32).toInt32) &&& (1 : Int32)))), .val (.int ((v135 * (2 : Int32)) + (((mm.toUInt32 >>> ((2 : Int32) &&& 31).toUInt32).toInt32) &&& (1 : Int32)))), .val (.int ((v138 * (2 : Int32)) + (((mm.toUInt32 >>> ((3 : Int32) &&& 31).toUInt32).toInt32) &&& (1 : Int32)))), .val (.int v155), .val (.int (0 : Int32)), .val (.int v143), .val (.int v149), .val (.int v156)] [(.int v155), (.int r121.2.2.2.2.2)])) _
                exact Steps.refl _)
            by_cases hc189 : r121.2.2.2.2.2 = v155
            · rw [if_pos hc189] at hM
              have q190 : Steps p.tables e below (s₁.setTop (entryFrame m #[(.int p0), (.int p1), (.int p2)] maxLocals)) (T186.setTop (mkF m 584 #[.val (.int p0), .val (.int p1), .val (.int p2), .val (.int r0), .val (.int r1), .val (.int r2), .val (.int r3), .val (.int v10), .val (.int v17), .val (.int v24), .val (.int v31), .val (.int kk), .val (.ref ca), .val (.ref bo), .val (.int mm), .val (.int rot), .val (.int v94), .val (.ref rb), .val (.int ((v129 * (2 : Int32)) + (mm &&& (1 : Int32)))), .val (.int ((v132 * (2 : Int32)) + (((mm.toUInt32 >>> ((1 : Int32) &&& 31).toUInt32).toInt32) &&& (1 : Int32)))), .val (.int ((v135 * (2 : Int32)) + (((mm.toUInt32 >>> ((2 : Int32) &&& 31).toUInt32).toInt32) &&& (1 : Int32)))), .val (.int ((v138 * (2 : Int32)) + (((mm.toUInt32 >>> ((3 : Int32) &&& 31).toUInt32).toInt32) &&& (1 : Int32)))), .val (.int v155), .val (.int (0 : Int32)), .val (.int v143), .val (.int v149), .val (.int v156)] [])) := q188.trans (by
                  show Steps p.tables e below (T186.setTop (mkF m 581 #[.val (.int p0), .val (.int p1), .val (.int p2), .val (.int r0), .val (.int r1), .val (.int r2), .val (.int r3), .val (.int v10), .val (.int v17), .val (.int v24), .val (.int v31), .val (.int kk), .val (.ref ca), .val (.ref bo), .val (.int mm), .val (.int rot), .val (.int v94), .val (.ref rb), .val (.int ((v129 * (2 : Int32)) + (mm &&& (1 : Int32)))), .val (.int ((v132 * (2 : Int32)) + (((mm.toUInt32 >>> ((1 : Int32) &&& 31).toUInt32).toInt32) &&& (1 : Int32)))), .val (.int ((v135 * (2 : Int32)) + (((mm.toUInt32 >>> ((2 : Int32) &&& 31).toUInt32).toInt32) &&& (1 : Int32)))), .val (.int ((v138 * (2 : Int32)) + (((mm.toUInt32 >>> ((3 : Int32) &&& 31).toUInt32).toInt32) &&& (1 : Int32)))), .val (.int v155), .val (.int (0 : Int32)), .val (.int v143), .val (.int v149), .val (.int v156)] [(.int v155), (.int r121.2.2.2.2.2)])) _
                  refine XS.icmpNo X186.here hx rfl (hb hby at_581) rfl (teq hc189).2 ?_
                  show Steps p.tables e below (T186.setTop (mkF m 584 #[.val (.int p0), .val (.int p1), .val (.int p2), .val (.int r0), .val (.int r1), .val (.int r2), .val (.int r3), .val (.int v10), .val (.int v17), .val (.int v24), .val (.int v31), .val (.int kk), .val (.ref ca), .val (.ref bo), .val (.int mm), .val (.int rot), .val (.int v94), .val (.ref rb), .val (.int ((v129 * (2 : Int32)) + (mm &&& (1 : Int32)))), .val (.int ((v132 * (2 : Int32)) + (((mm.toUInt32 >>> ((1 : Int32) &&& 31).toUInt32).toInt32) &&& (1 : Int32)))), .val (.int ((v135 * (2 : Int32)) + (((mm.toUInt32 >>> ((2 : Int32) &&& 31).toUInt32).toInt32) &&& (1 : Int32)))), .val (.int ((v138 * (2 : Int32)) + (((mm.toUInt32 >>> ((3 : Int32) &&& 31).toUInt32).toInt32) &&& (1 : Int32)))), .val (.int v155), .val (.int (0 : Int32)), .val (.int v143), .val (.int v149), .val (.int v156)] [])) _
                  exact Steps.refl _)
              have q191 : Steps p.tables e below (s₁.setTop (entryFrame m #[(.int p0), (.int p1), (.int p2)] maxLocals)) (T186.setTop (mkF m 589 #[.val (.int p0), .val (.int p1), .val (.int p2), .val (.int r0), .val (.int r1), .val (.int r2), .val (.int r3), .val (.int v10), .val (.int v17), .val (.int v24), .val (.int v31), .val (.int kk), .val (.ref ca), .val (.ref bo), .val (.int mm), .val (.int rot), .val (.int v94), .val (.ref rb), .val (.int ((v129 * (2 : Int32)) + (mm &&& (1 : Int32)))), .val (.int ((v132 * (2 : Int32)) + (((mm.toUInt32 >>> ((1 : Int32) &&& 31).toUInt32).toInt32) &&& (1 : Int32)))), .val (.int ((v135 * (2 : Int32)) + (((mm.toUInt32 >>> ((2 : Int32) &&& 31).toUInt32).toInt32) &&& (1 : Int32)))), .val (.int ((v138 * (2 : Int32)) + (((mm.toUInt32 >>> ((3 : Int32) &&& 31).toUInt32).toInt32) &&& (1 : Int32)))), .val (.int v155), .val (.int (0 : Int32)), .val (.int v143), .val (.int v149), .val (.int v156)] [(.int (1 : Int32))])) := q190.trans (by
                  show Steps p.tables e below (T186.setTop (mkF m 584 #[.val (.int p0), .val (.int p1), .val (.int p2), .val (.int r0), .val (.int r1), .val (.int r2), .val (.int r3), .val (.int v10), .val (.int v17), .val (.int v24), .val (.int v31), .val (.int kk), .val (.ref ca), .val (.ref bo), .val (.int mm), .val (.int rot), .val (.int v94), .val (.ref rb), .val (.int ((v129 * (2 : Int32)) + (mm &&& (1 : Int32)))), .val (.int ((v132 * (2 : Int32)) + (((mm.toUInt32 >>> ((1 : Int32) &&& 31).toUInt32).toInt32) &&& (1 : Int32)))), .val (.int ((v135 * (2 : Int32)) + (((mm.toUInt32 >>> ((2 : Int32) &&& 31).toUInt32).toInt32) &&& (1 : Int32)))), .val (.int ((v138 * (2 : Int32)) + (((mm.toUInt32 >>> ((3 : Int32) &&& 31).toUInt32).toInt32) &&& (1 : Int32)))), .val (.int v155), .val (.int (0 : Int32)), .val (.int v143), .val (.int v149), .val (.int v156)] [])) _
                  refine XS.iconst X186.here hx rfl (hb hby at_584) ?_
                  show Steps p.tables e below (T186.setTop (mkF m 585 #[.val (.int p0), .val (.int p1), .val (.int p2), .val (.int r0), .val (.int r1), .val (.int r2), .val (.int r3), .val (.int v10), .val (.int v17), .val (.int v24), .val (.int v31), .val (.int kk), .val (.ref ca), .val (.ref bo), .val (.int mm), .val (.int rot), .val (.int v94), .val (.ref rb), .val (.int ((v129 * (2 : Int32)) + (mm &&& (1 : Int32)))), .val (.int ((v132 * (2 : Int32)) + (((mm.toUInt32 >>> ((1 : Int32) &&& 31).toUInt32).toInt32) &&& (1 : Int32)))), .val (.int ((v135 * (2 : Int32)) + (((mm.toUInt32 >>> ((2 : Int32) &&& 31).toUInt32).toInt32) &&& (1 : Int32)))), .val (.int ((v138 * (2 : Int32)) + (((mm.toUInt32 >>> ((3 : Int32) &&& 31).toUInt32).toInt32) &&& (1 : Int32)))), .val (.int v155), .val (.int (0 : Int32)), .val (.int v143), .val (.int v149), .val (.int v156)] [(.int (1 : Int32))])) _
                  refine XS.goto X186.here hx rfl (pc0 := 585) (pc' := 589) rfl (hb hby at_585) (by decide) (by decide) ?_
                  show Steps p.tables e below (T186.setTop (mkF m 589 #[.val (.int p0), .val (.int p1), .val (.int p2), .val (.int r0), .val (.int r1), .val (.int r2), .val (.int r3), .val (.int v10), .val (.int v17), .val (.int v24), .val (.int v31), .val (.int kk), .val (.ref ca), .val (.ref bo), .val (.int mm), .val (.int rot), .val (.int v94), .val (.ref rb), .val (.int ((v129 * (2 : Int32)) + (mm &&& (1 : Int32)))), .val (.int ((v132 * (2 : Int32)) + (((mm.toUInt32 >>> ((1 : Int32) &&& 31).toUInt32).toInt32) &&& (1 : Int32)))), .val (.int ((v135 * (2 : Int32)) + (((mm.toUInt32 >>> ((2 : Int32) &&& 31).toUInt32).toInt32) &&& (1 : Int32)))), .val (.int ((v138 * (2 : Int32)) + (((mm.toUInt32 >>> ((3 : Int32) &&& 31).toUInt32).toInt32) &&& (1 : Int32)))), .val (.int v155), .val (.int (0 : Int32)), .val (.int v143), .val (.int v149), .val (.int v156)] [(.int (1 : Int32))])) _
                  exact Steps.refl _)
              obtain rfl := Option.some.inj hM
              obtain ⟨fs, hr, hrun, hended, hW, hsame⟩ := X186.leave (v := some (.int (1 : Int32))) (fun h => by rw [Bd.returns] at h; cases h)
              refine ⟨_, _, q191.trans ?_, hrun, hended, _, _, rfl, ?_, ⟨_, rfl⟩, hW, hsame.mono (by decide) (by decide)⟩
              · exact retN X186 hx (t := .boolean) Bd.returns (by simp) (hb hby at_589) hr
              · show Q_rm0 Z p0 p1 p2 _ h0 n0 _ T186.heap _
                rw [e186]
                exact ⟨rfl, N186⟩
            · rw [if_neg hc189] at hM
              have q192 : Steps p.tables e below (s₁.setTop (entryFrame m #[(.int p0), (.int p1), (.int p2)] maxLocals)) (T186.setTop (mkF m 588 #[.val (.int p0), .val (.int p1), .val (.int p2), .val (.int r0), .val (.int r1), .val (.int r2), .val (.int r3), .val (.int v10), .val (.int v17), .val (.int v24), .val (.int v31), .val (.int kk), .val (.ref ca), .val (.ref bo), .val (.int mm), .val (.int rot), .val (.int v94), .val (.ref rb), .val (.int ((v129 * (2 : Int32)) + (mm &&& (1 : Int32)))), .val (.int ((v132 * (2 : Int32)) + (((mm.toUInt32 >>> ((1 : Int32) &&& 31).toUInt32).toInt32) &&& (1 : Int32)))), .val (.int ((v135 * (2 : Int32)) + (((mm.toUInt32 >>> ((2 : Int32) &&& 31).toUInt32).toInt32) &&& (1 : Int32)))), .val (.int ((v138 * (2 : Int32)) + (((mm.toUInt32 >>> ((3 : Int32) &&& 31).toUInt32).toInt32) &&& (1 : Int32)))), .val (.int v155), .val (.int (0 : Int32)), .val (.int v143), .val (.int v149), .val (.int v156)] [])) := q188.trans (by
                  show Steps p.tables e below (T186.setTop (mkF m 581 #[.val (.int p0), .val (.int p1), .val (.int p2), .val (.int r0), .val (.int r1), .val (.int r2), .val (.int r3), .val (.int v10), .val (.int v17), .val (.int v24), .val (.int v31), .val (.int kk), .val (.ref ca), .val (.ref bo), .val (.int mm), .val (.int rot), .val (.int v94), .val (.ref rb), .val (.int ((v129 * (2 : Int32)) + (mm &&& (1 : Int32)))), .val (.int ((v132 * (2 : Int32)) + (((mm.toUInt32 >>> ((1 : Int32) &&& 31).toUInt32).toInt32) &&& (1 : Int32)))), .val (.int ((v135 * (2 : Int32)) + (((mm.toUInt32 >>> ((2 : Int32) &&& 31).toUInt32).toInt32) &&& (1 : Int32)))), .val (.int ((v138 * (2 : Int32)) + (((mm.toUInt32 >>> ((3 : Int32) &&& 31).toUInt32).toInt32) &&& (1 : Int32)))), .val (.int v155), .val (.int (0 : Int32)), .val (.int v143), .val (.int v149), .val (.int v156)] [(.int v155), (.int r121.2.2.2.2.2)])) _
                  refine XS.icmpYes X186.here hx rfl (pc0 := 581) (pc' := 588) rfl (hb hby at_581) rfl (feq hc189).2 (by decide) (by decide) ?_
                  show Steps p.tables e below (T186.setTop (mkF m 588 #[.val (.int p0), .val (.int p1), .val (.int p2), .val (.int r0), .val (.int r1), .val (.int r2), .val (.int r3), .val (.int v10), .val (.int v17), .val (.int v24), .val (.int v31), .val (.int kk), .val (.ref ca), .val (.ref bo), .val (.int mm), .val (.int rot), .val (.int v94), .val (.ref rb), .val (.int ((v129 * (2 : Int32)) + (mm &&& (1 : Int32)))), .val (.int ((v132 * (2 : Int32)) + (((mm.toUInt32 >>> ((1 : Int32) &&& 31).toUInt32).toInt32) &&& (1 : Int32)))), .val (.int ((v135 * (2 : Int32)) + (((mm.toUInt32 >>> ((2 : Int32) &&& 31).toUInt32).toInt32) &&& (1 : Int32)))), .val (.int ((v138 * (2 : Int32)) + (((mm.toUInt32 >>> ((3 : Int32) &&& 31).toUInt32).toInt32) &&& (1 : Int32)))), .val (.int v155), .val (.int (0 : Int32)), .val (.int v143), .val (.int v149), .val (.int v156)] [])) _
                  exact Steps.refl _)
              cases hM
          · rw [if_neg hc183] at hM
            have q193 : Steps p.tables e below (s₁.setTop (entryFrame m #[(.int p0), (.int p1), (.int p2)] maxLocals)) (T126.setTop (mkF m 588 #[.val (.int p0), .val (.int p1), .val (.int p2), .val (.int r0), .val (.int r1), .val (.int r2), .val (.int r3), .val (.int v10), .val (.int v17), .val (.int v24), .val (.int v31), .val (.int kk), .val (.ref ca), .val (.ref bo), .val (.int mm), .val (.int rot), .val (.int v94), .val (.ref rb), .val (.int ((v129 * (2 : Int32)) + (mm &&& (1 : Int32)))), .val (.int ((v132 * (2 : Int32)) + (((mm.toUInt32 >>> ((1 : Int32) &&& 31).toUInt32).toInt32) &&& (1 : Int32)))), .val (.int ((v135 * (2 : Int32)) + (((mm.toUInt32 >>> ((2 : Int32) &&& 31).toUInt32).toInt32) &&& (1 : Int32)))), .val (.int ((v138 * (2 : Int32)) + (((mm.toUInt32 >>> ((3 : Int32) &&& 31).toUInt32).toInt32) &&& (1 : Int32)))), .val (.int v155), .val (.int (0 : Int32)), .val (.int v143), .val (.int v149), .val (.int v156)] [])) := q182.trans (by
                show Steps p.tables e below (T126.setTop (mkF m 571 #[.val (.int p0), .val (.int p1), .val (.int p2), .val (.int r0), .val (.int r1), .val (.int r2), .val (.int r3), .val (.int v10), .val (.int v17), .val (.int v24), .val (.int v31), .val (.int kk), .val (.ref ca), .val (.ref bo), .val (.int mm), .val (.int rot), .val (.int v94), .val (.ref rb), .val (.int ((v129 * (2 : Int32)) + (mm &&& (1 : Int32)))), .val (.int ((v132 * (2 : Int32)) + (((mm.toUInt32 >>> ((1 : Int32) &&& 31).toUInt32).toInt32) &&& (1 : Int32)))), .val (.int ((v135 * (2 : Int32)) + (((mm.toUInt32 >>> ((2 : Int32) &&& 31).toUInt32).toInt32) &&& (1 : Int32)))), .val (.int ((v138 * (2 : Int32)) + (((mm.toUInt32 >>> ((3 : Int32) &&& 31).toUInt32).toInt32) &&& (1 : Int32)))), .val (.int v155), .val (.int (0 : Int32)), .val (.int v143), .val (.int v149), .val (.int v156)] [(.int v156), (.int v180)])) _
                refine XS.icmpYes X126.here hx rfl (pc0 := 571) (pc' := 588) rfl (hb hby at_571) rfl (feq hc183).2 (by decide) (by decide) ?_
                show Steps p.tables e below (T126.setTop (mkF m 588 #[.val (.int p0), .val (.int p1), .val (.int p2), .val (.int r0), .val (.int r1), .val (.int r2), .val (.int r3), .val (.int v10), .val (.int v17), .val (.int v24), .val (.int v31), .val (.int kk), .val (.ref ca), .val (.ref bo), .val (.int mm), .val (.int rot), .val (.int v94), .val (.ref rb), .val (.int ((v129 * (2 : Int32)) + (mm &&& (1 : Int32)))), .val (.int ((v132 * (2 : Int32)) + (((mm.toUInt32 >>> ((1 : Int32) &&& 31).toUInt32).toInt32) &&& (1 : Int32)))), .val (.int ((v135 * (2 : Int32)) + (((mm.toUInt32 >>> ((2 : Int32) &&& 31).toUInt32).toInt32) &&& (1 : Int32)))), .val (.int ((v138 * (2 : Int32)) + (((mm.toUInt32 >>> ((3 : Int32) &&& 31).toUInt32).toInt32) &&& (1 : Int32)))), .val (.int v155), .val (.int (0 : Int32)), .val (.int v143), .val (.int v149), .val (.int v156)] [])) _
                exact Steps.refl _)
            cases hM
        · rw [if_neg hc177] at hM
          have q194 : Steps p.tables e below (s₁.setTop (entryFrame m #[(.int p0), (.int p1), (.int p2)] maxLocals)) (T126.setTop (mkF m 588 #[.val (.int p0), .val (.int p1), .val (.int p2), .val (.int r0), .val (.int r1), .val (.int r2), .val (.int r3), .val (.int v10), .val (.int v17), .val (.int v24), .val (.int v31), .val (.int kk), .val (.ref ca), .val (.ref bo), .val (.int mm), .val (.int rot), .val (.int v94), .val (.ref rb), .val (.int ((v129 * (2 : Int32)) + (mm &&& (1 : Int32)))), .val (.int ((v132 * (2 : Int32)) + (((mm.toUInt32 >>> ((1 : Int32) &&& 31).toUInt32).toInt32) &&& (1 : Int32)))), .val (.int ((v135 * (2 : Int32)) + (((mm.toUInt32 >>> ((2 : Int32) &&& 31).toUInt32).toInt32) &&& (1 : Int32)))), .val (.int ((v138 * (2 : Int32)) + (((mm.toUInt32 >>> ((3 : Int32) &&& 31).toUInt32).toInt32) &&& (1 : Int32)))), .val (.int v155), .val (.int (0 : Int32)), .val (.int v143), .val (.int v149), .val (.int v156)] [])) := q176.trans (by
              show Steps p.tables e below (T126.setTop (mkF m 562 #[.val (.int p0), .val (.int p1), .val (.int p2), .val (.int r0), .val (.int r1), .val (.int r2), .val (.int r3), .val (.int v10), .val (.int v17), .val (.int v24), .val (.int v31), .val (.int kk), .val (.ref ca), .val (.ref bo), .val (.int mm), .val (.int rot), .val (.int v94), .val (.ref rb), .val (.int ((v129 * (2 : Int32)) + (mm &&& (1 : Int32)))), .val (.int ((v132 * (2 : Int32)) + (((mm.toUInt32 >>> ((1 : Int32) &&& 31).toUInt32).toInt32) &&& (1 : Int32)))), .val (.int ((v135 * (2 : Int32)) + (((mm.toUInt32 >>> ((2 : Int32) &&& 31).toUInt32).toInt32) &&& (1 : Int32)))), .val (.int ((v138 * (2 : Int32)) + (((mm.toUInt32 >>> ((3 : Int32) &&& 31).toUInt32).toInt32) &&& (1 : Int32)))), .val (.int v155), .val (.int (0 : Int32)), .val (.int v143), .val (.int v149), .val (.int v156)] [(.int v149), (.int v174)])) _
              refine XS.icmpYes X126.here hx rfl (pc0 := 562) (pc' := 588) rfl (hb hby at_562) rfl (feq hc177).2 (by decide) (by decide) ?_
              show Steps p.tables e below (T126.setTop (mkF m 588 #[.val (.int p0), .val (.int p1), .val (.int p2), .val (.int r0), .val (.int r1), .val (.int r2), .val (.int r3), .val (.int v10), .val (.int v17), .val (.int v24), .val (.int v31), .val (.int kk), .val (.ref ca), .val (.ref bo), .val (.int mm), .val (.int rot), .val (.int v94), .val (.ref rb), .val (.int ((v129 * (2 : Int32)) + (mm &&& (1 : Int32)))), .val (.int ((v132 * (2 : Int32)) + (((mm.toUInt32 >>> ((1 : Int32) &&& 31).toUInt32).toInt32) &&& (1 : Int32)))), .val (.int ((v135 * (2 : Int32)) + (((mm.toUInt32 >>> ((2 : Int32) &&& 31).toUInt32).toInt32) &&& (1 : Int32)))), .val (.int ((v138 * (2 : Int32)) + (((mm.toUInt32 >>> ((3 : Int32) &&& 31).toUInt32).toInt32) &&& (1 : Int32)))), .val (.int v155), .val (.int (0 : Int32)), .val (.int v143), .val (.int v149), .val (.int v156)] [])) _
              exact Steps.refl _)
          cases hM
      · rw [if_neg hc171] at hM
        have q195 : Steps p.tables e below (s₁.setTop (entryFrame m #[(.int p0), (.int p1), (.int p2)] maxLocals)) (T126.setTop (mkF m 588 #[.val (.int p0), .val (.int p1), .val (.int p2), .val (.int r0), .val (.int r1), .val (.int r2), .val (.int r3), .val (.int v10), .val (.int v17), .val (.int v24), .val (.int v31), .val (.int kk), .val (.ref ca), .val (.ref bo), .val (.int mm), .val (.int rot), .val (.int v94), .val (.ref rb), .val (.int ((v129 * (2 : Int32)) + (mm &&& (1 : Int32)))), .val (.int ((v132 * (2 : Int32)) + (((mm.toUInt32 >>> ((1 : Int32) &&& 31).toUInt32).toInt32) &&& (1 : Int32)))), .val (.int ((v135 * (2 : Int32)) + (((mm.toUInt32 >>> ((2 : Int32) &&& 31).toUInt32).toInt32) &&& (1 : Int32)))), .val (.int ((v138 * (2 : Int32)) + (((mm.toUInt32 >>> ((3 : Int32) &&& 31).toUInt32).toInt32) &&& (1 : Int32)))), .val (.int v155), .val (.int (0 : Int32)), .val (.int v143), .val (.int v149), .val (.int v156)] [])) := q170.trans (by
            show Steps p.tables e below (T126.setTop (mkF m 553 #[.val (.int p0), .val (.int p1), .val (.int p2), .val (.int r0), .val (.int r1), .val (.int r2), .val (.int r3), .val (.int v10), .val (.int v17), .val (.int v24), .val (.int v31), .val (.int kk), .val (.ref ca), .val (.ref bo), .val (.int mm), .val (.int rot), .val (.int v94), .val (.ref rb), .val (.int ((v129 * (2 : Int32)) + (mm &&& (1 : Int32)))), .val (.int ((v132 * (2 : Int32)) + (((mm.toUInt32 >>> ((1 : Int32) &&& 31).toUInt32).toInt32) &&& (1 : Int32)))), .val (.int ((v135 * (2 : Int32)) + (((mm.toUInt32 >>> ((2 : Int32) &&& 31).toUInt32).toInt32) &&& (1 : Int32)))), .val (.int ((v138 * (2 : Int32)) + (((mm.toUInt32 >>> ((3 : Int32) &&& 31).toUInt32).toInt32) &&& (1 : Int32)))), .val (.int v155), .val (.int (0 : Int32)), .val (.int v143), .val (.int v149), .val (.int v156)] [(.int v143), (.int v168)])) _
            refine XS.icmpYes X126.here hx rfl (pc0 := 553) (pc' := 588) rfl (hb hby at_553) rfl (feq hc171).2 (by decide) (by decide) ?_
            show Steps p.tables e below (T126.setTop (mkF m 588 #[.val (.int p0), .val (.int p1), .val (.int p2), .val (.int r0), .val (.int r1), .val (.int r2), .val (.int r3), .val (.int v10), .val (.int v17), .val (.int v24), .val (.int v31), .val (.int kk), .val (.ref ca), .val (.ref bo), .val (.int mm), .val (.int rot), .val (.int v94), .val (.ref rb), .val (.int ((v129 * (2 : Int32)) + (mm &&& (1 : Int32)))), .val (.int ((v132 * (2 : Int32)) + (((mm.toUInt32 >>> ((1 : Int32) &&& 31).toUInt32).toInt32) &&& (1 : Int32)))), .val (.int ((v135 * (2 : Int32)) + (((mm.toUInt32 >>> ((2 : Int32) &&& 31).toUInt32).toInt32) &&& (1 : Int32)))), .val (.int ((v138 * (2 : Int32)) + (((mm.toUInt32 >>> ((3 : Int32) &&& 31).toUInt32).toInt32) &&& (1 : Int32)))), .val (.int v155), .val (.int (0 : Int32)), .val (.int v143), .val (.int v149), .val (.int v156)] [])) _
            exact Steps.refl _)
        cases hM
    · rw [if_neg hc165] at hM
      have q196 : Steps p.tables e below (s₁.setTop (entryFrame m #[(.int p0), (.int p1), (.int p2)] maxLocals)) (T126.setTop (mkF m 588 #[.val (.int p0), .val (.int p1), .val (.int p2), .val (.int r0), .val (.int r1), .val (.int r2), .val (.int r3), .val (.int v10), .val (.int v17), .val (.int v24), .val (.int v31), .val (.int kk), .val (.ref ca), .val (.ref bo), .val (.int mm), .val (.int rot), .val (.int v94), .val (.ref rb), .val (.int ((v129 * (2 : Int32)) + (mm &&& (1 : Int32)))), .val (.int ((v132 * (2 : Int32)) + (((mm.toUInt32 >>> ((1 : Int32) &&& 31).toUInt32).toInt32) &&& (1 : Int32)))), .val (.int ((v135 * (2 : Int32)) + (((mm.toUInt32 >>> ((2 : Int32) &&& 31).toUInt32).toInt32) &&& (1 : Int32)))), .val (.int ((v138 * (2 : Int32)) + (((mm.toUInt32 >>> ((3 : Int32) &&& 31).toUInt32).toInt32) &&& (1 : Int32)))), .val (.int v155), .val (.int (0 : Int32)), .val (.int v143), .val (.int v149), .val (.int v156)] [])) := q164.trans (by
          show Steps p.tables e below (T126.setTop (mkF m 544 #[.val (.int p0), .val (.int p1), .val (.int p2), .val (.int r0), .val (.int r1), .val (.int r2), .val (.int r3), .val (.int v10), .val (.int v17), .val (.int v24), .val (.int v31), .val (.int kk), .val (.ref ca), .val (.ref bo), .val (.int mm), .val (.int rot), .val (.int v94), .val (.ref rb), .val (.int ((v129 * (2 : Int32)) + (mm &&& (1 : Int32)))), .val (.int ((v132 * (2 : Int32)) + (((mm.toUInt32 >>> ((1 : Int32) &&& 31).toUInt32).toInt32) &&& (1 : Int32)))), .val (.int ((v135 * (2 : Int32)) + (((mm.toUInt32 >>> ((2 : Int32) &&& 31).toUInt32).toInt32) &&& (1 : Int32)))), .val (.int ((v138 * (2 : Int32)) + (((mm.toUInt32 >>> ((3 : Int32) &&& 31).toUInt32).toInt32) &&& (1 : Int32)))), .val (.int v155), .val (.int (0 : Int32)), .val (.int v143), .val (.int v149), .val (.int v156)] [(.int (0 : Int32)), (.int v162)])) _
          refine XS.icmpYes X126.here hx rfl (pc0 := 544) (pc' := 588) rfl (hb hby at_544) rfl (feq hc165).2 (by decide) (by decide) ?_
          show Steps p.tables e below (T126.setTop (mkF m 588 #[.val (.int p0), .val (.int p1), .val (.int p2), .val (.int r0), .val (.int r1), .val (.int r2), .val (.int r3), .val (.int v10), .val (.int v17), .val (.int v24), .val (.int v31), .val (.int kk), .val (.ref ca), .val (.ref bo), .val (.int mm), .val (.int rot), .val (.int v94), .val (.ref rb), .val (.int ((v129 * (2 : Int32)) + (mm &&& (1 : Int32)))), .val (.int ((v132 * (2 : Int32)) + (((mm.toUInt32 >>> ((1 : Int32) &&& 31).toUInt32).toInt32) &&& (1 : Int32)))), .val (.int ((v135 * (2 : Int32)) + (((mm.toUInt32 >>> ((2 : Int32) &&& 31).toUInt32).toInt32) &&& (1 : Int32)))), .val (.int ((v138 * (2 : Int32)) + (((mm.toUInt32 >>> ((3 : Int32) &&& 31).toUInt32).toInt32) &&& (1 : Int32)))), .val (.int v155), .val (.int (0 : Int32)), .val (.int v143), .val (.int v149), .val (.int v156)] [])) _
          exact Steps.refl _)
      cases hM
  · rw [if_neg hc159] at hM
    have q197 : Steps p.tables e below (s₁.setTop (entryFrame m #[(.int p0), (.int p1), (.int p2)] maxLocals)) (T126.setTop (mkF m 536 #[.val (.int p0), .val (.int p1), .val (.int p2), .val (.int r0), .val (.int r1), .val (.int r2), .val (.int r3), .val (.int v10), .val (.int v17), .val (.int v24), .val (.int v31), .val (.int kk), .val (.ref ca), .val (.ref bo), .val (.int mm), .val (.int rot), .val (.int v94), .val (.ref rb), .val (.int ((v129 * (2 : Int32)) + (mm &&& (1 : Int32)))), .val (.int ((v132 * (2 : Int32)) + (((mm.toUInt32 >>> ((1 : Int32) &&& 31).toUInt32).toInt32) &&& (1 : Int32)))), .val (.int ((v135 * (2 : Int32)) + (((mm.toUInt32 >>> ((2 : Int32) &&& 31).toUInt32).toInt32) &&& (1 : Int32)))), .val (.int ((v138 * (2 : Int32)) + (((mm.toUInt32 >>> ((3 : Int32) &&& 31).toUInt32).toInt32) &&& (1 : Int32)))), .val (.int v155), .val (.int (0 : Int32)), .val (.int v143), .val (.int v149), .val (.int v156)] [])) := q158.trans (by
        show Steps p.tables e below (T126.setTop (mkF m 533 #[.val (.int p0), .val (.int p1), .val (.int p2), .val (.int r0), .val (.int r1), .val (.int r2), .val (.int r3), .val (.int v10), .val (.int v17), .val (.int v24), .val (.int v31), .val (.int kk), .val (.ref ca), .val (.ref bo), .val (.int mm), .val (.int rot), .val (.int v94), .val (.ref rb), .val (.int ((v129 * (2 : Int32)) + (mm &&& (1 : Int32)))), .val (.int ((v132 * (2 : Int32)) + (((mm.toUInt32 >>> ((1 : Int32) &&& 31).toUInt32).toInt32) &&& (1 : Int32)))), .val (.int ((v135 * (2 : Int32)) + (((mm.toUInt32 >>> ((2 : Int32) &&& 31).toUInt32).toInt32) &&& (1 : Int32)))), .val (.int ((v138 * (2 : Int32)) + (((mm.toUInt32 >>> ((3 : Int32) &&& 31).toUInt32).toInt32) &&& (1 : Int32)))), .val (.int v155), .val (.int (0 : Int32)), .val (.int v143), .val (.int v149), .val (.int v156)] [(.int (4 : Int32)), (.int (Own.ln r125))])) _
        refine XS.icmpNo X126.here hx rfl (hb hby at_533) rfl (feq hc159).1 ?_
        show Steps p.tables e below (T126.setTop (mkF m 536 #[.val (.int p0), .val (.int p1), .val (.int p2), .val (.int r0), .val (.int r1), .val (.int r2), .val (.int r3), .val (.int v10), .val (.int v17), .val (.int v24), .val (.int v31), .val (.int kk), .val (.ref ca), .val (.ref bo), .val (.int mm), .val (.int rot), .val (.int v94), .val (.ref rb), .val (.int ((v129 * (2 : Int32)) + (mm &&& (1 : Int32)))), .val (.int ((v132 * (2 : Int32)) + (((mm.toUInt32 >>> ((1 : Int32) &&& 31).toUInt32).toInt32) &&& (1 : Int32)))), .val (.int ((v135 * (2 : Int32)) + (((mm.toUInt32 >>> ((2 : Int32) &&& 31).toUInt32).toInt32) &&& (1 : Int32)))), .val (.int ((v138 * (2 : Int32)) + (((mm.toUInt32 >>> ((3 : Int32) &&& 31).toUInt32).toInt32) &&& (1 : Int32)))), .val (.int v155), .val (.int (0 : Int32)), .val (.int v143), .val (.int v149), .val (.int v156)] [])) _
        exact Steps.refl _)
    cases hM

def own_pre2 (r0 r1 r2 r3 v10 v17 v24 v31 : Int32) : Option (List Int32 × Int32) := (some (if v10 = (0 : Int32) then (0 : Int32) else (1 : Int32))).bind fun v36 => (some (if v17 = (0 : Int32) then (0 : Int32) else (1 : Int32))).bind fun v40 => (some (if v24 = (0 : Int32) then (0 : Int32) else (1 : Int32))).bind fun v44 => (some (if v31 = (0 : Int32) then (0 : Int32) else (1 : Int32))).bind fun v48 => (some (((v36 + v40) + v44) + v48)).bind fun kk => (Own.mk 4 (4 : Int32)).bind fun y52 => (M_rank r0 v10 v17 v24).bind fun k56 => (Own.wt y52 (0 : Int32) k56).bind fun y59 => (M_rank r1 v10 v17 v24).bind fun k63 => (Own.wt y59 (1 : Int32) k63).bind fun y66 => (M_rank r2 v10 v17 v24).bind fun k70 => (Own.wt y66 (2 : Int32) k70).bind fun y73 => (M_rank r3 v10 v17 v24).bind fun k77 => (Own.wt y73 (3 : Int32) k77).bind fun y80 => some (y80, kk)
def own_pre (r0 r1 r2 r3 : Int32) : Option (List Int32 × Int32) := own_pre2 r0 r1 r2 r3 (if r0 = (0 : Int32) then (1 : Int32) else (if r1 = (0 : Int32) then (1 : Int32) else (if r2 = (0 : Int32) then (1 : Int32) else (if r3 = (0 : Int32) then (1 : Int32) else (0 : Int32))))) (if r0 = (1 : Int32) then (1 : Int32) else (if r1 = (1 : Int32) then (1 : Int32) else (if r2 = (1 : Int32) then (1 : Int32) else (if r3 = (1 : Int32) then (1 : Int32) else (0 : Int32))))) (if r0 = (2 : Int32) then (1 : Int32) else (if r1 = (2 : Int32) then (1 : Int32) else (if r2 = (2 : Int32) then (1 : Int32) else (if r3 = (2 : Int32) then (1 : Int32) else (0 : Int32))))) (if r0 = (3 : Int32) then (1 : Int32) else (if r1 = (3 : Int32) then (1 : Int32) else (if r2 = (3 : Int32) then (1 : Int32) else (if r3 = (3 : Int32) then (1 : Int32) else (0 : Int32)))))
def own_tabl : List (List Int32 × Int32) := [([0, 0, 0, 0], 1), ([0, 0, 0, 1], 2), ([0, 0, 1, 0], 2), ([0, 0, 1, 1], 2), ([0, 0, 1, 2], 3), ([0, 0, 2, 1], 3), ([0, 1, 0, 0], 2), ([0, 1, 0, 1], 2), ([0, 1, 0, 2], 3), ([0, 1, 1, 0], 2), ([0, 1, 1, 1], 2), ([0, 1, 1, 2], 3), ([0, 1, 2, 0], 3), ([0, 1, 2, 1], 3), ([0, 1, 2, 2], 3), ([0, 1, 2, 3], 4), ([0, 1, 3, 2], 4), ([0, 2, 0, 1], 3), ([0, 2, 1, 0], 3), ([0, 2, 1, 1], 3), ([0, 2, 1, 2], 3), ([0, 2, 1, 3], 4), ([0, 2, 2, 1], 3), ([0, 2, 3, 1], 4), ([0, 3, 1, 2], 4), ([0, 3, 2, 1], 4), ([1, 0, 0, 0], 2), ([1, 0, 0, 1], 2), ([1, 0, 0, 2], 3), ([1, 0, 1, 0], 2), ([1, 0, 1, 1], 2), ([1, 0, 1, 2], 3), ([1, 0, 2, 0], 3), ([1, 0, 2, 1], 3), ([1, 0, 2, 2], 3), ([1, 0, 2, 3], 4), ([1, 0, 3, 2], 4), ([1, 1, 0, 0], 2), ([1, 1, 0, 1], 2), ([1, 1, 0, 2], 3), ([1, 1, 1, 0], 2), ([1, 1, 2, 0], 3), ([1, 2, 0, 0], 3), ([1, 2, 0, 1], 3), ([1, 2, 0, 2], 3), ([1, 2, 0, 3], 4), ([1, 2, 1, 0], 3), ([1, 2, 2, 0], 3), ([1, 2, 3, 0], 4), ([1, 3, 0, 2], 4), ([1, 3, 2, 0], 4), ([2, 0, 0, 1], 3), ([2, 0, 1, 0], 3), ([2, 0, 1, 1], 3), ([2, 0, 1, 2], 3), ([2, 0, 1, 3], 4), ([2, 0, 2, 1], 3), ([2, 0, 3, 1], 4), ([2, 1, 0, 0], 3), ([2, 1, 0, 1], 3), ([2, 1, 0, 2], 3), ([2, 1, 0, 3], 4), ([2, 1, 1, 0], 3), ([2, 1, 2, 0], 3), ([2, 1, 3, 0], 4), ([2, 2, 0, 1], 3), ([2, 2, 1, 0], 3), ([2, 3, 0, 1], 4), ([2, 3, 1, 0], 4), ([3, 0, 1, 2], 4), ([3, 0, 2, 1], 4), ([3, 1, 0, 2], 4), ([3, 1, 2, 0], 4), ([3, 2, 0, 1], 4), ([3, 2, 1, 0], 4)]
theorem own_split2 (r0 r1 r2 r3 u0 u1 u2 u3 p1 p2 : Int32) : M_core2 r0 r1 r2 r3 u0 u1 u2 u3 p1 p2 = (own_pre2 r0 r1 r2 r3 u0 u1 u2 u3).bind fun t => M_mid t.1 t.2 p1 p2 := by
  unfold M_core2 own_pre2
  rw [Option.bind_some, Option.bind_some]
  generalize (if u0 = (0 : Int32) then (0 : Int32) else (1 : Int32)) = v36
  rw [Option.bind_some, Option.bind_some]
  generalize (if u1 = (0 : Int32) then (0 : Int32) else (1 : Int32)) = v40
  rw [Option.bind_some, Option.bind_some]
  generalize (if u2 = (0 : Int32) then (0 : Int32) else (1 : Int32)) = v44
  rw [Option.bind_some, Option.bind_some]
  generalize (if u3 = (0 : Int32) then (0 : Int32) else (1 : Int32)) = v48
  rw [Option.bind_some, Option.bind_some]
  generalize (((v36 + v40) + v44) + v48) = kk
  generalize Own.mk 4 (4 : Int32) = o_y52
  cases o_y52 with
  | none => rfl
  | some y52 =>
    rw [Option.bind_some, Option.bind_some]
    generalize M_rank r0 u0 u1 u2 = o_k56
    cases o_k56 with
    | none => rfl
    | some k56 =>
      rw [Option.bind_some, Option.bind_some]
      generalize Own.wt y52 (0 : Int32) k56 = o_y59
      cases o_y59 with
      | none => rfl
      | some y59 =>
        rw [Option.bind_some, Option.bind_some]
        generalize M_rank r1 u0 u1 u2 = o_k63
        cases o_k63 with
        | none => rfl
        | some k63 =>
          rw [Option.bind_some, Option.bind_some]
          generalize Own.wt y59 (1 : Int32) k63 = o_y66
          cases o_y66 with
          | none => rfl
          | some y66 =>
            rw [Option.bind_some, Option.bind_some]
            generalize M_rank r2 u0 u1 u2 = o_k70
            cases o_k70 with
            | none => rfl
            | some k70 =>
              rw [Option.bind_some, Option.bind_some]
              generalize Own.wt y66 (2 : Int32) k70 = o_y73
              cases o_y73 with
              | none => rfl
              | some y73 =>
                rw [Option.bind_some, Option.bind_some]
                generalize M_rank r3 u0 u1 u2 = o_k77
                cases o_k77 with
                | none => rfl
                | some k77 =>
                  rw [Option.bind_some, Option.bind_some]
                  generalize Own.wt y73 (3 : Int32) k77 = o_y80
                  cases o_y80 with
                  | none => rfl
                  | some y80 =>
                    rw [Option.bind_some, Option.bind_some]
                    rfl
theorem own_split (r0 r1 r2 r3 p1 p2 : Int32) : M_core r0 r1 r2 r3 p1 p2 = (own_pre r0 r1 r2 r3).bind fun t => M_mid t.1 t.2 p1 p2 := by
  unfold own_pre M_core
  rw [← own_split2, Option.bind_some, Option.bind_some, Option.bind_some, Option.bind_some]
set_option maxRecDepth 100000 in
theorem own_pres : (([0, 1, 2, 3] : List Int32).all fun a => ([0, 1, 2, 3] : List Int32).all fun b => ([0, 1, 2, 3] : List Int32).all fun c => ([0, 1, 2, 3] : List Int32).all fun d => (own_pre a b c d).any fun t => own_tabl.contains t) = true := by decide +kernel
set_option maxRecDepth 100000 in
theorem own_all : (own_tabl.all fun t => (List.range 16).all fun m => (List.range 8).all fun o => M_mid t.1 t.2 (Int32.ofNat m) (Int32.ofNat o) == some 1) = true := by decide +kernel
theorem own_m4 (x : Int32) : (x &&& (3 : Int32)) ∈ ([0, 1, 2, 3] : List Int32) := by
  have h := Jvm.Kit.i32_mask x 3 (k := 2) (by decide) (by decide)
  simp only [List.mem_cons, List.not_mem_nil, or_false, ← Int32.toInt_inj, h, show (0 : Int32).toInt = 0 from rfl, show (1 : Int32).toInt = 1 from rfl, show (2 : Int32).toInt = 2 from rfl, show (3 : Int32).toInt = 3 from rfl]
  omega
theorem own_mask (t : List Int32) (k p1 p2 : Int32) : M_mid t k p1 p2 = M_mid t k (p1 &&& 15) (p2 &&& 7) := by
  have e1 : (p1 &&& (15 : Int32)) &&& (15 : Int32) = p1 &&& 15 := by rw [Int32.and_assoc, show (15 : Int32) &&& 15 = 15 from by decide]
  have e2 : (p2 &&& (7 : Int32)) &&& (3 : Int32) = p2 &&& 3 := by rw [Int32.and_assoc, show (7 : Int32) &&& 3 = 3 from by decide]
  have e3 : (p2 &&& (7 : Int32)) &&& (4 : Int32) = p2 &&& 4 := by rw [Int32.and_assoc, show (7 : Int32) &&& 4 = 4 from by decide]
  unfold M_mid M_rest
  rw [e1, e2, e3]
theorem own_small (x m : Int32) {k n : Nat} (hk : k < 32) (hm : m.toBitVec.toNat = 2 ^ k - 1) (hn : n = 2 ^ k) (hn2 : n < 1000) : ∃ a, a < n ∧ (x &&& m) = Int32.ofNat a := by
  have h := Jvm.Kit.i32_mask x m hk hm
  have hp : ((2 : Int) ^ k) = (n : Int) := by rw [hn]; simp
  rw [hp] at h
  have h1 : 0 ≤ x.toInt % (n : Int) := Int.emod_nonneg _ (by have := Nat.two_pow_pos k; omega)
  have h2 : x.toInt % (n : Int) < n := Int.emod_lt_of_pos _ (by have := Nat.two_pow_pos k; omega)
  refine ⟨(x.toInt % (n : Int)).toNat, by omega, ?_⟩
  apply Int32.toInt_inj.mp
  rw [h, Int32.toInt_ofNat_of_lt (by omega)]; omega
theorem own_law (p0 p1 p2 : Int32) : M_law p0 p1 p2 = some 1 := by
  unfold M_law
  rw [Option.bind_some, Option.bind_some, Option.bind_some, Option.bind_some]
  have hp := own_pres
  simp only [List.all_eq_true] at hp
  have hq := hp _ (own_m4 p0) _ (own_m4 ((p0.toUInt32 >>> ((2 : Int32) &&& 31).toUInt32).toInt32)) _ (own_m4 ((p0.toUInt32 >>> ((4 : Int32) &&& 31).toUInt32).toInt32)) _ (own_m4 ((p0.toUInt32 >>> ((6 : Int32) &&& 31).toUInt32).toInt32))
  rw [own_split]
  generalize own_pre (p0 &&& (3 : Int32)) (((p0.toUInt32 >>> ((2 : Int32) &&& 31).toUInt32).toInt32) &&& (3 : Int32)) (((p0.toUInt32 >>> ((4 : Int32) &&& 31).toUInt32).toInt32) &&& (3 : Int32)) (((p0.toUInt32 >>> ((6 : Int32) &&& 31).toUInt32).toInt32) &&& (3 : Int32)) = o at hq ⊢
  cases o with
  | none => rw [Option.any_none] at hq; cases hq
  | some t =>
    rw [Option.any_some] at hq
    have ht : t ∈ own_tabl := List.contains_iff_mem.mp hq
    have ha := own_all
    simp only [List.all_eq_true, beq_iff_eq, List.mem_range] at ha
    rw [Option.bind_some]
    obtain ⟨m, hm, em⟩ := own_small p1 15 (k := 4) (n := 16) (by decide) (by decide) rfl (by decide)
    obtain ⟨o, ho, eo⟩ := own_small p2 7 (k := 3) (n := 8) (by decide) (by decide) rfl (by decide)
    rw [own_mask, em, eo]
    exact ha t ht m hm o ho

set_option maxRecDepth 65536 in
set_option maxHeartbeats 40000000 in
theorem comes_1 {Post : Tables → Env → Array Value → State → Outcome → State → Prop} (hpost : ∀ tb e args s v u, (limb_1_1.after args s (.returned v) u = true ∧ limb_1_2.after args s (.returned v) u = true ∧ True) → FrameEnd s (.returned v) u (Jvm.fieldLocs frame_1_writes args s ++ Jvm.arrayLocs frame_1_arrays args s ++ Jvm.staticLocs frame_1_statics s) 32 192 → Post tb e args s (.returned v) u) :
    ArmFor flags0 classFile x code maxLocals ret World_1 tables_1 room_1 Calls_1 rest_1 Pre_1 Post := by
  intro l hfl _ _ p e ha hc hk s m args below hf hA hF happ hP
  obtain ⟨hcalls, hrest, hpre⟩ := hP
  obtain ⟨-, -, -, hnamed, -, -, -, hat⟩ := (Spec.applies_iff hf).mp happ
  obtain ⟨hg, hn⟩ := and_e (Cond.before_iff.mp (show (Jvm.Cond.and given_1 narrow_1).before args s = true from hpre))
  obtain ⟨hcount, hg0⟩ := and_e hg
  obtain ⟨ga0, hg1⟩ := and_e hg0
  obtain ⟨ga1, hg2⟩ := and_e hg1
  obtain ⟨w0, w1, w2, rfl⟩ : ∃ w0 w1 w2 : Value, args = #[w0, w1, w2] := by
    have hs : args.size = 3 := by simpa [Cond.value, given_1] using hcount
    obtain ⟨L⟩ := args
    match L, hs with
    | [w0, w1, w2], _ => exact ⟨w0, w1, w2, rfl⟩
  have hw := fun d (hd : d ∈ tables_1) => atoms_spec (ws := Jvm.Cond.code x code maxLocals ret :: tables_1) hat d (List.mem_cons_of_mem _ hd)
  have hfit : Fit s := fun {y c} hc i hi => by
    obtain ⟨ha, rfl⟩ := Array.getElem?_eq_some_iff.mp hc
    have q := List.all_eq_true.mp ((Array.all_eq_true_iff_forall_mem.mp hF) _ (Array.getElem_mem ha)) i (List.mem_range.mpr hi)
    simpa [Array.getElem?_eq_getElem hi] using q
  obtain ⟨i0, ei0⟩ := is_v ga0
  obtain rfl : w0 = (.int i0) := Option.some.inj ei0
  obtain ⟨i1, ei1⟩ := is_v ga1
  obtain rfl : w1 = (.int i1) := Option.some.inj ei1
  obtain ⟨i2, ei2⟩ := is_v hg2
  obtain rfl : w2 = (.int i2) := Option.some.inj ei2
  obtain ⟨n, o, h1, h2, h3, _, L, rfl, ⟨rfl, N⟩, hq⟩ := rm0 l s _ hw tables_1 i0 i1 i2 (1 : Int32) s.heap s.heap.size (Nat.le_refl _) (own_law i0 i1 i2) p e ha hc hk s m _ below hf ((Spec.applies_iff_loose hf).mp happ).1 ⟨rfl, State.Warmed39.refl s, rfl⟩ trivial
  refine ⟨n, _, h1, h2, h3, hpost _ _ _ _ _ _ ⟨Cond.after_iff.mpr rfl, Cond.after_iff.mpr (eq_i res_at (Term.int_eval (1)) rfl), trivial⟩ ⟨hq.1, hq.2.1, (hq.2.2.sift fun y hy => Or.inr (N y hy)).mono (by decide) (by decide)⟩⟩
theorem main_1_1 : Claimed_1_1 := comes_1 fun _ _ _ _ _ _ h hF => ⟨h.1, hF⟩
theorem main_1_2 : Claimed_1_2 := comes_1 fun _ _ _ _ _ _ h hF => ⟨h.2.1, hF⟩
end Jvm.Pilot.@@N@@
namespace Jvm.Pilot.@@N@@
open Jvm Jvm.ClassFile Sem Op Lib Jvm.Free Jvm.Stand Jvm.Pilot.@@N@@.Jvm.D
/-! MADE BY PROGRAM (witnessworld.py) out of the Statement's table words and the real class files: 10 classes; the members and pool entries that the words name. The judged class is class 1, her method 1. -/
namespace start1
open Jvm.ClassFile
def u (s : String) : CpInfo := .utf8 (stringToUtf16 s)
/-- a pool by its gaps: so many unusable entries, then the entry; so many at the end -/
def gap : Nat → List CpInfo → List CpInfo
  | 0, r => r
  | n + 1, r => .unusable :: gap n r
def poolList (es : List (Nat × CpInfo)) (last : Nat) : List CpInfo := es.foldr (fun e r => gap e.1 (e.2 :: r)) (gap last [])
def pool (es : List (Nat × CpInfo)) (last : Nat) : Array CpInfo := ⟨poolList es last⟩
def fileOf (pool : Array CpInfo) (this : Nat) (attrs : Array Attribute := #[]) (ms : Array MethodInfo := #[]) (fl : Nat := 33) (sup : Nat := 0) (ifs : Array Nat := #[]) (fds : Array FieldInfo := #[]) : ClassFile where
  minorVersion := 0
  majorVersion := 65
  constantPool := pool
  accessFlags := fl
  thisClass := this
  superClass := sup
  interfaces := ifs
  fields := fds
  methods := ms
  attributes := attrs
def plain (name : String) (sup : Option ClassId) : Class where
  name := name
  kind := .ordinary
  loader := none
  accessFlags := 33
  super := sup
  interfaces := #[]
  cf := none
  fields := #[]
  methods := #[]
  instanceTypes := #[]
  staticTypes := #[]
  resolved := #[]
  callSites := []
  init := .initialized
  statics := none
  mirror := none

def pool0 : Array CpInfo := pool [(5, u "<init>"), (0, u "()V"), (1, .class_ 10), (1, u "java/lang/Object"), (85, u "clone"), (0, u "()Ljava/lang/Object;")] 26

def k0c0 : Code := { maxStack := 0, maxLocals := 1, code := object_method_1_code, exceptionTable := #[], attributes := #[] }
def k0m0 : Method := { name := "<init>", desc := "()V", sig := { parameters := [], returnType := none }, accessFlags := 1, code := some k0c0 }
def k0m1 : Method := { name := "clone", desc := "()Ljava/lang/Object;", sig := { parameters := [], returnType := some (.object "java/lang/Object") }, accessFlags := 260, code := none }
/-- java/lang/Object -/
def k0 : Class := { plain "java/lang/Object" none with
  accessFlags := 33
  interfaces := #[]
  cf := some (fileOf pool0 8 #[] #[{ accessFlags := 1, nameIndex := 5, descriptorIndex := 6, attributes := #[] }, { accessFlags := 260, nameIndex := 96, descriptorIndex := 97, attributes := #[] }] 33 0 #[] #[])
  fields := #[]
  methods := #[k0m0, k0m1]
  instanceTypes := #[]
  staticTypes := #[]
  resolved := Array.replicate 124 none
  statics := none }

def pool1 : Array CpInfo := pool [(2, .class_ 4), (1, u "java/lang/Object"), (0, u "<init>"), (0, u "()V"), (0, .methodref 8 9), (0, .class_ 10), (0, .nameAndType 11 12), (0, u "com/example/libpathsum/libpathsum/BlocksMarkPinLaw"), (0, u "rank"), (0, u "(IZZZ)I"), (0, .class_ 14), (0, u "com/example/libpathsum/libpathsum/Blocks"), (0, .methodref 13 16), (0, .nameAndType 5 17), (0, u "([II)V"), (0, .methodref 8 19), (0, .nameAndType 20 21), (0, u "pos"), (0, u "(IZI)I"), (0, .methodref 8 23), (0, .nameAndType 24 25), (0, u "markIf"), (0, u "(Lcom/example/libpathsum/libpathsum/Blocks;II)V"), (0, .methodref 13 27), (0, .nameAndType 28 6), (0, u "splitMarked"), (0, .methodref 13 30), (0, .nameAndType 31 32), (0, u "classes"), (0, u "()[I"), (0, .methodref 13 34), (0, .nameAndType 35 36), (0, u "count"), (0, u "()I"), (0, .methodref 13 38), (0, .nameAndType 39 40), (0, u "mark"), (0, u "(I)V"), (2, u "law"), (0, u "(III)Z")] 5

def k1m0 : Method := { name := "<init>", desc := "()V", sig := { parameters := [], returnType := none }, accessFlags := 1, code := none }
def k1c1 : Code := { maxStack := 6, maxLocals := 27, code := code, exceptionTable := #[], attributes := #[] }
def k1m1 : Method := { name := "law", desc := "(III)Z", sig := { parameters := [.int, .int, .int], returnType := some .boolean }, accessFlags := 9, code := some k1c1 }
def k1c2 : Code := { maxStack := 3, maxLocals := 4, code := method_3_code, exceptionTable := #[], attributes := #[] }
def k1m2 : Method := { name := "rank", desc := "(IZZZ)I", sig := { parameters := [.int, .boolean, .boolean, .boolean], returnType := some .int }, accessFlags := 10, code := some k1c2 }
def k1c3 : Code := { maxStack := 2, maxLocals := 3, code := method_4_code, exceptionTable := #[], attributes := #[] }
def k1m3 : Method := { name := "pos", desc := "(IZI)I", sig := { parameters := [.int, .boolean, .int], returnType := some .int }, accessFlags := 10, code := some k1c3 }
def k1c4 : Code := { maxStack := 2, maxLocals := 3, code := method_5_code, exceptionTable := #[], attributes := #[] }
def k1m4 : Method := { name := "markIf", desc := "(Lcom/example/libpathsum/libpathsum/Blocks;II)V", sig := { parameters := [(.object "com/example/libpathsum/libpathsum/Blocks"), .int, .int], returnType := none }, accessFlags := 10, code := some k1c4 }
/-- com/example/libpathsum/libpathsum/BlocksMarkPinLaw -/
def k1 : Class := { plain "com/example/libpathsum/libpathsum/BlocksMarkPinLaw" (some 0) with
  accessFlags := 49
  interfaces := #[]
  cf := some (fileOf pool1 8 #[] #[{ accessFlags := 1, nameIndex := 5, descriptorIndex := 6, attributes := #[] }, { accessFlags := 9, nameIndex := 43, descriptorIndex := 44, attributes := #[] }, { accessFlags := 10, nameIndex := 11, descriptorIndex := 12, attributes := #[] }, { accessFlags := 10, nameIndex := 20, descriptorIndex := 21, attributes := #[] }, { accessFlags := 10, nameIndex := 24, descriptorIndex := 25, attributes := #[] }] 49 2 #[] #[])
  fields := #[]
  methods := #[k1m0, k1m1, k1m2, k1m3, k1m4]
  instanceTypes := #[]
  staticTypes := #[]
  resolved := Array.replicate 50 none
  statics := none }

def pool2 : Array CpInfo := pool [(1, .methodref 2 3), (0, .class_ 4), (0, .nameAndType 5 6), (0, u "java/lang/Object"), (0, u "<init>"), (0, u "()V"), (0, .fieldref 8 9), (0, .class_ 10), (0, .nameAndType 11 12), (0, u "com/example/libpathsum/libpathsum/Blocks"), (0, u "members"), (0, u "[I"), (0, .fieldref 8 14), (0, .nameAndType 15 12), (0, u "memberIndex"), (0, .methodref 17 18), (0, .class_ 19), (0, .nameAndType 20 21), (0, u "java/util/Arrays"), (0, u "copyOf"), (0, u "([II)[I"), (0, .fieldref 8 23), (0, .nameAndType 24 12), (0, u "blockOf"), (0, .fieldref 8 26), (0, .nameAndType 27 12), (0, u "start"), (0, .fieldref 8 29), (0, .nameAndType 30 12), (0, u "end"), (0, .fieldref 8 32), (0, .nameAndType 33 12), (0, u "splitFrom"), (0, .fieldref 8 35), (0, .nameAndType 36 12), (0, u "markedCount"), (0, .fieldref 8 38), (0, .nameAndType 39 12), (0, u "markedBlocks"), (0, .fieldref 8 41), (0, .nameAndType 42 43), (0, u "count"), (0, u "I"), (0, .methodref 8 45), (0, .nameAndType 46 47), (0, u "size"), (0, u "(I)I"), (6, .fieldref 8 55), (0, .nameAndType 56 43), (0, u "markedBlockCount"), (0, .methodref 8 58), (0, .nameAndType 59 21), (0, u "classes"), (0, .methodref 17 61), (0, .nameAndType 62 63), (0, u "fill"), (0, u "([II)V"), (4, u "()I"), (2, u "mark"), (0, u "(I)V"), (0, u "splitMarked"), (0, u "()[I")] 2

def k2c0 : Code := { maxStack := 6, maxLocals := 7, code := prog_1_method_1_code, exceptionTable := #[], attributes := #[] }
def k2m0 : Method := { name := "<init>", desc := "([II)V", sig := { parameters := [(.array .int), .int], returnType := none }, accessFlags := 0, code := some k2c0 }
def k2c1 : Code := { maxStack := 1, maxLocals := 1, code := prog_1_method_2_code, exceptionTable := #[], attributes := #[] }
def k2m1 : Method := { name := "count", desc := "()I", sig := { parameters := [], returnType := some .int }, accessFlags := 0, code := some k2c1 }
def k2c2 : Code := { maxStack := 3, maxLocals := 2, code := prog_1_method_3_code, exceptionTable := #[], attributes := #[] }
def k2m2 : Method := { name := "size", desc := "(I)I", sig := { parameters := [.int], returnType := some .int }, accessFlags := 0, code := some k2c2 }
def k2c3 : Code := { maxStack := 5, maxLocals := 5, code := prog_1_method_6_code, exceptionTable := #[], attributes := #[] }
def k2m3 : Method := { name := "mark", desc := "(I)V", sig := { parameters := [.int], returnType := none }, accessFlags := 0, code := some k2c3 }
def k2c4 : Code := { maxStack := 4, maxLocals := 6, code := prog_1_method_7_code, exceptionTable := #[], attributes := #[] }
def k2m4 : Method := { name := "splitMarked", desc := "()V", sig := { parameters := [], returnType := none }, accessFlags := 0, code := some k2c4 }
def k2c5 : Code := { maxStack := 2, maxLocals := 1, code := prog_1_method_8_code, exceptionTable := #[], attributes := #[] }
def k2m5 : Method := { name := "classes", desc := "()[I", sig := { parameters := [], returnType := some (.array .int) }, accessFlags := 0, code := some k2c5 }
def k2c6 : Code := { maxStack := 4, maxLocals := 7, code := prog_1_method_9_code, exceptionTable := #[], attributes := #[] }
def k2m6 : Method := { name := "classes", desc := "([II)[I", sig := { parameters := [(.array .int), .int], returnType := some (.array .int) }, accessFlags := 8, code := some k2c6 }
/-- com/example/libpathsum/libpathsum/Blocks -/
def k2 : Class := { plain "com/example/libpathsum/libpathsum/Blocks" (some 0) with
  accessFlags := 48
  interfaces := #[]
  cf := some (fileOf pool2 8 #[] #[{ accessFlags := 0, nameIndex := 5, descriptorIndex := 63, attributes := #[] }, { accessFlags := 0, nameIndex := 42, descriptorIndex := 68, attributes := #[] }, { accessFlags := 0, nameIndex := 46, descriptorIndex := 47, attributes := #[] }, { accessFlags := 0, nameIndex := 71, descriptorIndex := 72, attributes := #[] }, { accessFlags := 0, nameIndex := 73, descriptorIndex := 6, attributes := #[] }, { accessFlags := 0, nameIndex := 59, descriptorIndex := 74, attributes := #[] }, { accessFlags := 8, nameIndex := 59, descriptorIndex := 21, attributes := #[] }] 48 2 #[] #[{ accessFlags := 18, nameIndex := 11, descriptorIndex := 12, attributes := #[] }, { accessFlags := 18, nameIndex := 15, descriptorIndex := 12, attributes := #[] }, { accessFlags := 18, nameIndex := 24, descriptorIndex := 12, attributes := #[] }, { accessFlags := 18, nameIndex := 27, descriptorIndex := 12, attributes := #[] }, { accessFlags := 18, nameIndex := 30, descriptorIndex := 12, attributes := #[] }, { accessFlags := 2, nameIndex := 42, descriptorIndex := 43, attributes := #[] }, { accessFlags := 18, nameIndex := 33, descriptorIndex := 12, attributes := #[] }, { accessFlags := 18, nameIndex := 36, descriptorIndex := 12, attributes := #[] }, { accessFlags := 18, nameIndex := 39, descriptorIndex := 12, attributes := #[] }, { accessFlags := 2, nameIndex := 56, descriptorIndex := 43, attributes := #[] }])
  fields := #[{ name := "members", type := (.array .int), accessFlags := 18, slot := 0, constantValue := 0 }, { name := "memberIndex", type := (.array .int), accessFlags := 18, slot := 1, constantValue := 0 }, { name := "blockOf", type := (.array .int), accessFlags := 18, slot := 2, constantValue := 0 }, { name := "start", type := (.array .int), accessFlags := 18, slot := 3, constantValue := 0 }, { name := "end", type := (.array .int), accessFlags := 18, slot := 4, constantValue := 0 }, { name := "count", type := .int, accessFlags := 2, slot := 5, constantValue := 0 }, { name := "splitFrom", type := (.array .int), accessFlags := 18, slot := 6, constantValue := 0 }, { name := "markedCount", type := (.array .int), accessFlags := 18, slot := 7, constantValue := 0 }, { name := "markedBlocks", type := (.array .int), accessFlags := 18, slot := 8, constantValue := 0 }, { name := "markedBlockCount", type := .int, accessFlags := 2, slot := 9, constantValue := 0 }]
  methods := #[k2m0, k2m1, k2m2, k2m3, k2m4, k2m5, k2m6]
  instanceTypes := #[(.array .int), (.array .int), (.array .int), (.array .int), (.array .int), .int, (.array .int), (.array .int), (.array .int), .int]
  staticTypes := #[]
  resolved := Array.replicate 77 none
  statics := none }

def pool3 : Array CpInfo := pool [(2, .class_ 4), (1, u "java/lang/Object"), (0, u "<init>"), (0, u "()V"), (7, .class_ 16), (1, u "java/util/Arrays"), (57, .class_ 76), (1, u "java/util/Arrays$NaturalOrder"), (32, u "()Ljava/lang/Object;"), (3, .class_ 115), (1, u "java/util/Arrays$LegacyMergeSort"), (1, u "Z"), (10, .nameAndType 129 109), (0, u "clone"), (172, u "copyOf"), (13, .methodref 317 128), (0, .class_ 318), (0, u "[I"), (56, .class_ 376), (0, u "java/util/Arrays$ArrayList"), (68, u "$assertionsDisabled"), (269, u "MIN_ARRAY_SORT_GRAN"), (0, u "I"), (2, u "INSERTIONSORT_THRESHOLD"), (120, u "fill"), (4, u "([II)V"), (25, u "([II)[I"), (103, .class_ 976), (0, u "java/util/Arrays$ArrayItr")] 52

def k3m0 : Method := { name := "<init>", desc := "()V", sig := { parameters := [], returnType := none }, accessFlags := 2, code := none }
def k3c1 : Code := { maxStack := 3, maxLocals := 4, code := jdk_65_method_103_code, exceptionTable := #[], attributes := #[] }
def k3m1 : Method := { name := "fill", desc := "([II)V", sig := { parameters := [(.array .int), .int], returnType := none }, accessFlags := 9, code := some k3c1 }
def k3c2 : Code := { maxStack := 6, maxLocals := 3, code := jdk_65_method_123_code, exceptionTable := #[], attributes := #[] }
def k3m2 : Method := { name := "copyOf", desc := "([II)[I", sig := { parameters := [(.array .int), .int], returnType := some (.array .int) }, accessFlags := 9, code := some k3c2 }
/-- java/util/Arrays -/
def k3 : Class := { plain "java/util/Arrays" (some 0) with
  accessFlags := 49
  interfaces := #[]
  cf := some (fileOf pool3 14 #[.nestMembers #[975, 375, 113, 74]] #[{ accessFlags := 2, nameIndex := 5, descriptorIndex := 6, attributes := #[] }, { accessFlags := 9, nameIndex := 840, descriptorIndex := 845, attributes := #[] }, { accessFlags := 9, nameIndex := 302, descriptorIndex := 871, attributes := #[] }] 49 2 #[] #[{ accessFlags := 26, nameIndex := 715, descriptorIndex := 716, attributes := #[] }, { accessFlags := 26, nameIndex := 719, descriptorIndex := 716, attributes := #[] }, { accessFlags := 4120, nameIndex := 445, descriptorIndex := 117, attributes := #[] }])
  fields := #[{ name := "MIN_ARRAY_SORT_GRAN", type := .int, accessFlags := 26, slot := 0, constantValue := 0 }, { name := "INSERTIONSORT_THRESHOLD", type := .int, accessFlags := 26, slot := 1, constantValue := 0 }, { name := "$assertionsDisabled", type := .boolean, accessFlags := 4120, slot := 2, constantValue := 0 }]
  methods := #[k3m0, k3m1, k3m2]
  instanceTypes := #[]
  staticTypes := #[.int, .int, .boolean]
  resolved := Array.replicate 1029 none
  statics := none }

def pool4 : Array CpInfo := pool [(1, .class_ 2), (0, u "java/lang/Cloneable"), (0, .class_ 4), (0, u "java/lang/Object")] 2

/-- java/lang/Cloneable -/
def k4 : Class := { plain "java/lang/Cloneable" (some 0) with
  accessFlags := 1537
  interfaces := #[]
  cf := some (fileOf pool4 1 #[] #[] 1537 3 #[] #[])
  fields := #[]
  methods := #[]
  instanceTypes := #[]
  staticTypes := #[]
  resolved := Array.replicate 7 none
  statics := none }

def pool5 : Array CpInfo := pool [(1, u "java/io/Serializable"), (0, .class_ 1), (0, u "java/lang/Object"), (0, .class_ 3)] 3

/-- java/io/Serializable -/
def k5 : Class := { plain "java/io/Serializable" (some 0) with
  accessFlags := 1537
  interfaces := #[]
  cf := some (fileOf pool5 2 #[] #[] 1537 4 #[] #[])
  fields := #[]
  methods := #[]
  instanceTypes := #[]
  staticTypes := #[]
  resolved := Array.replicate 8 none
  statics := none }

/-- the primitive byte -/
def k6 : Class := { plain "byte" none with kind := .primitive 'B', accessFlags := 0x411 }
/-- [B -/
def k7 : Class := { plain "[B" (some 0) with kind := .array 6 .byte, interfaces := #[4, 5], accessFlags := 1041 }

/-- the primitive int -/
def k8 : Class := { plain "int" none with kind := .primitive 'I', accessFlags := 0x411 }
/-- [I -/
def k9 : Class := { plain "[I" (some 0) with kind := .array 8 .int, interfaces := #[4, 5], accessFlags := 1041 }

def heap : Heap := #[]
def classes : Array Class := #[k0, k1, k2, k3, k4, k5, k6, k7, k8, k9]
def interned : List (Array UInt16 × Addr) := []
def slotsUsed : Nat := 0
def theMethod : MethodId := ⟨1, 1⟩
def args0 : Array Value := #[.int 27, .int 90, .int 5]
def aboutOver (below : List Frame) : State where
  vm := { classes := classes, interned := interned.toArray }
  heap := heap
  slotsUsed := slotsUsed
  threads := #[{ frames := .invoking theMethod args0 :: below }]
def below0 : List Frame := [.native { method := ⟨0, 0⟩, args := #[] }]
def about1 : State := aboutOver below0
def p0 : Program := .bare "" "" ""
def e0 : Env := launch0.env 0 0 0
theorem w_frames : about1.frames = Frame.invoking theMethod args0 :: below0 := rfl
set_option maxRecDepth 65536 in
theorem w_args : argsFit about1.vm theMethod args0 = true := by decide +kernel
set_option maxRecDepth 65536 in
theorem w_heap : heapFits about1 = true := by decide +kernel
set_option maxRecDepth 65536 in
theorem w_runnable : about1.curStatus? = some .runnable := by decide +kernel
set_option maxRecDepth 65536 in
theorem w_alone : about1.alone = true := by decide +kernel
set_option maxRecDepth 65536 in
theorem w_named : about1.methodNamed? x = some theMethod := by decide +kernel
set_option maxRecDepth 65536 in
theorem w_hears : about1.hears theMethod below0 = true := by decide +kernel
set_option maxRecDepth 65536 in
theorem w_ripe : about1.ripe theMethod args0 below0 = true := by decide +kernel
theorem w_running : about1.status = .running := rfl
set_option maxRecDepth 65536 in
theorem w_room : about1.hasRoom e0.platform room_1 = true :=
  launch0.hasRoom_least _ room_1 (by decide +kernel) (by decide +kernel) (by decide +kernel) (by decide +kernel) (by decide +kernel) (by decide +kernel)
theorem allAtoms_all (ts : List Jvm.Cond) (a : Array Jvm.Value) (st : Jvm.State) : (allAtoms ts).before a st = ts.all (fun c => c.before a st) := by
  induction ts with
  | nil => rfl
  | cons c t ih =>
    show (Jvm.Cond.and c (allAtoms t)).before a st = _
    rw [Jvm.Cond.before_and, ih, List.all_cons]
def words1 : List Jvm.Cond := Jvm.Cond.code x code maxLocals ret :: tables_1
/-- a 'code' word, met by the world's own term for the bytes: nothing is compared byte by byte -/
theorem code_word {y : MethodName} {bytes : ByteArray} {mx : Nat} {rt : Option FieldType} {a : Array Value} {s : State} {m : MethodId} {meth : Method} {c : Code} (h1 : s.methodNamed? y = some m) (h2 : s.vm.method? m = some meth) (h3 : meth.code = some c) (h4 : c.code = bytes)
    (h5 : (c.maxLocals == mx && c.exceptionTable.isEmpty && decide (c.maxStack ≤ mostOperands) && decide (meth.sig.returnType = rt) && !meth.locks && decide (parseMethodDescriptor y.desc = some meth.sig)) = true) : (Jvm.Cond.code y bytes mx rt).before a s = true := by
  simp only [Bool.and_eq_true, beq_iff_eq, Bool.not_eq_true', decide_eq_true_eq] at h5
  obtain ⟨⟨⟨⟨⟨g1, g2⟩, g3⟩, g4⟩, g5⟩, g6⟩ := h5
  simp [Cond.before, Cond.holds, Cond.value, h1, h2, h3, h4, g1, g2, g3, g4, g5, g6]
def isCode : Jvm.Cond → Bool
  | .code _ _ _ _ => true
  | _ => false
theorem all_split {L : List Jvm.Cond} {P : Jvm.Cond → Bool} (h1 : L.all (fun c => isCode c || P c) = true) (h2 : ∀ c ∈ L.filter isCode, P c = true) : L.all P = true := by
  refine List.all_eq_true.mpr fun c hc => ?_
  have h := List.all_eq_true.mp h1 c hc
  rcases Bool.eq_false_or_eq_true (isCode c) with hi | hi
  · exact h2 c (List.mem_filter.mpr ⟨hc, hi⟩)
  · simpa [hi] using h
set_option maxRecDepth 65536 in
theorem w_c0 : (Jvm.Cond.code x code maxLocals ret).before args0 about1 = true := code_word (m := ⟨1, 1⟩) (meth := k1m1) (c := k1c1) (by decide +kernel) rfl rfl rfl (by decide +kernel)
set_option maxRecDepth 65536 in
theorem w_c1 : (Jvm.Cond.code ({ cls := "com/example/libpathsum/libpathsum/BlocksMarkPinLaw", name := "rank", desc := "(IZZZ)I" } : Jvm.MethodName) method_3_code (4 : Nat) (Option.some Jvm.ClassFile.FieldType.int)).before args0 about1 = true := code_word (m := ⟨1, 2⟩) (meth := k1m2) (c := k1c2) (by decide +kernel) rfl rfl rfl (by decide +kernel)
set_option maxRecDepth 65536 in
theorem w_c2 : (Jvm.Cond.code ({ cls := "com/example/libpathsum/libpathsum/Blocks", name := "<init>", desc := "([II)V" } : Jvm.MethodName) prog_1_method_1_code (7 : Nat) (Option.none : Option Jvm.ClassFile.FieldType)).before args0 about1 = true := code_word (m := ⟨2, 0⟩) (meth := k2m0) (c := k2c0) (by decide +kernel) rfl rfl rfl (by decide +kernel)
set_option maxRecDepth 65536 in
theorem w_c3 : (Jvm.Cond.code ({ cls := "java/lang/Object", name := "<init>", desc := "()V" } : Jvm.MethodName) object_method_1_code (1 : Nat) (Option.none : Option Jvm.ClassFile.FieldType)).before args0 about1 = true := code_word (m := ⟨0, 0⟩) (meth := k0m0) (c := k0c0) (by decide +kernel) rfl rfl rfl (by decide +kernel)
set_option maxRecDepth 65536 in
theorem w_c4 : (Jvm.Cond.code ({ cls := "java/util/Arrays", name := "copyOf", desc := "([II)[I" } : Jvm.MethodName) jdk_65_method_123_code (3 : Nat) (Option.some (Jvm.ClassFile.FieldType.array Jvm.ClassFile.FieldType.int))).before args0 about1 = true := code_word (m := ⟨3, 2⟩) (meth := k3m2) (c := k3c2) (by decide +kernel) rfl rfl rfl (by decide +kernel)
set_option maxRecDepth 65536 in
theorem w_c5 : (Jvm.Cond.code ({ cls := "com/example/libpathsum/libpathsum/BlocksMarkPinLaw", name := "pos", desc := "(IZI)I" } : Jvm.MethodName) method_4_code (3 : Nat) (Option.some Jvm.ClassFile.FieldType.int)).before args0 about1 = true := code_word (m := ⟨1, 3⟩) (meth := k1m3) (c := k1c3) (by decide +kernel) rfl rfl rfl (by decide +kernel)
set_option maxRecDepth 65536 in
theorem w_c6 : (Jvm.Cond.code ({ cls := "com/example/libpathsum/libpathsum/BlocksMarkPinLaw", name := "markIf", desc := "(Lcom/example/libpathsum/libpathsum/Blocks;II)V" } : Jvm.MethodName) method_5_code (3 : Nat) (Option.none : Option Jvm.ClassFile.FieldType)).before args0 about1 = true := code_word (m := ⟨1, 4⟩) (meth := k1m4) (c := k1c4) (by decide +kernel) rfl rfl rfl (by decide +kernel)
set_option maxRecDepth 65536 in
theorem w_c7 : (Jvm.Cond.code ({ cls := "com/example/libpathsum/libpathsum/Blocks", name := "mark", desc := "(I)V" } : Jvm.MethodName) prog_1_method_6_code (5 : Nat) (Option.none : Option Jvm.ClassFile.FieldType)).before args0 about1 = true := code_word (m := ⟨2, 3⟩) (meth := k2m3) (c := k2c3) (by decide +kernel) rfl rfl rfl (by decide +kernel)
set_option maxRecDepth 65536 in
theorem w_c8 : (Jvm.Cond.code ({ cls := "com/example/libpathsum/libpathsum/Blocks", name := "splitMarked", desc := "()V" } : Jvm.MethodName) prog_1_method_7_code (6 : Nat) (Option.none : Option Jvm.ClassFile.FieldType)).before args0 about1 = true := code_word (m := ⟨2, 4⟩) (meth := k2m4) (c := k2c4) (by decide +kernel) rfl rfl rfl (by decide +kernel)
set_option maxRecDepth 65536 in
theorem w_c9 : (Jvm.Cond.code ({ cls := "com/example/libpathsum/libpathsum/Blocks", name := "size", desc := "(I)I" } : Jvm.MethodName) prog_1_method_3_code (2 : Nat) (Option.some Jvm.ClassFile.FieldType.int)).before args0 about1 = true := code_word (m := ⟨2, 2⟩) (meth := k2m2) (c := k2c2) (by decide +kernel) rfl rfl rfl (by decide +kernel)
set_option maxRecDepth 65536 in
theorem w_c10 : (Jvm.Cond.code ({ cls := "com/example/libpathsum/libpathsum/Blocks", name := "classes", desc := "()[I" } : Jvm.MethodName) prog_1_method_8_code (1 : Nat) (Option.some (Jvm.ClassFile.FieldType.array Jvm.ClassFile.FieldType.int))).before args0 about1 = true := code_word (m := ⟨2, 5⟩) (meth := k2m5) (c := k2c5) (by decide +kernel) rfl rfl rfl (by decide +kernel)
set_option maxRecDepth 65536 in
theorem w_c11 : (Jvm.Cond.code ({ cls := "com/example/libpathsum/libpathsum/Blocks", name := "classes", desc := "([II)[I" } : Jvm.MethodName) prog_1_method_9_code (7 : Nat) (Option.some (Jvm.ClassFile.FieldType.array Jvm.ClassFile.FieldType.int))).before args0 about1 = true := code_word (m := ⟨2, 6⟩) (meth := k2m6) (c := k2c6) (by decide +kernel) rfl rfl rfl (by decide +kernel)
set_option maxRecDepth 65536 in
theorem w_c12 : (Jvm.Cond.code ({ cls := "java/util/Arrays", name := "fill", desc := "([II)V" } : Jvm.MethodName) jdk_65_method_103_code (4 : Nat) (Option.none : Option Jvm.ClassFile.FieldType)).before args0 about1 = true := code_word (m := ⟨3, 1⟩) (meth := k3m1) (c := k3c1) (by decide +kernel) rfl rfl rfl (by decide +kernel)
set_option maxRecDepth 65536 in
theorem w_c13 : (Jvm.Cond.code ({ cls := "com/example/libpathsum/libpathsum/Blocks", name := "count", desc := "()I" } : Jvm.MethodName) prog_1_method_2_code (1 : Nat) (Option.some Jvm.ClassFile.FieldType.int)).before args0 about1 = true := code_word (m := ⟨2, 1⟩) (meth := k2m1) (c := k2c1) (by decide +kernel) rfl rfl rfl (by decide +kernel)
def codes1 : List Jvm.Cond := [Jvm.Cond.code x code maxLocals ret, Jvm.Cond.code ({ cls := "com/example/libpathsum/libpathsum/BlocksMarkPinLaw", name := "rank", desc := "(IZZZ)I" } : Jvm.MethodName) method_3_code (4 : Nat) (Option.some Jvm.ClassFile.FieldType.int), Jvm.Cond.code ({ cls := "com/example/libpathsum/libpathsum/Blocks", name := "<init>", desc := "([II)V" } : Jvm.MethodName) prog_1_method_1_code (7 : Nat) (Option.none : Option Jvm.ClassFile.FieldType), Jvm.Cond.code ({ cls := "java/lang/Object", name := "<init>", desc := "()V" } : Jvm.MethodName) object_method_1_code (1 : Nat) (Option.none : Option Jvm.ClassFile.FieldType), Jvm.Cond.code ({ cls := "java/util/Arrays", name := "copyOf", desc := "([II)[I" } : Jvm.MethodName) jdk_65_method_123_code (3 : Nat) (Option.some (Jvm.ClassFile.FieldType.array Jvm.ClassFile.FieldType.int)), Jvm.Cond.code ({ cls := "com/example/libpathsum/libpathsum/BlocksMarkPinLaw", name := "pos", desc := "(IZI)I" } : Jvm.MethodName) method_4_code (3 : Nat) (Option.some Jvm.ClassFile.FieldType.int), Jvm.Cond.code ({ cls := "com/example/libpathsum/libpathsum/BlocksMarkPinLaw", name := "markIf", desc := "(Lcom/example/libpathsum/libpathsum/Blocks;II)V" } : Jvm.MethodName) method_5_code (3 : Nat) (Option.none : Option Jvm.ClassFile.FieldType), Jvm.Cond.code ({ cls := "com/example/libpathsum/libpathsum/Blocks", name := "mark", desc := "(I)V" } : Jvm.MethodName) prog_1_method_6_code (5 : Nat) (Option.none : Option Jvm.ClassFile.FieldType), Jvm.Cond.code ({ cls := "com/example/libpathsum/libpathsum/Blocks", name := "splitMarked", desc := "()V" } : Jvm.MethodName) prog_1_method_7_code (6 : Nat) (Option.none : Option Jvm.ClassFile.FieldType), Jvm.Cond.code ({ cls := "com/example/libpathsum/libpathsum/Blocks", name := "size", desc := "(I)I" } : Jvm.MethodName) prog_1_method_3_code (2 : Nat) (Option.some Jvm.ClassFile.FieldType.int), Jvm.Cond.code ({ cls := "com/example/libpathsum/libpathsum/Blocks", name := "classes", desc := "()[I" } : Jvm.MethodName) prog_1_method_8_code (1 : Nat) (Option.some (Jvm.ClassFile.FieldType.array Jvm.ClassFile.FieldType.int)), Jvm.Cond.code ({ cls := "com/example/libpathsum/libpathsum/Blocks", name := "classes", desc := "([II)[I" } : Jvm.MethodName) prog_1_method_9_code (7 : Nat) (Option.some (Jvm.ClassFile.FieldType.array Jvm.ClassFile.FieldType.int)), Jvm.Cond.code ({ cls := "java/util/Arrays", name := "fill", desc := "([II)V" } : Jvm.MethodName) jdk_65_method_103_code (4 : Nat) (Option.none : Option Jvm.ClassFile.FieldType), Jvm.Cond.code ({ cls := "com/example/libpathsum/libpathsum/Blocks", name := "count", desc := "()I" } : Jvm.MethodName) prog_1_method_2_code (1 : Nat) (Option.some Jvm.ClassFile.FieldType.int)]
set_option maxRecDepth 65536 in
theorem codes_eq : words1.filter isCode = codes1 := rfl
theorem w_codes : ∀ c ∈ words1.filter isCode, c.before args0 about1 = true := by
  rw [codes_eq]
  intro c hc
  simp only [codes1, List.mem_cons, List.not_mem_nil, or_false] at hc
  rcases hc with rfl | rfl | rfl | rfl | rfl | rfl | rfl | rfl | rfl | rfl | rfl | rfl | rfl | rfl
  · exact w_c0
  · exact w_c1
  · exact w_c2
  · exact w_c3
  · exact w_c4
  · exact w_c5
  · exact w_c6
  · exact w_c7
  · exact w_c8
  · exact w_c9
  · exact w_c10
  · exact w_c11
  · exact w_c12
  · exact w_c13
set_option maxRecDepth 65536 in
theorem w_t1 : (words1.take 24).all (fun c => isCode c || c.before args0 about1) = true := by decide +kernel
set_option maxRecDepth 65536 in
theorem w_t2 : ((words1.drop 24).take 24).all (fun c => isCode c || c.before args0 about1) = true := by decide +kernel
set_option maxRecDepth 65536 in
theorem w_t3 : (((words1.drop 24).drop 24).take 24).all (fun c => isCode c || c.before args0 about1) = true := by decide +kernel
set_option maxRecDepth 65536 in
theorem w_t4 : (((words1.drop 24).drop 24).drop 24).all (fun c => isCode c || c.before args0 about1) = true := by decide +kernel
theorem w_tables : (allAtoms (Jvm.Cond.code x code maxLocals ret :: tables_1)).before args0 about1 = true := by
  rw [allAtoms_all]
  show words1.all (fun c => c.before args0 about1) = true
  refine all_split ?_ w_codes
  rw [← List.take_append_drop 24 words1, List.all_append, w_t1, ← List.take_append_drop 24 (words1.drop 24), List.all_append, w_t2, ← List.take_append_drop 24 ((words1.drop 24).drop 24), List.all_append, w_t3, w_t4]
  rfl
set_option maxRecDepth 65536 in
theorem w_case : (Jvm.Cond.and given_1 narrow_1).before args0 about1 = true := by decide +kernel
theorem w_applies : (headSpec (Jvm.Cond.code x code maxLocals ret :: tables_1) room_1).applies x e0.platform about1 = true :=
  (Spec.applies_iff w_frames).mpr ⟨w_running, w_runnable, w_alone, w_named, w_hears, w_ripe, w_room, w_tables⟩
theorem atStart : AtStart classFile x code maxLocals ret World_1 tables_1 room_1 Calls_1 rest_1 Pre_1 launch0 p0 e0 about1 theMethod args0 below0 :=
  ⟨lists_1, trivial, launch0.admits_env _ _ _, launch0.least_env, fairChoices_fair.cas, fairChoices_fair.clock, w_frames, w_args, w_heap, w_applies, trivial, trivial, w_case⟩
end start1
theorem witness_1 : WitnessClaimed_1 := ⟨start1.p0, start1.e0, start1.about1, start1.theMethod, start1.args0, start1.below0, start1.atStart⟩
end Jvm.Pilot.@@N@@
